import JvmDerived
import JvmDerived.Pilot.@@N@@Statement
import JvmDerived.Pilot.@@N@@Code
set_option linter.unusedVariables false
set_option linter.unusedSimpArgs false
namespace Jvm.RoadKit
open Sem ClassFile Op Lib Jvm.Stand Jvm.Free Jvm.LawKit
section New
variable {p : Program} {l : Launch} {e : Env} {R : Room} {s : State} {m : MethodId} {args : Array Value} {below : List Frame} {meth : Method} {c : Code} {T : State} {locs : List Loc} {cells slots : Nat}
theorem retI (X : Stand p l e R s m args below meth c T locs cells slots) (hx : p.tables.exec = Jvm.exec) {pc : Nat} {Ls : Array Slot} {z : Int32} {rest : List Value} (hret : meth.sig.returnType = some .int) (hd : decode c.code pc = .ok (.ireturn, 1)) {fs : List Frame}
    (hl : ∀ (f : JFrame) (acts : List Action), f.method = m → f.locked = none → f.entered = [] → (doReturn e (T.setTop f) acts (some (.int z))).1 = T.setFrames fs) : Steps p.tables e below (T.setTop (mkF m pc Ls (.int z :: rest))) (T.setFrames fs) := by
  have hm' : T.vm.method? m = some meth := X.method'
  have hn : narrow .int (.int z) = .int z := rfl
  show Steps p.tables e below (T.setTop { method := m, pc := pc, locals := Ls, stack := _ :: rest, locked := none }) _
  jvm_step X.here [X.here.top, hx, hd, hm', hret, hn]
  first | (intro acts; rw [hl _ acts rfl rfl rfl]) | rw [hl _ _ rfl rfl rfl]
  exact Steps.refl _
theorem retD (X : Stand p l e R s m args below meth c T locs cells slots) (hx : p.tables.exec = Jvm.exec) {pc : Nat} {Ls : Array Slot} {z : UInt64} {rest : List Value} (hret : meth.sig.returnType = some .double) (hd : decode c.code pc = .ok (.dreturn, 1)) {fs : List Frame}
    (hl : ∀ (f : JFrame) (acts : List Action), f.method = m → f.locked = none → f.entered = [] → (doReturn e (T.setTop f) acts (some (.double z))).1 = T.setFrames fs) : Steps p.tables e below (T.setTop (mkF m pc Ls (.double z :: rest))) (T.setFrames fs) := by
  have hm' : T.vm.method? m = some meth := X.method'
  have hn : narrow .double (.double z) = .double z := rfl
  show Steps p.tables e below (T.setTop { method := m, pc := pc, locals := Ls, stack := _ :: rest, locked := none }) _
  jvm_step X.here [X.here.top, hx, hd, hm', hret, hn]
  first | (intro acts; rw [hl _ acts rfl rfl rfl]) | rw [hl _ _ rfl rfl rfl]
  exact Steps.refl _
end New
end Jvm.RoadKit
namespace Jvm.Pilot.@@N@@
open Jvm Jvm.ClassFile Sem Op Lib Jvm.Free Jvm.Stand Jvm.LawKit Jvm.RoadKit Bundle Jvm.Pilot.@@N@@.Jvm.D
abbrev OwnS (p : Program) (e : Env) (below : List Frame) (T : State) (g : JFrame) (t : State) : Prop := Steps p.tables e below (T.setTop g) t
theorem own_selpriv {s : State} {args : Array Value} {y : MethodName} {n : Nat} (hy : y.cls ≠ "java/lang/invoke/MethodHandle" ∧ y.cls ≠ "java/lang/invoke/VarHandle") (hins : (Jvm.Cond.instantiable y.cls n).before args s = true) (hp : (Jvm.Cond.privateMethod y).before args s = true) (hi : (Jvm.Cond.instanceMethod y).before args s = true) : (Jvm.Cond.selects y.cls y y).before args s = true := by
  obtain ⟨c, k, hc, hk, -, hniab, -⟩ := Cond.instantiable_spec hins
  exact selects_self_of_private hc hk (Bool.or_eq_false_iff.mp hniab).1 (Cond.privateMethod_at hp) hi hy
theorem own_irr (x : Int32) : ¬ (x < x) := by rw [Int32.lt_iff_toInt_lt]; omega
theorem own_asymm {x y : Int32} (h : x < y) : ¬ (y < x) := by rw [Int32.lt_iff_toInt_lt] at *; omega
theorem own_asymm64 {x y : Int64} (h : x < y) : ¬ (y < x) := by rw [Int64.lt_iff_toInt_lt] at *; omega
theorem own_ne {x y : Int32} (h : x < y) : ¬ (x = y) := fun q => own_irr x (by rw [← q] at h; exact h)
theorem own_ne' {x y : Int32} (h : x < y) : ¬ (y = x) := fun q => own_irr x (by rw [q] at h; exact h)
theorem own_tri (x y : Int32) : x < y ∨ x = y ∨ y < x := by
  rw [Int32.lt_iff_toInt_lt, Int32.lt_iff_toInt_lt, ← Int32.toInt_inj]; omega
theorem own_ns {Z : State} {h : Heap} {a : Addr} {C : String} (F : Exa Z h a C) : ∃ cell : Cell, h[a]? = some cell ∧ cell.vm.isStatics = false := by
  obtain ⟨cell, k, h1, -, -, h4, -⟩ := F; exact ⟨cell, h1, h4⟩
theorem own_sta_keep {Z : State} {h h' : Heap} {ws : List Addr} {C n d : String} {v : Value} (F : Sta Z h C n d v) (K : Keep h h' ws) (q : ∀ x ∈ ws, ∃ cell : Cell, h[x]? = some cell ∧ cell.vm.isStatics = false) : Sta Z h' C n d v := by
  obtain ⟨cf, i, k, f, st, cell, h1, h2, h3, h4, h5, h6, h7⟩ := F
  refine ⟨cf, i, k, f, st, cell, h1, h2, h3, h4, K.2.1 st cell h5 fun r => ?_, h6, h7⟩
  obtain ⟨c2, g1, g2⟩ := q st r
  cases h5.symm.trans g1
  rw [g2] at h6; cases h6
theorem own_eq_int {args : Array Value} {first s : State} {o : Option Outcome} {idx : List Nat} {t : Term} {k : Int32} (h : (Jvm.Cond.eq t (.int k)).value args first o s idx = some true) : t.eval args first o idx s = some (.int k) := by
  simp only [Cond.value, Term.eval] at h
  cases ht : t.eval args first o idx s with
  | none => simp [ht] at h
  | some x => cases x <;> simp [ht] at h ⊢; exact h
abbrev cS0 : String := "com/example/tablox/tablox/tableau/Dependencies"
abbrev cS1 : String := "(I)Lcom/example/tablox/tablox/tableau/Dependencies;"
abbrev cS2 : String := "(Lcom/example/tablox/tablox/tableau/Dependencies;)Lcom/example/tablox/tablox/tableau/Dependencies;"
theorem own_at {Z : State} {a0 : Array Value} (hw : ∀ d ∈ tables_1, d.before a0 Z = true) (i : Nat) {d : Jvm.Cond} (h : tables_1[i]? = some d) : d.before a0 Z = true := hw _ (List.mem_of_getElem? h)
theorem d2_0 : decode prog_21_method_1_code 0 = .ok (.aload_n 0, 1) := by decide +kernel
theorem d2_1 : decode prog_21_method_1_code 1 = .ok (.invokespecial 1, 3) := by decide +kernel
theorem d2_4 : decode prog_21_method_1_code 4 = .ok (.aload_n 0, 1) := by decide +kernel
theorem d2_5 : decode prog_21_method_1_code 5 = .ok (.aload_n 1, 1) := by decide +kernel
theorem d2_6 : decode prog_21_method_1_code 6 = .ok (.putfield 7, 3) := by decide +kernel
theorem d2_9 : decode prog_21_method_1_code 9 = .ok (.return_, 1) := by decide +kernel
theorem pn_com_example_tablox_tablox_tableau_Dependencies : plainName cS0 = true := by first | (simp [plainName, overriddenIn]; done) | decide +kernel
theorem ef_2 (m : MethodId) (x0 : Addr) (x1 : Addr) : entryFrame m #[(.ref x0), (.ref x1)] 2 = mkF m 0 #[.val (.ref x0), .val (.ref x1)] [] := by first | (simp [entryFrame, mkF, argsToLocals, Value.category]; done) | rfl
def Q_2 (Z : State) (r0 : Addr) (r1 : Addr) (u_levels_r0 : Value) (h0 : Heap) (n0 : Nat) (v : Option Value) (h : Heap) (L : List Loc) : Prop := v = none ∧ Fr n0 L ∧ Keep h0 h [r0] ∧ Exa Z h r0 cS0 ∧ Fld Z h r0 cS0 "levels" "[I" (.ref r1)
set_option maxRecDepth 65536 in
set_option maxHeartbeats 40000000 in
theorem rm2 (l : Launch) (Z : State) (a0 : Array Value) (hw : ∀ d ∈ tables_1, d.before a0 Z = true) (ws : List Jvm.Cond) (r0 : Addr) (r1 : Addr) (u_levels_r0 : Value) (h0 : Heap) (n0 : Nat) (Z0 : n0 ≤ h0.size) (E_r0 : Exa Z h0 r0 cS0) (F_levels_r0 : Fld Z h0 r0 cS0 "levels" "[I" u_levels_r0) (ge_r0 : n0 ≤ r0) :
    MetFree l (⟨cS0, "<init>", "([I)V"⟩ : MethodName) (head1 (Jvm.Cond.code (⟨cS0, "<init>", "([I)V"⟩ : MethodName) prog_21_method_1_code 2 none :: ws) ({ frames := 1, cells := 0, slots := 0, locals := 12 } : Room)) (fun a U => a = #[(.ref r0), (.ref r1)] ∧ Z.Warmed39 U.vm ∧ U.heap = h0) (fun _ _ _ _ _ => True) (fun _ U o U' => ∃ v L, o = .returned v ∧ Q_2 Z r0 r1 u_levels_r0 h0 n0 v U'.heap L ∧ FrameEnd U o U' L ({ frames := 1, cells := 0, slots := 0, locals := 12 } : Room).cells ({ frames := 1, cells := 0, slots := 0, locals := 12 } : Room).slots) := by
  refine MetFree.of_bodySF (plainFor_of_name pn_com_example_tablox_tablox_tableau_Dependencies) hisR ?_
  intro p e s m args below meth c s₁ Bd hml0 hP hK
  obtain ⟨rfl, hZ, hh⟩ := hP
  have hx := Bd.exec
  have hby := Bd.bytes
  have hml : c.maxLocals = 2 := hml0
  have hown : s.vm.findClass cS0 = some m.cls := findClass_of_methodNamed Bd.named
  have hnm := (name_of_methodNamed Bd.named Bd.method).1
  have X0 : Stand p l e ({ frames := 1, cells := 0, slots := 0, locals := 12 } : Room) s m #[(.ref r0), (.ref r1)] below meth c s₁ [] 0 0 := Stand.of_body Bd
  have e0 : s₁.heap = h0 := by rw [← hh, Bd.state]; rfl
  have N0 := Fr.nil n0
  have k0 : ∀ t, OwnS p e below s₁ (mkF m 0 #[rv r0, rv r1] []) t → OwnS p e below s₁ (entryFrame m #[(.ref r0), (.ref r1)] 2) t := fun t k => castTop (ef_2 m r0 r1) k
  obtain ⟨T1, X1, e1, st1⟩ := initO X0 hx hZ hown (own_at hw 10 rfl) (own_at hw 11 rfl) (own_at hw 12 rfl) e0 (g := (mkF m 1 #[rv r0, rv r1] [(.ref r0)])) rfl (by rw [hml]; rfl) rfl (hb hby d2_1) (by decide) (W := 0) (by show 2 * 0 + _ ≤ _; exact Nat.le_of_eq rfl) (by decide)
  obtain ⟨T2, h2, X2, e2, W2, st2⟩ := putF X1 hx hZ hown (host := "") (Or.inl (own_at hw 13 rfl)) Via.refl e1 F_levels_r0 E_r0 (Or.inr ⟨(own_at hw 14 rfl), rfl, hnm⟩) (own_at hw 5 rfl) (ty := (.array .int)) (by decide) rfl rfl (g := (mkF m 6 #[rv r0, rv r1] [(.ref r1), (.ref r0)])) rfl rfl (hb hby d2_6)
  have Fw2 : Fld Z h2 r0 cS0 "levels" "[I" (.ref r1) := F_levels_r0.same W2
  have N2 := Fr.snoc X2 N0 ge_r0
  have f3 := (E_r0.wr W2)
  obtain ⟨fs, hr, hrun, hended, hW, hsame⟩ := X2.leave (v := none) (fun _ => rfl)
  refine ⟨_, _, k0 _ ?_, hrun, hended, _, _, rfl, ?_, ⟨_, rfl⟩, hW, hsame.mono (by decide) (by decide)⟩
  · show OwnS p e below s₁ (mkF m 0 #[rv r0, rv r1] []) _
    refine XS.aloadN X0.here hx rfl (hb hby d2_0) rfl rfl ?_
    show OwnS p e below s₁ (mkF m 1 #[rv r0, rv r1] [(.ref r0)]) _
    refine st1 _ ?_
    show OwnS p e below T1 (mkF m 4 #[rv r0, rv r1] []) _
    refine XS.aloadN X1.here hx rfl (hb hby d2_4) rfl rfl ?_
    show OwnS p e below T1 (mkF m 5 #[rv r0, rv r1] [(.ref r0)]) _
    refine XS.aloadN X1.here hx rfl (hb hby d2_5) rfl rfl ?_
    show OwnS p e below T1 (mkF m 6 #[rv r0, rv r1] [(.ref r1), (.ref r0)]) _
    refine st2 _ ?_
    show OwnS p e below T2 (mkF m 9 #[rv r0, rv r1] []) _
    exact X2.returnOut hx Bd.returns (hb hby d2_9) hr
  · show Q_2 Z r0 r1 u_levels_r0 h0 n0 _ T2.heap _
    rw [e2]
    exact ⟨rfl, N2, ((Keep.refl h0 [r0]).wr W2 (Or.inl (List.mem_of_getElem? (i := 0) rfl))), f3, Fw2⟩
theorem pd_0 : parseMethodDescriptor "([I)V" = some ⟨[(.array .int)], none⟩ := by decide +kernel
theorem d1_0 : decode prog_21_method_2_code 0 = .ok (.new 8, 3) := by decide +kernel
theorem d1_3 : decode prog_21_method_2_code 3 = .ok (.dup, 1) := by decide +kernel
theorem d1_4 : decode prog_21_method_2_code 4 = .ok (.iconst 1, 1) := by decide +kernel
theorem d1_5 : decode prog_21_method_2_code 5 = .ok (.newarray .int, 2) := by decide +kernel
theorem d1_7 : decode prog_21_method_2_code 7 = .ok (.dup, 1) := by decide +kernel
theorem d1_8 : decode prog_21_method_2_code 8 = .ok (.iconst 0, 1) := by decide +kernel
theorem d1_9 : decode prog_21_method_2_code 9 = .ok (.iload_n 0, 1) := by decide +kernel
theorem d1_10 : decode prog_21_method_2_code 10 = .ok (.iastore, 1) := by decide +kernel
theorem d1_11 : decode prog_21_method_2_code 11 = .ok (.invokespecial 13, 3) := by decide +kernel
theorem d1_14 : decode prog_21_method_2_code 14 = .ok (.areturn, 1) := by decide +kernel
theorem ef_1 (m : MethodId) (x0 : Int32) : entryFrame m #[(.int x0)] 1 = mkF m 0 #[.val (.int x0)] [] := by first | (simp [entryFrame, mkF, argsToLocals, Value.category]; done) | rfl
def Q_1 (Z : State) (p0 : Int32) (h0 : Heap) (n0 : Nat) (v : Option Value) (h : Heap) (L : List Loc) : Prop := ∃ ob : Addr, ∃ ar : Addr, ∃ kk : ClassId, v = some (.ref ob) ∧ Fr n0 L ∧ Keep h0 h [] ∧ h0.size ≤ ob ∧ h0.size ≤ ar ∧ ob ≠ ar ∧ Exa Z h ob cS0 ∧ Fld Z h ob cS0 "levels" "[I" (.ref ar) ∧ Arv Z h ar kk .int (1 : Int32) [(.int p0)] (.int 0) ∧ Exa Z h ar "[I"
set_option maxRecDepth 65536 in
set_option maxHeartbeats 40000000 in
theorem rm1 (l : Launch) (Z : State) (a0 : Array Value) (hw : ∀ d ∈ tables_1, d.before a0 Z = true) (ws : List Jvm.Cond) (p0 : Int32) (h0 : Heap) (n0 : Nat) (Z0 : n0 ≤ h0.size) :
    MetFree l (⟨cS0, "on", cS1⟩ : MethodName) (head1 (Jvm.Cond.code (⟨cS0, "on", cS1⟩ : MethodName) prog_21_method_2_code 1 (some (.object cS0)) :: ws) ({ frames := 2, cells := 2, slots := 2, locals := 26 } : Room)) (fun a U => a = #[(.int p0)] ∧ Z.Warmed39 U.vm ∧ U.heap = h0) (fun _ _ _ _ _ => True) (fun _ U o U' => ∃ v L, o = .returned v ∧ Q_1 Z p0 h0 n0 v U'.heap L ∧ FrameEnd U o U' L ({ frames := 2, cells := 2, slots := 2, locals := 26 } : Room).cells ({ frames := 2, cells := 2, slots := 2, locals := 26 } : Room).slots) := by
  refine MetFree.of_bodySF (plainFor_of_name pn_com_example_tablox_tablox_tableau_Dependencies) hisR ?_
  intro p e s m args below meth c s₁ Bd hml0 hP hK
  obtain ⟨rfl, hZ, hh⟩ := hP
  have hx := Bd.exec
  have hby := Bd.bytes
  have hml : c.maxLocals = 1 := hml0
  have hown : s.vm.findClass cS0 = some m.cls := findClass_of_methodNamed Bd.named
  have hnm := (name_of_methodNamed Bd.named Bd.method).1
  have X0 : Stand p l e ({ frames := 2, cells := 2, slots := 2, locals := 26 } : Room) s m #[(.int p0)] below meth c s₁ [] 0 0 := Stand.of_body Bd
  have e0 : s₁.heap = h0 := by rw [← hh, Bd.state]; rfl
  have N0 := Fr.nil n0
  have k0 : ∀ t, OwnS p e below s₁ (mkF m 0 #[iv p0] []) t → OwnS p e below s₁ (entryFrame m #[(.int p0)] 1) t := fun t k => castTop (ef_1 m p0) k
  obtain ⟨T1, h1, X1, e1, E1, A1, D1, -, st1⟩ := newO X0 hx hZ hown (own_at hw 4 rfl) (own_at hw 5 rfl) (own_at hw 2 rfl) e0 (g := (mkF m 0 #[iv p0] [])) rfl (hb hby d1_0) (by decide) (by decide)
  obtain ⟨b1, g1⟩ : ∃ z, z = h0.size := ⟨_, rfl⟩
  rw [← g1] at A1 D1 st1
  have g_b1 : n0 ≤ b1 := Nat.le_trans Z0 (Nat.le_of_eq g1.symm)
  have sz_b1 : h0.size ≤ b1 := Nat.le_trans (Keep.refl h0 []).1 (Nat.le_of_eq g1.symm)
  have F_levels_b1 : Fld Z h1 b1 cS0 "levels" "[I" .null := D1 (Or.inr (own_at hw 14 rfl)) (ty := (.array .int)) (by decide)
  obtain ⟨T2, h2, k2, X2, e2, E2, A2, EA2, st2⟩ := newPE X1 hx hZ (own_at hw 6 rfl) e1 (g := (mkF m 5 #[iv p0] [(.int 1), (.ref b1), (.ref b1)])) rfl (hb hby d1_5) rfl (by decide) (cap := 1) (by decide) (by decide) (by decide) (by decide) (ad := "[I") (by decide)
  obtain ⟨b2, g2⟩ : ∃ z, z = h1.size := ⟨_, rfl⟩
  rw [← g2] at A2 EA2 st2
  have g_b2 : n0 ≤ b2 := Nat.le_trans (Nat.le_trans Z0 E1.1) (Nat.le_of_eq g2.symm)
  have sz_b2 : h0.size ≤ b2 := Nat.le_trans ((Keep.refl h0 []).ext E1).1 (Nat.le_of_eq g2.symm)
  have V_b2 : Arv Z h2 b2 k2 .int (1 : Int32) [(.int 0)] (.int 0) := (Arv.new A2 (by decide)).pad (pad_rep [] (.int 0) 1)
  obtain ⟨cl_z3, Ar_z3, q_z3, S_z3, N_z3, H_z3, G_z3⟩ := id V_b2
  have hin4 : ¬ ((0 : Int32) < 0 ∨ cl_z3.slots.size ≤ ((0 : Int32)).toNatClampNeg) := inb_of S_z3 ⟨by decide, by decide⟩
  obtain ⟨T5, h5, X5, e5, W5, st5⟩ := stI X2 hx hZ e2 Ar_z3 (j := (0 : Int32)) hin4 (g := (mkF m 10 #[iv p0] [(.int p0), (.int 0), (.ref b2), (.ref b2), (.ref b1), (.ref b1)])) rfl rfl (hb hby d1_10)
  have V5 : Arv Z h5 b2 k2 .int (1 : Int32) [(.int p0)] (.int 0) := Arv.set Ar_z3 q_z3 S_z3 N_z3 H_z3 G_z3 rfl W5 0 rfl (Nat.le_of_ble_eq_true rfl)
  have N5 := Fr.snoc X5 N0 g_b2
  have f7 := ((A1.ext E2).wr W5)
  have f8 := ((F_levels_b1.ext E2).other W5 (Or.inl (Nat.ne_of_lt (Nat.lt_of_lt_of_le A1.lt (Nat.le_of_eq g2.symm)))))
  obtain ⟨_, _, ⟨T6, L6, j6, i6⟩, -, X6, ⟨Lc6, hQ6, l6, y6, z6⟩, st6⟩ := X5.specialBack hx (y := (⟨cS0, "<init>", "([I)V"⟩ : MethodName)) rfl hown (mvT hZ (own_at hw 7 rfl)) (mvT hZ (own_at hw 8 rfl)) (mvT hZ (own_at hw 9 rfl)) (by decide) (backOf (W := 1) (rm2 l Z a0 hw [] b1 b2 .null h5 n0 (Nat.le_trans (Nat.le_trans (Nat.le_trans Z0 E1.1) E2.1) (Keep.of_wr W5).1) f7 f8 g_b1) hZ (own_at hw 9 rfl) (own_at hw 2 rfl) (by decide) (by decide)) (g := (mkF m 11 #[iv p0] [(.ref b2), (.ref b1), (.ref b1)])) rfl (by rw [hml]; rfl) (Steps.refl _) (a := b1) (argsL := [(.ref b2)]) (rest := [(.ref b1)]) (lenOf pd_0 rfl) rfl (by show 2 * 0 + _ ≤ _; exact Nat.le_of_eq rfl) (hb hby d1_11) (fun _ _ => ⟨rfl, e5, (by decide : 2 + 0 ≤ _), (by decide : 2 + 0 ≤ _)⟩)
  dsimp only [Pt.U, Pt.locs, Pt.cells, Pt.slots] at X6 l6 y6 z6 st6 hQ6
  subst l6 y6 z6
  have f9 := (EA2.wr W5)
  obtain ⟨rfl, N6q, K6, p6_0, p6_1⟩ := hQ6
  have pl6 := (allS (P := fun x => ∃ cell : Cell, h5[x]? = some cell ∧ cell.vm.isStatics = false) (own_ns f7) all0)
  have N6 := Fr.app N5 N6q
  have f10 := (V5.keep K6 (ninS (Ne.symm (Nat.ne_of_lt (Nat.lt_of_lt_of_le A1.lt (Nat.le_of_eq g2.symm)))) nin0))
  have f11 := (f9.keep K6)
  obtain ⟨fs, hr, hrun, hended, hW, hsame⟩ := X6.leave (v := some (.ref b1)) (fun h => by rw [Bd.returns] at h; cases h)
  refine ⟨_, _, k0 _ ?_, hrun, hended, _, _, rfl, ?_, ⟨_, rfl⟩, hW, hsame.mono (by decide) (by decide)⟩
  · show OwnS p e below s₁ (mkF m 0 #[iv p0] []) _
    refine st1 _ ?_
    show OwnS p e below T1 (mkF m 3 #[iv p0] [(.ref b1)]) _
    refine XS.dup X1.here hx rfl (hb hby d1_3) rfl rfl ?_
    show OwnS p e below T1 (mkF m 4 #[iv p0] [(.ref b1), (.ref b1)]) _
    refine XS.iconst X1.here hx rfl (hb hby d1_4) ?_
    show OwnS p e below T1 (mkF m 5 #[iv p0] [(.int 1), (.ref b1), (.ref b1)]) _
    refine st2 _ ?_
    show OwnS p e below T2 (mkF m 7 #[iv p0] [(.ref b2), (.ref b1), (.ref b1)]) _
    refine XS.dup X2.here hx rfl (hb hby d1_7) rfl rfl ?_
    show OwnS p e below T2 (mkF m 8 #[iv p0] [(.ref b2), (.ref b2), (.ref b1), (.ref b1)]) _
    refine XS.iconst X2.here hx rfl (hb hby d1_8) ?_
    show OwnS p e below T2 (mkF m 9 #[iv p0] [(.int 0), (.ref b2), (.ref b2), (.ref b1), (.ref b1)]) _
    refine XS.iloadN X2.here hx rfl (hb hby d1_9) rfl ?_
    show OwnS p e below T2 (mkF m 10 #[iv p0] [(.int p0), (.int 0), (.ref b2), (.ref b2), (.ref b1), (.ref b1)]) _
    refine st5 _ ?_
    show OwnS p e below T5 (mkF m 11 #[iv p0] [(.ref b2), (.ref b1), (.ref b1)]) _
    refine st6.trans ?_
    show OwnS p e below T6 (mkF m 14 #[iv p0] [(.ref b1)]) _
    jvm_step X6.here [X6.here.top, hx, (hb hby d1_14), X6.method', Bd.returns, Value.isRef, FieldType.isReference]
    first | (intro acts; rw [hr _ acts rfl rfl rfl]) | rw [hr _ _ rfl rfl rfl]
    exact Steps.refl _
  · show Q_1 Z p0 h0 n0 _ T6.heap _
    exact ⟨b1, b2, k2, rfl, N6, (((((Keep.refl h0 []).ext E1).ext E2).wr W5 (Or.inr sz_b2)).trans K6 (allS (Or.inr sz_b1) all0)), sz_b1, sz_b2, (Nat.ne_of_lt (Nat.lt_of_lt_of_le A1.lt (Nat.le_of_eq g2.symm))), p6_0, p6_1, f10, f11⟩
theorem d4_0 : decode prog_21_method_5_code 0 = .ok (.aload_n 0, 1) := by decide +kernel
theorem d4_1 : decode prog_21_method_5_code 1 = .ok (.getfield 7, 3) := by decide +kernel
theorem d4_4 : decode prog_21_method_5_code 4 = .ok (.arraylength, 1) := by decide +kernel
theorem d4_5 : decode prog_21_method_5_code 5 = .ok (.ifCond .ne 7, 3) := by decide +kernel
theorem d4_8 : decode prog_21_method_5_code 8 = .ok (.iconst 1, 1) := by decide +kernel
theorem d4_9 : decode prog_21_method_5_code 9 = .ok (.goto 4, 3) := by decide +kernel
theorem d4_13 : decode prog_21_method_5_code 13 = .ok (.ireturn, 1) := by decide +kernel
theorem ef_4 (m : MethodId) (x0 : Addr) : entryFrame m #[(.ref x0)] 1 = mkF m 0 #[.val (.ref x0)] [] := by first | (simp [entryFrame, mkF, argsToLocals, Value.category]; done) | rfl
def Q_4_0 (Z : State) (r0 : Addr) (ar0 : Addr) (k0c : ClassId) (h0 : Heap) (n0 : Nat) (v : Option Value) (h : Heap) (L : List Loc) : Prop := v = some (.int 1) ∧ Fr n0 L ∧ h = h0
set_option maxRecDepth 65536 in
set_option maxHeartbeats 40000000 in
theorem rm4_0 (l : Launch) (Z : State) (a0 : Array Value) (hw : ∀ d ∈ tables_1, d.before a0 Z = true) (ws : List Jvm.Cond) (r0 : Addr) (ar0 : Addr) (k0c : ClassId) (h0 : Heap) (n0 : Nat) (Z0 : n0 ≤ h0.size) (E_r0 : Exa Z h0 r0 cS0) (F_levels_r0 : Fld Z h0 r0 cS0 "levels" "[I" (.ref ar0)) (V_ar0 : Arv Z h0 ar0 k0c .int (0 : Int32) [] (.int 0)) (E_ar0 : Exa Z h0 ar0 "[I") :
    MetFree l (⟨cS0, "isEmpty", "()Z"⟩ : MethodName) (head1 (Jvm.Cond.code (⟨cS0, "isEmpty", "()Z"⟩ : MethodName) prog_21_method_5_code 1 (some .boolean) :: ws) ({ frames := 0, cells := 0, slots := 0, locals := 0 } : Room)) (fun a U => a = #[(.ref r0)] ∧ Z.Warmed39 U.vm ∧ U.heap = h0) (fun _ _ _ _ _ => True) (fun _ U o U' => ∃ v L, o = .returned v ∧ Q_4_0 Z r0 ar0 k0c h0 n0 v U'.heap L ∧ FrameEnd U o U' L ({ frames := 0, cells := 0, slots := 0, locals := 0 } : Room).cells ({ frames := 0, cells := 0, slots := 0, locals := 0 } : Room).slots) := by
  refine MetFree.of_bodySF (plainFor_of_name pn_com_example_tablox_tablox_tableau_Dependencies) hisR ?_
  intro p e s m args below meth c s₁ Bd hml0 hP hK
  obtain ⟨rfl, hZ, hh⟩ := hP
  have hx := Bd.exec
  have hby := Bd.bytes
  have hml : c.maxLocals = 1 := hml0
  have hown : s.vm.findClass cS0 = some m.cls := findClass_of_methodNamed Bd.named
  have hnm := (name_of_methodNamed Bd.named Bd.method).1
  have X0 : Stand p l e ({ frames := 0, cells := 0, slots := 0, locals := 0 } : Room) s m #[(.ref r0)] below meth c s₁ [] 0 0 := Stand.of_body Bd
  have e0 : s₁.heap = h0 := by rw [← hh, Bd.state]; rfl
  have N0 := Fr.nil n0
  have k0 : ∀ t, OwnS p e below s₁ (mkF m 0 #[rv r0] []) t → OwnS p e below s₁ (entryFrame m #[(.ref r0)] 1) t := fun t k => castTop (ef_4 m r0) k
  obtain ⟨T1, X1, e1, st1⟩ := getF X0 hx hZ hown (host := "") (Or.inl (own_at hw 13 rfl)) Via.refl e0 F_levels_r0 (g := (mkF m 1 #[rv r0] [(.ref r0)])) rfl rfl (hb hby d4_1)
  obtain ⟨cl_z2, Ar_z2, q_z2, S_z2, N_z2, H_z2, G_z2⟩ := id V_ar0
  obtain ⟨fs, hr, hrun, hended, hW, hsame⟩ := X1.leave (v := some (.int 1)) (fun h => by rw [Bd.returns] at h; cases h)
  refine ⟨_, _, k0 _ ?_, hrun, hended, _, _, rfl, ?_, ⟨_, rfl⟩, hW, hsame.mono (by decide) (by decide)⟩
  · show OwnS p e below s₁ (mkF m 0 #[rv r0] []) _
    refine XS.aloadN X0.here hx rfl (hb hby d4_0) rfl rfl ?_
    show OwnS p e below s₁ (mkF m 1 #[rv r0] [(.ref r0)]) _
    refine st1 _ ?_
    show OwnS p e below T1 (mkF m 4 #[rv r0] [(.ref ar0)]) _
    refine X1.arraylength hx (by rw [e1]; exact Ar_z2.1) (State.isArrayOf_alike hZ.alike Ar_z2.2.1) (g := (mkF m 4 #[rv r0] [(.ref ar0)])) rfl rfl (hb hby d4_4) _ ?_
    rw [len_of S_z2 N_z2]
    show OwnS p e below T1 (mkF m 5 #[rv r0] [(.int 0)]) _
    refine XS.ifNo X1.here hx rfl (hb hby d4_5) rfl ((if0 _ _).trans (teq (by decide : (0 : Int32) = (0 : Int32))).2) ?_
    show OwnS p e below T1 (mkF m 8 #[rv r0] []) _
    refine XS.iconst X1.here hx rfl (hb hby d4_8) ?_
    show OwnS p e below T1 (mkF m 9 #[rv r0] [(.int 1)]) _
    refine XS.goto X1.here hx rfl (pc0 := 9) (pc' := 13) rfl (hb hby d4_9) (by decide) (by decide) ?_
    show OwnS p e below T1 (mkF m 13 #[rv r0] [(.int 1)]) _
    exact retN X1 hx (t := .boolean) Bd.returns (by simp) (hb hby d4_13) hr
  · show Q_4_0 Z r0 ar0 k0c h0 n0 _ T1.heap _
    rw [e1]
    exact ⟨rfl, N0, rfl⟩
theorem d4_12 : decode prog_21_method_5_code 12 = .ok (.iconst 0, 1) := by decide +kernel
def Q_4_1 (Z : State) (r0 : Addr) (ar0 : Addr) (k0c : ClassId) (x0 : Int32) (h0 : Heap) (n0 : Nat) (v : Option Value) (h : Heap) (L : List Loc) : Prop := v = some (.int 0) ∧ Fr n0 L ∧ h = h0
set_option maxRecDepth 65536 in
set_option maxHeartbeats 40000000 in
theorem rm4_1 (l : Launch) (Z : State) (a0 : Array Value) (hw : ∀ d ∈ tables_1, d.before a0 Z = true) (ws : List Jvm.Cond) (r0 : Addr) (ar0 : Addr) (k0c : ClassId) (x0 : Int32) (h0 : Heap) (n0 : Nat) (Z0 : n0 ≤ h0.size) (E_r0 : Exa Z h0 r0 cS0) (F_levels_r0 : Fld Z h0 r0 cS0 "levels" "[I" (.ref ar0)) (V_ar0 : Arv Z h0 ar0 k0c .int (1 : Int32) [(.int x0)] (.int 0)) (E_ar0 : Exa Z h0 ar0 "[I") :
    MetFree l (⟨cS0, "isEmpty", "()Z"⟩ : MethodName) (head1 (Jvm.Cond.code (⟨cS0, "isEmpty", "()Z"⟩ : MethodName) prog_21_method_5_code 1 (some .boolean) :: ws) ({ frames := 0, cells := 0, slots := 0, locals := 0 } : Room)) (fun a U => a = #[(.ref r0)] ∧ Z.Warmed39 U.vm ∧ U.heap = h0) (fun _ _ _ _ _ => True) (fun _ U o U' => ∃ v L, o = .returned v ∧ Q_4_1 Z r0 ar0 k0c x0 h0 n0 v U'.heap L ∧ FrameEnd U o U' L ({ frames := 0, cells := 0, slots := 0, locals := 0 } : Room).cells ({ frames := 0, cells := 0, slots := 0, locals := 0 } : Room).slots) := by
  refine MetFree.of_bodySF (plainFor_of_name pn_com_example_tablox_tablox_tableau_Dependencies) hisR ?_
  intro p e s m args below meth c s₁ Bd hml0 hP hK
  obtain ⟨rfl, hZ, hh⟩ := hP
  have hx := Bd.exec
  have hby := Bd.bytes
  have hml : c.maxLocals = 1 := hml0
  have hown : s.vm.findClass cS0 = some m.cls := findClass_of_methodNamed Bd.named
  have hnm := (name_of_methodNamed Bd.named Bd.method).1
  have X0 : Stand p l e ({ frames := 0, cells := 0, slots := 0, locals := 0 } : Room) s m #[(.ref r0)] below meth c s₁ [] 0 0 := Stand.of_body Bd
  have e0 : s₁.heap = h0 := by rw [← hh, Bd.state]; rfl
  have N0 := Fr.nil n0
  have k0 : ∀ t, OwnS p e below s₁ (mkF m 0 #[rv r0] []) t → OwnS p e below s₁ (entryFrame m #[(.ref r0)] 1) t := fun t k => castTop (ef_4 m r0) k
  obtain ⟨T1, X1, e1, st1⟩ := getF X0 hx hZ hown (host := "") (Or.inl (own_at hw 13 rfl)) Via.refl e0 F_levels_r0 (g := (mkF m 1 #[rv r0] [(.ref r0)])) rfl rfl (hb hby d4_1)
  obtain ⟨cl_z2, Ar_z2, q_z2, S_z2, N_z2, H_z2, G_z2⟩ := id V_ar0
  obtain ⟨fs, hr, hrun, hended, hW, hsame⟩ := X1.leave (v := some (.int 0)) (fun h => by rw [Bd.returns] at h; cases h)
  refine ⟨_, _, k0 _ ?_, hrun, hended, _, _, rfl, ?_, ⟨_, rfl⟩, hW, hsame.mono (by decide) (by decide)⟩
  · show OwnS p e below s₁ (mkF m 0 #[rv r0] []) _
    refine XS.aloadN X0.here hx rfl (hb hby d4_0) rfl rfl ?_
    show OwnS p e below s₁ (mkF m 1 #[rv r0] [(.ref r0)]) _
    refine st1 _ ?_
    show OwnS p e below T1 (mkF m 4 #[rv r0] [(.ref ar0)]) _
    refine X1.arraylength hx (by rw [e1]; exact Ar_z2.1) (State.isArrayOf_alike hZ.alike Ar_z2.2.1) (g := (mkF m 4 #[rv r0] [(.ref ar0)])) rfl rfl (hb hby d4_4) _ ?_
    rw [len_of S_z2 N_z2]
    show OwnS p e below T1 (mkF m 5 #[rv r0] [(.int 1)]) _
    refine XS.ifYes X1.here hx rfl (pc0 := 5) (pc' := 12) rfl (hb hby d4_5) rfl ((if0 _ _).trans (feq (by decide : ¬ ((1 : Int32) = (0 : Int32)))).2) (by decide) (by decide) ?_
    show OwnS p e below T1 (mkF m 12 #[rv r0] []) _
    refine XS.iconst X1.here hx rfl (hb hby d4_12) ?_
    show OwnS p e below T1 (mkF m 13 #[rv r0] [(.int 0)]) _
    exact retN X1 hx (t := .boolean) Bd.returns (by simp) (hb hby d4_13) hr
  · show Q_4_1 Z r0 ar0 k0c x0 h0 n0 _ T1.heap _
    rw [e1]
    exact ⟨rfl, N0, rfl⟩
theorem d5_0 : decode prog_21_method_6_code 0 = .ok (.aload_n 0, 1) := by decide +kernel
theorem d5_1 : decode prog_21_method_6_code 1 = .ok (.getfield 7, 3) := by decide +kernel
theorem d5_4 : decode prog_21_method_6_code 4 = .ok (.arraylength, 1) := by decide +kernel
theorem d5_5 : decode prog_21_method_6_code 5 = .ok (.ifCond .ne 7, 3) := by decide +kernel
theorem d5_8 : decode prog_21_method_6_code 8 = .ok (.iconst 0, 1) := by decide +kernel
theorem d5_9 : decode prog_21_method_6_code 9 = .ok (.goto 15, 3) := by decide +kernel
theorem d5_24 : decode prog_21_method_6_code 24 = .ok (.ireturn, 1) := by decide +kernel
theorem ef_5 (m : MethodId) (x0 : Addr) : entryFrame m #[(.ref x0)] 1 = mkF m 0 #[.val (.ref x0)] [] := by first | (simp [entryFrame, mkF, argsToLocals, Value.category]; done) | rfl
def Q_5_0 (Z : State) (r0 : Addr) (ar0 : Addr) (k0c : ClassId) (h0 : Heap) (n0 : Nat) (v : Option Value) (h : Heap) (L : List Loc) : Prop := v = some (.int 0) ∧ Fr n0 L ∧ h = h0
set_option maxRecDepth 65536 in
set_option maxHeartbeats 40000000 in
theorem rm5_0 (l : Launch) (Z : State) (a0 : Array Value) (hw : ∀ d ∈ tables_1, d.before a0 Z = true) (ws : List Jvm.Cond) (r0 : Addr) (ar0 : Addr) (k0c : ClassId) (h0 : Heap) (n0 : Nat) (Z0 : n0 ≤ h0.size) (E_r0 : Exa Z h0 r0 cS0) (F_levels_r0 : Fld Z h0 r0 cS0 "levels" "[I" (.ref ar0)) (V_ar0 : Arv Z h0 ar0 k0c .int (0 : Int32) [] (.int 0)) (E_ar0 : Exa Z h0 ar0 "[I") :
    MetFree l (⟨cS0, "last", "()I"⟩ : MethodName) (head1 (Jvm.Cond.code (⟨cS0, "last", "()I"⟩ : MethodName) prog_21_method_6_code 1 (some .int) :: ws) ({ frames := 0, cells := 0, slots := 0, locals := 0 } : Room)) (fun a U => a = #[(.ref r0)] ∧ Z.Warmed39 U.vm ∧ U.heap = h0) (fun _ _ _ _ _ => True) (fun _ U o U' => ∃ v L, o = .returned v ∧ Q_5_0 Z r0 ar0 k0c h0 n0 v U'.heap L ∧ FrameEnd U o U' L ({ frames := 0, cells := 0, slots := 0, locals := 0 } : Room).cells ({ frames := 0, cells := 0, slots := 0, locals := 0 } : Room).slots) := by
  refine MetFree.of_bodySF (plainFor_of_name pn_com_example_tablox_tablox_tableau_Dependencies) hisR ?_
  intro p e s m args below meth c s₁ Bd hml0 hP hK
  obtain ⟨rfl, hZ, hh⟩ := hP
  have hx := Bd.exec
  have hby := Bd.bytes
  have hml : c.maxLocals = 1 := hml0
  have hown : s.vm.findClass cS0 = some m.cls := findClass_of_methodNamed Bd.named
  have hnm := (name_of_methodNamed Bd.named Bd.method).1
  have X0 : Stand p l e ({ frames := 0, cells := 0, slots := 0, locals := 0 } : Room) s m #[(.ref r0)] below meth c s₁ [] 0 0 := Stand.of_body Bd
  have e0 : s₁.heap = h0 := by rw [← hh, Bd.state]; rfl
  have N0 := Fr.nil n0
  have k0 : ∀ t, OwnS p e below s₁ (mkF m 0 #[rv r0] []) t → OwnS p e below s₁ (entryFrame m #[(.ref r0)] 1) t := fun t k => castTop (ef_5 m r0) k
  obtain ⟨T1, X1, e1, st1⟩ := getF X0 hx hZ hown (host := "") (Or.inl (own_at hw 13 rfl)) Via.refl e0 F_levels_r0 (g := (mkF m 1 #[rv r0] [(.ref r0)])) rfl rfl (hb hby d5_1)
  obtain ⟨cl_z2, Ar_z2, q_z2, S_z2, N_z2, H_z2, G_z2⟩ := id V_ar0
  obtain ⟨fs, hr, hrun, hended, hW, hsame⟩ := X1.leave (v := some (.int 0)) (fun h => by rw [Bd.returns] at h; cases h)
  refine ⟨_, _, k0 _ ?_, hrun, hended, _, _, rfl, ?_, ⟨_, rfl⟩, hW, hsame.mono (by decide) (by decide)⟩
  · show OwnS p e below s₁ (mkF m 0 #[rv r0] []) _
    refine XS.aloadN X0.here hx rfl (hb hby d5_0) rfl rfl ?_
    show OwnS p e below s₁ (mkF m 1 #[rv r0] [(.ref r0)]) _
    refine st1 _ ?_
    show OwnS p e below T1 (mkF m 4 #[rv r0] [(.ref ar0)]) _
    refine X1.arraylength hx (by rw [e1]; exact Ar_z2.1) (State.isArrayOf_alike hZ.alike Ar_z2.2.1) (g := (mkF m 4 #[rv r0] [(.ref ar0)])) rfl rfl (hb hby d5_4) _ ?_
    rw [len_of S_z2 N_z2]
    show OwnS p e below T1 (mkF m 5 #[rv r0] [(.int 0)]) _
    refine XS.ifNo X1.here hx rfl (hb hby d5_5) rfl ((if0 _ _).trans (teq (by decide : (0 : Int32) = (0 : Int32))).2) ?_
    show OwnS p e below T1 (mkF m 8 #[rv r0] []) _
    refine XS.iconst X1.here hx rfl (hb hby d5_8) ?_
    show OwnS p e below T1 (mkF m 9 #[rv r0] [(.int 0)]) _
    refine XS.goto X1.here hx rfl (pc0 := 9) (pc' := 24) rfl (hb hby d5_9) (by decide) (by decide) ?_
    show OwnS p e below T1 (mkF m 24 #[rv r0] [(.int 0)]) _
    exact retI X1 hx Bd.returns (hb hby d5_24) hr
  · show Q_5_0 Z r0 ar0 k0c h0 n0 _ T1.heap _
    rw [e1]
    exact ⟨rfl, N0, rfl⟩
theorem d5_12 : decode prog_21_method_6_code 12 = .ok (.aload_n 0, 1) := by decide +kernel
theorem d5_13 : decode prog_21_method_6_code 13 = .ok (.getfield 7, 3) := by decide +kernel
theorem d5_16 : decode prog_21_method_6_code 16 = .ok (.aload_n 0, 1) := by decide +kernel
theorem d5_17 : decode prog_21_method_6_code 17 = .ok (.getfield 7, 3) := by decide +kernel
theorem d5_20 : decode prog_21_method_6_code 20 = .ok (.arraylength, 1) := by decide +kernel
theorem d5_21 : decode prog_21_method_6_code 21 = .ok (.iconst 1, 1) := by decide +kernel
theorem d5_22 : decode prog_21_method_6_code 22 = .ok (.isub, 1) := by decide +kernel
theorem d5_23 : decode prog_21_method_6_code 23 = .ok (.iaload, 1) := by decide +kernel
def Q_5_1 (Z : State) (r0 : Addr) (ar0 : Addr) (k0c : ClassId) (x0 : Int32) (h0 : Heap) (n0 : Nat) (v : Option Value) (h : Heap) (L : List Loc) : Prop := v = some (.int x0) ∧ Fr n0 L ∧ h = h0
set_option maxRecDepth 65536 in
set_option maxHeartbeats 40000000 in
theorem rm5_1 (l : Launch) (Z : State) (a0 : Array Value) (hw : ∀ d ∈ tables_1, d.before a0 Z = true) (ws : List Jvm.Cond) (r0 : Addr) (ar0 : Addr) (k0c : ClassId) (x0 : Int32) (h0 : Heap) (n0 : Nat) (Z0 : n0 ≤ h0.size) (E_r0 : Exa Z h0 r0 cS0) (F_levels_r0 : Fld Z h0 r0 cS0 "levels" "[I" (.ref ar0)) (V_ar0 : Arv Z h0 ar0 k0c .int (1 : Int32) [(.int x0)] (.int 0)) (E_ar0 : Exa Z h0 ar0 "[I") :
    MetFree l (⟨cS0, "last", "()I"⟩ : MethodName) (head1 (Jvm.Cond.code (⟨cS0, "last", "()I"⟩ : MethodName) prog_21_method_6_code 1 (some .int) :: ws) ({ frames := 0, cells := 0, slots := 0, locals := 0 } : Room)) (fun a U => a = #[(.ref r0)] ∧ Z.Warmed39 U.vm ∧ U.heap = h0) (fun _ _ _ _ _ => True) (fun _ U o U' => ∃ v L, o = .returned v ∧ Q_5_1 Z r0 ar0 k0c x0 h0 n0 v U'.heap L ∧ FrameEnd U o U' L ({ frames := 0, cells := 0, slots := 0, locals := 0 } : Room).cells ({ frames := 0, cells := 0, slots := 0, locals := 0 } : Room).slots) := by
  refine MetFree.of_bodySF (plainFor_of_name pn_com_example_tablox_tablox_tableau_Dependencies) hisR ?_
  intro p e s m args below meth c s₁ Bd hml0 hP hK
  obtain ⟨rfl, hZ, hh⟩ := hP
  have hx := Bd.exec
  have hby := Bd.bytes
  have hml : c.maxLocals = 1 := hml0
  have hown : s.vm.findClass cS0 = some m.cls := findClass_of_methodNamed Bd.named
  have hnm := (name_of_methodNamed Bd.named Bd.method).1
  have X0 : Stand p l e ({ frames := 0, cells := 0, slots := 0, locals := 0 } : Room) s m #[(.ref r0)] below meth c s₁ [] 0 0 := Stand.of_body Bd
  have e0 : s₁.heap = h0 := by rw [← hh, Bd.state]; rfl
  have N0 := Fr.nil n0
  have k0 : ∀ t, OwnS p e below s₁ (mkF m 0 #[rv r0] []) t → OwnS p e below s₁ (entryFrame m #[(.ref r0)] 1) t := fun t k => castTop (ef_5 m r0) k
  obtain ⟨T1, X1, e1, st1⟩ := getF X0 hx hZ hown (host := "") (Or.inl (own_at hw 13 rfl)) Via.refl e0 F_levels_r0 (g := (mkF m 1 #[rv r0] [(.ref r0)])) rfl rfl (hb hby d5_1)
  obtain ⟨cl_z2, Ar_z2, q_z2, S_z2, N_z2, H_z2, G_z2⟩ := id V_ar0
  obtain ⟨T3, X3, e3, st3⟩ := getF X1 hx hZ hown (host := "") (Or.inl (own_at hw 13 rfl)) Via.refl e1 F_levels_r0 (g := (mkF m 13 #[rv r0] [(.ref r0)])) rfl rfl (hb hby d5_13)
  obtain ⟨T4, X4, e4, st4⟩ := getF X3 hx hZ hown (host := "") (Or.inl (own_at hw 13 rfl)) Via.refl e3 F_levels_r0 (g := (mkF m 17 #[rv r0] [(.ref r0), (.ref ar0)])) rfl rfl (hb hby d5_17)
  have hin5 : ¬ ((0 : Int32) < 0 ∨ cl_z2.slots.size ≤ ((0 : Int32)).toNatClampNeg) := inb_of S_z2 ⟨by decide, by decide⟩
  obtain ⟨fs, hr, hrun, hended, hW, hsame⟩ := X4.leave (v := some (.int x0)) (fun h => by rw [Bd.returns] at h; cases h)
  refine ⟨_, _, k0 _ ?_, hrun, hended, _, _, rfl, ?_, ⟨_, rfl⟩, hW, hsame.mono (by decide) (by decide)⟩
  · show OwnS p e below s₁ (mkF m 0 #[rv r0] []) _
    refine XS.aloadN X0.here hx rfl (hb hby d5_0) rfl rfl ?_
    show OwnS p e below s₁ (mkF m 1 #[rv r0] [(.ref r0)]) _
    refine st1 _ ?_
    show OwnS p e below T1 (mkF m 4 #[rv r0] [(.ref ar0)]) _
    refine X1.arraylength hx (by rw [e1]; exact Ar_z2.1) (State.isArrayOf_alike hZ.alike Ar_z2.2.1) (g := (mkF m 4 #[rv r0] [(.ref ar0)])) rfl rfl (hb hby d5_4) _ ?_
    rw [len_of S_z2 N_z2]
    show OwnS p e below T1 (mkF m 5 #[rv r0] [(.int 1)]) _
    refine XS.ifYes X1.here hx rfl (pc0 := 5) (pc' := 12) rfl (hb hby d5_5) rfl ((if0 _ _).trans (feq (by decide : ¬ ((1 : Int32) = (0 : Int32)))).2) (by decide) (by decide) ?_
    show OwnS p e below T1 (mkF m 12 #[rv r0] []) _
    refine XS.aloadN X1.here hx rfl (hb hby d5_12) rfl rfl ?_
    show OwnS p e below T1 (mkF m 13 #[rv r0] [(.ref r0)]) _
    refine st3 _ ?_
    show OwnS p e below T3 (mkF m 16 #[rv r0] [(.ref ar0)]) _
    refine XS.aloadN X3.here hx rfl (hb hby d5_16) rfl rfl ?_
    show OwnS p e below T3 (mkF m 17 #[rv r0] [(.ref r0), (.ref ar0)]) _
    refine st4 _ ?_
    show OwnS p e below T4 (mkF m 20 #[rv r0] [(.ref ar0), (.ref ar0)]) _
    refine X4.arraylength hx (by rw [e4]; exact Ar_z2.1) (State.isArrayOf_alike hZ.alike Ar_z2.2.1) (g := (mkF m 20 #[rv r0] [(.ref ar0), (.ref ar0)])) rfl rfl (hb hby d5_20) _ ?_
    rw [len_of S_z2 N_z2]
    show OwnS p e below T4 (mkF m 21 #[rv r0] [(.int 1), (.ref ar0)]) _
    refine XS.iconst X4.here hx rfl (hb hby d5_21) ?_
    show OwnS p e below T4 (mkF m 22 #[rv r0] [(.int 1), (.int 1), (.ref ar0)]) _
    refine XS.isub X4.here hx rfl (hb hby d5_22) rfl ?_
    show OwnS p e below T4 (mkF m 23 #[rv r0] [(.int 0), (.ref ar0)]) _
    refine X4.iaload hx (j := (0 : Int32)) (v := (.int x0)) (by rw [e4]; exact Ar_z2.1) (State.isArrayOf_alike hZ.alike Ar_z2.2.1) Ar_z2.2.2 hin5 (Has.at H_z2 hin5 rfl) (g := (mkF m 23 #[rv r0] [(.int 0), (.ref ar0)])) rfl rfl (hb hby d5_23) _ ?_
    show OwnS p e below T4 (mkF m 24 #[rv r0] [(.int x0)]) _
    exact retI X4 hx Bd.returns (hb hby d5_24) hr
  · show Q_5_1 Z r0 ar0 k0c x0 h0 n0 _ T4.heap _
    rw [e4]
    exact ⟨rfl, N0, rfl⟩
def Q_5_2 (Z : State) (r0 : Addr) (ar0 : Addr) (k0c : ClassId) (x0 : Int32) (x1 : Int32) (h0 : Heap) (n0 : Nat) (v : Option Value) (h : Heap) (L : List Loc) : Prop := v = some (.int x1) ∧ Fr n0 L ∧ h = h0
set_option maxRecDepth 65536 in
set_option maxHeartbeats 40000000 in
theorem rm5_2 (l : Launch) (Z : State) (a0 : Array Value) (hw : ∀ d ∈ tables_1, d.before a0 Z = true) (ws : List Jvm.Cond) (r0 : Addr) (ar0 : Addr) (k0c : ClassId) (x0 : Int32) (x1 : Int32) (h0 : Heap) (n0 : Nat) (Z0 : n0 ≤ h0.size) (E_r0 : Exa Z h0 r0 cS0) (F_levels_r0 : Fld Z h0 r0 cS0 "levels" "[I" (.ref ar0)) (V_ar0 : Arv Z h0 ar0 k0c .int (2 : Int32) [(.int x0), (.int x1)] (.int 0)) (E_ar0 : Exa Z h0 ar0 "[I") :
    MetFree l (⟨cS0, "last", "()I"⟩ : MethodName) (head1 (Jvm.Cond.code (⟨cS0, "last", "()I"⟩ : MethodName) prog_21_method_6_code 1 (some .int) :: ws) ({ frames := 0, cells := 0, slots := 0, locals := 0 } : Room)) (fun a U => a = #[(.ref r0)] ∧ Z.Warmed39 U.vm ∧ U.heap = h0) (fun _ _ _ _ _ => True) (fun _ U o U' => ∃ v L, o = .returned v ∧ Q_5_2 Z r0 ar0 k0c x0 x1 h0 n0 v U'.heap L ∧ FrameEnd U o U' L ({ frames := 0, cells := 0, slots := 0, locals := 0 } : Room).cells ({ frames := 0, cells := 0, slots := 0, locals := 0 } : Room).slots) := by
  refine MetFree.of_bodySF (plainFor_of_name pn_com_example_tablox_tablox_tableau_Dependencies) hisR ?_
  intro p e s m args below meth c s₁ Bd hml0 hP hK
  obtain ⟨rfl, hZ, hh⟩ := hP
  have hx := Bd.exec
  have hby := Bd.bytes
  have hml : c.maxLocals = 1 := hml0
  have hown : s.vm.findClass cS0 = some m.cls := findClass_of_methodNamed Bd.named
  have hnm := (name_of_methodNamed Bd.named Bd.method).1
  have X0 : Stand p l e ({ frames := 0, cells := 0, slots := 0, locals := 0 } : Room) s m #[(.ref r0)] below meth c s₁ [] 0 0 := Stand.of_body Bd
  have e0 : s₁.heap = h0 := by rw [← hh, Bd.state]; rfl
  have N0 := Fr.nil n0
  have k0 : ∀ t, OwnS p e below s₁ (mkF m 0 #[rv r0] []) t → OwnS p e below s₁ (entryFrame m #[(.ref r0)] 1) t := fun t k => castTop (ef_5 m r0) k
  obtain ⟨T1, X1, e1, st1⟩ := getF X0 hx hZ hown (host := "") (Or.inl (own_at hw 13 rfl)) Via.refl e0 F_levels_r0 (g := (mkF m 1 #[rv r0] [(.ref r0)])) rfl rfl (hb hby d5_1)
  obtain ⟨cl_z2, Ar_z2, q_z2, S_z2, N_z2, H_z2, G_z2⟩ := id V_ar0
  obtain ⟨T3, X3, e3, st3⟩ := getF X1 hx hZ hown (host := "") (Or.inl (own_at hw 13 rfl)) Via.refl e1 F_levels_r0 (g := (mkF m 13 #[rv r0] [(.ref r0)])) rfl rfl (hb hby d5_13)
  obtain ⟨T4, X4, e4, st4⟩ := getF X3 hx hZ hown (host := "") (Or.inl (own_at hw 13 rfl)) Via.refl e3 F_levels_r0 (g := (mkF m 17 #[rv r0] [(.ref r0), (.ref ar0)])) rfl rfl (hb hby d5_17)
  have hin5 : ¬ ((1 : Int32) < 0 ∨ cl_z2.slots.size ≤ ((1 : Int32)).toNatClampNeg) := inb_of S_z2 ⟨by decide, by decide⟩
  obtain ⟨fs, hr, hrun, hended, hW, hsame⟩ := X4.leave (v := some (.int x1)) (fun h => by rw [Bd.returns] at h; cases h)
  refine ⟨_, _, k0 _ ?_, hrun, hended, _, _, rfl, ?_, ⟨_, rfl⟩, hW, hsame.mono (by decide) (by decide)⟩
  · show OwnS p e below s₁ (mkF m 0 #[rv r0] []) _
    refine XS.aloadN X0.here hx rfl (hb hby d5_0) rfl rfl ?_
    show OwnS p e below s₁ (mkF m 1 #[rv r0] [(.ref r0)]) _
    refine st1 _ ?_
    show OwnS p e below T1 (mkF m 4 #[rv r0] [(.ref ar0)]) _
    refine X1.arraylength hx (by rw [e1]; exact Ar_z2.1) (State.isArrayOf_alike hZ.alike Ar_z2.2.1) (g := (mkF m 4 #[rv r0] [(.ref ar0)])) rfl rfl (hb hby d5_4) _ ?_
    rw [len_of S_z2 N_z2]
    show OwnS p e below T1 (mkF m 5 #[rv r0] [(.int 2)]) _
    refine XS.ifYes X1.here hx rfl (pc0 := 5) (pc' := 12) rfl (hb hby d5_5) rfl ((if0 _ _).trans (feq (by decide : ¬ ((2 : Int32) = (0 : Int32)))).2) (by decide) (by decide) ?_
    show OwnS p e below T1 (mkF m 12 #[rv r0] []) _
    refine XS.aloadN X1.here hx rfl (hb hby d5_12) rfl rfl ?_
    show OwnS p e below T1 (mkF m 13 #[rv r0] [(.ref r0)]) _
    refine st3 _ ?_
    show OwnS p e below T3 (mkF m 16 #[rv r0] [(.ref ar0)]) _
    refine XS.aloadN X3.here hx rfl (hb hby d5_16) rfl rfl ?_
    show OwnS p e below T3 (mkF m 17 #[rv r0] [(.ref r0), (.ref ar0)]) _
    refine st4 _ ?_
    show OwnS p e below T4 (mkF m 20 #[rv r0] [(.ref ar0), (.ref ar0)]) _
    refine X4.arraylength hx (by rw [e4]; exact Ar_z2.1) (State.isArrayOf_alike hZ.alike Ar_z2.2.1) (g := (mkF m 20 #[rv r0] [(.ref ar0), (.ref ar0)])) rfl rfl (hb hby d5_20) _ ?_
    rw [len_of S_z2 N_z2]
    show OwnS p e below T4 (mkF m 21 #[rv r0] [(.int 2), (.ref ar0)]) _
    refine XS.iconst X4.here hx rfl (hb hby d5_21) ?_
    show OwnS p e below T4 (mkF m 22 #[rv r0] [(.int 1), (.int 2), (.ref ar0)]) _
    refine XS.isub X4.here hx rfl (hb hby d5_22) rfl ?_
    show OwnS p e below T4 (mkF m 23 #[rv r0] [(.int 1), (.ref ar0)]) _
    refine X4.iaload hx (j := (1 : Int32)) (v := (.int x1)) (by rw [e4]; exact Ar_z2.1) (State.isArrayOf_alike hZ.alike Ar_z2.2.1) Ar_z2.2.2 hin5 (Has.at H_z2 hin5 rfl) (g := (mkF m 23 #[rv r0] [(.int 1), (.ref ar0)])) rfl rfl (hb hby d5_23) _ ?_
    show OwnS p e below T4 (mkF m 24 #[rv r0] [(.int x1)]) _
    exact retI X4 hx Bd.returns (hb hby d5_24) hr
  · show Q_5_2 Z r0 ar0 k0c x0 x1 h0 n0 _ T4.heap _
    rw [e4]
    exact ⟨rfl, N0, rfl⟩
theorem d8_0 : decode jdk_65_method_59_code 0 = .ok (.iload_n 1, 1) := by decide +kernel
theorem d8_1 : decode jdk_65_method_59_code 1 = .ok (.istore 4, 2) := by decide +kernel
theorem d8_3 : decode jdk_65_method_59_code 3 = .ok (.iload_n 2, 1) := by decide +kernel
theorem d8_4 : decode jdk_65_method_59_code 4 = .ok (.iconst 1, 1) := by decide +kernel
theorem d8_5 : decode jdk_65_method_59_code 5 = .ok (.isub, 1) := by decide +kernel
theorem d8_6 : decode jdk_65_method_59_code 6 = .ok (.istore 5, 2) := by decide +kernel
theorem d8_8 : decode jdk_65_method_59_code 8 = .ok (.iload 4, 2) := by decide +kernel
theorem d8_10 : decode jdk_65_method_59_code 10 = .ok (.iload 5, 2) := by decide +kernel
theorem d8_12 : decode jdk_65_method_59_code 12 = .ok (.if_icmp .gt 54, 3) := by decide +kernel
theorem d8_15 : decode jdk_65_method_59_code 15 = .ok (.iload 4, 2) := by decide +kernel
theorem d8_17 : decode jdk_65_method_59_code 17 = .ok (.iload 5, 2) := by decide +kernel
theorem d8_19 : decode jdk_65_method_59_code 19 = .ok (.iadd, 1) := by decide +kernel
theorem d8_20 : decode jdk_65_method_59_code 20 = .ok (.iconst 1, 1) := by decide +kernel
theorem d8_21 : decode jdk_65_method_59_code 21 = .ok (.iushr, 1) := by decide +kernel
theorem d8_22 : decode jdk_65_method_59_code 22 = .ok (.istore 6, 2) := by decide +kernel
theorem d8_24 : decode jdk_65_method_59_code 24 = .ok (.aload_n 0, 1) := by decide +kernel
theorem d8_25 : decode jdk_65_method_59_code 25 = .ok (.iload 6, 2) := by decide +kernel
theorem d8_27 : decode jdk_65_method_59_code 27 = .ok (.iaload, 1) := by decide +kernel
theorem d8_28 : decode jdk_65_method_59_code 28 = .ok (.istore 7, 2) := by decide +kernel
theorem d8_30 : decode jdk_65_method_59_code 30 = .ok (.iload 7, 2) := by decide +kernel
theorem d8_32 : decode jdk_65_method_59_code 32 = .ok (.iload_n 3, 1) := by decide +kernel
theorem d8_33 : decode jdk_65_method_59_code 33 = .ok (.if_icmp .ge 12, 3) := by decide +kernel
theorem d8_45 : decode jdk_65_method_59_code 45 = .ok (.iload 7, 2) := by decide +kernel
theorem d8_47 : decode jdk_65_method_59_code 47 = .ok (.iload_n 3, 1) := by decide +kernel
theorem d8_48 : decode jdk_65_method_59_code 48 = .ok (.if_icmp .le 12, 3) := by decide +kernel
theorem d8_60 : decode jdk_65_method_59_code 60 = .ok (.iload 6, 2) := by decide +kernel
theorem d8_62 : decode jdk_65_method_59_code 62 = .ok (.ireturn, 1) := by decide +kernel
theorem pn_java_util_Arrays : plainName "java/util/Arrays" = true := by first | (simp [plainName, overriddenIn]; done) | decide +kernel
theorem ef_8 (m : MethodId) (x0 : Addr) (x1 : Int32) (x2 : Int32) (x3 : Int32) : entryFrame m #[(.ref x0), (.int x1), (.int x2), (.int x3)] 8 = mkF m 0 #[.val (.ref x0), .val (.int x1), .val (.int x2), .val (.int x3), .unset, .unset, .unset, .unset] [] := by first | (simp [entryFrame, mkF, argsToLocals, Value.category]; done) | rfl
def Q_8_1 (Z : State) (r0 : Addr) (x0 : Int32) (k0c : ClassId) (h0 : Heap) (n0 : Nat) (v : Option Value) (h : Heap) (L : List Loc) : Prop := v = some (.int 0) ∧ Fr n0 L ∧ h = h0
set_option maxRecDepth 65536 in
set_option maxHeartbeats 40000000 in
theorem rm8_1 (l : Launch) (Z : State) (a0 : Array Value) (hw : ∀ d ∈ tables_1, d.before a0 Z = true) (ws : List Jvm.Cond) (r0 : Addr) (x0 : Int32) (k0c : ClassId) (h0 : Heap) (n0 : Nat) (Z0 : n0 ≤ h0.size) (V_r0 : Arv Z h0 r0 k0c .int (1 : Int32) [(.int x0)] (.int 0)) :
    MetFree l (⟨"java/util/Arrays", "binarySearch0", "([IIII)I"⟩ : MethodName) (head1 (Jvm.Cond.code (⟨"java/util/Arrays", "binarySearch0", "([IIII)I"⟩ : MethodName) jdk_65_method_59_code 8 (some .int) :: ws) ({ frames := 0, cells := 0, slots := 0, locals := 0 } : Room)) (fun a U => a = #[(.ref r0), (.int 0), (.int 1), (.int x0)] ∧ Z.Warmed39 U.vm ∧ U.heap = h0) (fun _ _ _ _ _ => True) (fun _ U o U' => ∃ v L, o = .returned v ∧ Q_8_1 Z r0 x0 k0c h0 n0 v U'.heap L ∧ FrameEnd U o U' L ({ frames := 0, cells := 0, slots := 0, locals := 0 } : Room).cells ({ frames := 0, cells := 0, slots := 0, locals := 0 } : Room).slots) := by
  refine MetFree.of_bodySF (plainFor_of_name pn_java_util_Arrays) hisR ?_
  intro p e s m args below meth c s₁ Bd hml0 hP hK
  obtain ⟨rfl, hZ, hh⟩ := hP
  have hx := Bd.exec
  have hby := Bd.bytes
  have hml : c.maxLocals = 8 := hml0
  have hown : s.vm.findClass "java/util/Arrays" = some m.cls := findClass_of_methodNamed Bd.named
  have hnm := (name_of_methodNamed Bd.named Bd.method).1
  have X0 : Stand p l e ({ frames := 0, cells := 0, slots := 0, locals := 0 } : Room) s m #[(.ref r0), (.int 0), (.int 1), (.int x0)] below meth c s₁ [] 0 0 := Stand.of_body Bd
  have e0 : s₁.heap = h0 := by rw [← hh, Bd.state]; rfl
  have N0 := Fr.nil n0
  have k0 : ∀ t, OwnS p e below s₁ (mkF m 0 #[rv r0, iv 0, iv 1, iv x0, .unset, .unset, .unset, .unset] []) t → OwnS p e below s₁ (entryFrame m #[(.ref r0), (.int 0), (.int 1), (.int x0)] 8) t := fun t k => castTop (ef_8 m r0 (0 : Int32) (1 : Int32) x0) k
  obtain ⟨cl_z1, Ar_z1, q_z1, S_z1, N_z1, H_z1, G_z1⟩ := id V_r0
  have hin2 : ¬ ((0 : Int32) < 0 ∨ cl_z1.slots.size ≤ ((0 : Int32)).toNatClampNeg) := inb_of S_z1 ⟨by decide, by decide⟩
  obtain ⟨fs, hr, hrun, hended, hW, hsame⟩ := X0.leave (v := some (.int 0)) (fun h => by rw [Bd.returns] at h; cases h)
  refine ⟨_, _, k0 _ ?_, hrun, hended, _, _, rfl, ?_, ⟨_, rfl⟩, hW, hsame.mono (by decide) (by decide)⟩
  · show OwnS p e below s₁ (mkF m 0 #[rv r0, iv 0, iv 1, iv x0, .unset, .unset, .unset, .unset] []) _
    refine XS.iloadN X0.here hx rfl (hb hby d8_0) rfl ?_
    show OwnS p e below s₁ (mkF m 1 #[rv r0, iv 0, iv 1, iv x0, .unset, .unset, .unset, .unset] [(.int 0)]) _
    refine XS.istore X0.here hx rfl (hb hby d8_1) rfl (l' := #[rv r0, iv 0, iv 1, iv x0, iv 0, .unset, .unset, .unset]) rfl ?_
    show OwnS p e below s₁ (mkF m 3 #[rv r0, iv 0, iv 1, iv x0, iv 0, .unset, .unset, .unset] []) _
    refine XS.iloadN X0.here hx rfl (hb hby d8_3) rfl ?_
    show OwnS p e below s₁ (mkF m 4 #[rv r0, iv 0, iv 1, iv x0, iv 0, .unset, .unset, .unset] [(.int 1)]) _
    refine XS.iconst X0.here hx rfl (hb hby d8_4) ?_
    show OwnS p e below s₁ (mkF m 5 #[rv r0, iv 0, iv 1, iv x0, iv 0, .unset, .unset, .unset] [(.int 1), (.int 1)]) _
    refine XS.isub X0.here hx rfl (hb hby d8_5) rfl ?_
    show OwnS p e below s₁ (mkF m 6 #[rv r0, iv 0, iv 1, iv x0, iv 0, .unset, .unset, .unset] [(.int 0)]) _
    refine XS.istore X0.here hx rfl (hb hby d8_6) rfl (l' := #[rv r0, iv 0, iv 1, iv x0, iv 0, iv 0, .unset, .unset]) rfl ?_
    show OwnS p e below s₁ (mkF m 8 #[rv r0, iv 0, iv 1, iv x0, iv 0, iv 0, .unset, .unset] []) _
    refine XS.iload X0.here hx rfl (hb hby d8_8) rfl ?_
    show OwnS p e below s₁ (mkF m 10 #[rv r0, iv 0, iv 1, iv x0, iv 0, iv 0, .unset, .unset] [(.int 0)]) _
    refine XS.iload X0.here hx rfl (hb hby d8_10) rfl ?_
    show OwnS p e below s₁ (mkF m 12 #[rv r0, iv 0, iv 1, iv x0, iv 0, iv 0, .unset, .unset] [(.int 0), (.int 0)]) _
    refine XS.icmpNo X0.here hx rfl (hb hby d8_12) rfl (flt (by decide : ¬ ((0 : Int32) < (0 : Int32)))).2.2.1 ?_
    show OwnS p e below s₁ (mkF m 15 #[rv r0, iv 0, iv 1, iv x0, iv 0, iv 0, .unset, .unset] []) _
    refine XS.iload X0.here hx rfl (hb hby d8_15) rfl ?_
    show OwnS p e below s₁ (mkF m 17 #[rv r0, iv 0, iv 1, iv x0, iv 0, iv 0, .unset, .unset] [(.int 0)]) _
    refine XS.iload X0.here hx rfl (hb hby d8_17) rfl ?_
    show OwnS p e below s₁ (mkF m 19 #[rv r0, iv 0, iv 1, iv x0, iv 0, iv 0, .unset, .unset] [(.int 0), (.int 0)]) _
    refine XS.iadd X0.here hx rfl (hb hby d8_19) rfl ?_
    show OwnS p e below s₁ (mkF m 20 #[rv r0, iv 0, iv 1, iv x0, iv 0, iv 0, .unset, .unset] [(.int 0)]) _
    refine XS.iconst X0.here hx rfl (hb hby d8_20) ?_
    show OwnS p e below s₁ (mkF m 21 #[rv r0, iv 0, iv 1, iv x0, iv 0, iv 0, .unset, .unset] [(.int 1), (.int 0)]) _
    refine XS.iushr X0.here hx rfl (hb hby d8_21) rfl ?_
    show OwnS p e below s₁ (mkF m 22 #[rv r0, iv 0, iv 1, iv x0, iv 0, iv 0, .unset, .unset] [(.int 0)]) _
    refine XS.istore X0.here hx rfl (hb hby d8_22) rfl (l' := #[rv r0, iv 0, iv 1, iv x0, iv 0, iv 0, iv 0, .unset]) rfl ?_
    show OwnS p e below s₁ (mkF m 24 #[rv r0, iv 0, iv 1, iv x0, iv 0, iv 0, iv 0, .unset] []) _
    refine XS.aloadN X0.here hx rfl (hb hby d8_24) rfl rfl ?_
    show OwnS p e below s₁ (mkF m 25 #[rv r0, iv 0, iv 1, iv x0, iv 0, iv 0, iv 0, .unset] [(.ref r0)]) _
    refine XS.iload X0.here hx rfl (hb hby d8_25) rfl ?_
    show OwnS p e below s₁ (mkF m 27 #[rv r0, iv 0, iv 1, iv x0, iv 0, iv 0, iv 0, .unset] [(.int 0), (.ref r0)]) _
    refine X0.iaload hx (j := (0 : Int32)) (v := (.int x0)) (by rw [e0]; exact Ar_z1.1) (State.isArrayOf_alike hZ.alike Ar_z1.2.1) Ar_z1.2.2 hin2 (Has.at H_z1 hin2 rfl) (g := (mkF m 27 #[rv r0, iv 0, iv 1, iv x0, iv 0, iv 0, iv 0, .unset] [(.int 0), (.ref r0)])) rfl rfl (hb hby d8_27) _ ?_
    show OwnS p e below s₁ (mkF m 28 #[rv r0, iv 0, iv 1, iv x0, iv 0, iv 0, iv 0, .unset] [(.int x0)]) _
    refine XS.istore X0.here hx rfl (hb hby d8_28) rfl (l' := #[rv r0, iv 0, iv 1, iv x0, iv 0, iv 0, iv 0, iv x0]) rfl ?_
    show OwnS p e below s₁ (mkF m 30 #[rv r0, iv 0, iv 1, iv x0, iv 0, iv 0, iv 0, iv x0] []) _
    refine XS.iload X0.here hx rfl (hb hby d8_30) rfl ?_
    show OwnS p e below s₁ (mkF m 32 #[rv r0, iv 0, iv 1, iv x0, iv 0, iv 0, iv 0, iv x0] [(.int x0)]) _
    refine XS.iloadN X0.here hx rfl (hb hby d8_32) rfl ?_
    show OwnS p e below s₁ (mkF m 33 #[rv r0, iv 0, iv 1, iv x0, iv 0, iv 0, iv 0, iv x0] [(.int x0), (.int x0)]) _
    refine XS.icmpYes X0.here hx rfl (pc0 := 33) (pc' := 45) rfl (hb hby d8_33) rfl (flt (own_irr _)).2.1 (by decide) (by decide) ?_
    show OwnS p e below s₁ (mkF m 45 #[rv r0, iv 0, iv 1, iv x0, iv 0, iv 0, iv 0, iv x0] []) _
    refine XS.iload X0.here hx rfl (hb hby d8_45) rfl ?_
    show OwnS p e below s₁ (mkF m 47 #[rv r0, iv 0, iv 1, iv x0, iv 0, iv 0, iv 0, iv x0] [(.int x0)]) _
    refine XS.iloadN X0.here hx rfl (hb hby d8_47) rfl ?_
    show OwnS p e below s₁ (mkF m 48 #[rv r0, iv 0, iv 1, iv x0, iv 0, iv 0, iv 0, iv x0] [(.int x0), (.int x0)]) _
    refine XS.icmpYes X0.here hx rfl (pc0 := 48) (pc' := 60) rfl (hb hby d8_48) rfl (flt (own_irr _)).2.2.2 (by decide) (by decide) ?_
    show OwnS p e below s₁ (mkF m 60 #[rv r0, iv 0, iv 1, iv x0, iv 0, iv 0, iv 0, iv x0] []) _
    refine XS.iload X0.here hx rfl (hb hby d8_60) rfl ?_
    show OwnS p e below s₁ (mkF m 62 #[rv r0, iv 0, iv 1, iv x0, iv 0, iv 0, iv 0, iv x0] [(.int 0)]) _
    exact retI X0 hx Bd.returns (hb hby d8_62) hr
  · show Q_8_1 Z r0 x0 k0c h0 n0 _ s₁.heap _
    rw [e0]
    exact ⟨rfl, N0, rfl⟩
theorem d8_36 : decode jdk_65_method_59_code 36 = .ok (.iload 6, 2) := by decide +kernel
theorem d8_38 : decode jdk_65_method_59_code 38 = .ok (.iconst 1, 1) := by decide +kernel
theorem d8_39 : decode jdk_65_method_59_code 39 = .ok (.iadd, 1) := by decide +kernel
theorem d8_40 : decode jdk_65_method_59_code 40 = .ok (.istore 4, 2) := by decide +kernel
theorem d8_42 : decode jdk_65_method_59_code 42 = .ok (.goto 21, 3) := by decide +kernel
theorem d8_63 : decode jdk_65_method_59_code 63 = .ok (.goto (-55), 3) := by decide +kernel
def Q_8_2 (Z : State) (r0 : Addr) (x1 : Int32) (k0c : ClassId) (x0 : Int32) (h0 : Heap) (n0 : Nat) (v : Option Value) (h : Heap) (L : List Loc) : Prop := v = some (.int 1) ∧ Fr n0 L ∧ h = h0
set_option maxRecDepth 65536 in
set_option maxHeartbeats 40000000 in
theorem rm8_2 (l : Launch) (Z : State) (a0 : Array Value) (hw : ∀ d ∈ tables_1, d.before a0 Z = true) (ws : List Jvm.Cond) (r0 : Addr) (x1 : Int32) (k0c : ClassId) (x0 : Int32) (h0 : Heap) (n0 : Nat) (Z0 : n0 ≤ h0.size) (V_r0 : Arv Z h0 r0 k0c .int (2 : Int32) [(.int x0), (.int x1)] (.int 0)) (hlt : x0 < x1) :
    MetFree l (⟨"java/util/Arrays", "binarySearch0", "([IIII)I"⟩ : MethodName) (head1 (Jvm.Cond.code (⟨"java/util/Arrays", "binarySearch0", "([IIII)I"⟩ : MethodName) jdk_65_method_59_code 8 (some .int) :: ws) ({ frames := 0, cells := 0, slots := 0, locals := 0 } : Room)) (fun a U => a = #[(.ref r0), (.int 0), (.int 2), (.int x1)] ∧ Z.Warmed39 U.vm ∧ U.heap = h0) (fun _ _ _ _ _ => True) (fun _ U o U' => ∃ v L, o = .returned v ∧ Q_8_2 Z r0 x1 k0c x0 h0 n0 v U'.heap L ∧ FrameEnd U o U' L ({ frames := 0, cells := 0, slots := 0, locals := 0 } : Room).cells ({ frames := 0, cells := 0, slots := 0, locals := 0 } : Room).slots) := by
  refine MetFree.of_bodySF (plainFor_of_name pn_java_util_Arrays) hisR ?_
  intro p e s m args below meth c s₁ Bd hml0 hP hK
  obtain ⟨rfl, hZ, hh⟩ := hP
  have hx := Bd.exec
  have hby := Bd.bytes
  have hml : c.maxLocals = 8 := hml0
  have hown : s.vm.findClass "java/util/Arrays" = some m.cls := findClass_of_methodNamed Bd.named
  have hnm := (name_of_methodNamed Bd.named Bd.method).1
  have X0 : Stand p l e ({ frames := 0, cells := 0, slots := 0, locals := 0 } : Room) s m #[(.ref r0), (.int 0), (.int 2), (.int x1)] below meth c s₁ [] 0 0 := Stand.of_body Bd
  have e0 : s₁.heap = h0 := by rw [← hh, Bd.state]; rfl
  have N0 := Fr.nil n0
  have k0 : ∀ t, OwnS p e below s₁ (mkF m 0 #[rv r0, iv 0, iv 2, iv x1, .unset, .unset, .unset, .unset] []) t → OwnS p e below s₁ (entryFrame m #[(.ref r0), (.int 0), (.int 2), (.int x1)] 8) t := fun t k => castTop (ef_8 m r0 (0 : Int32) (2 : Int32) x1) k
  obtain ⟨cl_z1, Ar_z1, q_z1, S_z1, N_z1, H_z1, G_z1⟩ := id V_r0
  have hin2 : ¬ ((0 : Int32) < 0 ∨ cl_z1.slots.size ≤ ((0 : Int32)).toNatClampNeg) := inb_of S_z1 ⟨by decide, by decide⟩
  have hin3 : ¬ ((1 : Int32) < 0 ∨ cl_z1.slots.size ≤ ((1 : Int32)).toNatClampNeg) := inb_of S_z1 ⟨by decide, by decide⟩
  obtain ⟨fs, hr, hrun, hended, hW, hsame⟩ := X0.leave (v := some (.int 1)) (fun h => by rw [Bd.returns] at h; cases h)
  refine ⟨_, _, k0 _ ?_, hrun, hended, _, _, rfl, ?_, ⟨_, rfl⟩, hW, hsame.mono (by decide) (by decide)⟩
  · show OwnS p e below s₁ (mkF m 0 #[rv r0, iv 0, iv 2, iv x1, .unset, .unset, .unset, .unset] []) _
    refine XS.iloadN X0.here hx rfl (hb hby d8_0) rfl ?_
    show OwnS p e below s₁ (mkF m 1 #[rv r0, iv 0, iv 2, iv x1, .unset, .unset, .unset, .unset] [(.int 0)]) _
    refine XS.istore X0.here hx rfl (hb hby d8_1) rfl (l' := #[rv r0, iv 0, iv 2, iv x1, iv 0, .unset, .unset, .unset]) rfl ?_
    show OwnS p e below s₁ (mkF m 3 #[rv r0, iv 0, iv 2, iv x1, iv 0, .unset, .unset, .unset] []) _
    refine XS.iloadN X0.here hx rfl (hb hby d8_3) rfl ?_
    show OwnS p e below s₁ (mkF m 4 #[rv r0, iv 0, iv 2, iv x1, iv 0, .unset, .unset, .unset] [(.int 2)]) _
    refine XS.iconst X0.here hx rfl (hb hby d8_4) ?_
    show OwnS p e below s₁ (mkF m 5 #[rv r0, iv 0, iv 2, iv x1, iv 0, .unset, .unset, .unset] [(.int 1), (.int 2)]) _
    refine XS.isub X0.here hx rfl (hb hby d8_5) rfl ?_
    show OwnS p e below s₁ (mkF m 6 #[rv r0, iv 0, iv 2, iv x1, iv 0, .unset, .unset, .unset] [(.int 1)]) _
    refine XS.istore X0.here hx rfl (hb hby d8_6) rfl (l' := #[rv r0, iv 0, iv 2, iv x1, iv 0, iv 1, .unset, .unset]) rfl ?_
    show OwnS p e below s₁ (mkF m 8 #[rv r0, iv 0, iv 2, iv x1, iv 0, iv 1, .unset, .unset] []) _
    refine XS.iload X0.here hx rfl (hb hby d8_8) rfl ?_
    show OwnS p e below s₁ (mkF m 10 #[rv r0, iv 0, iv 2, iv x1, iv 0, iv 1, .unset, .unset] [(.int 0)]) _
    refine XS.iload X0.here hx rfl (hb hby d8_10) rfl ?_
    show OwnS p e below s₁ (mkF m 12 #[rv r0, iv 0, iv 2, iv x1, iv 0, iv 1, .unset, .unset] [(.int 1), (.int 0)]) _
    refine XS.icmpNo X0.here hx rfl (hb hby d8_12) rfl (flt (by decide : ¬ ((1 : Int32) < (0 : Int32)))).2.2.1 ?_
    show OwnS p e below s₁ (mkF m 15 #[rv r0, iv 0, iv 2, iv x1, iv 0, iv 1, .unset, .unset] []) _
    refine XS.iload X0.here hx rfl (hb hby d8_15) rfl ?_
    show OwnS p e below s₁ (mkF m 17 #[rv r0, iv 0, iv 2, iv x1, iv 0, iv 1, .unset, .unset] [(.int 0)]) _
    refine XS.iload X0.here hx rfl (hb hby d8_17) rfl ?_
    show OwnS p e below s₁ (mkF m 19 #[rv r0, iv 0, iv 2, iv x1, iv 0, iv 1, .unset, .unset] [(.int 1), (.int 0)]) _
    refine XS.iadd X0.here hx rfl (hb hby d8_19) rfl ?_
    show OwnS p e below s₁ (mkF m 20 #[rv r0, iv 0, iv 2, iv x1, iv 0, iv 1, .unset, .unset] [(.int 1)]) _
    refine XS.iconst X0.here hx rfl (hb hby d8_20) ?_
    show OwnS p e below s₁ (mkF m 21 #[rv r0, iv 0, iv 2, iv x1, iv 0, iv 1, .unset, .unset] [(.int 1), (.int 1)]) _
    refine XS.iushr X0.here hx rfl (hb hby d8_21) rfl ?_
    show OwnS p e below s₁ (mkF m 22 #[rv r0, iv 0, iv 2, iv x1, iv 0, iv 1, .unset, .unset] [(.int 0)]) _
    refine XS.istore X0.here hx rfl (hb hby d8_22) rfl (l' := #[rv r0, iv 0, iv 2, iv x1, iv 0, iv 1, iv 0, .unset]) rfl ?_
    show OwnS p e below s₁ (mkF m 24 #[rv r0, iv 0, iv 2, iv x1, iv 0, iv 1, iv 0, .unset] []) _
    refine XS.aloadN X0.here hx rfl (hb hby d8_24) rfl rfl ?_
    show OwnS p e below s₁ (mkF m 25 #[rv r0, iv 0, iv 2, iv x1, iv 0, iv 1, iv 0, .unset] [(.ref r0)]) _
    refine XS.iload X0.here hx rfl (hb hby d8_25) rfl ?_
    show OwnS p e below s₁ (mkF m 27 #[rv r0, iv 0, iv 2, iv x1, iv 0, iv 1, iv 0, .unset] [(.int 0), (.ref r0)]) _
    refine X0.iaload hx (j := (0 : Int32)) (v := (.int x0)) (by rw [e0]; exact Ar_z1.1) (State.isArrayOf_alike hZ.alike Ar_z1.2.1) Ar_z1.2.2 hin2 (Has.at H_z1 hin2 rfl) (g := (mkF m 27 #[rv r0, iv 0, iv 2, iv x1, iv 0, iv 1, iv 0, .unset] [(.int 0), (.ref r0)])) rfl rfl (hb hby d8_27) _ ?_
    show OwnS p e below s₁ (mkF m 28 #[rv r0, iv 0, iv 2, iv x1, iv 0, iv 1, iv 0, .unset] [(.int x0)]) _
    refine XS.istore X0.here hx rfl (hb hby d8_28) rfl (l' := #[rv r0, iv 0, iv 2, iv x1, iv 0, iv 1, iv 0, iv x0]) rfl ?_
    show OwnS p e below s₁ (mkF m 30 #[rv r0, iv 0, iv 2, iv x1, iv 0, iv 1, iv 0, iv x0] []) _
    refine XS.iload X0.here hx rfl (hb hby d8_30) rfl ?_
    show OwnS p e below s₁ (mkF m 32 #[rv r0, iv 0, iv 2, iv x1, iv 0, iv 1, iv 0, iv x0] [(.int x0)]) _
    refine XS.iloadN X0.here hx rfl (hb hby d8_32) rfl ?_
    show OwnS p e below s₁ (mkF m 33 #[rv r0, iv 0, iv 2, iv x1, iv 0, iv 1, iv 0, iv x0] [(.int x1), (.int x0)]) _
    refine XS.icmpNo X0.here hx rfl (hb hby d8_33) rfl (tlt hlt).2.1 ?_
    show OwnS p e below s₁ (mkF m 36 #[rv r0, iv 0, iv 2, iv x1, iv 0, iv 1, iv 0, iv x0] []) _
    refine XS.iload X0.here hx rfl (hb hby d8_36) rfl ?_
    show OwnS p e below s₁ (mkF m 38 #[rv r0, iv 0, iv 2, iv x1, iv 0, iv 1, iv 0, iv x0] [(.int 0)]) _
    refine XS.iconst X0.here hx rfl (hb hby d8_38) ?_
    show OwnS p e below s₁ (mkF m 39 #[rv r0, iv 0, iv 2, iv x1, iv 0, iv 1, iv 0, iv x0] [(.int 1), (.int 0)]) _
    refine XS.iadd X0.here hx rfl (hb hby d8_39) rfl ?_
    show OwnS p e below s₁ (mkF m 40 #[rv r0, iv 0, iv 2, iv x1, iv 0, iv 1, iv 0, iv x0] [(.int 1)]) _
    refine XS.istore X0.here hx rfl (hb hby d8_40) rfl (l' := #[rv r0, iv 0, iv 2, iv x1, iv 1, iv 1, iv 0, iv x0]) rfl ?_
    show OwnS p e below s₁ (mkF m 42 #[rv r0, iv 0, iv 2, iv x1, iv 1, iv 1, iv 0, iv x0] []) _
    refine XS.goto X0.here hx rfl (pc0 := 42) (pc' := 63) rfl (hb hby d8_42) (by decide) (by decide) ?_
    show OwnS p e below s₁ (mkF m 63 #[rv r0, iv 0, iv 2, iv x1, iv 1, iv 1, iv 0, iv x0] []) _
    refine XS.goto X0.here hx rfl (pc0 := 63) (pc' := 8) rfl (hb hby d8_63) (by decide) (by decide) ?_
    show OwnS p e below s₁ (mkF m 8 #[rv r0, iv 0, iv 2, iv x1, iv 1, iv 1, iv 0, iv x0] []) _
    refine XS.iload X0.here hx rfl (hb hby d8_8) rfl ?_
    show OwnS p e below s₁ (mkF m 10 #[rv r0, iv 0, iv 2, iv x1, iv 1, iv 1, iv 0, iv x0] [(.int 1)]) _
    refine XS.iload X0.here hx rfl (hb hby d8_10) rfl ?_
    show OwnS p e below s₁ (mkF m 12 #[rv r0, iv 0, iv 2, iv x1, iv 1, iv 1, iv 0, iv x0] [(.int 1), (.int 1)]) _
    refine XS.icmpNo X0.here hx rfl (hb hby d8_12) rfl (flt (by decide : ¬ ((1 : Int32) < (1 : Int32)))).2.2.1 ?_
    show OwnS p e below s₁ (mkF m 15 #[rv r0, iv 0, iv 2, iv x1, iv 1, iv 1, iv 0, iv x0] []) _
    refine XS.iload X0.here hx rfl (hb hby d8_15) rfl ?_
    show OwnS p e below s₁ (mkF m 17 #[rv r0, iv 0, iv 2, iv x1, iv 1, iv 1, iv 0, iv x0] [(.int 1)]) _
    refine XS.iload X0.here hx rfl (hb hby d8_17) rfl ?_
    show OwnS p e below s₁ (mkF m 19 #[rv r0, iv 0, iv 2, iv x1, iv 1, iv 1, iv 0, iv x0] [(.int 1), (.int 1)]) _
    refine XS.iadd X0.here hx rfl (hb hby d8_19) rfl ?_
    show OwnS p e below s₁ (mkF m 20 #[rv r0, iv 0, iv 2, iv x1, iv 1, iv 1, iv 0, iv x0] [(.int 2)]) _
    refine XS.iconst X0.here hx rfl (hb hby d8_20) ?_
    show OwnS p e below s₁ (mkF m 21 #[rv r0, iv 0, iv 2, iv x1, iv 1, iv 1, iv 0, iv x0] [(.int 1), (.int 2)]) _
    refine XS.iushr X0.here hx rfl (hb hby d8_21) rfl ?_
    show OwnS p e below s₁ (mkF m 22 #[rv r0, iv 0, iv 2, iv x1, iv 1, iv 1, iv 0, iv x0] [(.int 1)]) _
    refine XS.istore X0.here hx rfl (hb hby d8_22) rfl (l' := #[rv r0, iv 0, iv 2, iv x1, iv 1, iv 1, iv 1, iv x0]) rfl ?_
    show OwnS p e below s₁ (mkF m 24 #[rv r0, iv 0, iv 2, iv x1, iv 1, iv 1, iv 1, iv x0] []) _
    refine XS.aloadN X0.here hx rfl (hb hby d8_24) rfl rfl ?_
    show OwnS p e below s₁ (mkF m 25 #[rv r0, iv 0, iv 2, iv x1, iv 1, iv 1, iv 1, iv x0] [(.ref r0)]) _
    refine XS.iload X0.here hx rfl (hb hby d8_25) rfl ?_
    show OwnS p e below s₁ (mkF m 27 #[rv r0, iv 0, iv 2, iv x1, iv 1, iv 1, iv 1, iv x0] [(.int 1), (.ref r0)]) _
    refine X0.iaload hx (j := (1 : Int32)) (v := (.int x1)) (by rw [e0]; exact Ar_z1.1) (State.isArrayOf_alike hZ.alike Ar_z1.2.1) Ar_z1.2.2 hin3 (Has.at H_z1 hin3 rfl) (g := (mkF m 27 #[rv r0, iv 0, iv 2, iv x1, iv 1, iv 1, iv 1, iv x0] [(.int 1), (.ref r0)])) rfl rfl (hb hby d8_27) _ ?_
    show OwnS p e below s₁ (mkF m 28 #[rv r0, iv 0, iv 2, iv x1, iv 1, iv 1, iv 1, iv x0] [(.int x1)]) _
    refine XS.istore X0.here hx rfl (hb hby d8_28) rfl (l' := #[rv r0, iv 0, iv 2, iv x1, iv 1, iv 1, iv 1, iv x1]) rfl ?_
    show OwnS p e below s₁ (mkF m 30 #[rv r0, iv 0, iv 2, iv x1, iv 1, iv 1, iv 1, iv x1] []) _
    refine XS.iload X0.here hx rfl (hb hby d8_30) rfl ?_
    show OwnS p e below s₁ (mkF m 32 #[rv r0, iv 0, iv 2, iv x1, iv 1, iv 1, iv 1, iv x1] [(.int x1)]) _
    refine XS.iloadN X0.here hx rfl (hb hby d8_32) rfl ?_
    show OwnS p e below s₁ (mkF m 33 #[rv r0, iv 0, iv 2, iv x1, iv 1, iv 1, iv 1, iv x1] [(.int x1), (.int x1)]) _
    refine XS.icmpYes X0.here hx rfl (pc0 := 33) (pc' := 45) rfl (hb hby d8_33) rfl (flt (own_irr _)).2.1 (by decide) (by decide) ?_
    show OwnS p e below s₁ (mkF m 45 #[rv r0, iv 0, iv 2, iv x1, iv 1, iv 1, iv 1, iv x1] []) _
    refine XS.iload X0.here hx rfl (hb hby d8_45) rfl ?_
    show OwnS p e below s₁ (mkF m 47 #[rv r0, iv 0, iv 2, iv x1, iv 1, iv 1, iv 1, iv x1] [(.int x1)]) _
    refine XS.iloadN X0.here hx rfl (hb hby d8_47) rfl ?_
    show OwnS p e below s₁ (mkF m 48 #[rv r0, iv 0, iv 2, iv x1, iv 1, iv 1, iv 1, iv x1] [(.int x1), (.int x1)]) _
    refine XS.icmpYes X0.here hx rfl (pc0 := 48) (pc' := 60) rfl (hb hby d8_48) rfl (flt (own_irr _)).2.2.2 (by decide) (by decide) ?_
    show OwnS p e below s₁ (mkF m 60 #[rv r0, iv 0, iv 2, iv x1, iv 1, iv 1, iv 1, iv x1] []) _
    refine XS.iload X0.here hx rfl (hb hby d8_60) rfl ?_
    show OwnS p e below s₁ (mkF m 62 #[rv r0, iv 0, iv 2, iv x1, iv 1, iv 1, iv 1, iv x1] [(.int 1)]) _
    exact retI X0 hx Bd.returns (hb hby d8_62) hr
  · show Q_8_2 Z r0 x1 k0c x0 h0 n0 _ s₁.heap _
    rw [e0]
    exact ⟨rfl, N0, rfl⟩
theorem pd_1 : parseMethodDescriptor "([IIII)I" = some ⟨[(.array .int), .int, .int, .int], some .int⟩ := by decide +kernel
theorem d7_0 : decode jdk_65_method_57_code 0 = .ok (.aload_n 0, 1) := by decide +kernel
theorem d7_1 : decode jdk_65_method_57_code 1 = .ok (.iconst 0, 1) := by decide +kernel
theorem d7_2 : decode jdk_65_method_57_code 2 = .ok (.aload_n 0, 1) := by decide +kernel
theorem d7_3 : decode jdk_65_method_57_code 3 = .ok (.arraylength, 1) := by decide +kernel
theorem d7_4 : decode jdk_65_method_57_code 4 = .ok (.iload_n 1, 1) := by decide +kernel
theorem d7_5 : decode jdk_65_method_57_code 5 = .ok (.invokestatic 209, 3) := by decide +kernel
theorem d7_8 : decode jdk_65_method_57_code 8 = .ok (.ireturn, 1) := by decide +kernel
theorem ef_7 (m : MethodId) (x0 : Addr) (x1 : Int32) : entryFrame m #[(.ref x0), (.int x1)] 2 = mkF m 0 #[.val (.ref x0), .val (.int x1)] [] := by first | (simp [entryFrame, mkF, argsToLocals, Value.category]; done) | rfl
def Q_7_1 (Z : State) (r0 : Addr) (x0 : Int32) (k0c : ClassId) (h0 : Heap) (n0 : Nat) (v : Option Value) (h : Heap) (L : List Loc) : Prop := v = some (.int 0) ∧ Fr n0 L ∧ h = h0
set_option maxRecDepth 65536 in
set_option maxHeartbeats 40000000 in
theorem rm7_1 (l : Launch) (Z : State) (a0 : Array Value) (hw : ∀ d ∈ tables_1, d.before a0 Z = true) (ws : List Jvm.Cond) (r0 : Addr) (x0 : Int32) (k0c : ClassId) (h0 : Heap) (n0 : Nat) (Z0 : n0 ≤ h0.size) (V_r0 : Arv Z h0 r0 k0c .int (1 : Int32) [(.int x0)] (.int 0)) :
    MetFree l (⟨"java/util/Arrays", "binarySearch", "([II)I"⟩ : MethodName) (head1 (Jvm.Cond.code (⟨"java/util/Arrays", "binarySearch", "([II)I"⟩ : MethodName) jdk_65_method_57_code 2 (some .int) :: ws) ({ frames := 1, cells := 0, slots := 0, locals := 19 } : Room)) (fun a U => a = #[(.ref r0), (.int x0)] ∧ Z.Warmed39 U.vm ∧ U.heap = h0) (fun _ _ _ _ _ => True) (fun _ U o U' => ∃ v L, o = .returned v ∧ Q_7_1 Z r0 x0 k0c h0 n0 v U'.heap L ∧ FrameEnd U o U' L ({ frames := 1, cells := 0, slots := 0, locals := 19 } : Room).cells ({ frames := 1, cells := 0, slots := 0, locals := 19 } : Room).slots) := by
  refine MetFree.of_bodySF (plainFor_of_name pn_java_util_Arrays) hisR ?_
  intro p e s m args below meth c s₁ Bd hml0 hP hK
  obtain ⟨rfl, hZ, hh⟩ := hP
  have hx := Bd.exec
  have hby := Bd.bytes
  have hml : c.maxLocals = 2 := hml0
  have hown : s.vm.findClass "java/util/Arrays" = some m.cls := findClass_of_methodNamed Bd.named
  have hnm := (name_of_methodNamed Bd.named Bd.method).1
  have X0 : Stand p l e ({ frames := 1, cells := 0, slots := 0, locals := 19 } : Room) s m #[(.ref r0), (.int x0)] below meth c s₁ [] 0 0 := Stand.of_body Bd
  have e0 : s₁.heap = h0 := by rw [← hh, Bd.state]; rfl
  have N0 := Fr.nil n0
  have k0 : ∀ t, OwnS p e below s₁ (mkF m 0 #[rv r0, iv x0] []) t → OwnS p e below s₁ (entryFrame m #[(.ref r0), (.int x0)] 2) t := fun t k => castTop (ef_7 m r0 x0) k
  obtain ⟨cl_z1, Ar_z1, q_z1, S_z1, N_z1, H_z1, G_z1⟩ := id V_r0
  obtain ⟨_, _, ⟨T2, L2, j2, i2⟩, -, X2, ⟨Lc2, hQ2, l2, y2, z2⟩, st2⟩ := Jvm.LawKit.callS X0 hx (y := (⟨"java/util/Arrays", "binarySearch0", "([IIII)I"⟩ : MethodName)) hown (mvT hZ (own_at hw 34 rfl)) (mvT hZ (own_at hw 35 rfl)) (mvT hZ (own_at hw 32 rfl)) (mvT hZ (own_at hw 36 rfl)) (by decide) (backOf (W := 0) (rm8_1 l Z a0 hw [] r0 x0 k0c h0 n0 Z0 V_r0) hZ (own_at hw 36 rfl) (own_at hw 32 rfl) (by decide) (by decide)) (g := (mkF m 5 #[rv r0, iv x0] [(.int x0), (.int 1), (.int 0), (.ref r0)])) rfl (by rw [hml]; rfl) (argsL := [(.ref r0), (.int 0), (.int 1), (.int x0)]) (rest := []) (lenOf pd_1 rfl) rfl (by show 2 * 0 + _ ≤ _; exact Nat.le_of_eq rfl) (hb hby d7_5) (fun _ _ => ⟨rfl, e0, (by decide : 0 + 0 ≤ _), (by decide : 0 + 0 ≤ _)⟩)
  dsimp only [Pt.U, Pt.locs, Pt.cells, Pt.slots] at X2 l2 y2 z2 st2 hQ2
  subst l2 y2 z2
  obtain ⟨rfl, N2q, e2⟩ := hQ2
  have N2 := Fr.app N0 N2q
  obtain ⟨fs, hr, hrun, hended, hW, hsame⟩ := X2.leave (v := some (.int 0)) (fun h => by rw [Bd.returns] at h; cases h)
  refine ⟨_, _, k0 _ ?_, hrun, hended, _, _, rfl, ?_, ⟨_, rfl⟩, hW, hsame.mono (by decide) (by decide)⟩
  · show OwnS p e below s₁ (mkF m 0 #[rv r0, iv x0] []) _
    refine XS.aloadN X0.here hx rfl (hb hby d7_0) rfl rfl ?_
    show OwnS p e below s₁ (mkF m 1 #[rv r0, iv x0] [(.ref r0)]) _
    refine XS.iconst X0.here hx rfl (hb hby d7_1) ?_
    show OwnS p e below s₁ (mkF m 2 #[rv r0, iv x0] [(.int 0), (.ref r0)]) _
    refine XS.aloadN X0.here hx rfl (hb hby d7_2) rfl rfl ?_
    show OwnS p e below s₁ (mkF m 3 #[rv r0, iv x0] [(.ref r0), (.int 0), (.ref r0)]) _
    refine X0.arraylength hx (by rw [e0]; exact Ar_z1.1) (State.isArrayOf_alike hZ.alike Ar_z1.2.1) (g := (mkF m 3 #[rv r0, iv x0] [(.ref r0), (.int 0), (.ref r0)])) rfl rfl (hb hby d7_3) _ ?_
    rw [len_of S_z1 N_z1]
    show OwnS p e below s₁ (mkF m 4 #[rv r0, iv x0] [(.int 1), (.int 0), (.ref r0)]) _
    refine XS.iloadN X0.here hx rfl (hb hby d7_4) rfl ?_
    show OwnS p e below s₁ (mkF m 5 #[rv r0, iv x0] [(.int x0), (.int 1), (.int 0), (.ref r0)]) _
    refine st2 _ ?_
    show OwnS p e below T2 (mkF m 8 #[rv r0, iv x0] [(.int 0)]) _
    exact retI X2 hx Bd.returns (hb hby d7_8) hr
  · show Q_7_1 Z r0 x0 k0c h0 n0 _ T2.heap _
    rw [e2]
    exact ⟨rfl, N2, rfl⟩
def Q_7_2 (Z : State) (r0 : Addr) (x1 : Int32) (k0c : ClassId) (x0 : Int32) (h0 : Heap) (n0 : Nat) (v : Option Value) (h : Heap) (L : List Loc) : Prop := v = some (.int 1) ∧ Fr n0 L ∧ h = h0
set_option maxRecDepth 65536 in
set_option maxHeartbeats 40000000 in
theorem rm7_2 (l : Launch) (Z : State) (a0 : Array Value) (hw : ∀ d ∈ tables_1, d.before a0 Z = true) (ws : List Jvm.Cond) (r0 : Addr) (x1 : Int32) (k0c : ClassId) (x0 : Int32) (h0 : Heap) (n0 : Nat) (Z0 : n0 ≤ h0.size) (V_r0 : Arv Z h0 r0 k0c .int (2 : Int32) [(.int x0), (.int x1)] (.int 0)) (hlt : x0 < x1) :
    MetFree l (⟨"java/util/Arrays", "binarySearch", "([II)I"⟩ : MethodName) (head1 (Jvm.Cond.code (⟨"java/util/Arrays", "binarySearch", "([II)I"⟩ : MethodName) jdk_65_method_57_code 2 (some .int) :: ws) ({ frames := 1, cells := 0, slots := 0, locals := 19 } : Room)) (fun a U => a = #[(.ref r0), (.int x1)] ∧ Z.Warmed39 U.vm ∧ U.heap = h0) (fun _ _ _ _ _ => True) (fun _ U o U' => ∃ v L, o = .returned v ∧ Q_7_2 Z r0 x1 k0c x0 h0 n0 v U'.heap L ∧ FrameEnd U o U' L ({ frames := 1, cells := 0, slots := 0, locals := 19 } : Room).cells ({ frames := 1, cells := 0, slots := 0, locals := 19 } : Room).slots) := by
  refine MetFree.of_bodySF (plainFor_of_name pn_java_util_Arrays) hisR ?_
  intro p e s m args below meth c s₁ Bd hml0 hP hK
  obtain ⟨rfl, hZ, hh⟩ := hP
  have hx := Bd.exec
  have hby := Bd.bytes
  have hml : c.maxLocals = 2 := hml0
  have hown : s.vm.findClass "java/util/Arrays" = some m.cls := findClass_of_methodNamed Bd.named
  have hnm := (name_of_methodNamed Bd.named Bd.method).1
  have X0 : Stand p l e ({ frames := 1, cells := 0, slots := 0, locals := 19 } : Room) s m #[(.ref r0), (.int x1)] below meth c s₁ [] 0 0 := Stand.of_body Bd
  have e0 : s₁.heap = h0 := by rw [← hh, Bd.state]; rfl
  have N0 := Fr.nil n0
  have k0 : ∀ t, OwnS p e below s₁ (mkF m 0 #[rv r0, iv x1] []) t → OwnS p e below s₁ (entryFrame m #[(.ref r0), (.int x1)] 2) t := fun t k => castTop (ef_7 m r0 x1) k
  obtain ⟨cl_z1, Ar_z1, q_z1, S_z1, N_z1, H_z1, G_z1⟩ := id V_r0
  obtain ⟨_, _, ⟨T2, L2, j2, i2⟩, -, X2, ⟨Lc2, hQ2, l2, y2, z2⟩, st2⟩ := Jvm.LawKit.callS X0 hx (y := (⟨"java/util/Arrays", "binarySearch0", "([IIII)I"⟩ : MethodName)) hown (mvT hZ (own_at hw 34 rfl)) (mvT hZ (own_at hw 35 rfl)) (mvT hZ (own_at hw 32 rfl)) (mvT hZ (own_at hw 36 rfl)) (by decide) (backOf (W := 0) (rm8_2 l Z a0 hw [] r0 x1 k0c x0 h0 n0 Z0 V_r0 hlt) hZ (own_at hw 36 rfl) (own_at hw 32 rfl) (by decide) (by decide)) (g := (mkF m 5 #[rv r0, iv x1] [(.int x1), (.int 2), (.int 0), (.ref r0)])) rfl (by rw [hml]; rfl) (argsL := [(.ref r0), (.int 0), (.int 2), (.int x1)]) (rest := []) (lenOf pd_1 rfl) rfl (by show 2 * 0 + _ ≤ _; exact Nat.le_of_eq rfl) (hb hby d7_5) (fun _ _ => ⟨rfl, e0, (by decide : 0 + 0 ≤ _), (by decide : 0 + 0 ≤ _)⟩)
  dsimp only [Pt.U, Pt.locs, Pt.cells, Pt.slots] at X2 l2 y2 z2 st2 hQ2
  subst l2 y2 z2
  obtain ⟨rfl, N2q, e2⟩ := hQ2
  have N2 := Fr.app N0 N2q
  obtain ⟨fs, hr, hrun, hended, hW, hsame⟩ := X2.leave (v := some (.int 1)) (fun h => by rw [Bd.returns] at h; cases h)
  refine ⟨_, _, k0 _ ?_, hrun, hended, _, _, rfl, ?_, ⟨_, rfl⟩, hW, hsame.mono (by decide) (by decide)⟩
  · show OwnS p e below s₁ (mkF m 0 #[rv r0, iv x1] []) _
    refine XS.aloadN X0.here hx rfl (hb hby d7_0) rfl rfl ?_
    show OwnS p e below s₁ (mkF m 1 #[rv r0, iv x1] [(.ref r0)]) _
    refine XS.iconst X0.here hx rfl (hb hby d7_1) ?_
    show OwnS p e below s₁ (mkF m 2 #[rv r0, iv x1] [(.int 0), (.ref r0)]) _
    refine XS.aloadN X0.here hx rfl (hb hby d7_2) rfl rfl ?_
    show OwnS p e below s₁ (mkF m 3 #[rv r0, iv x1] [(.ref r0), (.int 0), (.ref r0)]) _
    refine X0.arraylength hx (by rw [e0]; exact Ar_z1.1) (State.isArrayOf_alike hZ.alike Ar_z1.2.1) (g := (mkF m 3 #[rv r0, iv x1] [(.ref r0), (.int 0), (.ref r0)])) rfl rfl (hb hby d7_3) _ ?_
    rw [len_of S_z1 N_z1]
    show OwnS p e below s₁ (mkF m 4 #[rv r0, iv x1] [(.int 2), (.int 0), (.ref r0)]) _
    refine XS.iloadN X0.here hx rfl (hb hby d7_4) rfl ?_
    show OwnS p e below s₁ (mkF m 5 #[rv r0, iv x1] [(.int x1), (.int 2), (.int 0), (.ref r0)]) _
    refine st2 _ ?_
    show OwnS p e below T2 (mkF m 8 #[rv r0, iv x1] [(.int 1)]) _
    exact retI X2 hx Bd.returns (hb hby d7_8) hr
  · show Q_7_2 Z r0 x1 k0c x0 h0 n0 _ T2.heap _
    rw [e2]
    exact ⟨rfl, N2, rfl⟩
theorem pd_2 : parseMethodDescriptor "([II)I" = some ⟨[(.array .int), .int], some .int⟩ := by decide +kernel
theorem d6_0 : decode prog_21_method_4_code 0 = .ok (.aload_n 0, 1) := by decide +kernel
theorem d6_1 : decode prog_21_method_4_code 1 = .ok (.getfield 7, 3) := by decide +kernel
theorem d6_4 : decode prog_21_method_4_code 4 = .ok (.iload_n 1, 1) := by decide +kernel
theorem d6_5 : decode prog_21_method_4_code 5 = .ok (.invokestatic 22, 3) := by decide +kernel
theorem d6_8 : decode prog_21_method_4_code 8 = .ok (.istore_n 2, 1) := by decide +kernel
theorem d6_9 : decode prog_21_method_4_code 9 = .ok (.aload_n 0, 1) := by decide +kernel
theorem d6_10 : decode prog_21_method_4_code 10 = .ok (.astore_n 3, 1) := by decide +kernel
theorem d6_11 : decode prog_21_method_4_code 11 = .ok (.iload_n 2, 1) := by decide +kernel
theorem d6_12 : decode prog_21_method_4_code 12 = .ok (.ifCond .lt 54, 3) := by decide +kernel
theorem d6_15 : decode prog_21_method_4_code 15 = .ok (.aload_n 0, 1) := by decide +kernel
theorem d6_16 : decode prog_21_method_4_code 16 = .ok (.getfield 7, 3) := by decide +kernel
theorem d6_19 : decode prog_21_method_4_code 19 = .ok (.arraylength, 1) := by decide +kernel
theorem d6_20 : decode prog_21_method_4_code 20 = .ok (.iconst 1, 1) := by decide +kernel
theorem d6_21 : decode prog_21_method_4_code 21 = .ok (.isub, 1) := by decide +kernel
theorem d6_22 : decode prog_21_method_4_code 22 = .ok (.newarray .int, 2) := by decide +kernel
theorem d6_24 : decode prog_21_method_4_code 24 = .ok (.astore 4, 2) := by decide +kernel
theorem d6_26 : decode prog_21_method_4_code 26 = .ok (.aload_n 0, 1) := by decide +kernel
theorem d6_27 : decode prog_21_method_4_code 27 = .ok (.getfield 7, 3) := by decide +kernel
theorem d6_30 : decode prog_21_method_4_code 30 = .ok (.iconst 0, 1) := by decide +kernel
theorem d6_31 : decode prog_21_method_4_code 31 = .ok (.aload 4, 2) := by decide +kernel
theorem d6_33 : decode prog_21_method_4_code 33 = .ok (.iconst 0, 1) := by decide +kernel
theorem d6_34 : decode prog_21_method_4_code 34 = .ok (.iload_n 2, 1) := by decide +kernel
theorem d6_35 : decode prog_21_method_4_code 35 = .ok (.invokestatic 26, 3) := by decide +kernel
theorem d6_38 : decode prog_21_method_4_code 38 = .ok (.aload_n 0, 1) := by decide +kernel
theorem d6_39 : decode prog_21_method_4_code 39 = .ok (.getfield 7, 3) := by decide +kernel
theorem d6_42 : decode prog_21_method_4_code 42 = .ok (.iload_n 2, 1) := by decide +kernel
theorem d6_43 : decode prog_21_method_4_code 43 = .ok (.iconst 1, 1) := by decide +kernel
theorem d6_44 : decode prog_21_method_4_code 44 = .ok (.iadd, 1) := by decide +kernel
theorem d6_45 : decode prog_21_method_4_code 45 = .ok (.aload 4, 2) := by decide +kernel
theorem d6_47 : decode prog_21_method_4_code 47 = .ok (.iload_n 2, 1) := by decide +kernel
theorem d6_48 : decode prog_21_method_4_code 48 = .ok (.aload 4, 2) := by decide +kernel
theorem d6_50 : decode prog_21_method_4_code 50 = .ok (.arraylength, 1) := by decide +kernel
theorem d6_51 : decode prog_21_method_4_code 51 = .ok (.iload_n 2, 1) := by decide +kernel
theorem d6_52 : decode prog_21_method_4_code 52 = .ok (.isub, 1) := by decide +kernel
theorem d6_53 : decode prog_21_method_4_code 53 = .ok (.invokestatic 26, 3) := by decide +kernel
theorem d6_56 : decode prog_21_method_4_code 56 = .ok (.new 8, 3) := by decide +kernel
theorem d6_59 : decode prog_21_method_4_code 59 = .ok (.dup, 1) := by decide +kernel
theorem d6_60 : decode prog_21_method_4_code 60 = .ok (.aload 4, 2) := by decide +kernel
theorem d6_62 : decode prog_21_method_4_code 62 = .ok (.invokespecial 13, 3) := by decide +kernel
theorem d6_65 : decode prog_21_method_4_code 65 = .ok (.astore_n 3, 1) := by decide +kernel
theorem d6_66 : decode prog_21_method_4_code 66 = .ok (.aload_n 3, 1) := by decide +kernel
theorem d6_67 : decode prog_21_method_4_code 67 = .ok (.areturn, 1) := by decide +kernel
theorem ef_6 (m : MethodId) (x0 : Addr) (x1 : Int32) : entryFrame m #[(.ref x0), (.int x1)] 5 = mkF m 0 #[.val (.ref x0), .val (.int x1), .unset, .unset, .unset] [] := by first | (simp [entryFrame, mkF, argsToLocals, Value.category]; done) | rfl
def Q_6_1 (Z : State) (r0 : Addr) (x0 : Int32) (ar0 : Addr) (k0c : ClassId) (h0 : Heap) (n0 : Nat) (v : Option Value) (h : Heap) (L : List Loc) : Prop := ∃ ob : Addr, ∃ ar : Addr, ∃ kk : ClassId, v = some (.ref ob) ∧ Fr n0 L ∧ Keep h0 h [] ∧ h0.size ≤ ob ∧ h0.size ≤ ar ∧ ob ≠ ar ∧ Exa Z h ob cS0 ∧ Fld Z h ob cS0 "levels" "[I" (.ref ar) ∧ Arv Z h ar kk .int (0 : Int32) [] (.int 0) ∧ Exa Z h ar "[I"
set_option maxRecDepth 65536 in
set_option maxHeartbeats 40000000 in
theorem rm6_1 (l : Launch) (Z : State) (a0 : Array Value) (hw : ∀ d ∈ tables_1, d.before a0 Z = true) (ws : List Jvm.Cond) (r0 : Addr) (x0 : Int32) (ar0 : Addr) (k0c : ClassId) (h0 : Heap) (n0 : Nat) (Z0 : n0 ≤ h0.size) (E_r0 : Exa Z h0 r0 cS0) (F_levels_r0 : Fld Z h0 r0 cS0 "levels" "[I" (.ref ar0)) (V_ar0 : Arv Z h0 ar0 k0c .int (1 : Int32) [(.int x0)] (.int 0)) (E_ar0 : Exa Z h0 ar0 "[I") :
    MetFree l (⟨cS0, "without", cS1⟩ : MethodName) (head1 (Jvm.Cond.code (⟨cS0, "without", cS1⟩ : MethodName) prog_21_method_4_code 5 (some (.object cS0)) :: ws) ({ frames := 2, cells := 2, slots := 1, locals := 32 } : Room)) (fun a U => a = #[(.ref r0), (.int x0)] ∧ Z.Warmed39 U.vm ∧ U.heap = h0) (fun _ _ _ _ _ => True) (fun _ U o U' => ∃ v L, o = .returned v ∧ Q_6_1 Z r0 x0 ar0 k0c h0 n0 v U'.heap L ∧ FrameEnd U o U' L ({ frames := 2, cells := 2, slots := 1, locals := 32 } : Room).cells ({ frames := 2, cells := 2, slots := 1, locals := 32 } : Room).slots) := by
  refine MetFree.of_bodySF (plainFor_of_name pn_com_example_tablox_tablox_tableau_Dependencies) hisR ?_
  intro p e s m args below meth c s₁ Bd hml0 hP hK
  obtain ⟨rfl, hZ, hh⟩ := hP
  have hx := Bd.exec
  have hby := Bd.bytes
  have hml : c.maxLocals = 5 := hml0
  have hown : s.vm.findClass cS0 = some m.cls := findClass_of_methodNamed Bd.named
  have hnm := (name_of_methodNamed Bd.named Bd.method).1
  have X0 : Stand p l e ({ frames := 2, cells := 2, slots := 1, locals := 32 } : Room) s m #[(.ref r0), (.int x0)] below meth c s₁ [] 0 0 := Stand.of_body Bd
  have e0 : s₁.heap = h0 := by rw [← hh, Bd.state]; rfl
  have N0 := Fr.nil n0
  have k0 : ∀ t, OwnS p e below s₁ (mkF m 0 #[rv r0, iv x0, .unset, .unset, .unset] []) t → OwnS p e below s₁ (entryFrame m #[(.ref r0), (.int x0)] 5) t := fun t k => castTop (ef_6 m r0 x0) k
  obtain ⟨T1, X1, e1, st1⟩ := getF X0 hx hZ hown (host := "") (Or.inl (own_at hw 13 rfl)) Via.refl e0 F_levels_r0 (g := (mkF m 1 #[rv r0, iv x0, .unset, .unset, .unset] [(.ref r0)])) rfl rfl (hb hby d6_1)
  obtain ⟨_, _, ⟨T2, L2, j2, i2⟩, -, X2, ⟨Lc2, hQ2, l2, y2, z2⟩, st2⟩ := Jvm.LawKit.callS X1 hx (y := (⟨"java/util/Arrays", "binarySearch", "([II)I"⟩ : MethodName)) hown (mvT hZ (own_at hw 30 rfl)) (mvT hZ (own_at hw 31 rfl)) (mvT hZ (own_at hw 32 rfl)) (mvT hZ (own_at hw 33 rfl)) (by decide) (backOf (W := 0) (rm7_1 l Z a0 hw [] ar0 x0 k0c h0 n0 Z0 V_ar0) hZ (own_at hw 33 rfl) (own_at hw 32 rfl) (by decide) (by decide)) (g := (mkF m 5 #[rv r0, iv x0, .unset, .unset, .unset] [(.int x0), (.ref ar0)])) rfl (by rw [hml]; rfl) (argsL := [(.ref ar0), (.int x0)]) (rest := []) (lenOf pd_2 rfl) rfl (by show 2 * 0 + _ ≤ _; exact Nat.le_of_eq rfl) (hb hby d6_5) (fun _ _ => ⟨rfl, e1, (by decide : 0 + 0 ≤ _), (by decide : 0 + 0 ≤ _)⟩)
  dsimp only [Pt.U, Pt.locs, Pt.cells, Pt.slots] at X2 l2 y2 z2 st2 hQ2
  subst l2 y2 z2
  obtain ⟨rfl, N2q, e2⟩ := hQ2
  have N2 := Fr.app N0 N2q
  obtain ⟨T3, X3, e3, st3⟩ := getF X2 hx hZ hown (host := "") (Or.inl (own_at hw 13 rfl)) Via.refl e2 F_levels_r0 (g := (mkF m 16 #[rv r0, iv x0, iv 0, rv r0, .unset] [(.ref r0)])) rfl rfl (hb hby d6_16)
  obtain ⟨cl_z4, Ar_z4, q_z4, S_z4, N_z4, H_z4, G_z4⟩ := id V_ar0
  obtain ⟨T5, h5, k5, X5, e5, E5, A5, EA5, st5⟩ := newPE X3 hx hZ (own_at hw 6 rfl) e3 (g := (mkF m 22 #[rv r0, iv x0, iv 0, rv r0, .unset] [(.int 0)])) rfl (hb hby d6_22) rfl (by decide) (cap := 0) (by decide) (by decide) (by decide) (by decide) (ad := "[I") (by decide)
  obtain ⟨b5, g5⟩ : ∃ z, z = h0.size := ⟨_, rfl⟩
  rw [← g5] at A5 EA5 st5
  have g_b5 : n0 ≤ b5 := Nat.le_trans Z0 (Nat.le_of_eq g5.symm)
  have sz_b5 : h0.size ≤ b5 := Nat.le_trans (Keep.refl h0 []).1 (Nat.le_of_eq g5.symm)
  have V_b5 : Arv Z h5 b5 k5 .int (0 : Int32) [] (.int 0) := Arv.new A5 (by decide)
  have f6 := (F_levels_r0.ext E5)
  obtain ⟨T7, X7, e7, st7⟩ := getF X5 hx hZ hown (host := "") (Or.inl (own_at hw 13 rfl)) Via.refl e5 f6 (g := (mkF m 27 #[rv r0, iv x0, iv 0, rv r0, rv b5] [(.ref r0)])) rfl rfl (hb hby d6_27)
  have f8 := (V_ar0.ext E5)
  obtain ⟨T9, h9, L9, X9, e9, N9, K9, Vr9, st9⟩ := cpA X7 hx hZ hown (own_at hw 37 rfl) (own_at hw 40 rfl) (own_at hw 38 rfl) (own_at hw 39 rfl) e7 f8 V_b5 (us := []) (Or.inl ⟨rfl, rfl⟩) (by decide) (by decide) (by decide) (by decide) (by decide) rfl (Nat.le_of_ble_eq_true rfl) N2 g_b5 (g := (mkF m 35 #[rv r0, iv x0, iv 0, rv r0, rv b5] [(.int 0), (.int 0), (.ref b5), (.int 0), (.ref ar0)])) rfl (by rw [hml]; rfl) rfl (hb hby d6_35) (by decide) (W := 0) (by show 2 * 0 + _ ≤ _; exact Nat.le_of_eq rfl) (by decide)
  have pl9 := (allS (P := fun x => ∃ cell : Cell, h5[x]? = some cell ∧ cell.vm.isStatics = false) (own_ns EA5) all0)
  have V9 : Arv Z h9 b5 k5 .int (0 : Int32) [] (.int 0) := Vr9
  have f10 := (f6.keep K9 (ninS (Nat.ne_of_lt (Nat.lt_of_lt_of_le E_r0.lt (Nat.le_of_eq g5.symm))) nin0))
  obtain ⟨T11, X11, e11, st11⟩ := getF X9 hx hZ hown (host := "") (Or.inl (own_at hw 13 rfl)) Via.refl e9 f10 (g := (mkF m 39 #[rv r0, iv x0, iv 0, rv r0, rv b5] [(.ref r0)])) rfl rfl (hb hby d6_39)
  obtain ⟨cl_z12, Ar_z12, q_z12, S_z12, N_z12, H_z12, G_z12⟩ := id V9
  have f13 := (f8.keep K9 (ninS (Nat.ne_of_lt (Nat.lt_of_lt_of_le V_ar0.lt (Nat.le_of_eq g5.symm))) nin0))
  have f14 := (EA5.keep K9)
  obtain ⟨T15, h15, L15, X15, e15, N15, K15, Vr15, st15⟩ := cpA X11 hx hZ hown (own_at hw 37 rfl) (own_at hw 40 rfl) (own_at hw 38 rfl) (own_at hw 39 rfl) e11 f13 V9 (us := []) (Or.inl ⟨rfl, rfl⟩) (by decide) (by decide) (by decide) (by decide) (by decide) rfl (Nat.le_of_ble_eq_true rfl) N9 g_b5 (g := (mkF m 53 #[rv r0, iv x0, iv 0, rv r0, rv b5] [(.int 0), (.int 0), (.ref b5), (.int 1), (.ref ar0)])) rfl (by rw [hml]; rfl) rfl (hb hby d6_53) (by decide) (W := 0) (by show 2 * 0 + _ ≤ _; exact Nat.le_of_eq rfl) (by decide)
  have pl15 := (allS (P := fun x => ∃ cell : Cell, h9[x]? = some cell ∧ cell.vm.isStatics = false) (own_ns f14) all0)
  have V15 : Arv Z h15 b5 k5 .int (0 : Int32) [] (.int 0) := Vr15
  have f16 := (((E_r0.ext E5).keep K9).keep K15)
  have f17 := (f13.keep K15 (ninS (Nat.ne_of_lt (Nat.lt_of_lt_of_le V_ar0.lt (Nat.le_of_eq g5.symm))) nin0))
  have f18 := (f14.keep K15)
  obtain ⟨T19, h19, X19, e19, E19, A19, D19, -, st19⟩ := newO X15 hx hZ hown (own_at hw 4 rfl) (own_at hw 5 rfl) (own_at hw 2 rfl) e15 (g := (mkF m 56 #[rv r0, iv x0, iv 0, rv r0, rv b5] [])) rfl (hb hby d6_56) (by decide) (by decide)
  obtain ⟨b19, g19⟩ : ∃ z, z = h15.size := ⟨_, rfl⟩
  rw [← g19] at A19 D19 st19
  have g_b19 : n0 ≤ b19 := Nat.le_trans (Nat.le_trans (Nat.le_trans (Nat.le_trans Z0 E5.1) K9.1) K15.1) (Nat.le_of_eq g19.symm)
  have sz_b19 : h0.size ≤ b19 := Nat.le_trans ((((Keep.refl h0 []).ext E5).trans K9 (allS (Or.inr sz_b5) all0)).trans K15 (allS (Or.inr sz_b5) all0)).1 (Nat.le_of_eq g19.symm)
  have F_levels_b19 : Fld Z h19 b19 cS0 "levels" "[I" .null := D19 (Or.inr (own_at hw 14 rfl)) (ty := (.array .int)) (by decide)
  obtain ⟨_, _, ⟨T20, L20, j20, i20⟩, -, X20, ⟨Lc20, hQ20, l20, y20, z20⟩, st20⟩ := X19.specialBack hx (y := (⟨cS0, "<init>", "([I)V"⟩ : MethodName)) rfl hown (mvT hZ (own_at hw 7 rfl)) (mvT hZ (own_at hw 8 rfl)) (mvT hZ (own_at hw 9 rfl)) (by decide) (backOf (W := 1) (rm2 l Z a0 hw [] b19 b5 .null h19 n0 (Nat.le_trans (Nat.le_trans (Nat.le_trans (Nat.le_trans Z0 E5.1) K9.1) K15.1) E19.1) A19 F_levels_b19 g_b19) hZ (own_at hw 9 rfl) (own_at hw 2 rfl) (by decide) (by decide)) (g := (mkF m 62 #[rv r0, iv x0, iv 0, rv r0, rv b5] [(.ref b5), (.ref b19), (.ref b19)])) rfl (by rw [hml]; rfl) (Steps.refl _) (a := b19) (argsL := [(.ref b5)]) (rest := [(.ref b19)]) (lenOf pd_0 rfl) rfl (by show 2 * 0 + _ ≤ _; exact Nat.le_of_eq rfl) (hb hby d6_62) (fun _ _ => ⟨rfl, e19, (by decide : 2 + 0 ≤ _), (by decide : 1 + 0 ≤ _)⟩)
  dsimp only [Pt.U, Pt.locs, Pt.cells, Pt.slots] at X20 l20 y20 z20 st20 hQ20
  subst l20 y20 z20
  have f21 := (f16.ext E19)
  have f22 := (f17.ext E19)
  have f23 := (f18.ext E19)
  obtain ⟨rfl, N20q, K20, p20_0, p20_1⟩ := hQ20
  have pl20 := (allS (P := fun x => ∃ cell : Cell, h19[x]? = some cell ∧ cell.vm.isStatics = false) (own_ns A19) all0)
  have N20 := Fr.app N15 N20q
  have f24 := ((V15.ext E19).keep K20 (ninS (Nat.ne_of_lt (Nat.lt_of_lt_of_le f18.lt (Nat.le_of_eq g19.symm))) nin0))
  have f25 := (f23.keep K20)
  obtain ⟨fs, hr, hrun, hended, hW, hsame⟩ := X20.leave (v := some (.ref b19)) (fun h => by rw [Bd.returns] at h; cases h)
  refine ⟨_, _, k0 _ ?_, hrun, hended, _, _, rfl, ?_, ⟨_, rfl⟩, hW, hsame.mono (by decide) (by decide)⟩
  · show OwnS p e below s₁ (mkF m 0 #[rv r0, iv x0, .unset, .unset, .unset] []) _
    refine XS.aloadN X0.here hx rfl (hb hby d6_0) rfl rfl ?_
    show OwnS p e below s₁ (mkF m 1 #[rv r0, iv x0, .unset, .unset, .unset] [(.ref r0)]) _
    refine st1 _ ?_
    show OwnS p e below T1 (mkF m 4 #[rv r0, iv x0, .unset, .unset, .unset] [(.ref ar0)]) _
    refine XS.iloadN X1.here hx rfl (hb hby d6_4) rfl ?_
    show OwnS p e below T1 (mkF m 5 #[rv r0, iv x0, .unset, .unset, .unset] [(.int x0), (.ref ar0)]) _
    refine st2 _ ?_
    show OwnS p e below T2 (mkF m 8 #[rv r0, iv x0, .unset, .unset, .unset] [(.int 0)]) _
    refine XS.istoreN X2.here hx rfl (hb hby d6_8) rfl (l' := #[rv r0, iv x0, iv 0, .unset, .unset]) rfl ?_
    show OwnS p e below T2 (mkF m 9 #[rv r0, iv x0, iv 0, .unset, .unset] []) _
    refine XS.aloadN X2.here hx rfl (hb hby d6_9) rfl rfl ?_
    show OwnS p e below T2 (mkF m 10 #[rv r0, iv x0, iv 0, .unset, .unset] [(.ref r0)]) _
    refine XS.astoreN X2.here hx rfl (hb hby d6_10) rfl rfl (l' := #[rv r0, iv x0, iv 0, rv r0, .unset]) rfl ?_
    show OwnS p e below T2 (mkF m 11 #[rv r0, iv x0, iv 0, rv r0, .unset] []) _
    refine XS.iloadN X2.here hx rfl (hb hby d6_11) rfl ?_
    show OwnS p e below T2 (mkF m 12 #[rv r0, iv x0, iv 0, rv r0, .unset] [(.int 0)]) _
    refine XS.ifNo X2.here hx rfl (hb hby d6_12) rfl ((if0 _ _).trans (flt (by decide : ¬ ((0 : Int32) < (0 : Int32)))).1) ?_
    show OwnS p e below T2 (mkF m 15 #[rv r0, iv x0, iv 0, rv r0, .unset] []) _
    refine XS.aloadN X2.here hx rfl (hb hby d6_15) rfl rfl ?_
    show OwnS p e below T2 (mkF m 16 #[rv r0, iv x0, iv 0, rv r0, .unset] [(.ref r0)]) _
    refine st3 _ ?_
    show OwnS p e below T3 (mkF m 19 #[rv r0, iv x0, iv 0, rv r0, .unset] [(.ref ar0)]) _
    refine X3.arraylength hx (by rw [e3]; exact Ar_z4.1) (State.isArrayOf_alike hZ.alike Ar_z4.2.1) (g := (mkF m 19 #[rv r0, iv x0, iv 0, rv r0, .unset] [(.ref ar0)])) rfl rfl (hb hby d6_19) _ ?_
    rw [len_of S_z4 N_z4]
    show OwnS p e below T3 (mkF m 20 #[rv r0, iv x0, iv 0, rv r0, .unset] [(.int 1)]) _
    refine XS.iconst X3.here hx rfl (hb hby d6_20) ?_
    show OwnS p e below T3 (mkF m 21 #[rv r0, iv x0, iv 0, rv r0, .unset] [(.int 1), (.int 1)]) _
    refine XS.isub X3.here hx rfl (hb hby d6_21) rfl ?_
    show OwnS p e below T3 (mkF m 22 #[rv r0, iv x0, iv 0, rv r0, .unset] [(.int 0)]) _
    refine st5 _ ?_
    show OwnS p e below T5 (mkF m 24 #[rv r0, iv x0, iv 0, rv r0, .unset] [(.ref b5)]) _
    refine XS.astore X5.here hx rfl (hb hby d6_24) rfl rfl (l' := #[rv r0, iv x0, iv 0, rv r0, rv b5]) rfl ?_
    show OwnS p e below T5 (mkF m 26 #[rv r0, iv x0, iv 0, rv r0, rv b5] []) _
    refine XS.aloadN X5.here hx rfl (hb hby d6_26) rfl rfl ?_
    show OwnS p e below T5 (mkF m 27 #[rv r0, iv x0, iv 0, rv r0, rv b5] [(.ref r0)]) _
    refine st7 _ ?_
    show OwnS p e below T7 (mkF m 30 #[rv r0, iv x0, iv 0, rv r0, rv b5] [(.ref ar0)]) _
    refine XS.iconst X7.here hx rfl (hb hby d6_30) ?_
    show OwnS p e below T7 (mkF m 31 #[rv r0, iv x0, iv 0, rv r0, rv b5] [(.int 0), (.ref ar0)]) _
    refine XS.aload X7.here hx rfl (hb hby d6_31) rfl rfl ?_
    show OwnS p e below T7 (mkF m 33 #[rv r0, iv x0, iv 0, rv r0, rv b5] [(.ref b5), (.int 0), (.ref ar0)]) _
    refine XS.iconst X7.here hx rfl (hb hby d6_33) ?_
    show OwnS p e below T7 (mkF m 34 #[rv r0, iv x0, iv 0, rv r0, rv b5] [(.int 0), (.ref b5), (.int 0), (.ref ar0)]) _
    refine XS.iloadN X7.here hx rfl (hb hby d6_34) rfl ?_
    show OwnS p e below T7 (mkF m 35 #[rv r0, iv x0, iv 0, rv r0, rv b5] [(.int 0), (.int 0), (.ref b5), (.int 0), (.ref ar0)]) _
    refine st9 _ ?_
    show OwnS p e below T9 (mkF m 38 #[rv r0, iv x0, iv 0, rv r0, rv b5] []) _
    refine XS.aloadN X9.here hx rfl (hb hby d6_38) rfl rfl ?_
    show OwnS p e below T9 (mkF m 39 #[rv r0, iv x0, iv 0, rv r0, rv b5] [(.ref r0)]) _
    refine st11 _ ?_
    show OwnS p e below T11 (mkF m 42 #[rv r0, iv x0, iv 0, rv r0, rv b5] [(.ref ar0)]) _
    refine XS.iloadN X11.here hx rfl (hb hby d6_42) rfl ?_
    show OwnS p e below T11 (mkF m 43 #[rv r0, iv x0, iv 0, rv r0, rv b5] [(.int 0), (.ref ar0)]) _
    refine XS.iconst X11.here hx rfl (hb hby d6_43) ?_
    show OwnS p e below T11 (mkF m 44 #[rv r0, iv x0, iv 0, rv r0, rv b5] [(.int 1), (.int 0), (.ref ar0)]) _
    refine XS.iadd X11.here hx rfl (hb hby d6_44) rfl ?_
    show OwnS p e below T11 (mkF m 45 #[rv r0, iv x0, iv 0, rv r0, rv b5] [(.int 1), (.ref ar0)]) _
    refine XS.aload X11.here hx rfl (hb hby d6_45) rfl rfl ?_
    show OwnS p e below T11 (mkF m 47 #[rv r0, iv x0, iv 0, rv r0, rv b5] [(.ref b5), (.int 1), (.ref ar0)]) _
    refine XS.iloadN X11.here hx rfl (hb hby d6_47) rfl ?_
    show OwnS p e below T11 (mkF m 48 #[rv r0, iv x0, iv 0, rv r0, rv b5] [(.int 0), (.ref b5), (.int 1), (.ref ar0)]) _
    refine XS.aload X11.here hx rfl (hb hby d6_48) rfl rfl ?_
    show OwnS p e below T11 (mkF m 50 #[rv r0, iv x0, iv 0, rv r0, rv b5] [(.ref b5), (.int 0), (.ref b5), (.int 1), (.ref ar0)]) _
    refine X11.arraylength hx (by rw [e11]; exact Ar_z12.1) (State.isArrayOf_alike hZ.alike Ar_z12.2.1) (g := (mkF m 50 #[rv r0, iv x0, iv 0, rv r0, rv b5] [(.ref b5), (.int 0), (.ref b5), (.int 1), (.ref ar0)])) rfl rfl (hb hby d6_50) _ ?_
    rw [len_of S_z12 N_z12]
    show OwnS p e below T11 (mkF m 51 #[rv r0, iv x0, iv 0, rv r0, rv b5] [(.int 0), (.int 0), (.ref b5), (.int 1), (.ref ar0)]) _
    refine XS.iloadN X11.here hx rfl (hb hby d6_51) rfl ?_
    show OwnS p e below T11 (mkF m 52 #[rv r0, iv x0, iv 0, rv r0, rv b5] [(.int 0), (.int 0), (.int 0), (.ref b5), (.int 1), (.ref ar0)]) _
    refine XS.isub X11.here hx rfl (hb hby d6_52) rfl ?_
    show OwnS p e below T11 (mkF m 53 #[rv r0, iv x0, iv 0, rv r0, rv b5] [(.int 0), (.int 0), (.ref b5), (.int 1), (.ref ar0)]) _
    refine st15 _ ?_
    show OwnS p e below T15 (mkF m 56 #[rv r0, iv x0, iv 0, rv r0, rv b5] []) _
    refine st19 _ ?_
    show OwnS p e below T19 (mkF m 59 #[rv r0, iv x0, iv 0, rv r0, rv b5] [(.ref b19)]) _
    refine XS.dup X19.here hx rfl (hb hby d6_59) rfl rfl ?_
    show OwnS p e below T19 (mkF m 60 #[rv r0, iv x0, iv 0, rv r0, rv b5] [(.ref b19), (.ref b19)]) _
    refine XS.aload X19.here hx rfl (hb hby d6_60) rfl rfl ?_
    show OwnS p e below T19 (mkF m 62 #[rv r0, iv x0, iv 0, rv r0, rv b5] [(.ref b5), (.ref b19), (.ref b19)]) _
    refine st20.trans ?_
    show OwnS p e below T20 (mkF m 65 #[rv r0, iv x0, iv 0, rv r0, rv b5] [(.ref b19)]) _
    refine XS.astoreN X20.here hx rfl (hb hby d6_65) rfl rfl (l' := #[rv r0, iv x0, iv 0, rv b19, rv b5]) rfl ?_
    show OwnS p e below T20 (mkF m 66 #[rv r0, iv x0, iv 0, rv b19, rv b5] []) _
    refine XS.aloadN X20.here hx rfl (hb hby d6_66) rfl rfl ?_
    show OwnS p e below T20 (mkF m 67 #[rv r0, iv x0, iv 0, rv b19, rv b5] [(.ref b19)]) _
    jvm_step X20.here [X20.here.top, hx, (hb hby d6_67), X20.method', Bd.returns, Value.isRef, FieldType.isReference]
    first | (intro acts; rw [hr _ acts rfl rfl rfl]) | rw [hr _ _ rfl rfl rfl]
    exact Steps.refl _
  · show Q_6_1 Z r0 x0 ar0 k0c h0 n0 _ T20.heap _
    exact ⟨b19, b5, k5, rfl, N20, ((((((Keep.refl h0 []).ext E5).trans K9 (allS (Or.inr sz_b5) all0)).trans K15 (allS (Or.inr sz_b5) all0)).ext E19).trans K20 (allS (Or.inr sz_b19) all0)), sz_b19, sz_b5, (Ne.symm (Nat.ne_of_lt (Nat.lt_of_lt_of_le f18.lt (Nat.le_of_eq g19.symm)))), p20_0, p20_1, f24, f25⟩
def Q_6_2 (Z : State) (r0 : Addr) (x1 : Int32) (ar0 : Addr) (k0c : ClassId) (x0 : Int32) (h0 : Heap) (n0 : Nat) (v : Option Value) (h : Heap) (L : List Loc) : Prop := ∃ ob : Addr, ∃ ar : Addr, ∃ kk : ClassId, v = some (.ref ob) ∧ Fr n0 L ∧ Keep h0 h [] ∧ h0.size ≤ ob ∧ h0.size ≤ ar ∧ ob ≠ ar ∧ Exa Z h ob cS0 ∧ Fld Z h ob cS0 "levels" "[I" (.ref ar) ∧ Arv Z h ar kk .int (1 : Int32) [(.int x0)] (.int 0) ∧ Exa Z h ar "[I"
set_option maxRecDepth 65536 in
set_option maxHeartbeats 40000000 in
theorem rm6_2 (l : Launch) (Z : State) (a0 : Array Value) (hw : ∀ d ∈ tables_1, d.before a0 Z = true) (ws : List Jvm.Cond) (r0 : Addr) (x1 : Int32) (ar0 : Addr) (k0c : ClassId) (x0 : Int32) (h0 : Heap) (n0 : Nat) (Z0 : n0 ≤ h0.size) (E_r0 : Exa Z h0 r0 cS0) (F_levels_r0 : Fld Z h0 r0 cS0 "levels" "[I" (.ref ar0)) (V_ar0 : Arv Z h0 ar0 k0c .int (2 : Int32) [(.int x0), (.int x1)] (.int 0)) (E_ar0 : Exa Z h0 ar0 "[I") (hlt : x0 < x1) :
    MetFree l (⟨cS0, "without", cS1⟩ : MethodName) (head1 (Jvm.Cond.code (⟨cS0, "without", cS1⟩ : MethodName) prog_21_method_4_code 5 (some (.object cS0)) :: ws) ({ frames := 2, cells := 2, slots := 2, locals := 32 } : Room)) (fun a U => a = #[(.ref r0), (.int x1)] ∧ Z.Warmed39 U.vm ∧ U.heap = h0) (fun _ _ _ _ _ => True) (fun _ U o U' => ∃ v L, o = .returned v ∧ Q_6_2 Z r0 x1 ar0 k0c x0 h0 n0 v U'.heap L ∧ FrameEnd U o U' L ({ frames := 2, cells := 2, slots := 2, locals := 32 } : Room).cells ({ frames := 2, cells := 2, slots := 2, locals := 32 } : Room).slots) := by
  refine MetFree.of_bodySF (plainFor_of_name pn_com_example_tablox_tablox_tableau_Dependencies) hisR ?_
  intro p e s m args below meth c s₁ Bd hml0 hP hK
  obtain ⟨rfl, hZ, hh⟩ := hP
  have hx := Bd.exec
  have hby := Bd.bytes
  have hml : c.maxLocals = 5 := hml0
  have hown : s.vm.findClass cS0 = some m.cls := findClass_of_methodNamed Bd.named
  have hnm := (name_of_methodNamed Bd.named Bd.method).1
  have X0 : Stand p l e ({ frames := 2, cells := 2, slots := 2, locals := 32 } : Room) s m #[(.ref r0), (.int x1)] below meth c s₁ [] 0 0 := Stand.of_body Bd
  have e0 : s₁.heap = h0 := by rw [← hh, Bd.state]; rfl
  have N0 := Fr.nil n0
  have k0 : ∀ t, OwnS p e below s₁ (mkF m 0 #[rv r0, iv x1, .unset, .unset, .unset] []) t → OwnS p e below s₁ (entryFrame m #[(.ref r0), (.int x1)] 5) t := fun t k => castTop (ef_6 m r0 x1) k
  obtain ⟨T1, X1, e1, st1⟩ := getF X0 hx hZ hown (host := "") (Or.inl (own_at hw 13 rfl)) Via.refl e0 F_levels_r0 (g := (mkF m 1 #[rv r0, iv x1, .unset, .unset, .unset] [(.ref r0)])) rfl rfl (hb hby d6_1)
  obtain ⟨_, _, ⟨T2, L2, j2, i2⟩, -, X2, ⟨Lc2, hQ2, l2, y2, z2⟩, st2⟩ := Jvm.LawKit.callS X1 hx (y := (⟨"java/util/Arrays", "binarySearch", "([II)I"⟩ : MethodName)) hown (mvT hZ (own_at hw 30 rfl)) (mvT hZ (own_at hw 31 rfl)) (mvT hZ (own_at hw 32 rfl)) (mvT hZ (own_at hw 33 rfl)) (by decide) (backOf (W := 0) (rm7_2 l Z a0 hw [] ar0 x1 k0c x0 h0 n0 Z0 V_ar0 hlt) hZ (own_at hw 33 rfl) (own_at hw 32 rfl) (by decide) (by decide)) (g := (mkF m 5 #[rv r0, iv x1, .unset, .unset, .unset] [(.int x1), (.ref ar0)])) rfl (by rw [hml]; rfl) (argsL := [(.ref ar0), (.int x1)]) (rest := []) (lenOf pd_2 rfl) rfl (by show 2 * 0 + _ ≤ _; exact Nat.le_of_eq rfl) (hb hby d6_5) (fun _ _ => ⟨rfl, e1, (by decide : 0 + 0 ≤ _), (by decide : 0 + 0 ≤ _)⟩)
  dsimp only [Pt.U, Pt.locs, Pt.cells, Pt.slots] at X2 l2 y2 z2 st2 hQ2
  subst l2 y2 z2
  obtain ⟨rfl, N2q, e2⟩ := hQ2
  have N2 := Fr.app N0 N2q
  obtain ⟨T3, X3, e3, st3⟩ := getF X2 hx hZ hown (host := "") (Or.inl (own_at hw 13 rfl)) Via.refl e2 F_levels_r0 (g := (mkF m 16 #[rv r0, iv x1, iv 1, rv r0, .unset] [(.ref r0)])) rfl rfl (hb hby d6_16)
  obtain ⟨cl_z4, Ar_z4, q_z4, S_z4, N_z4, H_z4, G_z4⟩ := id V_ar0
  obtain ⟨T5, h5, k5, X5, e5, E5, A5, EA5, st5⟩ := newPE X3 hx hZ (own_at hw 6 rfl) e3 (g := (mkF m 22 #[rv r0, iv x1, iv 1, rv r0, .unset] [(.int 1)])) rfl (hb hby d6_22) rfl (by decide) (cap := 1) (by decide) (by decide) (by decide) (by decide) (ad := "[I") (by decide)
  obtain ⟨b5, g5⟩ : ∃ z, z = h0.size := ⟨_, rfl⟩
  rw [← g5] at A5 EA5 st5
  have g_b5 : n0 ≤ b5 := Nat.le_trans Z0 (Nat.le_of_eq g5.symm)
  have sz_b5 : h0.size ≤ b5 := Nat.le_trans (Keep.refl h0 []).1 (Nat.le_of_eq g5.symm)
  have V_b5 : Arv Z h5 b5 k5 .int (1 : Int32) [(.int 0)] (.int 0) := (Arv.new A5 (by decide)).pad (pad_rep [] (.int 0) 1)
  have f6 := (F_levels_r0.ext E5)
  obtain ⟨T7, X7, e7, st7⟩ := getF X5 hx hZ hown (host := "") (Or.inl (own_at hw 13 rfl)) Via.refl e5 f6 (g := (mkF m 27 #[rv r0, iv x1, iv 1, rv r0, rv b5] [(.ref r0)])) rfl rfl (hb hby d6_27)
  have f8 := (V_ar0.ext E5)
  obtain ⟨T9, h9, L9, X9, e9, N9, K9, Vr9, st9⟩ := cpA X7 hx hZ hown (own_at hw 37 rfl) (own_at hw 40 rfl) (own_at hw 38 rfl) (own_at hw 39 rfl) e7 f8 V_b5 (us := [(.int x0)]) (Or.inl ⟨rfl, rfl⟩) (by decide) (by decide) (by decide) (by decide) (by decide) rfl (Nat.le_of_ble_eq_true rfl) N2 g_b5 (g := (mkF m 35 #[rv r0, iv x1, iv 1, rv r0, rv b5] [(.int 1), (.int 0), (.ref b5), (.int 0), (.ref ar0)])) rfl (by rw [hml]; rfl) rfl (hb hby d6_35) (by decide) (W := 0) (by show 2 * 0 + _ ≤ _; exact Nat.le_of_eq rfl) (by decide)
  have pl9 := (allS (P := fun x => ∃ cell : Cell, h5[x]? = some cell ∧ cell.vm.isStatics = false) (own_ns EA5) all0)
  have V9 : Arv Z h9 b5 k5 .int (1 : Int32) [(.int x0)] (.int 0) := Vr9
  have f10 := (f6.keep K9 (ninS (Nat.ne_of_lt (Nat.lt_of_lt_of_le E_r0.lt (Nat.le_of_eq g5.symm))) nin0))
  obtain ⟨T11, X11, e11, st11⟩ := getF X9 hx hZ hown (host := "") (Or.inl (own_at hw 13 rfl)) Via.refl e9 f10 (g := (mkF m 39 #[rv r0, iv x1, iv 1, rv r0, rv b5] [(.ref r0)])) rfl rfl (hb hby d6_39)
  obtain ⟨cl_z12, Ar_z12, q_z12, S_z12, N_z12, H_z12, G_z12⟩ := id V9
  have f13 := (f8.keep K9 (ninS (Nat.ne_of_lt (Nat.lt_of_lt_of_le V_ar0.lt (Nat.le_of_eq g5.symm))) nin0))
  have f14 := (EA5.keep K9)
  obtain ⟨T15, h15, L15, X15, e15, N15, K15, Vr15, st15⟩ := cpA X11 hx hZ hown (own_at hw 37 rfl) (own_at hw 40 rfl) (own_at hw 38 rfl) (own_at hw 39 rfl) e11 f13 V9 (us := []) (Or.inl ⟨rfl, rfl⟩) (by decide) (by decide) (by decide) (by decide) (by decide) rfl (Nat.le_of_ble_eq_true rfl) N9 g_b5 (g := (mkF m 53 #[rv r0, iv x1, iv 1, rv r0, rv b5] [(.int 0), (.int 1), (.ref b5), (.int 2), (.ref ar0)])) rfl (by rw [hml]; rfl) rfl (hb hby d6_53) (by decide) (W := 0) (by show 2 * 0 + _ ≤ _; exact Nat.le_of_eq rfl) (by decide)
  have pl15 := (allS (P := fun x => ∃ cell : Cell, h9[x]? = some cell ∧ cell.vm.isStatics = false) (own_ns f14) all0)
  have V15 : Arv Z h15 b5 k5 .int (1 : Int32) [(.int x0)] (.int 0) := Vr15
  have f16 := (((E_r0.ext E5).keep K9).keep K15)
  have f17 := (f13.keep K15 (ninS (Nat.ne_of_lt (Nat.lt_of_lt_of_le V_ar0.lt (Nat.le_of_eq g5.symm))) nin0))
  have f18 := (f14.keep K15)
  obtain ⟨T19, h19, X19, e19, E19, A19, D19, -, st19⟩ := newO X15 hx hZ hown (own_at hw 4 rfl) (own_at hw 5 rfl) (own_at hw 2 rfl) e15 (g := (mkF m 56 #[rv r0, iv x1, iv 1, rv r0, rv b5] [])) rfl (hb hby d6_56) (by decide) (by decide)
  obtain ⟨b19, g19⟩ : ∃ z, z = h15.size := ⟨_, rfl⟩
  rw [← g19] at A19 D19 st19
  have g_b19 : n0 ≤ b19 := Nat.le_trans (Nat.le_trans (Nat.le_trans (Nat.le_trans Z0 E5.1) K9.1) K15.1) (Nat.le_of_eq g19.symm)
  have sz_b19 : h0.size ≤ b19 := Nat.le_trans ((((Keep.refl h0 []).ext E5).trans K9 (allS (Or.inr sz_b5) all0)).trans K15 (allS (Or.inr sz_b5) all0)).1 (Nat.le_of_eq g19.symm)
  have F_levels_b19 : Fld Z h19 b19 cS0 "levels" "[I" .null := D19 (Or.inr (own_at hw 14 rfl)) (ty := (.array .int)) (by decide)
  obtain ⟨_, _, ⟨T20, L20, j20, i20⟩, -, X20, ⟨Lc20, hQ20, l20, y20, z20⟩, st20⟩ := X19.specialBack hx (y := (⟨cS0, "<init>", "([I)V"⟩ : MethodName)) rfl hown (mvT hZ (own_at hw 7 rfl)) (mvT hZ (own_at hw 8 rfl)) (mvT hZ (own_at hw 9 rfl)) (by decide) (backOf (W := 1) (rm2 l Z a0 hw [] b19 b5 .null h19 n0 (Nat.le_trans (Nat.le_trans (Nat.le_trans (Nat.le_trans Z0 E5.1) K9.1) K15.1) E19.1) A19 F_levels_b19 g_b19) hZ (own_at hw 9 rfl) (own_at hw 2 rfl) (by decide) (by decide)) (g := (mkF m 62 #[rv r0, iv x1, iv 1, rv r0, rv b5] [(.ref b5), (.ref b19), (.ref b19)])) rfl (by rw [hml]; rfl) (Steps.refl _) (a := b19) (argsL := [(.ref b5)]) (rest := [(.ref b19)]) (lenOf pd_0 rfl) rfl (by show 2 * 0 + _ ≤ _; exact Nat.le_of_eq rfl) (hb hby d6_62) (fun _ _ => ⟨rfl, e19, (by decide : 2 + 0 ≤ _), (by decide : 2 + 0 ≤ _)⟩)
  dsimp only [Pt.U, Pt.locs, Pt.cells, Pt.slots] at X20 l20 y20 z20 st20 hQ20
  subst l20 y20 z20
  have f21 := (f16.ext E19)
  have f22 := (f17.ext E19)
  have f23 := (f18.ext E19)
  obtain ⟨rfl, N20q, K20, p20_0, p20_1⟩ := hQ20
  have pl20 := (allS (P := fun x => ∃ cell : Cell, h19[x]? = some cell ∧ cell.vm.isStatics = false) (own_ns A19) all0)
  have N20 := Fr.app N15 N20q
  have f24 := ((V15.ext E19).keep K20 (ninS (Nat.ne_of_lt (Nat.lt_of_lt_of_le f18.lt (Nat.le_of_eq g19.symm))) nin0))
  have f25 := (f23.keep K20)
  obtain ⟨fs, hr, hrun, hended, hW, hsame⟩ := X20.leave (v := some (.ref b19)) (fun h => by rw [Bd.returns] at h; cases h)
  refine ⟨_, _, k0 _ ?_, hrun, hended, _, _, rfl, ?_, ⟨_, rfl⟩, hW, hsame.mono (by decide) (by decide)⟩
  · show OwnS p e below s₁ (mkF m 0 #[rv r0, iv x1, .unset, .unset, .unset] []) _
    refine XS.aloadN X0.here hx rfl (hb hby d6_0) rfl rfl ?_
    show OwnS p e below s₁ (mkF m 1 #[rv r0, iv x1, .unset, .unset, .unset] [(.ref r0)]) _
    refine st1 _ ?_
    show OwnS p e below T1 (mkF m 4 #[rv r0, iv x1, .unset, .unset, .unset] [(.ref ar0)]) _
    refine XS.iloadN X1.here hx rfl (hb hby d6_4) rfl ?_
    show OwnS p e below T1 (mkF m 5 #[rv r0, iv x1, .unset, .unset, .unset] [(.int x1), (.ref ar0)]) _
    refine st2 _ ?_
    show OwnS p e below T2 (mkF m 8 #[rv r0, iv x1, .unset, .unset, .unset] [(.int 1)]) _
    refine XS.istoreN X2.here hx rfl (hb hby d6_8) rfl (l' := #[rv r0, iv x1, iv 1, .unset, .unset]) rfl ?_
    show OwnS p e below T2 (mkF m 9 #[rv r0, iv x1, iv 1, .unset, .unset] []) _
    refine XS.aloadN X2.here hx rfl (hb hby d6_9) rfl rfl ?_
    show OwnS p e below T2 (mkF m 10 #[rv r0, iv x1, iv 1, .unset, .unset] [(.ref r0)]) _
    refine XS.astoreN X2.here hx rfl (hb hby d6_10) rfl rfl (l' := #[rv r0, iv x1, iv 1, rv r0, .unset]) rfl ?_
    show OwnS p e below T2 (mkF m 11 #[rv r0, iv x1, iv 1, rv r0, .unset] []) _
    refine XS.iloadN X2.here hx rfl (hb hby d6_11) rfl ?_
    show OwnS p e below T2 (mkF m 12 #[rv r0, iv x1, iv 1, rv r0, .unset] [(.int 1)]) _
    refine XS.ifNo X2.here hx rfl (hb hby d6_12) rfl ((if0 _ _).trans (flt (by decide : ¬ ((1 : Int32) < (0 : Int32)))).1) ?_
    show OwnS p e below T2 (mkF m 15 #[rv r0, iv x1, iv 1, rv r0, .unset] []) _
    refine XS.aloadN X2.here hx rfl (hb hby d6_15) rfl rfl ?_
    show OwnS p e below T2 (mkF m 16 #[rv r0, iv x1, iv 1, rv r0, .unset] [(.ref r0)]) _
    refine st3 _ ?_
    show OwnS p e below T3 (mkF m 19 #[rv r0, iv x1, iv 1, rv r0, .unset] [(.ref ar0)]) _
    refine X3.arraylength hx (by rw [e3]; exact Ar_z4.1) (State.isArrayOf_alike hZ.alike Ar_z4.2.1) (g := (mkF m 19 #[rv r0, iv x1, iv 1, rv r0, .unset] [(.ref ar0)])) rfl rfl (hb hby d6_19) _ ?_
    rw [len_of S_z4 N_z4]
    show OwnS p e below T3 (mkF m 20 #[rv r0, iv x1, iv 1, rv r0, .unset] [(.int 2)]) _
    refine XS.iconst X3.here hx rfl (hb hby d6_20) ?_
    show OwnS p e below T3 (mkF m 21 #[rv r0, iv x1, iv 1, rv r0, .unset] [(.int 1), (.int 2)]) _
    refine XS.isub X3.here hx rfl (hb hby d6_21) rfl ?_
    show OwnS p e below T3 (mkF m 22 #[rv r0, iv x1, iv 1, rv r0, .unset] [(.int 1)]) _
    refine st5 _ ?_
    show OwnS p e below T5 (mkF m 24 #[rv r0, iv x1, iv 1, rv r0, .unset] [(.ref b5)]) _
    refine XS.astore X5.here hx rfl (hb hby d6_24) rfl rfl (l' := #[rv r0, iv x1, iv 1, rv r0, rv b5]) rfl ?_
    show OwnS p e below T5 (mkF m 26 #[rv r0, iv x1, iv 1, rv r0, rv b5] []) _
    refine XS.aloadN X5.here hx rfl (hb hby d6_26) rfl rfl ?_
    show OwnS p e below T5 (mkF m 27 #[rv r0, iv x1, iv 1, rv r0, rv b5] [(.ref r0)]) _
    refine st7 _ ?_
    show OwnS p e below T7 (mkF m 30 #[rv r0, iv x1, iv 1, rv r0, rv b5] [(.ref ar0)]) _
    refine XS.iconst X7.here hx rfl (hb hby d6_30) ?_
    show OwnS p e below T7 (mkF m 31 #[rv r0, iv x1, iv 1, rv r0, rv b5] [(.int 0), (.ref ar0)]) _
    refine XS.aload X7.here hx rfl (hb hby d6_31) rfl rfl ?_
    show OwnS p e below T7 (mkF m 33 #[rv r0, iv x1, iv 1, rv r0, rv b5] [(.ref b5), (.int 0), (.ref ar0)]) _
    refine XS.iconst X7.here hx rfl (hb hby d6_33) ?_
    show OwnS p e below T7 (mkF m 34 #[rv r0, iv x1, iv 1, rv r0, rv b5] [(.int 0), (.ref b5), (.int 0), (.ref ar0)]) _
    refine XS.iloadN X7.here hx rfl (hb hby d6_34) rfl ?_
    show OwnS p e below T7 (mkF m 35 #[rv r0, iv x1, iv 1, rv r0, rv b5] [(.int 1), (.int 0), (.ref b5), (.int 0), (.ref ar0)]) _
    refine st9 _ ?_
    show OwnS p e below T9 (mkF m 38 #[rv r0, iv x1, iv 1, rv r0, rv b5] []) _
    refine XS.aloadN X9.here hx rfl (hb hby d6_38) rfl rfl ?_
    show OwnS p e below T9 (mkF m 39 #[rv r0, iv x1, iv 1, rv r0, rv b5] [(.ref r0)]) _
    refine st11 _ ?_
    show OwnS p e below T11 (mkF m 42 #[rv r0, iv x1, iv 1, rv r0, rv b5] [(.ref ar0)]) _
    refine XS.iloadN X11.here hx rfl (hb hby d6_42) rfl ?_
    show OwnS p e below T11 (mkF m 43 #[rv r0, iv x1, iv 1, rv r0, rv b5] [(.int 1), (.ref ar0)]) _
    refine XS.iconst X11.here hx rfl (hb hby d6_43) ?_
    show OwnS p e below T11 (mkF m 44 #[rv r0, iv x1, iv 1, rv r0, rv b5] [(.int 1), (.int 1), (.ref ar0)]) _
    refine XS.iadd X11.here hx rfl (hb hby d6_44) rfl ?_
    show OwnS p e below T11 (mkF m 45 #[rv r0, iv x1, iv 1, rv r0, rv b5] [(.int 2), (.ref ar0)]) _
    refine XS.aload X11.here hx rfl (hb hby d6_45) rfl rfl ?_
    show OwnS p e below T11 (mkF m 47 #[rv r0, iv x1, iv 1, rv r0, rv b5] [(.ref b5), (.int 2), (.ref ar0)]) _
    refine XS.iloadN X11.here hx rfl (hb hby d6_47) rfl ?_
    show OwnS p e below T11 (mkF m 48 #[rv r0, iv x1, iv 1, rv r0, rv b5] [(.int 1), (.ref b5), (.int 2), (.ref ar0)]) _
    refine XS.aload X11.here hx rfl (hb hby d6_48) rfl rfl ?_
    show OwnS p e below T11 (mkF m 50 #[rv r0, iv x1, iv 1, rv r0, rv b5] [(.ref b5), (.int 1), (.ref b5), (.int 2), (.ref ar0)]) _
    refine X11.arraylength hx (by rw [e11]; exact Ar_z12.1) (State.isArrayOf_alike hZ.alike Ar_z12.2.1) (g := (mkF m 50 #[rv r0, iv x1, iv 1, rv r0, rv b5] [(.ref b5), (.int 1), (.ref b5), (.int 2), (.ref ar0)])) rfl rfl (hb hby d6_50) _ ?_
    rw [len_of S_z12 N_z12]
    show OwnS p e below T11 (mkF m 51 #[rv r0, iv x1, iv 1, rv r0, rv b5] [(.int 1), (.int 1), (.ref b5), (.int 2), (.ref ar0)]) _
    refine XS.iloadN X11.here hx rfl (hb hby d6_51) rfl ?_
    show OwnS p e below T11 (mkF m 52 #[rv r0, iv x1, iv 1, rv r0, rv b5] [(.int 1), (.int 1), (.int 1), (.ref b5), (.int 2), (.ref ar0)]) _
    refine XS.isub X11.here hx rfl (hb hby d6_52) rfl ?_
    show OwnS p e below T11 (mkF m 53 #[rv r0, iv x1, iv 1, rv r0, rv b5] [(.int 0), (.int 1), (.ref b5), (.int 2), (.ref ar0)]) _
    refine st15 _ ?_
    show OwnS p e below T15 (mkF m 56 #[rv r0, iv x1, iv 1, rv r0, rv b5] []) _
    refine st19 _ ?_
    show OwnS p e below T19 (mkF m 59 #[rv r0, iv x1, iv 1, rv r0, rv b5] [(.ref b19)]) _
    refine XS.dup X19.here hx rfl (hb hby d6_59) rfl rfl ?_
    show OwnS p e below T19 (mkF m 60 #[rv r0, iv x1, iv 1, rv r0, rv b5] [(.ref b19), (.ref b19)]) _
    refine XS.aload X19.here hx rfl (hb hby d6_60) rfl rfl ?_
    show OwnS p e below T19 (mkF m 62 #[rv r0, iv x1, iv 1, rv r0, rv b5] [(.ref b5), (.ref b19), (.ref b19)]) _
    refine st20.trans ?_
    show OwnS p e below T20 (mkF m 65 #[rv r0, iv x1, iv 1, rv r0, rv b5] [(.ref b19)]) _
    refine XS.astoreN X20.here hx rfl (hb hby d6_65) rfl rfl (l' := #[rv r0, iv x1, iv 1, rv b19, rv b5]) rfl ?_
    show OwnS p e below T20 (mkF m 66 #[rv r0, iv x1, iv 1, rv b19, rv b5] []) _
    refine XS.aloadN X20.here hx rfl (hb hby d6_66) rfl rfl ?_
    show OwnS p e below T20 (mkF m 67 #[rv r0, iv x1, iv 1, rv b19, rv b5] [(.ref b19)]) _
    jvm_step X20.here [X20.here.top, hx, (hb hby d6_67), X20.method', Bd.returns, Value.isRef, FieldType.isReference]
    first | (intro acts; rw [hr _ acts rfl rfl rfl]) | rw [hr _ _ rfl rfl rfl]
    exact Steps.refl _
  · show Q_6_2 Z r0 x1 ar0 k0c x0 h0 n0 _ T20.heap _
    exact ⟨b19, b5, k5, rfl, N20, ((((((Keep.refl h0 []).ext E5).trans K9 (allS (Or.inr sz_b5) all0)).trans K15 (allS (Or.inr sz_b5) all0)).ext E19).trans K20 (allS (Or.inr sz_b19) all0)), sz_b19, sz_b5, (Ne.symm (Nat.ne_of_lt (Nat.lt_of_lt_of_le f18.lt (Nat.le_of_eq g19.symm)))), p20_0, p20_1, f24, f25⟩
theorem d10_0 : decode jdk_65_method_123_code 0 = .ok (.iload_n 1, 1) := by decide +kernel
theorem d10_1 : decode jdk_65_method_123_code 1 = .ok (.aload_n 0, 1) := by decide +kernel
theorem d10_2 : decode jdk_65_method_123_code 2 = .ok (.arraylength, 1) := by decide +kernel
theorem d10_3 : decode jdk_65_method_123_code 3 = .ok (.if_icmp .ne 11, 3) := by decide +kernel
theorem d10_6 : decode jdk_65_method_123_code 6 = .ok (.aload_n 0, 1) := by decide +kernel
theorem d10_7 : decode jdk_65_method_123_code 7 = .ok (.invokevirtual 316, 3) := by decide +kernel
theorem d10_10 : decode jdk_65_method_123_code 10 = .ok (.checkcast 317, 3) := by decide +kernel
theorem d10_13 : decode jdk_65_method_123_code 13 = .ok (.areturn, 1) := by decide +kernel
theorem ef_10 (m : MethodId) (x0 : Addr) (x1 : Int32) : entryFrame m #[(.ref x0), (.int x1)] 3 = mkF m 0 #[.val (.ref x0), .val (.int x1), .unset] [] := by first | (simp [entryFrame, mkF, argsToLocals, Value.category]; done) | rfl
def Q_10 (Z : State) (r0 : Addr) (k0c : ClassId) (x0 : Int32) (x1 : Int32) (h0 : Heap) (n0 : Nat) (v : Option Value) (h : Heap) (L : List Loc) : Prop := ∃ ar : Addr, ∃ kk : ClassId, v = some (.ref ar) ∧ Fr n0 L ∧ Keep h0 h [] ∧ h0.size ≤ ar ∧ Arv Z h ar kk .int (2 : Int32) [(.int x0), (.int x1)] (.int 0) ∧ Exa Z h ar "[I"
set_option maxRecDepth 65536 in
set_option maxHeartbeats 40000000 in
theorem rm10 (l : Launch) (Z : State) (a0 : Array Value) (hw : ∀ d ∈ tables_1, d.before a0 Z = true) (ws : List Jvm.Cond) (r0 : Addr) (k0c : ClassId) (x0 : Int32) (x1 : Int32) (h0 : Heap) (n0 : Nat) (Z0 : n0 ≤ h0.size) (V_r0 : Arv Z h0 r0 k0c .int (2 : Int32) [(.int x0), (.int x1)] (.int 0)) (E_r0 : Exa Z h0 r0 "[I") :
    MetFree l (⟨"java/util/Arrays", "copyOf", "([II)[I"⟩ : MethodName) (head1 (Jvm.Cond.code (⟨"java/util/Arrays", "copyOf", "([II)[I"⟩ : MethodName) jdk_65_method_123_code 3 (some (.array .int)) :: ws) ({ frames := 1, cells := 1, slots := 2, locals := 14 } : Room)) (fun a U => a = #[(.ref r0), (.int 2)] ∧ Z.Warmed39 U.vm ∧ U.heap = h0) (fun _ _ _ _ _ => True) (fun _ U o U' => ∃ v L, o = .returned v ∧ Q_10 Z r0 k0c x0 x1 h0 n0 v U'.heap L ∧ FrameEnd U o U' L ({ frames := 1, cells := 1, slots := 2, locals := 14 } : Room).cells ({ frames := 1, cells := 1, slots := 2, locals := 14 } : Room).slots) := by
  refine MetFree.of_bodySF (plainFor_of_name pn_java_util_Arrays) hisR ?_
  intro p e s m args below meth c s₁ Bd hml0 hP hK
  obtain ⟨rfl, hZ, hh⟩ := hP
  have hx := Bd.exec
  have hby := Bd.bytes
  have hml : c.maxLocals = 3 := hml0
  have hown : s.vm.findClass "java/util/Arrays" = some m.cls := findClass_of_methodNamed Bd.named
  have hnm := (name_of_methodNamed Bd.named Bd.method).1
  have X0 : Stand p l e ({ frames := 1, cells := 1, slots := 2, locals := 14 } : Room) s m #[(.ref r0), (.int 2)] below meth c s₁ [] 0 0 := Stand.of_body Bd
  have e0 : s₁.heap = h0 := by rw [← hh, Bd.state]; rfl
  have N0 := Fr.nil n0
  have k0 : ∀ t, OwnS p e below s₁ (mkF m 0 #[rv r0, iv 2, .unset] []) t → OwnS p e below s₁ (entryFrame m #[(.ref r0), (.int 2)] 3) t := fun t k => castTop (ef_10 m r0 (2 : Int32)) k
  obtain ⟨cl_z1, Ar_z1, q_z1, S_z1, N_z1, H_z1, G_z1⟩ := id V_r0
  obtain ⟨T2, h2, X2, e2, E2, Vr2, EA2, st2⟩ := cloneH X0 hx hZ hown (own_at hw 49 rfl) (own_at hw 50 rfl) (own_at hw 54 rfl) (own_at hw 52 rfl) (own_at hw 53 rfl) (own_at hw 55 rfl) e0 (Arv.arh V_r0) E_r0 (g := (mkF m 7 #[rv r0, iv 2, .unset] [(.ref r0)])) rfl (by rw [hml]; rfl) rfl (hb hby d10_7) (by decide) (W := 0) (by show 2 * 0 + _ ≤ _; exact Nat.le_of_eq rfl) (by decide) (cap := 2) (by decide) (by decide) (by decide)
  obtain ⟨b2, g2⟩ : ∃ z, z = h0.size := ⟨_, rfl⟩
  rw [← g2] at Vr2 EA2 st2
  have g_b2 : n0 ≤ b2 := Nat.le_trans Z0 (Nat.le_of_eq g2.symm)
  have sz_b2 : h0.size ≤ b2 := Nat.le_trans (Keep.refl h0 []).1 (Nat.le_of_eq g2.symm)
  have V_b2 : Arv Z h2 b2 k0c .int (2 : Int32) [(.int x0), (.int x1)] (.int 0) := Vr2
  obtain ⟨T3, X3, e3, st3⟩ := castY X2 hx hZ hown (own_at hw 56 rfl) e2 (Ins.self EA2) (g := (mkF m 10 #[rv r0, iv 2, .unset] [(.ref b2)])) rfl rfl (hb hby d10_10)
  obtain ⟨fs, hr, hrun, hended, hW, hsame⟩ := X3.leave (v := some (.ref b2)) (fun h => by rw [Bd.returns] at h; cases h)
  refine ⟨_, _, k0 _ ?_, hrun, hended, _, _, rfl, ?_, ⟨_, rfl⟩, hW, hsame.mono (by decide) (by decide)⟩
  · show OwnS p e below s₁ (mkF m 0 #[rv r0, iv 2, .unset] []) _
    refine XS.iloadN X0.here hx rfl (hb hby d10_0) rfl ?_
    show OwnS p e below s₁ (mkF m 1 #[rv r0, iv 2, .unset] [(.int 2)]) _
    refine XS.aloadN X0.here hx rfl (hb hby d10_1) rfl rfl ?_
    show OwnS p e below s₁ (mkF m 2 #[rv r0, iv 2, .unset] [(.ref r0), (.int 2)]) _
    refine X0.arraylength hx (by rw [e0]; exact Ar_z1.1) (State.isArrayOf_alike hZ.alike Ar_z1.2.1) (g := (mkF m 2 #[rv r0, iv 2, .unset] [(.ref r0), (.int 2)])) rfl rfl (hb hby d10_2) _ ?_
    rw [len_of S_z1 N_z1]
    show OwnS p e below s₁ (mkF m 3 #[rv r0, iv 2, .unset] [(.int 2), (.int 2)]) _
    refine XS.icmpNo X0.here hx rfl (hb hby d10_3) rfl (teq (by decide : (2 : Int32) = (2 : Int32))).2 ?_
    show OwnS p e below s₁ (mkF m 6 #[rv r0, iv 2, .unset] []) _
    refine XS.aloadN X0.here hx rfl (hb hby d10_6) rfl rfl ?_
    show OwnS p e below s₁ (mkF m 7 #[rv r0, iv 2, .unset] [(.ref r0)]) _
    refine st2 _ ?_
    show OwnS p e below T2 (mkF m 10 #[rv r0, iv 2, .unset] [(.ref b2)]) _
    refine st3 _ ?_
    show OwnS p e below T3 (mkF m 13 #[rv r0, iv 2, .unset] [(.ref b2)]) _
    jvm_step X3.here [X3.here.top, hx, (hb hby d10_13), X3.method', Bd.returns, Value.isRef, FieldType.isReference]
    first | (intro acts; rw [hr _ acts rfl rfl rfl]) | rw [hr _ _ rfl rfl rfl]
    exact Steps.refl _
  · show Q_10 Z r0 k0c x0 x1 h0 n0 _ T3.heap _
    rw [e3]
    exact ⟨b2, k0c, rfl, N0, ((Keep.refl h0 []).ext E2), sz_b2, V_b2, EA2⟩
theorem pd_3 : parseMethodDescriptor "([II)[I" = some ⟨[(.array .int), .int], some (.array .int)⟩ := by decide +kernel
theorem d9_0 : decode prog_21_method_3_code 0 = .ok (.aload_n 0, 1) := by decide +kernel
theorem d9_1 : decode prog_21_method_3_code 1 = .ok (.getfield 7, 3) := by decide +kernel
theorem d9_4 : decode prog_21_method_3_code 4 = .ok (.astore_n 2, 1) := by decide +kernel
theorem d9_5 : decode prog_21_method_3_code 5 = .ok (.aload_n 1, 1) := by decide +kernel
theorem d9_6 : decode prog_21_method_3_code 6 = .ok (.getfield 7, 3) := by decide +kernel
theorem d9_9 : decode prog_21_method_3_code 9 = .ok (.astore_n 3, 1) := by decide +kernel
theorem d9_10 : decode prog_21_method_3_code 10 = .ok (.aload_n 2, 1) := by decide +kernel
theorem d9_11 : decode prog_21_method_3_code 11 = .ok (.arraylength, 1) := by decide +kernel
theorem d9_12 : decode prog_21_method_3_code 12 = .ok (.aload_n 3, 1) := by decide +kernel
theorem d9_13 : decode prog_21_method_3_code 13 = .ok (.arraylength, 1) := by decide +kernel
theorem d9_14 : decode prog_21_method_3_code 14 = .ok (.iadd, 1) := by decide +kernel
theorem d9_15 : decode prog_21_method_3_code 15 = .ok (.newarray .int, 2) := by decide +kernel
theorem d9_17 : decode prog_21_method_3_code 17 = .ok (.astore 4, 2) := by decide +kernel
theorem d9_19 : decode prog_21_method_3_code 19 = .ok (.iconst 0, 1) := by decide +kernel
theorem d9_20 : decode prog_21_method_3_code 20 = .ok (.istore 5, 2) := by decide +kernel
theorem d9_22 : decode prog_21_method_3_code 22 = .ok (.iconst 0, 1) := by decide +kernel
theorem d9_23 : decode prog_21_method_3_code 23 = .ok (.istore 6, 2) := by decide +kernel
theorem d9_25 : decode prog_21_method_3_code 25 = .ok (.iconst 0, 1) := by decide +kernel
theorem d9_26 : decode prog_21_method_3_code 26 = .ok (.istore 7, 2) := by decide +kernel
theorem d9_28 : decode prog_21_method_3_code 28 = .ok (.iload 6, 2) := by decide +kernel
theorem d9_30 : decode prog_21_method_3_code 30 = .ok (.aload_n 2, 1) := by decide +kernel
theorem d9_31 : decode prog_21_method_3_code 31 = .ok (.arraylength, 1) := by decide +kernel
theorem d9_32 : decode prog_21_method_3_code 32 = .ok (.if_icmp .ge 89, 3) := by decide +kernel
theorem d9_35 : decode prog_21_method_3_code 35 = .ok (.iload 7, 2) := by decide +kernel
theorem d9_37 : decode prog_21_method_3_code 37 = .ok (.aload_n 3, 1) := by decide +kernel
theorem d9_38 : decode prog_21_method_3_code 38 = .ok (.arraylength, 1) := by decide +kernel
theorem d9_39 : decode prog_21_method_3_code 39 = .ok (.if_icmp .ge 82, 3) := by decide +kernel
theorem d9_42 : decode prog_21_method_3_code 42 = .ok (.aload_n 2, 1) := by decide +kernel
theorem d9_43 : decode prog_21_method_3_code 43 = .ok (.iload 6, 2) := by decide +kernel
theorem d9_45 : decode prog_21_method_3_code 45 = .ok (.iaload, 1) := by decide +kernel
theorem d9_46 : decode prog_21_method_3_code 46 = .ok (.aload_n 3, 1) := by decide +kernel
theorem d9_47 : decode prog_21_method_3_code 47 = .ok (.iload 7, 2) := by decide +kernel
theorem d9_49 : decode prog_21_method_3_code 49 = .ok (.iaload, 1) := by decide +kernel
theorem d9_50 : decode prog_21_method_3_code 50 = .ok (.if_icmp .ge 21, 3) := by decide +kernel
theorem d9_53 : decode prog_21_method_3_code 53 = .ok (.aload 4, 2) := by decide +kernel
theorem d9_55 : decode prog_21_method_3_code 55 = .ok (.iload 5, 2) := by decide +kernel
theorem d9_57 : decode prog_21_method_3_code 57 = .ok (.iinc 5 1, 3) := by decide +kernel
theorem d9_60 : decode prog_21_method_3_code 60 = .ok (.aload_n 2, 1) := by decide +kernel
theorem d9_61 : decode prog_21_method_3_code 61 = .ok (.iload 6, 2) := by decide +kernel
theorem d9_63 : decode prog_21_method_3_code 63 = .ok (.iinc 6 1, 3) := by decide +kernel
theorem d9_66 : decode prog_21_method_3_code 66 = .ok (.iaload, 1) := by decide +kernel
theorem d9_67 : decode prog_21_method_3_code 67 = .ok (.iastore, 1) := by decide +kernel
theorem d9_68 : decode prog_21_method_3_code 68 = .ok (.goto (-40), 3) := by decide +kernel
theorem d9_121 : decode prog_21_method_3_code 121 = .ok (.iload 6, 2) := by decide +kernel
theorem d9_123 : decode prog_21_method_3_code 123 = .ok (.aload_n 2, 1) := by decide +kernel
theorem d9_124 : decode prog_21_method_3_code 124 = .ok (.arraylength, 1) := by decide +kernel
theorem d9_125 : decode prog_21_method_3_code 125 = .ok (.if_icmp .ge 21, 3) := by decide +kernel
theorem d9_146 : decode prog_21_method_3_code 146 = .ok (.iload 7, 2) := by decide +kernel
theorem d9_148 : decode prog_21_method_3_code 148 = .ok (.aload_n 3, 1) := by decide +kernel
theorem d9_149 : decode prog_21_method_3_code 149 = .ok (.arraylength, 1) := by decide +kernel
theorem d9_150 : decode prog_21_method_3_code 150 = .ok (.if_icmp .ge 21, 3) := by decide +kernel
theorem d9_153 : decode prog_21_method_3_code 153 = .ok (.aload 4, 2) := by decide +kernel
theorem d9_155 : decode prog_21_method_3_code 155 = .ok (.iload 5, 2) := by decide +kernel
theorem d9_157 : decode prog_21_method_3_code 157 = .ok (.iinc 5 1, 3) := by decide +kernel
theorem d9_160 : decode prog_21_method_3_code 160 = .ok (.aload_n 3, 1) := by decide +kernel
theorem d9_161 : decode prog_21_method_3_code 161 = .ok (.iload 7, 2) := by decide +kernel
theorem d9_163 : decode prog_21_method_3_code 163 = .ok (.iinc 7 1, 3) := by decide +kernel
theorem d9_166 : decode prog_21_method_3_code 166 = .ok (.iaload, 1) := by decide +kernel
theorem d9_167 : decode prog_21_method_3_code 167 = .ok (.iastore, 1) := by decide +kernel
theorem d9_168 : decode prog_21_method_3_code 168 = .ok (.goto (-22), 3) := by decide +kernel
theorem d9_171 : decode prog_21_method_3_code 171 = .ok (.iload 5, 2) := by decide +kernel
theorem d9_173 : decode prog_21_method_3_code 173 = .ok (.aload_n 2, 1) := by decide +kernel
theorem d9_174 : decode prog_21_method_3_code 174 = .ok (.arraylength, 1) := by decide +kernel
theorem d9_175 : decode prog_21_method_3_code 175 = .ok (.if_icmp .ne 9, 3) := by decide +kernel
theorem d9_184 : decode prog_21_method_3_code 184 = .ok (.iload 5, 2) := by decide +kernel
theorem d9_186 : decode prog_21_method_3_code 186 = .ok (.aload_n 3, 1) := by decide +kernel
theorem d9_187 : decode prog_21_method_3_code 187 = .ok (.arraylength, 1) := by decide +kernel
theorem d9_188 : decode prog_21_method_3_code 188 = .ok (.if_icmp .ne 9, 3) := by decide +kernel
theorem d9_197 : decode prog_21_method_3_code 197 = .ok (.new 8, 3) := by decide +kernel
theorem d9_200 : decode prog_21_method_3_code 200 = .ok (.dup, 1) := by decide +kernel
theorem d9_201 : decode prog_21_method_3_code 201 = .ok (.aload 4, 2) := by decide +kernel
theorem d9_203 : decode prog_21_method_3_code 203 = .ok (.iload 5, 2) := by decide +kernel
theorem d9_205 : decode prog_21_method_3_code 205 = .ok (.invokestatic 16, 3) := by decide +kernel
theorem d9_208 : decode prog_21_method_3_code 208 = .ok (.invokespecial 13, 3) := by decide +kernel
theorem d9_211 : decode prog_21_method_3_code 211 = .ok (.astore 8, 2) := by decide +kernel
theorem d9_213 : decode prog_21_method_3_code 213 = .ok (.aload 8, 2) := by decide +kernel
theorem d9_215 : decode prog_21_method_3_code 215 = .ok (.areturn, 1) := by decide +kernel
theorem ef_9 (m : MethodId) (x0 : Addr) (x1 : Addr) : entryFrame m #[(.ref x0), (.ref x1)] 9 = mkF m 0 #[.val (.ref x0), .val (.ref x1), .unset, .unset, .unset, .unset, .unset, .unset, .unset] [] := by first | (simp [entryFrame, mkF, argsToLocals, Value.category]; done) | rfl
def Q_9_lt (Z : State) (r0 : Addr) (r1 : Addr) (ar0 : Addr) (k0c : ClassId) (ar1 : Addr) (k1c : ClassId) (x0 : Int32) (x1 : Int32) (h0 : Heap) (n0 : Nat) (v : Option Value) (h : Heap) (L : List Loc) : Prop := ∃ ob : Addr, ∃ ar : Addr, ∃ kk : ClassId, v = some (.ref ob) ∧ Fr n0 L ∧ Keep h0 h [] ∧ h0.size ≤ ob ∧ h0.size ≤ ar ∧ ob ≠ ar ∧ Exa Z h ob cS0 ∧ Fld Z h ob cS0 "levels" "[I" (.ref ar) ∧ Arv Z h ar kk .int (2 : Int32) [(.int x0), (.int x1)] (.int 0) ∧ Exa Z h ar "[I"
set_option maxRecDepth 65536 in
set_option maxHeartbeats 40000000 in
theorem rm9_lt (l : Launch) (Z : State) (a0 : Array Value) (hw : ∀ d ∈ tables_1, d.before a0 Z = true) (ws : List Jvm.Cond) (r0 : Addr) (r1 : Addr) (ar0 : Addr) (k0c : ClassId) (ar1 : Addr) (k1c : ClassId) (x0 : Int32) (x1 : Int32) (h0 : Heap) (n0 : Nat) (Z0 : n0 ≤ h0.size) (E_r0 : Exa Z h0 r0 cS0) (F_levels_r0 : Fld Z h0 r0 cS0 "levels" "[I" (.ref ar0)) (V_ar0 : Arv Z h0 ar0 k0c .int (1 : Int32) [(.int x0)] (.int 0)) (E_ar0 : Exa Z h0 ar0 "[I") (E_r1 : Exa Z h0 r1 cS0) (F_levels_r1 : Fld Z h0 r1 cS0 "levels" "[I" (.ref ar1)) (V_ar1 : Arv Z h0 ar1 k1c .int (1 : Int32) [(.int x1)] (.int 0)) (E_ar1 : Exa Z h0 ar1 "[I") (hlt : x0 < x1) :
    MetFree l (⟨cS0, "union", cS2⟩ : MethodName) (head1 (Jvm.Cond.code (⟨cS0, "union", cS2⟩ : MethodName) prog_21_method_3_code 9 (some (.object cS0)) :: ws) ({ frames := 2, cells := 3, slots := 5, locals := 30 } : Room)) (fun a U => a = #[(.ref r0), (.ref r1)] ∧ Z.Warmed39 U.vm ∧ U.heap = h0) (fun _ _ _ _ _ => True) (fun _ U o U' => ∃ v L, o = .returned v ∧ Q_9_lt Z r0 r1 ar0 k0c ar1 k1c x0 x1 h0 n0 v U'.heap L ∧ FrameEnd U o U' L ({ frames := 2, cells := 3, slots := 5, locals := 30 } : Room).cells ({ frames := 2, cells := 3, slots := 5, locals := 30 } : Room).slots) := by
  refine MetFree.of_bodySF (plainFor_of_name pn_com_example_tablox_tablox_tableau_Dependencies) hisR ?_
  intro p e s m args below meth c s₁ Bd hml0 hP hK
  obtain ⟨rfl, hZ, hh⟩ := hP
  have hx := Bd.exec
  have hby := Bd.bytes
  have hml : c.maxLocals = 9 := hml0
  have hown : s.vm.findClass cS0 = some m.cls := findClass_of_methodNamed Bd.named
  have hnm := (name_of_methodNamed Bd.named Bd.method).1
  have X0 : Stand p l e ({ frames := 2, cells := 3, slots := 5, locals := 30 } : Room) s m #[(.ref r0), (.ref r1)] below meth c s₁ [] 0 0 := Stand.of_body Bd
  have e0 : s₁.heap = h0 := by rw [← hh, Bd.state]; rfl
  have N0 := Fr.nil n0
  have k0 : ∀ t, OwnS p e below s₁ (mkF m 0 #[rv r0, rv r1, .unset, .unset, .unset, .unset, .unset, .unset, .unset] []) t → OwnS p e below s₁ (entryFrame m #[(.ref r0), (.ref r1)] 9) t := fun t k => castTop (ef_9 m r0 r1) k
  obtain ⟨T1, X1, e1, st1⟩ := getF X0 hx hZ hown (host := "") (Or.inl (own_at hw 13 rfl)) Via.refl e0 F_levels_r0 (g := (mkF m 1 #[rv r0, rv r1, .unset, .unset, .unset, .unset, .unset, .unset, .unset] [(.ref r0)])) rfl rfl (hb hby d9_1)
  obtain ⟨T2, X2, e2, st2⟩ := getF X1 hx hZ hown (host := "") (Or.inl (own_at hw 13 rfl)) Via.refl e1 F_levels_r1 (g := (mkF m 6 #[rv r0, rv r1, rv ar0, .unset, .unset, .unset, .unset, .unset, .unset] [(.ref r1)])) rfl rfl (hb hby d9_6)
  obtain ⟨cl_z3, Ar_z3, q_z3, S_z3, N_z3, H_z3, G_z3⟩ := id V_ar0
  obtain ⟨cl_z4, Ar_z4, q_z4, S_z4, N_z4, H_z4, G_z4⟩ := id V_ar1
  obtain ⟨T5, h5, k5, X5, e5, E5, A5, EA5, st5⟩ := newPE X2 hx hZ (own_at hw 6 rfl) e2 (g := (mkF m 15 #[rv r0, rv r1, rv ar0, rv ar1, .unset, .unset, .unset, .unset, .unset] [(.int 2)])) rfl (hb hby d9_15) rfl (by decide) (cap := 2) (by decide) (by decide) (by decide) (by decide) (ad := "[I") (by decide)
  obtain ⟨b5, g5⟩ : ∃ z, z = h0.size := ⟨_, rfl⟩
  rw [← g5] at A5 EA5 st5
  have g_b5 : n0 ≤ b5 := Nat.le_trans Z0 (Nat.le_of_eq g5.symm)
  have sz_b5 : h0.size ≤ b5 := Nat.le_trans (Keep.refl h0 []).1 (Nat.le_of_eq g5.symm)
  have V_b5 : Arv Z h5 b5 k5 .int (2 : Int32) [(.int 0), (.int 0)] (.int 0) := (Arv.new A5 (by decide)).pad (pad_rep [] (.int 0) 2)
  have f6 := (V_ar0.ext E5)
  obtain ⟨cl_z7, Ar_z7, q_z7, S_z7, N_z7, H_z7, G_z7⟩ := id f6
  have f8 := (V_ar1.ext E5)
  obtain ⟨cl_z9, Ar_z9, q_z9, S_z9, N_z9, H_z9, G_z9⟩ := id f8
  have hin10 : ¬ ((0 : Int32) < 0 ∨ cl_z7.slots.size ≤ ((0 : Int32)).toNatClampNeg) := inb_of S_z7 ⟨by decide, by decide⟩
  have hin11 : ¬ ((0 : Int32) < 0 ∨ cl_z9.slots.size ≤ ((0 : Int32)).toNatClampNeg) := inb_of S_z9 ⟨by decide, by decide⟩
  have hin12 : ¬ ((0 : Int32) < 0 ∨ cl_z7.slots.size ≤ ((0 : Int32)).toNatClampNeg) := inb_of S_z7 ⟨by decide, by decide⟩
  obtain ⟨cl_z13, Ar_z13, q_z13, S_z13, N_z13, H_z13, G_z13⟩ := id V_b5
  have hin14 : ¬ ((0 : Int32) < 0 ∨ cl_z13.slots.size ≤ ((0 : Int32)).toNatClampNeg) := inb_of S_z13 ⟨by decide, by decide⟩
  obtain ⟨T15, h15, X15, e15, W15, st15⟩ := stI X5 hx hZ e5 Ar_z13 (j := (0 : Int32)) hin14 (g := (mkF m 67 #[rv r0, rv r1, rv ar0, rv ar1, rv b5, iv ((0 : Int32) + (1 : Int32)), iv ((0 : Int32) + (1 : Int32)), iv 0, .unset] [(.int x0), (.int 0), (.ref b5)])) rfl rfl (hb hby d9_67)
  have V15 : Arv Z h15 b5 k5 .int (2 : Int32) [(.int x0), (.int 0)] (.int 0) := Arv.set Ar_z13 q_z13 S_z13 N_z13 H_z13 G_z13 rfl W15 0 rfl (Nat.le_of_ble_eq_true rfl)
  have N15 := Fr.snoc X15 N0 g_b5
  have f16 := (f6.other W15 (Nat.ne_of_lt (Nat.lt_of_lt_of_le V_ar0.lt (Nat.le_of_eq g5.symm))))
  obtain ⟨cl_z17, Ar_z17, q_z17, S_z17, N_z17, H_z17, G_z17⟩ := id f16
  have f18 := (f8.other W15 (Nat.ne_of_lt (Nat.lt_of_lt_of_le V_ar1.lt (Nat.le_of_eq g5.symm))))
  obtain ⟨cl_z19, Ar_z19, q_z19, S_z19, N_z19, H_z19, G_z19⟩ := id f18
  have hin20 : ¬ ((0 : Int32) < 0 ∨ cl_z19.slots.size ≤ ((0 : Int32)).toNatClampNeg) := inb_of S_z19 ⟨by decide, by decide⟩
  obtain ⟨cl_z21, Ar_z21, q_z21, S_z21, N_z21, H_z21, G_z21⟩ := id V15
  have hin22 : ¬ ((1 : Int32) < 0 ∨ cl_z21.slots.size ≤ ((1 : Int32)).toNatClampNeg) := inb_of S_z21 ⟨by decide, by decide⟩
  obtain ⟨T23, h23, X23, e23, W23, st23⟩ := stI X15 hx hZ e15 Ar_z21 (j := (1 : Int32)) hin22 (g := (mkF m 167 #[rv r0, rv r1, rv ar0, rv ar1, rv b5, iv (((0 : Int32) + (1 : Int32)) + (1 : Int32)), iv ((0 : Int32) + (1 : Int32)), iv ((0 : Int32) + (1 : Int32)), .unset] [(.int x1), (.int 1), (.ref b5)])) rfl rfl (hb hby d9_167)
  have V23 : Arv Z h23 b5 k5 .int (2 : Int32) [(.int x0), (.int x1)] (.int 0) := Arv.set Ar_z21 q_z21 S_z21 N_z21 H_z21 G_z21 rfl W23 1 rfl (Nat.le_of_ble_eq_true rfl)
  have N23 := Fr.snoc X23 N15 g_b5
  have f24 := (f18.other W23 (Nat.ne_of_lt (Nat.lt_of_lt_of_le V_ar1.lt (Nat.le_of_eq g5.symm))))
  obtain ⟨cl_z25, Ar_z25, q_z25, S_z25, N_z25, H_z25, G_z25⟩ := id f24
  have f26 := (f16.other W23 (Nat.ne_of_lt (Nat.lt_of_lt_of_le V_ar0.lt (Nat.le_of_eq g5.symm))))
  obtain ⟨cl_z27, Ar_z27, q_z27, S_z27, N_z27, H_z27, G_z27⟩ := id f26
  have f28 := (((E_r0.ext E5).wr W15).wr W23)
  have f29 := (((E_r1.ext E5).wr W15).wr W23)
  have f30 := ((EA5.wr W15).wr W23)
  obtain ⟨T31, h31, X31, e31, E31, A31, D31, -, st31⟩ := newO X23 hx hZ hown (own_at hw 4 rfl) (own_at hw 5 rfl) (own_at hw 2 rfl) e23 (g := (mkF m 197 #[rv r0, rv r1, rv ar0, rv ar1, rv b5, iv (((0 : Int32) + (1 : Int32)) + (1 : Int32)), iv ((0 : Int32) + (1 : Int32)), iv ((0 : Int32) + (1 : Int32)), .unset] [])) rfl (hb hby d9_197) (by decide) (by decide)
  obtain ⟨b31, g31⟩ : ∃ z, z = h23.size := ⟨_, rfl⟩
  rw [← g31] at A31 D31 st31
  have g_b31 : n0 ≤ b31 := Nat.le_trans (Nat.le_trans (Nat.le_trans (Nat.le_trans Z0 E5.1) (Keep.of_wr W15).1) (Keep.of_wr W23).1) (Nat.le_of_eq g31.symm)
  have sz_b31 : h0.size ≤ b31 := Nat.le_trans ((((Keep.refl h0 []).ext E5).wr W15 (Or.inr sz_b5)).wr W23 (Or.inr sz_b5)).1 (Nat.le_of_eq g31.symm)
  have F_levels_b31 : Fld Z h31 b31 cS0 "levels" "[I" .null := D31 (Or.inr (own_at hw 14 rfl)) (ty := (.array .int)) (by decide)
  have f33 := (V23.ext E31)
  have f34 := (f30.ext E31)
  obtain ⟨_, _, ⟨T32, L32, j32, i32⟩, -, X32, ⟨Lc32, hQ32, l32, y32, z32⟩, st32⟩ := Jvm.LawKit.callS X31 hx (y := (⟨"java/util/Arrays", "copyOf", "([II)[I"⟩ : MethodName)) hown (mvT hZ (own_at hw 46 rfl)) (mvT hZ (own_at hw 47 rfl)) (mvT hZ (own_at hw 32 rfl)) (mvT hZ (own_at hw 48 rfl)) (by decide) (backOf (W := 2) (rm10 l Z a0 hw [] b5 k5 x0 x1 h31 n0 (Nat.le_trans (Nat.le_trans (Nat.le_trans (Nat.le_trans Z0 E5.1) (Keep.of_wr W15).1) (Keep.of_wr W23).1) E31.1) f33 f34) hZ (own_at hw 48 rfl) (own_at hw 32 rfl) (by decide) (by decide)) (g := (mkF m 205 #[rv r0, rv r1, rv ar0, rv ar1, rv b5, iv (((0 : Int32) + (1 : Int32)) + (1 : Int32)), iv ((0 : Int32) + (1 : Int32)), iv ((0 : Int32) + (1 : Int32)), .unset] [(.int 2), (.ref b5), (.ref b31), (.ref b31)])) rfl (by rw [hml]; rfl) (argsL := [(.ref b5), (.int 2)]) (rest := [(.ref b31), (.ref b31)]) (lenOf pd_3 rfl) rfl (by show 2 * 0 + _ ≤ _; exact Nat.le_of_eq rfl) (hb hby d9_205) (fun _ _ => ⟨rfl, e31, (by decide : 2 + 1 ≤ _), (by decide : 3 + 2 ≤ _)⟩)
  dsimp only [Pt.U, Pt.locs, Pt.cells, Pt.slots] at X32 l32 y32 z32 st32 hQ32
  subst l32 y32 z32
  have f35 := (f28.ext E31)
  have f36 := (f26.ext E31)
  have f37 := (f29.ext E31)
  have f38 := (f24.ext E31)
  obtain ⟨ar_32, kk_32, rfl, N32q, K32, p32_0, p32_1, p32_2⟩ := hQ32
  have g_ar_32 : n0 ≤ ar_32 := Nat.le_trans (Nat.le_trans (Nat.le_trans (Nat.le_trans (Nat.le_trans Z0 E5.1) (Keep.of_wr W15).1) (Keep.of_wr W23).1) E31.1) p32_0
  have sz_ar_32 : h0.size ≤ ar_32 := Nat.le_trans (((((Keep.refl h0 []).ext E5).wr W15 (Or.inr sz_b5)).wr W23 (Or.inr sz_b5)).ext E31).1 p32_0
  have N32 := Fr.app N23 N32q
  have f40 := (A31.keep K32)
  have f41 := (F_levels_b31.keep K32 nin0)
  obtain ⟨_, _, ⟨T39, L39, j39, i39⟩, -, X39, ⟨Lc39, hQ39, l39, y39, z39⟩, st39⟩ := X32.specialBack hx (y := (⟨cS0, "<init>", "([I)V"⟩ : MethodName)) rfl hown (mvT hZ (own_at hw 7 rfl)) (mvT hZ (own_at hw 8 rfl)) (mvT hZ (own_at hw 9 rfl)) (by decide) (backOf (W := 1) (rm2 l Z a0 hw [] b31 ar_32 .null T32.heap n0 (Nat.le_trans (Nat.le_trans (Nat.le_trans (Nat.le_trans (Nat.le_trans Z0 E5.1) (Keep.of_wr W15).1) (Keep.of_wr W23).1) E31.1) K32.1) f40 f41 g_b31) hZ (own_at hw 9 rfl) (own_at hw 2 rfl) (by decide) (by decide)) (g := (mkF m 208 #[rv r0, rv r1, rv ar0, rv ar1, rv b5, iv (((0 : Int32) + (1 : Int32)) + (1 : Int32)), iv ((0 : Int32) + (1 : Int32)), iv ((0 : Int32) + (1 : Int32)), .unset] [(.ref ar_32), (.ref b31), (.ref b31)])) rfl (by rw [hml]; rfl) (Steps.refl _) (a := b31) (argsL := [(.ref ar_32)]) (rest := [(.ref b31)]) (lenOf pd_0 rfl) rfl (by show 2 * 0 + _ ≤ _; exact Nat.le_of_eq rfl) (hb hby d9_208) (fun _ _ => ⟨rfl, rfl, (by decide : 3 + 0 ≤ _), (by decide : 5 + 0 ≤ _)⟩)
  dsimp only [Pt.U, Pt.locs, Pt.cells, Pt.slots] at X39 l39 y39 z39 st39 hQ39
  subst l39 y39 z39
  have f42 := (f35.keep K32)
  have f43 := (f36.keep K32 nin0)
  have f44 := (f37.keep K32)
  have f45 := (f38.keep K32 nin0)
  have f46 := (f34.keep K32)
  obtain ⟨rfl, N39q, K39, p39_0, p39_1⟩ := hQ39
  have pl39 := (allS (P := fun x => ∃ cell : Cell, T32.heap[x]? = some cell ∧ cell.vm.isStatics = false) (own_ns f40) all0)
  have N39 := Fr.app N32 N39q
  have f47 := (p32_1.keep K39 (ninS (Ne.symm (Nat.ne_of_lt (Nat.lt_of_lt_of_le A31.lt p32_0))) nin0))
  have f48 := (p32_2.keep K39)
  obtain ⟨fs, hr, hrun, hended, hW, hsame⟩ := X39.leave (v := some (.ref b31)) (fun h => by rw [Bd.returns] at h; cases h)
  refine ⟨_, _, k0 _ ?_, hrun, hended, _, _, rfl, ?_, ⟨_, rfl⟩, hW, hsame.mono (by decide) (by decide)⟩
  · show OwnS p e below s₁ (mkF m 0 #[rv r0, rv r1, .unset, .unset, .unset, .unset, .unset, .unset, .unset] []) _
    refine XS.aloadN X0.here hx rfl (hb hby d9_0) rfl rfl ?_
    show OwnS p e below s₁ (mkF m 1 #[rv r0, rv r1, .unset, .unset, .unset, .unset, .unset, .unset, .unset] [(.ref r0)]) _
    refine st1 _ ?_
    show OwnS p e below T1 (mkF m 4 #[rv r0, rv r1, .unset, .unset, .unset, .unset, .unset, .unset, .unset] [(.ref ar0)]) _
    refine XS.astoreN X1.here hx rfl (hb hby d9_4) rfl rfl (l' := #[rv r0, rv r1, rv ar0, .unset, .unset, .unset, .unset, .unset, .unset]) rfl ?_
    show OwnS p e below T1 (mkF m 5 #[rv r0, rv r1, rv ar0, .unset, .unset, .unset, .unset, .unset, .unset] []) _
    refine XS.aloadN X1.here hx rfl (hb hby d9_5) rfl rfl ?_
    show OwnS p e below T1 (mkF m 6 #[rv r0, rv r1, rv ar0, .unset, .unset, .unset, .unset, .unset, .unset] [(.ref r1)]) _
    refine st2 _ ?_
    show OwnS p e below T2 (mkF m 9 #[rv r0, rv r1, rv ar0, .unset, .unset, .unset, .unset, .unset, .unset] [(.ref ar1)]) _
    refine XS.astoreN X2.here hx rfl (hb hby d9_9) rfl rfl (l' := #[rv r0, rv r1, rv ar0, rv ar1, .unset, .unset, .unset, .unset, .unset]) rfl ?_
    show OwnS p e below T2 (mkF m 10 #[rv r0, rv r1, rv ar0, rv ar1, .unset, .unset, .unset, .unset, .unset] []) _
    refine XS.aloadN X2.here hx rfl (hb hby d9_10) rfl rfl ?_
    show OwnS p e below T2 (mkF m 11 #[rv r0, rv r1, rv ar0, rv ar1, .unset, .unset, .unset, .unset, .unset] [(.ref ar0)]) _
    refine X2.arraylength hx (by rw [e2]; exact Ar_z3.1) (State.isArrayOf_alike hZ.alike Ar_z3.2.1) (g := (mkF m 11 #[rv r0, rv r1, rv ar0, rv ar1, .unset, .unset, .unset, .unset, .unset] [(.ref ar0)])) rfl rfl (hb hby d9_11) _ ?_
    rw [len_of S_z3 N_z3]
    show OwnS p e below T2 (mkF m 12 #[rv r0, rv r1, rv ar0, rv ar1, .unset, .unset, .unset, .unset, .unset] [(.int 1)]) _
    refine XS.aloadN X2.here hx rfl (hb hby d9_12) rfl rfl ?_
    show OwnS p e below T2 (mkF m 13 #[rv r0, rv r1, rv ar0, rv ar1, .unset, .unset, .unset, .unset, .unset] [(.ref ar1), (.int 1)]) _
    refine X2.arraylength hx (by rw [e2]; exact Ar_z4.1) (State.isArrayOf_alike hZ.alike Ar_z4.2.1) (g := (mkF m 13 #[rv r0, rv r1, rv ar0, rv ar1, .unset, .unset, .unset, .unset, .unset] [(.ref ar1), (.int 1)])) rfl rfl (hb hby d9_13) _ ?_
    rw [len_of S_z4 N_z4]
    show OwnS p e below T2 (mkF m 14 #[rv r0, rv r1, rv ar0, rv ar1, .unset, .unset, .unset, .unset, .unset] [(.int 1), (.int 1)]) _
    refine XS.iadd X2.here hx rfl (hb hby d9_14) rfl ?_
    show OwnS p e below T2 (mkF m 15 #[rv r0, rv r1, rv ar0, rv ar1, .unset, .unset, .unset, .unset, .unset] [(.int 2)]) _
    refine st5 _ ?_
    show OwnS p e below T5 (mkF m 17 #[rv r0, rv r1, rv ar0, rv ar1, .unset, .unset, .unset, .unset, .unset] [(.ref b5)]) _
    refine XS.astore X5.here hx rfl (hb hby d9_17) rfl rfl (l' := #[rv r0, rv r1, rv ar0, rv ar1, rv b5, .unset, .unset, .unset, .unset]) rfl ?_
    show OwnS p e below T5 (mkF m 19 #[rv r0, rv r1, rv ar0, rv ar1, rv b5, .unset, .unset, .unset, .unset] []) _
    refine XS.iconst X5.here hx rfl (hb hby d9_19) ?_
    show OwnS p e below T5 (mkF m 20 #[rv r0, rv r1, rv ar0, rv ar1, rv b5, .unset, .unset, .unset, .unset] [(.int 0)]) _
    refine XS.istore X5.here hx rfl (hb hby d9_20) rfl (l' := #[rv r0, rv r1, rv ar0, rv ar1, rv b5, iv 0, .unset, .unset, .unset]) rfl ?_
    show OwnS p e below T5 (mkF m 22 #[rv r0, rv r1, rv ar0, rv ar1, rv b5, iv 0, .unset, .unset, .unset] []) _
    refine XS.iconst X5.here hx rfl (hb hby d9_22) ?_
    show OwnS p e below T5 (mkF m 23 #[rv r0, rv r1, rv ar0, rv ar1, rv b5, iv 0, .unset, .unset, .unset] [(.int 0)]) _
    refine XS.istore X5.here hx rfl (hb hby d9_23) rfl (l' := #[rv r0, rv r1, rv ar0, rv ar1, rv b5, iv 0, iv 0, .unset, .unset]) rfl ?_
    show OwnS p e below T5 (mkF m 25 #[rv r0, rv r1, rv ar0, rv ar1, rv b5, iv 0, iv 0, .unset, .unset] []) _
    refine XS.iconst X5.here hx rfl (hb hby d9_25) ?_
    show OwnS p e below T5 (mkF m 26 #[rv r0, rv r1, rv ar0, rv ar1, rv b5, iv 0, iv 0, .unset, .unset] [(.int 0)]) _
    refine XS.istore X5.here hx rfl (hb hby d9_26) rfl (l' := #[rv r0, rv r1, rv ar0, rv ar1, rv b5, iv 0, iv 0, iv 0, .unset]) rfl ?_
    show OwnS p e below T5 (mkF m 28 #[rv r0, rv r1, rv ar0, rv ar1, rv b5, iv 0, iv 0, iv 0, .unset] []) _
    refine XS.iload X5.here hx rfl (hb hby d9_28) rfl ?_
    show OwnS p e below T5 (mkF m 30 #[rv r0, rv r1, rv ar0, rv ar1, rv b5, iv 0, iv 0, iv 0, .unset] [(.int 0)]) _
    refine XS.aloadN X5.here hx rfl (hb hby d9_30) rfl rfl ?_
    show OwnS p e below T5 (mkF m 31 #[rv r0, rv r1, rv ar0, rv ar1, rv b5, iv 0, iv 0, iv 0, .unset] [(.ref ar0), (.int 0)]) _
    refine X5.arraylength hx (by rw [e5]; exact Ar_z7.1) (State.isArrayOf_alike hZ.alike Ar_z7.2.1) (g := (mkF m 31 #[rv r0, rv r1, rv ar0, rv ar1, rv b5, iv 0, iv 0, iv 0, .unset] [(.ref ar0), (.int 0)])) rfl rfl (hb hby d9_31) _ ?_
    rw [len_of S_z7 N_z7]
    show OwnS p e below T5 (mkF m 32 #[rv r0, rv r1, rv ar0, rv ar1, rv b5, iv 0, iv 0, iv 0, .unset] [(.int 1), (.int 0)]) _
    refine XS.icmpNo X5.here hx rfl (hb hby d9_32) rfl (tlt (by decide : (0 : Int32) < (1 : Int32))).2.1 ?_
    show OwnS p e below T5 (mkF m 35 #[rv r0, rv r1, rv ar0, rv ar1, rv b5, iv 0, iv 0, iv 0, .unset] []) _
    refine XS.iload X5.here hx rfl (hb hby d9_35) rfl ?_
    show OwnS p e below T5 (mkF m 37 #[rv r0, rv r1, rv ar0, rv ar1, rv b5, iv 0, iv 0, iv 0, .unset] [(.int 0)]) _
    refine XS.aloadN X5.here hx rfl (hb hby d9_37) rfl rfl ?_
    show OwnS p e below T5 (mkF m 38 #[rv r0, rv r1, rv ar0, rv ar1, rv b5, iv 0, iv 0, iv 0, .unset] [(.ref ar1), (.int 0)]) _
    refine X5.arraylength hx (by rw [e5]; exact Ar_z9.1) (State.isArrayOf_alike hZ.alike Ar_z9.2.1) (g := (mkF m 38 #[rv r0, rv r1, rv ar0, rv ar1, rv b5, iv 0, iv 0, iv 0, .unset] [(.ref ar1), (.int 0)])) rfl rfl (hb hby d9_38) _ ?_
    rw [len_of S_z9 N_z9]
    show OwnS p e below T5 (mkF m 39 #[rv r0, rv r1, rv ar0, rv ar1, rv b5, iv 0, iv 0, iv 0, .unset] [(.int 1), (.int 0)]) _
    refine XS.icmpNo X5.here hx rfl (hb hby d9_39) rfl (tlt (by decide : (0 : Int32) < (1 : Int32))).2.1 ?_
    show OwnS p e below T5 (mkF m 42 #[rv r0, rv r1, rv ar0, rv ar1, rv b5, iv 0, iv 0, iv 0, .unset] []) _
    refine XS.aloadN X5.here hx rfl (hb hby d9_42) rfl rfl ?_
    show OwnS p e below T5 (mkF m 43 #[rv r0, rv r1, rv ar0, rv ar1, rv b5, iv 0, iv 0, iv 0, .unset] [(.ref ar0)]) _
    refine XS.iload X5.here hx rfl (hb hby d9_43) rfl ?_
    show OwnS p e below T5 (mkF m 45 #[rv r0, rv r1, rv ar0, rv ar1, rv b5, iv 0, iv 0, iv 0, .unset] [(.int 0), (.ref ar0)]) _
    refine X5.iaload hx (j := (0 : Int32)) (v := (.int x0)) (by rw [e5]; exact Ar_z7.1) (State.isArrayOf_alike hZ.alike Ar_z7.2.1) Ar_z7.2.2 hin10 (Has.at H_z7 hin10 rfl) (g := (mkF m 45 #[rv r0, rv r1, rv ar0, rv ar1, rv b5, iv 0, iv 0, iv 0, .unset] [(.int 0), (.ref ar0)])) rfl rfl (hb hby d9_45) _ ?_
    show OwnS p e below T5 (mkF m 46 #[rv r0, rv r1, rv ar0, rv ar1, rv b5, iv 0, iv 0, iv 0, .unset] [(.int x0)]) _
    refine XS.aloadN X5.here hx rfl (hb hby d9_46) rfl rfl ?_
    show OwnS p e below T5 (mkF m 47 #[rv r0, rv r1, rv ar0, rv ar1, rv b5, iv 0, iv 0, iv 0, .unset] [(.ref ar1), (.int x0)]) _
    refine XS.iload X5.here hx rfl (hb hby d9_47) rfl ?_
    show OwnS p e below T5 (mkF m 49 #[rv r0, rv r1, rv ar0, rv ar1, rv b5, iv 0, iv 0, iv 0, .unset] [(.int 0), (.ref ar1), (.int x0)]) _
    refine X5.iaload hx (j := (0 : Int32)) (v := (.int x1)) (by rw [e5]; exact Ar_z9.1) (State.isArrayOf_alike hZ.alike Ar_z9.2.1) Ar_z9.2.2 hin11 (Has.at H_z9 hin11 rfl) (g := (mkF m 49 #[rv r0, rv r1, rv ar0, rv ar1, rv b5, iv 0, iv 0, iv 0, .unset] [(.int 0), (.ref ar1), (.int x0)])) rfl rfl (hb hby d9_49) _ ?_
    show OwnS p e below T5 (mkF m 50 #[rv r0, rv r1, rv ar0, rv ar1, rv b5, iv 0, iv 0, iv 0, .unset] [(.int x1), (.int x0)]) _
    refine XS.icmpNo X5.here hx rfl (hb hby d9_50) rfl (tlt hlt).2.1 ?_
    show OwnS p e below T5 (mkF m 53 #[rv r0, rv r1, rv ar0, rv ar1, rv b5, iv 0, iv 0, iv 0, .unset] []) _
    refine XS.aload X5.here hx rfl (hb hby d9_53) rfl rfl ?_
    show OwnS p e below T5 (mkF m 55 #[rv r0, rv r1, rv ar0, rv ar1, rv b5, iv 0, iv 0, iv 0, .unset] [(.ref b5)]) _
    refine XS.iload X5.here hx rfl (hb hby d9_55) rfl ?_
    show OwnS p e below T5 (mkF m 57 #[rv r0, rv r1, rv ar0, rv ar1, rv b5, iv 0, iv 0, iv 0, .unset] [(.int 0), (.ref b5)]) _
    refine XS.iinc X5.here hx rfl (hb hby d9_57) rfl (l' := #[rv r0, rv r1, rv ar0, rv ar1, rv b5, iv ((0 : Int32) + (1 : Int32)), iv 0, iv 0, .unset]) rfl ?_
    show OwnS p e below T5 (mkF m 60 #[rv r0, rv r1, rv ar0, rv ar1, rv b5, iv ((0 : Int32) + (1 : Int32)), iv 0, iv 0, .unset] [(.int 0), (.ref b5)]) _
    refine XS.aloadN X5.here hx rfl (hb hby d9_60) rfl rfl ?_
    show OwnS p e below T5 (mkF m 61 #[rv r0, rv r1, rv ar0, rv ar1, rv b5, iv ((0 : Int32) + (1 : Int32)), iv 0, iv 0, .unset] [(.ref ar0), (.int 0), (.ref b5)]) _
    refine XS.iload X5.here hx rfl (hb hby d9_61) rfl ?_
    show OwnS p e below T5 (mkF m 63 #[rv r0, rv r1, rv ar0, rv ar1, rv b5, iv ((0 : Int32) + (1 : Int32)), iv 0, iv 0, .unset] [(.int 0), (.ref ar0), (.int 0), (.ref b5)]) _
    refine XS.iinc X5.here hx rfl (hb hby d9_63) rfl (l' := #[rv r0, rv r1, rv ar0, rv ar1, rv b5, iv ((0 : Int32) + (1 : Int32)), iv ((0 : Int32) + (1 : Int32)), iv 0, .unset]) rfl ?_
    show OwnS p e below T5 (mkF m 66 #[rv r0, rv r1, rv ar0, rv ar1, rv b5, iv ((0 : Int32) + (1 : Int32)), iv ((0 : Int32) + (1 : Int32)), iv 0, .unset] [(.int 0), (.ref ar0), (.int 0), (.ref b5)]) _
    refine X5.iaload hx (j := (0 : Int32)) (v := (.int x0)) (by rw [e5]; exact Ar_z7.1) (State.isArrayOf_alike hZ.alike Ar_z7.2.1) Ar_z7.2.2 hin12 (Has.at H_z7 hin12 rfl) (g := (mkF m 66 #[rv r0, rv r1, rv ar0, rv ar1, rv b5, iv ((0 : Int32) + (1 : Int32)), iv ((0 : Int32) + (1 : Int32)), iv 0, .unset] [(.int 0), (.ref ar0), (.int 0), (.ref b5)])) rfl rfl (hb hby d9_66) _ ?_
    show OwnS p e below T5 (mkF m 67 #[rv r0, rv r1, rv ar0, rv ar1, rv b5, iv ((0 : Int32) + (1 : Int32)), iv ((0 : Int32) + (1 : Int32)), iv 0, .unset] [(.int x0), (.int 0), (.ref b5)]) _
    refine st15 _ ?_
    show OwnS p e below T15 (mkF m 68 #[rv r0, rv r1, rv ar0, rv ar1, rv b5, iv ((0 : Int32) + (1 : Int32)), iv ((0 : Int32) + (1 : Int32)), iv 0, .unset] []) _
    refine XS.goto X15.here hx rfl (pc0 := 68) (pc' := 28) rfl (hb hby d9_68) (by decide) (by decide) ?_
    show OwnS p e below T15 (mkF m 28 #[rv r0, rv r1, rv ar0, rv ar1, rv b5, iv ((0 : Int32) + (1 : Int32)), iv ((0 : Int32) + (1 : Int32)), iv 0, .unset] []) _
    refine XS.iload X15.here hx rfl (hb hby d9_28) rfl ?_
    show OwnS p e below T15 (mkF m 30 #[rv r0, rv r1, rv ar0, rv ar1, rv b5, iv ((0 : Int32) + (1 : Int32)), iv ((0 : Int32) + (1 : Int32)), iv 0, .unset] [(.int 1)]) _
    refine XS.aloadN X15.here hx rfl (hb hby d9_30) rfl rfl ?_
    show OwnS p e below T15 (mkF m 31 #[rv r0, rv r1, rv ar0, rv ar1, rv b5, iv ((0 : Int32) + (1 : Int32)), iv ((0 : Int32) + (1 : Int32)), iv 0, .unset] [(.ref ar0), (.int 1)]) _
    refine X15.arraylength hx (by rw [e15]; exact Ar_z17.1) (State.isArrayOf_alike hZ.alike Ar_z17.2.1) (g := (mkF m 31 #[rv r0, rv r1, rv ar0, rv ar1, rv b5, iv ((0 : Int32) + (1 : Int32)), iv ((0 : Int32) + (1 : Int32)), iv 0, .unset] [(.ref ar0), (.int 1)])) rfl rfl (hb hby d9_31) _ ?_
    rw [len_of S_z17 N_z17]
    show OwnS p e below T15 (mkF m 32 #[rv r0, rv r1, rv ar0, rv ar1, rv b5, iv ((0 : Int32) + (1 : Int32)), iv ((0 : Int32) + (1 : Int32)), iv 0, .unset] [(.int 1), (.int 1)]) _
    refine XS.icmpYes X15.here hx rfl (pc0 := 32) (pc' := 121) rfl (hb hby d9_32) rfl (flt (by decide : ¬ ((1 : Int32) < (1 : Int32)))).2.1 (by decide) (by decide) ?_
    show OwnS p e below T15 (mkF m 121 #[rv r0, rv r1, rv ar0, rv ar1, rv b5, iv ((0 : Int32) + (1 : Int32)), iv ((0 : Int32) + (1 : Int32)), iv 0, .unset] []) _
    refine XS.iload X15.here hx rfl (hb hby d9_121) rfl ?_
    show OwnS p e below T15 (mkF m 123 #[rv r0, rv r1, rv ar0, rv ar1, rv b5, iv ((0 : Int32) + (1 : Int32)), iv ((0 : Int32) + (1 : Int32)), iv 0, .unset] [(.int 1)]) _
    refine XS.aloadN X15.here hx rfl (hb hby d9_123) rfl rfl ?_
    show OwnS p e below T15 (mkF m 124 #[rv r0, rv r1, rv ar0, rv ar1, rv b5, iv ((0 : Int32) + (1 : Int32)), iv ((0 : Int32) + (1 : Int32)), iv 0, .unset] [(.ref ar0), (.int 1)]) _
    refine X15.arraylength hx (by rw [e15]; exact Ar_z17.1) (State.isArrayOf_alike hZ.alike Ar_z17.2.1) (g := (mkF m 124 #[rv r0, rv r1, rv ar0, rv ar1, rv b5, iv ((0 : Int32) + (1 : Int32)), iv ((0 : Int32) + (1 : Int32)), iv 0, .unset] [(.ref ar0), (.int 1)])) rfl rfl (hb hby d9_124) _ ?_
    rw [len_of S_z17 N_z17]
    show OwnS p e below T15 (mkF m 125 #[rv r0, rv r1, rv ar0, rv ar1, rv b5, iv ((0 : Int32) + (1 : Int32)), iv ((0 : Int32) + (1 : Int32)), iv 0, .unset] [(.int 1), (.int 1)]) _
    refine XS.icmpYes X15.here hx rfl (pc0 := 125) (pc' := 146) rfl (hb hby d9_125) rfl (flt (by decide : ¬ ((1 : Int32) < (1 : Int32)))).2.1 (by decide) (by decide) ?_
    show OwnS p e below T15 (mkF m 146 #[rv r0, rv r1, rv ar0, rv ar1, rv b5, iv ((0 : Int32) + (1 : Int32)), iv ((0 : Int32) + (1 : Int32)), iv 0, .unset] []) _
    refine XS.iload X15.here hx rfl (hb hby d9_146) rfl ?_
    show OwnS p e below T15 (mkF m 148 #[rv r0, rv r1, rv ar0, rv ar1, rv b5, iv ((0 : Int32) + (1 : Int32)), iv ((0 : Int32) + (1 : Int32)), iv 0, .unset] [(.int 0)]) _
    refine XS.aloadN X15.here hx rfl (hb hby d9_148) rfl rfl ?_
    show OwnS p e below T15 (mkF m 149 #[rv r0, rv r1, rv ar0, rv ar1, rv b5, iv ((0 : Int32) + (1 : Int32)), iv ((0 : Int32) + (1 : Int32)), iv 0, .unset] [(.ref ar1), (.int 0)]) _
    refine X15.arraylength hx (by rw [e15]; exact Ar_z19.1) (State.isArrayOf_alike hZ.alike Ar_z19.2.1) (g := (mkF m 149 #[rv r0, rv r1, rv ar0, rv ar1, rv b5, iv ((0 : Int32) + (1 : Int32)), iv ((0 : Int32) + (1 : Int32)), iv 0, .unset] [(.ref ar1), (.int 0)])) rfl rfl (hb hby d9_149) _ ?_
    rw [len_of S_z19 N_z19]
    show OwnS p e below T15 (mkF m 150 #[rv r0, rv r1, rv ar0, rv ar1, rv b5, iv ((0 : Int32) + (1 : Int32)), iv ((0 : Int32) + (1 : Int32)), iv 0, .unset] [(.int 1), (.int 0)]) _
    refine XS.icmpNo X15.here hx rfl (hb hby d9_150) rfl (tlt (by decide : (0 : Int32) < (1 : Int32))).2.1 ?_
    show OwnS p e below T15 (mkF m 153 #[rv r0, rv r1, rv ar0, rv ar1, rv b5, iv ((0 : Int32) + (1 : Int32)), iv ((0 : Int32) + (1 : Int32)), iv 0, .unset] []) _
    refine XS.aload X15.here hx rfl (hb hby d9_153) rfl rfl ?_
    show OwnS p e below T15 (mkF m 155 #[rv r0, rv r1, rv ar0, rv ar1, rv b5, iv ((0 : Int32) + (1 : Int32)), iv ((0 : Int32) + (1 : Int32)), iv 0, .unset] [(.ref b5)]) _
    refine XS.iload X15.here hx rfl (hb hby d9_155) rfl ?_
    show OwnS p e below T15 (mkF m 157 #[rv r0, rv r1, rv ar0, rv ar1, rv b5, iv ((0 : Int32) + (1 : Int32)), iv ((0 : Int32) + (1 : Int32)), iv 0, .unset] [(.int 1), (.ref b5)]) _
    refine XS.iinc X15.here hx rfl (hb hby d9_157) rfl (l' := #[rv r0, rv r1, rv ar0, rv ar1, rv b5, iv (((0 : Int32) + (1 : Int32)) + (1 : Int32)), iv ((0 : Int32) + (1 : Int32)), iv 0, .unset]) rfl ?_
    show OwnS p e below T15 (mkF m 160 #[rv r0, rv r1, rv ar0, rv ar1, rv b5, iv (((0 : Int32) + (1 : Int32)) + (1 : Int32)), iv ((0 : Int32) + (1 : Int32)), iv 0, .unset] [(.int 1), (.ref b5)]) _
    refine XS.aloadN X15.here hx rfl (hb hby d9_160) rfl rfl ?_
    show OwnS p e below T15 (mkF m 161 #[rv r0, rv r1, rv ar0, rv ar1, rv b5, iv (((0 : Int32) + (1 : Int32)) + (1 : Int32)), iv ((0 : Int32) + (1 : Int32)), iv 0, .unset] [(.ref ar1), (.int 1), (.ref b5)]) _
    refine XS.iload X15.here hx rfl (hb hby d9_161) rfl ?_
    show OwnS p e below T15 (mkF m 163 #[rv r0, rv r1, rv ar0, rv ar1, rv b5, iv (((0 : Int32) + (1 : Int32)) + (1 : Int32)), iv ((0 : Int32) + (1 : Int32)), iv 0, .unset] [(.int 0), (.ref ar1), (.int 1), (.ref b5)]) _
    refine XS.iinc X15.here hx rfl (hb hby d9_163) rfl (l' := #[rv r0, rv r1, rv ar0, rv ar1, rv b5, iv (((0 : Int32) + (1 : Int32)) + (1 : Int32)), iv ((0 : Int32) + (1 : Int32)), iv ((0 : Int32) + (1 : Int32)), .unset]) rfl ?_
    show OwnS p e below T15 (mkF m 166 #[rv r0, rv r1, rv ar0, rv ar1, rv b5, iv (((0 : Int32) + (1 : Int32)) + (1 : Int32)), iv ((0 : Int32) + (1 : Int32)), iv ((0 : Int32) + (1 : Int32)), .unset] [(.int 0), (.ref ar1), (.int 1), (.ref b5)]) _
    refine X15.iaload hx (j := (0 : Int32)) (v := (.int x1)) (by rw [e15]; exact Ar_z19.1) (State.isArrayOf_alike hZ.alike Ar_z19.2.1) Ar_z19.2.2 hin20 (Has.at H_z19 hin20 rfl) (g := (mkF m 166 #[rv r0, rv r1, rv ar0, rv ar1, rv b5, iv (((0 : Int32) + (1 : Int32)) + (1 : Int32)), iv ((0 : Int32) + (1 : Int32)), iv ((0 : Int32) + (1 : Int32)), .unset] [(.int 0), (.ref ar1), (.int 1), (.ref b5)])) rfl rfl (hb hby d9_166) _ ?_
    show OwnS p e below T15 (mkF m 167 #[rv r0, rv r1, rv ar0, rv ar1, rv b5, iv (((0 : Int32) + (1 : Int32)) + (1 : Int32)), iv ((0 : Int32) + (1 : Int32)), iv ((0 : Int32) + (1 : Int32)), .unset] [(.int x1), (.int 1), (.ref b5)]) _
    refine st23 _ ?_
    show OwnS p e below T23 (mkF m 168 #[rv r0, rv r1, rv ar0, rv ar1, rv b5, iv (((0 : Int32) + (1 : Int32)) + (1 : Int32)), iv ((0 : Int32) + (1 : Int32)), iv ((0 : Int32) + (1 : Int32)), .unset] []) _
    refine XS.goto X23.here hx rfl (pc0 := 168) (pc' := 146) rfl (hb hby d9_168) (by decide) (by decide) ?_
    show OwnS p e below T23 (mkF m 146 #[rv r0, rv r1, rv ar0, rv ar1, rv b5, iv (((0 : Int32) + (1 : Int32)) + (1 : Int32)), iv ((0 : Int32) + (1 : Int32)), iv ((0 : Int32) + (1 : Int32)), .unset] []) _
    refine XS.iload X23.here hx rfl (hb hby d9_146) rfl ?_
    show OwnS p e below T23 (mkF m 148 #[rv r0, rv r1, rv ar0, rv ar1, rv b5, iv (((0 : Int32) + (1 : Int32)) + (1 : Int32)), iv ((0 : Int32) + (1 : Int32)), iv ((0 : Int32) + (1 : Int32)), .unset] [(.int 1)]) _
    refine XS.aloadN X23.here hx rfl (hb hby d9_148) rfl rfl ?_
    show OwnS p e below T23 (mkF m 149 #[rv r0, rv r1, rv ar0, rv ar1, rv b5, iv (((0 : Int32) + (1 : Int32)) + (1 : Int32)), iv ((0 : Int32) + (1 : Int32)), iv ((0 : Int32) + (1 : Int32)), .unset] [(.ref ar1), (.int 1)]) _
    refine X23.arraylength hx (by rw [e23]; exact Ar_z25.1) (State.isArrayOf_alike hZ.alike Ar_z25.2.1) (g := (mkF m 149 #[rv r0, rv r1, rv ar0, rv ar1, rv b5, iv (((0 : Int32) + (1 : Int32)) + (1 : Int32)), iv ((0 : Int32) + (1 : Int32)), iv ((0 : Int32) + (1 : Int32)), .unset] [(.ref ar1), (.int 1)])) rfl rfl (hb hby d9_149) _ ?_
    rw [len_of S_z25 N_z25]
    show OwnS p e below T23 (mkF m 150 #[rv r0, rv r1, rv ar0, rv ar1, rv b5, iv (((0 : Int32) + (1 : Int32)) + (1 : Int32)), iv ((0 : Int32) + (1 : Int32)), iv ((0 : Int32) + (1 : Int32)), .unset] [(.int 1), (.int 1)]) _
    refine XS.icmpYes X23.here hx rfl (pc0 := 150) (pc' := 171) rfl (hb hby d9_150) rfl (flt (by decide : ¬ ((1 : Int32) < (1 : Int32)))).2.1 (by decide) (by decide) ?_
    show OwnS p e below T23 (mkF m 171 #[rv r0, rv r1, rv ar0, rv ar1, rv b5, iv (((0 : Int32) + (1 : Int32)) + (1 : Int32)), iv ((0 : Int32) + (1 : Int32)), iv ((0 : Int32) + (1 : Int32)), .unset] []) _
    refine XS.iload X23.here hx rfl (hb hby d9_171) rfl ?_
    show OwnS p e below T23 (mkF m 173 #[rv r0, rv r1, rv ar0, rv ar1, rv b5, iv (((0 : Int32) + (1 : Int32)) + (1 : Int32)), iv ((0 : Int32) + (1 : Int32)), iv ((0 : Int32) + (1 : Int32)), .unset] [(.int 2)]) _
    refine XS.aloadN X23.here hx rfl (hb hby d9_173) rfl rfl ?_
    show OwnS p e below T23 (mkF m 174 #[rv r0, rv r1, rv ar0, rv ar1, rv b5, iv (((0 : Int32) + (1 : Int32)) + (1 : Int32)), iv ((0 : Int32) + (1 : Int32)), iv ((0 : Int32) + (1 : Int32)), .unset] [(.ref ar0), (.int 2)]) _
    refine X23.arraylength hx (by rw [e23]; exact Ar_z27.1) (State.isArrayOf_alike hZ.alike Ar_z27.2.1) (g := (mkF m 174 #[rv r0, rv r1, rv ar0, rv ar1, rv b5, iv (((0 : Int32) + (1 : Int32)) + (1 : Int32)), iv ((0 : Int32) + (1 : Int32)), iv ((0 : Int32) + (1 : Int32)), .unset] [(.ref ar0), (.int 2)])) rfl rfl (hb hby d9_174) _ ?_
    rw [len_of S_z27 N_z27]
    show OwnS p e below T23 (mkF m 175 #[rv r0, rv r1, rv ar0, rv ar1, rv b5, iv (((0 : Int32) + (1 : Int32)) + (1 : Int32)), iv ((0 : Int32) + (1 : Int32)), iv ((0 : Int32) + (1 : Int32)), .unset] [(.int 1), (.int 2)]) _
    refine XS.icmpYes X23.here hx rfl (pc0 := 175) (pc' := 184) rfl (hb hby d9_175) rfl (feq (by decide : ¬ ((2 : Int32) = (1 : Int32)))).2 (by decide) (by decide) ?_
    show OwnS p e below T23 (mkF m 184 #[rv r0, rv r1, rv ar0, rv ar1, rv b5, iv (((0 : Int32) + (1 : Int32)) + (1 : Int32)), iv ((0 : Int32) + (1 : Int32)), iv ((0 : Int32) + (1 : Int32)), .unset] []) _
    refine XS.iload X23.here hx rfl (hb hby d9_184) rfl ?_
    show OwnS p e below T23 (mkF m 186 #[rv r0, rv r1, rv ar0, rv ar1, rv b5, iv (((0 : Int32) + (1 : Int32)) + (1 : Int32)), iv ((0 : Int32) + (1 : Int32)), iv ((0 : Int32) + (1 : Int32)), .unset] [(.int 2)]) _
    refine XS.aloadN X23.here hx rfl (hb hby d9_186) rfl rfl ?_
    show OwnS p e below T23 (mkF m 187 #[rv r0, rv r1, rv ar0, rv ar1, rv b5, iv (((0 : Int32) + (1 : Int32)) + (1 : Int32)), iv ((0 : Int32) + (1 : Int32)), iv ((0 : Int32) + (1 : Int32)), .unset] [(.ref ar1), (.int 2)]) _
    refine X23.arraylength hx (by rw [e23]; exact Ar_z25.1) (State.isArrayOf_alike hZ.alike Ar_z25.2.1) (g := (mkF m 187 #[rv r0, rv r1, rv ar0, rv ar1, rv b5, iv (((0 : Int32) + (1 : Int32)) + (1 : Int32)), iv ((0 : Int32) + (1 : Int32)), iv ((0 : Int32) + (1 : Int32)), .unset] [(.ref ar1), (.int 2)])) rfl rfl (hb hby d9_187) _ ?_
    rw [len_of S_z25 N_z25]
    show OwnS p e below T23 (mkF m 188 #[rv r0, rv r1, rv ar0, rv ar1, rv b5, iv (((0 : Int32) + (1 : Int32)) + (1 : Int32)), iv ((0 : Int32) + (1 : Int32)), iv ((0 : Int32) + (1 : Int32)), .unset] [(.int 1), (.int 2)]) _
    refine XS.icmpYes X23.here hx rfl (pc0 := 188) (pc' := 197) rfl (hb hby d9_188) rfl (feq (by decide : ¬ ((2 : Int32) = (1 : Int32)))).2 (by decide) (by decide) ?_
    show OwnS p e below T23 (mkF m 197 #[rv r0, rv r1, rv ar0, rv ar1, rv b5, iv (((0 : Int32) + (1 : Int32)) + (1 : Int32)), iv ((0 : Int32) + (1 : Int32)), iv ((0 : Int32) + (1 : Int32)), .unset] []) _
    refine st31 _ ?_
    show OwnS p e below T31 (mkF m 200 #[rv r0, rv r1, rv ar0, rv ar1, rv b5, iv (((0 : Int32) + (1 : Int32)) + (1 : Int32)), iv ((0 : Int32) + (1 : Int32)), iv ((0 : Int32) + (1 : Int32)), .unset] [(.ref b31)]) _
    refine XS.dup X31.here hx rfl (hb hby d9_200) rfl rfl ?_
    show OwnS p e below T31 (mkF m 201 #[rv r0, rv r1, rv ar0, rv ar1, rv b5, iv (((0 : Int32) + (1 : Int32)) + (1 : Int32)), iv ((0 : Int32) + (1 : Int32)), iv ((0 : Int32) + (1 : Int32)), .unset] [(.ref b31), (.ref b31)]) _
    refine XS.aload X31.here hx rfl (hb hby d9_201) rfl rfl ?_
    show OwnS p e below T31 (mkF m 203 #[rv r0, rv r1, rv ar0, rv ar1, rv b5, iv (((0 : Int32) + (1 : Int32)) + (1 : Int32)), iv ((0 : Int32) + (1 : Int32)), iv ((0 : Int32) + (1 : Int32)), .unset] [(.ref b5), (.ref b31), (.ref b31)]) _
    refine XS.iload X31.here hx rfl (hb hby d9_203) rfl ?_
    show OwnS p e below T31 (mkF m 205 #[rv r0, rv r1, rv ar0, rv ar1, rv b5, iv (((0 : Int32) + (1 : Int32)) + (1 : Int32)), iv ((0 : Int32) + (1 : Int32)), iv ((0 : Int32) + (1 : Int32)), .unset] [(.int 2), (.ref b5), (.ref b31), (.ref b31)]) _
    refine st32 _ ?_
    show OwnS p e below T32 (mkF m 208 #[rv r0, rv r1, rv ar0, rv ar1, rv b5, iv (((0 : Int32) + (1 : Int32)) + (1 : Int32)), iv ((0 : Int32) + (1 : Int32)), iv ((0 : Int32) + (1 : Int32)), .unset] [(.ref ar_32), (.ref b31), (.ref b31)]) _
    refine st39.trans ?_
    show OwnS p e below T39 (mkF m 211 #[rv r0, rv r1, rv ar0, rv ar1, rv b5, iv (((0 : Int32) + (1 : Int32)) + (1 : Int32)), iv ((0 : Int32) + (1 : Int32)), iv ((0 : Int32) + (1 : Int32)), .unset] [(.ref b31)]) _
    refine XS.astore X39.here hx rfl (hb hby d9_211) rfl rfl (l' := #[rv r0, rv r1, rv ar0, rv ar1, rv b5, iv (((0 : Int32) + (1 : Int32)) + (1 : Int32)), iv ((0 : Int32) + (1 : Int32)), iv ((0 : Int32) + (1 : Int32)), rv b31]) rfl ?_
    show OwnS p e below T39 (mkF m 213 #[rv r0, rv r1, rv ar0, rv ar1, rv b5, iv (((0 : Int32) + (1 : Int32)) + (1 : Int32)), iv ((0 : Int32) + (1 : Int32)), iv ((0 : Int32) + (1 : Int32)), rv b31] []) _
    refine XS.aload X39.here hx rfl (hb hby d9_213) rfl rfl ?_
    show OwnS p e below T39 (mkF m 215 #[rv r0, rv r1, rv ar0, rv ar1, rv b5, iv (((0 : Int32) + (1 : Int32)) + (1 : Int32)), iv ((0 : Int32) + (1 : Int32)), iv ((0 : Int32) + (1 : Int32)), rv b31] [(.ref b31)]) _
    jvm_step X39.here [X39.here.top, hx, (hb hby d9_215), X39.method', Bd.returns, Value.isRef, FieldType.isReference]
    first | (intro acts; rw [hr _ acts rfl rfl rfl]) | rw [hr _ _ rfl rfl rfl]
    exact Steps.refl _
  · show Q_9_lt Z r0 r1 ar0 k0c ar1 k1c x0 x1 h0 n0 _ T39.heap _
    exact ⟨b31, ar_32, kk_32, rfl, N39, (((((((Keep.refl h0 []).ext E5).wr W15 (Or.inr sz_b5)).wr W23 (Or.inr sz_b5)).ext E31).trans K32 all0).trans K39 (allS (Or.inr sz_b31) all0)), sz_b31, sz_ar_32, (Nat.ne_of_lt (Nat.lt_of_lt_of_le A31.lt p32_0)), p39_0, p39_1, f47, f48⟩
theorem d9_71 : decode prog_21_method_3_code 71 = .ok (.aload_n 2, 1) := by decide +kernel
theorem d9_72 : decode prog_21_method_3_code 72 = .ok (.iload 6, 2) := by decide +kernel
theorem d9_74 : decode prog_21_method_3_code 74 = .ok (.iaload, 1) := by decide +kernel
theorem d9_75 : decode prog_21_method_3_code 75 = .ok (.aload_n 3, 1) := by decide +kernel
theorem d9_76 : decode prog_21_method_3_code 76 = .ok (.iload 7, 2) := by decide +kernel
theorem d9_78 : decode prog_21_method_3_code 78 = .ok (.iaload, 1) := by decide +kernel
theorem d9_79 : decode prog_21_method_3_code 79 = .ok (.if_icmp .le 21, 3) := by decide +kernel
theorem d9_82 : decode prog_21_method_3_code 82 = .ok (.aload 4, 2) := by decide +kernel
theorem d9_84 : decode prog_21_method_3_code 84 = .ok (.iload 5, 2) := by decide +kernel
theorem d9_86 : decode prog_21_method_3_code 86 = .ok (.iinc 5 1, 3) := by decide +kernel
theorem d9_89 : decode prog_21_method_3_code 89 = .ok (.aload_n 3, 1) := by decide +kernel
theorem d9_90 : decode prog_21_method_3_code 90 = .ok (.iload 7, 2) := by decide +kernel
theorem d9_92 : decode prog_21_method_3_code 92 = .ok (.iinc 7 1, 3) := by decide +kernel
theorem d9_95 : decode prog_21_method_3_code 95 = .ok (.iaload, 1) := by decide +kernel
theorem d9_96 : decode prog_21_method_3_code 96 = .ok (.iastore, 1) := by decide +kernel
theorem d9_97 : decode prog_21_method_3_code 97 = .ok (.goto (-69), 3) := by decide +kernel
theorem d9_128 : decode prog_21_method_3_code 128 = .ok (.aload 4, 2) := by decide +kernel
theorem d9_130 : decode prog_21_method_3_code 130 = .ok (.iload 5, 2) := by decide +kernel
theorem d9_132 : decode prog_21_method_3_code 132 = .ok (.iinc 5 1, 3) := by decide +kernel
theorem d9_135 : decode prog_21_method_3_code 135 = .ok (.aload_n 2, 1) := by decide +kernel
theorem d9_136 : decode prog_21_method_3_code 136 = .ok (.iload 6, 2) := by decide +kernel
theorem d9_138 : decode prog_21_method_3_code 138 = .ok (.iinc 6 1, 3) := by decide +kernel
theorem d9_141 : decode prog_21_method_3_code 141 = .ok (.iaload, 1) := by decide +kernel
theorem d9_142 : decode prog_21_method_3_code 142 = .ok (.iastore, 1) := by decide +kernel
theorem d9_143 : decode prog_21_method_3_code 143 = .ok (.goto (-22), 3) := by decide +kernel
def Q_9_gt (Z : State) (r0 : Addr) (r1 : Addr) (ar0 : Addr) (k0c : ClassId) (ar1 : Addr) (k1c : ClassId) (x0 : Int32) (x1 : Int32) (h0 : Heap) (n0 : Nat) (v : Option Value) (h : Heap) (L : List Loc) : Prop := ∃ ob : Addr, ∃ ar : Addr, ∃ kk : ClassId, v = some (.ref ob) ∧ Fr n0 L ∧ Keep h0 h [] ∧ h0.size ≤ ob ∧ h0.size ≤ ar ∧ ob ≠ ar ∧ Exa Z h ob cS0 ∧ Fld Z h ob cS0 "levels" "[I" (.ref ar) ∧ Arv Z h ar kk .int (2 : Int32) [(.int x1), (.int x0)] (.int 0) ∧ Exa Z h ar "[I"
set_option maxRecDepth 65536 in
set_option maxHeartbeats 40000000 in
theorem rm9_gt (l : Launch) (Z : State) (a0 : Array Value) (hw : ∀ d ∈ tables_1, d.before a0 Z = true) (ws : List Jvm.Cond) (r0 : Addr) (r1 : Addr) (ar0 : Addr) (k0c : ClassId) (ar1 : Addr) (k1c : ClassId) (x0 : Int32) (x1 : Int32) (h0 : Heap) (n0 : Nat) (Z0 : n0 ≤ h0.size) (E_r0 : Exa Z h0 r0 cS0) (F_levels_r0 : Fld Z h0 r0 cS0 "levels" "[I" (.ref ar0)) (V_ar0 : Arv Z h0 ar0 k0c .int (1 : Int32) [(.int x0)] (.int 0)) (E_ar0 : Exa Z h0 ar0 "[I") (E_r1 : Exa Z h0 r1 cS0) (F_levels_r1 : Fld Z h0 r1 cS0 "levels" "[I" (.ref ar1)) (V_ar1 : Arv Z h0 ar1 k1c .int (1 : Int32) [(.int x1)] (.int 0)) (E_ar1 : Exa Z h0 ar1 "[I") (hlt : x1 < x0) :
    MetFree l (⟨cS0, "union", cS2⟩ : MethodName) (head1 (Jvm.Cond.code (⟨cS0, "union", cS2⟩ : MethodName) prog_21_method_3_code 9 (some (.object cS0)) :: ws) ({ frames := 2, cells := 3, slots := 5, locals := 30 } : Room)) (fun a U => a = #[(.ref r0), (.ref r1)] ∧ Z.Warmed39 U.vm ∧ U.heap = h0) (fun _ _ _ _ _ => True) (fun _ U o U' => ∃ v L, o = .returned v ∧ Q_9_gt Z r0 r1 ar0 k0c ar1 k1c x0 x1 h0 n0 v U'.heap L ∧ FrameEnd U o U' L ({ frames := 2, cells := 3, slots := 5, locals := 30 } : Room).cells ({ frames := 2, cells := 3, slots := 5, locals := 30 } : Room).slots) := by
  refine MetFree.of_bodySF (plainFor_of_name pn_com_example_tablox_tablox_tableau_Dependencies) hisR ?_
  intro p e s m args below meth c s₁ Bd hml0 hP hK
  obtain ⟨rfl, hZ, hh⟩ := hP
  have hx := Bd.exec
  have hby := Bd.bytes
  have hml : c.maxLocals = 9 := hml0
  have hown : s.vm.findClass cS0 = some m.cls := findClass_of_methodNamed Bd.named
  have hnm := (name_of_methodNamed Bd.named Bd.method).1
  have X0 : Stand p l e ({ frames := 2, cells := 3, slots := 5, locals := 30 } : Room) s m #[(.ref r0), (.ref r1)] below meth c s₁ [] 0 0 := Stand.of_body Bd
  have e0 : s₁.heap = h0 := by rw [← hh, Bd.state]; rfl
  have N0 := Fr.nil n0
  have k0 : ∀ t, OwnS p e below s₁ (mkF m 0 #[rv r0, rv r1, .unset, .unset, .unset, .unset, .unset, .unset, .unset] []) t → OwnS p e below s₁ (entryFrame m #[(.ref r0), (.ref r1)] 9) t := fun t k => castTop (ef_9 m r0 r1) k
  obtain ⟨T1, X1, e1, st1⟩ := getF X0 hx hZ hown (host := "") (Or.inl (own_at hw 13 rfl)) Via.refl e0 F_levels_r0 (g := (mkF m 1 #[rv r0, rv r1, .unset, .unset, .unset, .unset, .unset, .unset, .unset] [(.ref r0)])) rfl rfl (hb hby d9_1)
  obtain ⟨T2, X2, e2, st2⟩ := getF X1 hx hZ hown (host := "") (Or.inl (own_at hw 13 rfl)) Via.refl e1 F_levels_r1 (g := (mkF m 6 #[rv r0, rv r1, rv ar0, .unset, .unset, .unset, .unset, .unset, .unset] [(.ref r1)])) rfl rfl (hb hby d9_6)
  obtain ⟨cl_z3, Ar_z3, q_z3, S_z3, N_z3, H_z3, G_z3⟩ := id V_ar0
  obtain ⟨cl_z4, Ar_z4, q_z4, S_z4, N_z4, H_z4, G_z4⟩ := id V_ar1
  obtain ⟨T5, h5, k5, X5, e5, E5, A5, EA5, st5⟩ := newPE X2 hx hZ (own_at hw 6 rfl) e2 (g := (mkF m 15 #[rv r0, rv r1, rv ar0, rv ar1, .unset, .unset, .unset, .unset, .unset] [(.int 2)])) rfl (hb hby d9_15) rfl (by decide) (cap := 2) (by decide) (by decide) (by decide) (by decide) (ad := "[I") (by decide)
  obtain ⟨b5, g5⟩ : ∃ z, z = h0.size := ⟨_, rfl⟩
  rw [← g5] at A5 EA5 st5
  have g_b5 : n0 ≤ b5 := Nat.le_trans Z0 (Nat.le_of_eq g5.symm)
  have sz_b5 : h0.size ≤ b5 := Nat.le_trans (Keep.refl h0 []).1 (Nat.le_of_eq g5.symm)
  have V_b5 : Arv Z h5 b5 k5 .int (2 : Int32) [(.int 0), (.int 0)] (.int 0) := (Arv.new A5 (by decide)).pad (pad_rep [] (.int 0) 2)
  have f6 := (V_ar0.ext E5)
  obtain ⟨cl_z7, Ar_z7, q_z7, S_z7, N_z7, H_z7, G_z7⟩ := id f6
  have f8 := (V_ar1.ext E5)
  obtain ⟨cl_z9, Ar_z9, q_z9, S_z9, N_z9, H_z9, G_z9⟩ := id f8
  have hin10 : ¬ ((0 : Int32) < 0 ∨ cl_z7.slots.size ≤ ((0 : Int32)).toNatClampNeg) := inb_of S_z7 ⟨by decide, by decide⟩
  have hin11 : ¬ ((0 : Int32) < 0 ∨ cl_z9.slots.size ≤ ((0 : Int32)).toNatClampNeg) := inb_of S_z9 ⟨by decide, by decide⟩
  have hin12 : ¬ ((0 : Int32) < 0 ∨ cl_z7.slots.size ≤ ((0 : Int32)).toNatClampNeg) := inb_of S_z7 ⟨by decide, by decide⟩
  have hin13 : ¬ ((0 : Int32) < 0 ∨ cl_z9.slots.size ≤ ((0 : Int32)).toNatClampNeg) := inb_of S_z9 ⟨by decide, by decide⟩
  have hin14 : ¬ ((0 : Int32) < 0 ∨ cl_z9.slots.size ≤ ((0 : Int32)).toNatClampNeg) := inb_of S_z9 ⟨by decide, by decide⟩
  obtain ⟨cl_z15, Ar_z15, q_z15, S_z15, N_z15, H_z15, G_z15⟩ := id V_b5
  have hin16 : ¬ ((0 : Int32) < 0 ∨ cl_z15.slots.size ≤ ((0 : Int32)).toNatClampNeg) := inb_of S_z15 ⟨by decide, by decide⟩
  obtain ⟨T17, h17, X17, e17, W17, st17⟩ := stI X5 hx hZ e5 Ar_z15 (j := (0 : Int32)) hin16 (g := (mkF m 96 #[rv r0, rv r1, rv ar0, rv ar1, rv b5, iv ((0 : Int32) + (1 : Int32)), iv 0, iv ((0 : Int32) + (1 : Int32)), .unset] [(.int x1), (.int 0), (.ref b5)])) rfl rfl (hb hby d9_96)
  have V17 : Arv Z h17 b5 k5 .int (2 : Int32) [(.int x1), (.int 0)] (.int 0) := Arv.set Ar_z15 q_z15 S_z15 N_z15 H_z15 G_z15 rfl W17 0 rfl (Nat.le_of_ble_eq_true rfl)
  have N17 := Fr.snoc X17 N0 g_b5
  have f18 := (f6.other W17 (Nat.ne_of_lt (Nat.lt_of_lt_of_le V_ar0.lt (Nat.le_of_eq g5.symm))))
  obtain ⟨cl_z19, Ar_z19, q_z19, S_z19, N_z19, H_z19, G_z19⟩ := id f18
  have f20 := (f8.other W17 (Nat.ne_of_lt (Nat.lt_of_lt_of_le V_ar1.lt (Nat.le_of_eq g5.symm))))
  obtain ⟨cl_z21, Ar_z21, q_z21, S_z21, N_z21, H_z21, G_z21⟩ := id f20
  have hin22 : ¬ ((0 : Int32) < 0 ∨ cl_z19.slots.size ≤ ((0 : Int32)).toNatClampNeg) := inb_of S_z19 ⟨by decide, by decide⟩
  obtain ⟨cl_z23, Ar_z23, q_z23, S_z23, N_z23, H_z23, G_z23⟩ := id V17
  have hin24 : ¬ ((1 : Int32) < 0 ∨ cl_z23.slots.size ≤ ((1 : Int32)).toNatClampNeg) := inb_of S_z23 ⟨by decide, by decide⟩
  obtain ⟨T25, h25, X25, e25, W25, st25⟩ := stI X17 hx hZ e17 Ar_z23 (j := (1 : Int32)) hin24 (g := (mkF m 142 #[rv r0, rv r1, rv ar0, rv ar1, rv b5, iv (((0 : Int32) + (1 : Int32)) + (1 : Int32)), iv ((0 : Int32) + (1 : Int32)), iv ((0 : Int32) + (1 : Int32)), .unset] [(.int x0), (.int 1), (.ref b5)])) rfl rfl (hb hby d9_142)
  have V25 : Arv Z h25 b5 k5 .int (2 : Int32) [(.int x1), (.int x0)] (.int 0) := Arv.set Ar_z23 q_z23 S_z23 N_z23 H_z23 G_z23 rfl W25 1 rfl (Nat.le_of_ble_eq_true rfl)
  have N25 := Fr.snoc X25 N17 g_b5
  have f26 := (f18.other W25 (Nat.ne_of_lt (Nat.lt_of_lt_of_le V_ar0.lt (Nat.le_of_eq g5.symm))))
  obtain ⟨cl_z27, Ar_z27, q_z27, S_z27, N_z27, H_z27, G_z27⟩ := id f26
  have f28 := (f20.other W25 (Nat.ne_of_lt (Nat.lt_of_lt_of_le V_ar1.lt (Nat.le_of_eq g5.symm))))
  obtain ⟨cl_z29, Ar_z29, q_z29, S_z29, N_z29, H_z29, G_z29⟩ := id f28
  have f30 := (((E_r0.ext E5).wr W17).wr W25)
  have f31 := (((E_r1.ext E5).wr W17).wr W25)
  have f32 := ((EA5.wr W17).wr W25)
  obtain ⟨T33, h33, X33, e33, E33, A33, D33, -, st33⟩ := newO X25 hx hZ hown (own_at hw 4 rfl) (own_at hw 5 rfl) (own_at hw 2 rfl) e25 (g := (mkF m 197 #[rv r0, rv r1, rv ar0, rv ar1, rv b5, iv (((0 : Int32) + (1 : Int32)) + (1 : Int32)), iv ((0 : Int32) + (1 : Int32)), iv ((0 : Int32) + (1 : Int32)), .unset] [])) rfl (hb hby d9_197) (by decide) (by decide)
  obtain ⟨b33, g33⟩ : ∃ z, z = h25.size := ⟨_, rfl⟩
  rw [← g33] at A33 D33 st33
  have g_b33 : n0 ≤ b33 := Nat.le_trans (Nat.le_trans (Nat.le_trans (Nat.le_trans Z0 E5.1) (Keep.of_wr W17).1) (Keep.of_wr W25).1) (Nat.le_of_eq g33.symm)
  have sz_b33 : h0.size ≤ b33 := Nat.le_trans ((((Keep.refl h0 []).ext E5).wr W17 (Or.inr sz_b5)).wr W25 (Or.inr sz_b5)).1 (Nat.le_of_eq g33.symm)
  have F_levels_b33 : Fld Z h33 b33 cS0 "levels" "[I" .null := D33 (Or.inr (own_at hw 14 rfl)) (ty := (.array .int)) (by decide)
  have f35 := (V25.ext E33)
  have f36 := (f32.ext E33)
  obtain ⟨_, _, ⟨T34, L34, j34, i34⟩, -, X34, ⟨Lc34, hQ34, l34, y34, z34⟩, st34⟩ := Jvm.LawKit.callS X33 hx (y := (⟨"java/util/Arrays", "copyOf", "([II)[I"⟩ : MethodName)) hown (mvT hZ (own_at hw 46 rfl)) (mvT hZ (own_at hw 47 rfl)) (mvT hZ (own_at hw 32 rfl)) (mvT hZ (own_at hw 48 rfl)) (by decide) (backOf (W := 2) (rm10 l Z a0 hw [] b5 k5 x1 x0 h33 n0 (Nat.le_trans (Nat.le_trans (Nat.le_trans (Nat.le_trans Z0 E5.1) (Keep.of_wr W17).1) (Keep.of_wr W25).1) E33.1) f35 f36) hZ (own_at hw 48 rfl) (own_at hw 32 rfl) (by decide) (by decide)) (g := (mkF m 205 #[rv r0, rv r1, rv ar0, rv ar1, rv b5, iv (((0 : Int32) + (1 : Int32)) + (1 : Int32)), iv ((0 : Int32) + (1 : Int32)), iv ((0 : Int32) + (1 : Int32)), .unset] [(.int 2), (.ref b5), (.ref b33), (.ref b33)])) rfl (by rw [hml]; rfl) (argsL := [(.ref b5), (.int 2)]) (rest := [(.ref b33), (.ref b33)]) (lenOf pd_3 rfl) rfl (by show 2 * 0 + _ ≤ _; exact Nat.le_of_eq rfl) (hb hby d9_205) (fun _ _ => ⟨rfl, e33, (by decide : 2 + 1 ≤ _), (by decide : 3 + 2 ≤ _)⟩)
  dsimp only [Pt.U, Pt.locs, Pt.cells, Pt.slots] at X34 l34 y34 z34 st34 hQ34
  subst l34 y34 z34
  have f37 := (f30.ext E33)
  have f38 := (f26.ext E33)
  have f39 := (f31.ext E33)
  have f40 := (f28.ext E33)
  obtain ⟨ar_34, kk_34, rfl, N34q, K34, p34_0, p34_1, p34_2⟩ := hQ34
  have g_ar_34 : n0 ≤ ar_34 := Nat.le_trans (Nat.le_trans (Nat.le_trans (Nat.le_trans (Nat.le_trans Z0 E5.1) (Keep.of_wr W17).1) (Keep.of_wr W25).1) E33.1) p34_0
  have sz_ar_34 : h0.size ≤ ar_34 := Nat.le_trans (((((Keep.refl h0 []).ext E5).wr W17 (Or.inr sz_b5)).wr W25 (Or.inr sz_b5)).ext E33).1 p34_0
  have N34 := Fr.app N25 N34q
  have f42 := (A33.keep K34)
  have f43 := (F_levels_b33.keep K34 nin0)
  obtain ⟨_, _, ⟨T41, L41, j41, i41⟩, -, X41, ⟨Lc41, hQ41, l41, y41, z41⟩, st41⟩ := X34.specialBack hx (y := (⟨cS0, "<init>", "([I)V"⟩ : MethodName)) rfl hown (mvT hZ (own_at hw 7 rfl)) (mvT hZ (own_at hw 8 rfl)) (mvT hZ (own_at hw 9 rfl)) (by decide) (backOf (W := 1) (rm2 l Z a0 hw [] b33 ar_34 .null T34.heap n0 (Nat.le_trans (Nat.le_trans (Nat.le_trans (Nat.le_trans (Nat.le_trans Z0 E5.1) (Keep.of_wr W17).1) (Keep.of_wr W25).1) E33.1) K34.1) f42 f43 g_b33) hZ (own_at hw 9 rfl) (own_at hw 2 rfl) (by decide) (by decide)) (g := (mkF m 208 #[rv r0, rv r1, rv ar0, rv ar1, rv b5, iv (((0 : Int32) + (1 : Int32)) + (1 : Int32)), iv ((0 : Int32) + (1 : Int32)), iv ((0 : Int32) + (1 : Int32)), .unset] [(.ref ar_34), (.ref b33), (.ref b33)])) rfl (by rw [hml]; rfl) (Steps.refl _) (a := b33) (argsL := [(.ref ar_34)]) (rest := [(.ref b33)]) (lenOf pd_0 rfl) rfl (by show 2 * 0 + _ ≤ _; exact Nat.le_of_eq rfl) (hb hby d9_208) (fun _ _ => ⟨rfl, rfl, (by decide : 3 + 0 ≤ _), (by decide : 5 + 0 ≤ _)⟩)
  dsimp only [Pt.U, Pt.locs, Pt.cells, Pt.slots] at X41 l41 y41 z41 st41 hQ41
  subst l41 y41 z41
  have f44 := (f37.keep K34)
  have f45 := (f38.keep K34 nin0)
  have f46 := (f39.keep K34)
  have f47 := (f40.keep K34 nin0)
  have f48 := (f36.keep K34)
  obtain ⟨rfl, N41q, K41, p41_0, p41_1⟩ := hQ41
  have pl41 := (allS (P := fun x => ∃ cell : Cell, T34.heap[x]? = some cell ∧ cell.vm.isStatics = false) (own_ns f42) all0)
  have N41 := Fr.app N34 N41q
  have f49 := (p34_1.keep K41 (ninS (Ne.symm (Nat.ne_of_lt (Nat.lt_of_lt_of_le A33.lt p34_0))) nin0))
  have f50 := (p34_2.keep K41)
  obtain ⟨fs, hr, hrun, hended, hW, hsame⟩ := X41.leave (v := some (.ref b33)) (fun h => by rw [Bd.returns] at h; cases h)
  refine ⟨_, _, k0 _ ?_, hrun, hended, _, _, rfl, ?_, ⟨_, rfl⟩, hW, hsame.mono (by decide) (by decide)⟩
  · show OwnS p e below s₁ (mkF m 0 #[rv r0, rv r1, .unset, .unset, .unset, .unset, .unset, .unset, .unset] []) _
    refine XS.aloadN X0.here hx rfl (hb hby d9_0) rfl rfl ?_
    show OwnS p e below s₁ (mkF m 1 #[rv r0, rv r1, .unset, .unset, .unset, .unset, .unset, .unset, .unset] [(.ref r0)]) _
    refine st1 _ ?_
    show OwnS p e below T1 (mkF m 4 #[rv r0, rv r1, .unset, .unset, .unset, .unset, .unset, .unset, .unset] [(.ref ar0)]) _
    refine XS.astoreN X1.here hx rfl (hb hby d9_4) rfl rfl (l' := #[rv r0, rv r1, rv ar0, .unset, .unset, .unset, .unset, .unset, .unset]) rfl ?_
    show OwnS p e below T1 (mkF m 5 #[rv r0, rv r1, rv ar0, .unset, .unset, .unset, .unset, .unset, .unset] []) _
    refine XS.aloadN X1.here hx rfl (hb hby d9_5) rfl rfl ?_
    show OwnS p e below T1 (mkF m 6 #[rv r0, rv r1, rv ar0, .unset, .unset, .unset, .unset, .unset, .unset] [(.ref r1)]) _
    refine st2 _ ?_
    show OwnS p e below T2 (mkF m 9 #[rv r0, rv r1, rv ar0, .unset, .unset, .unset, .unset, .unset, .unset] [(.ref ar1)]) _
    refine XS.astoreN X2.here hx rfl (hb hby d9_9) rfl rfl (l' := #[rv r0, rv r1, rv ar0, rv ar1, .unset, .unset, .unset, .unset, .unset]) rfl ?_
    show OwnS p e below T2 (mkF m 10 #[rv r0, rv r1, rv ar0, rv ar1, .unset, .unset, .unset, .unset, .unset] []) _
    refine XS.aloadN X2.here hx rfl (hb hby d9_10) rfl rfl ?_
    show OwnS p e below T2 (mkF m 11 #[rv r0, rv r1, rv ar0, rv ar1, .unset, .unset, .unset, .unset, .unset] [(.ref ar0)]) _
    refine X2.arraylength hx (by rw [e2]; exact Ar_z3.1) (State.isArrayOf_alike hZ.alike Ar_z3.2.1) (g := (mkF m 11 #[rv r0, rv r1, rv ar0, rv ar1, .unset, .unset, .unset, .unset, .unset] [(.ref ar0)])) rfl rfl (hb hby d9_11) _ ?_
    rw [len_of S_z3 N_z3]
    show OwnS p e below T2 (mkF m 12 #[rv r0, rv r1, rv ar0, rv ar1, .unset, .unset, .unset, .unset, .unset] [(.int 1)]) _
    refine XS.aloadN X2.here hx rfl (hb hby d9_12) rfl rfl ?_
    show OwnS p e below T2 (mkF m 13 #[rv r0, rv r1, rv ar0, rv ar1, .unset, .unset, .unset, .unset, .unset] [(.ref ar1), (.int 1)]) _
    refine X2.arraylength hx (by rw [e2]; exact Ar_z4.1) (State.isArrayOf_alike hZ.alike Ar_z4.2.1) (g := (mkF m 13 #[rv r0, rv r1, rv ar0, rv ar1, .unset, .unset, .unset, .unset, .unset] [(.ref ar1), (.int 1)])) rfl rfl (hb hby d9_13) _ ?_
    rw [len_of S_z4 N_z4]
    show OwnS p e below T2 (mkF m 14 #[rv r0, rv r1, rv ar0, rv ar1, .unset, .unset, .unset, .unset, .unset] [(.int 1), (.int 1)]) _
    refine XS.iadd X2.here hx rfl (hb hby d9_14) rfl ?_
    show OwnS p e below T2 (mkF m 15 #[rv r0, rv r1, rv ar0, rv ar1, .unset, .unset, .unset, .unset, .unset] [(.int 2)]) _
    refine st5 _ ?_
    show OwnS p e below T5 (mkF m 17 #[rv r0, rv r1, rv ar0, rv ar1, .unset, .unset, .unset, .unset, .unset] [(.ref b5)]) _
    refine XS.astore X5.here hx rfl (hb hby d9_17) rfl rfl (l' := #[rv r0, rv r1, rv ar0, rv ar1, rv b5, .unset, .unset, .unset, .unset]) rfl ?_
    show OwnS p e below T5 (mkF m 19 #[rv r0, rv r1, rv ar0, rv ar1, rv b5, .unset, .unset, .unset, .unset] []) _
    refine XS.iconst X5.here hx rfl (hb hby d9_19) ?_
    show OwnS p e below T5 (mkF m 20 #[rv r0, rv r1, rv ar0, rv ar1, rv b5, .unset, .unset, .unset, .unset] [(.int 0)]) _
    refine XS.istore X5.here hx rfl (hb hby d9_20) rfl (l' := #[rv r0, rv r1, rv ar0, rv ar1, rv b5, iv 0, .unset, .unset, .unset]) rfl ?_
    show OwnS p e below T5 (mkF m 22 #[rv r0, rv r1, rv ar0, rv ar1, rv b5, iv 0, .unset, .unset, .unset] []) _
    refine XS.iconst X5.here hx rfl (hb hby d9_22) ?_
    show OwnS p e below T5 (mkF m 23 #[rv r0, rv r1, rv ar0, rv ar1, rv b5, iv 0, .unset, .unset, .unset] [(.int 0)]) _
    refine XS.istore X5.here hx rfl (hb hby d9_23) rfl (l' := #[rv r0, rv r1, rv ar0, rv ar1, rv b5, iv 0, iv 0, .unset, .unset]) rfl ?_
    show OwnS p e below T5 (mkF m 25 #[rv r0, rv r1, rv ar0, rv ar1, rv b5, iv 0, iv 0, .unset, .unset] []) _
    refine XS.iconst X5.here hx rfl (hb hby d9_25) ?_
    show OwnS p e below T5 (mkF m 26 #[rv r0, rv r1, rv ar0, rv ar1, rv b5, iv 0, iv 0, .unset, .unset] [(.int 0)]) _
    refine XS.istore X5.here hx rfl (hb hby d9_26) rfl (l' := #[rv r0, rv r1, rv ar0, rv ar1, rv b5, iv 0, iv 0, iv 0, .unset]) rfl ?_
    show OwnS p e below T5 (mkF m 28 #[rv r0, rv r1, rv ar0, rv ar1, rv b5, iv 0, iv 0, iv 0, .unset] []) _
    refine XS.iload X5.here hx rfl (hb hby d9_28) rfl ?_
    show OwnS p e below T5 (mkF m 30 #[rv r0, rv r1, rv ar0, rv ar1, rv b5, iv 0, iv 0, iv 0, .unset] [(.int 0)]) _
    refine XS.aloadN X5.here hx rfl (hb hby d9_30) rfl rfl ?_
    show OwnS p e below T5 (mkF m 31 #[rv r0, rv r1, rv ar0, rv ar1, rv b5, iv 0, iv 0, iv 0, .unset] [(.ref ar0), (.int 0)]) _
    refine X5.arraylength hx (by rw [e5]; exact Ar_z7.1) (State.isArrayOf_alike hZ.alike Ar_z7.2.1) (g := (mkF m 31 #[rv r0, rv r1, rv ar0, rv ar1, rv b5, iv 0, iv 0, iv 0, .unset] [(.ref ar0), (.int 0)])) rfl rfl (hb hby d9_31) _ ?_
    rw [len_of S_z7 N_z7]
    show OwnS p e below T5 (mkF m 32 #[rv r0, rv r1, rv ar0, rv ar1, rv b5, iv 0, iv 0, iv 0, .unset] [(.int 1), (.int 0)]) _
    refine XS.icmpNo X5.here hx rfl (hb hby d9_32) rfl (tlt (by decide : (0 : Int32) < (1 : Int32))).2.1 ?_
    show OwnS p e below T5 (mkF m 35 #[rv r0, rv r1, rv ar0, rv ar1, rv b5, iv 0, iv 0, iv 0, .unset] []) _
    refine XS.iload X5.here hx rfl (hb hby d9_35) rfl ?_
    show OwnS p e below T5 (mkF m 37 #[rv r0, rv r1, rv ar0, rv ar1, rv b5, iv 0, iv 0, iv 0, .unset] [(.int 0)]) _
    refine XS.aloadN X5.here hx rfl (hb hby d9_37) rfl rfl ?_
    show OwnS p e below T5 (mkF m 38 #[rv r0, rv r1, rv ar0, rv ar1, rv b5, iv 0, iv 0, iv 0, .unset] [(.ref ar1), (.int 0)]) _
    refine X5.arraylength hx (by rw [e5]; exact Ar_z9.1) (State.isArrayOf_alike hZ.alike Ar_z9.2.1) (g := (mkF m 38 #[rv r0, rv r1, rv ar0, rv ar1, rv b5, iv 0, iv 0, iv 0, .unset] [(.ref ar1), (.int 0)])) rfl rfl (hb hby d9_38) _ ?_
    rw [len_of S_z9 N_z9]
    show OwnS p e below T5 (mkF m 39 #[rv r0, rv r1, rv ar0, rv ar1, rv b5, iv 0, iv 0, iv 0, .unset] [(.int 1), (.int 0)]) _
    refine XS.icmpNo X5.here hx rfl (hb hby d9_39) rfl (tlt (by decide : (0 : Int32) < (1 : Int32))).2.1 ?_
    show OwnS p e below T5 (mkF m 42 #[rv r0, rv r1, rv ar0, rv ar1, rv b5, iv 0, iv 0, iv 0, .unset] []) _
    refine XS.aloadN X5.here hx rfl (hb hby d9_42) rfl rfl ?_
    show OwnS p e below T5 (mkF m 43 #[rv r0, rv r1, rv ar0, rv ar1, rv b5, iv 0, iv 0, iv 0, .unset] [(.ref ar0)]) _
    refine XS.iload X5.here hx rfl (hb hby d9_43) rfl ?_
    show OwnS p e below T5 (mkF m 45 #[rv r0, rv r1, rv ar0, rv ar1, rv b5, iv 0, iv 0, iv 0, .unset] [(.int 0), (.ref ar0)]) _
    refine X5.iaload hx (j := (0 : Int32)) (v := (.int x0)) (by rw [e5]; exact Ar_z7.1) (State.isArrayOf_alike hZ.alike Ar_z7.2.1) Ar_z7.2.2 hin10 (Has.at H_z7 hin10 rfl) (g := (mkF m 45 #[rv r0, rv r1, rv ar0, rv ar1, rv b5, iv 0, iv 0, iv 0, .unset] [(.int 0), (.ref ar0)])) rfl rfl (hb hby d9_45) _ ?_
    show OwnS p e below T5 (mkF m 46 #[rv r0, rv r1, rv ar0, rv ar1, rv b5, iv 0, iv 0, iv 0, .unset] [(.int x0)]) _
    refine XS.aloadN X5.here hx rfl (hb hby d9_46) rfl rfl ?_
    show OwnS p e below T5 (mkF m 47 #[rv r0, rv r1, rv ar0, rv ar1, rv b5, iv 0, iv 0, iv 0, .unset] [(.ref ar1), (.int x0)]) _
    refine XS.iload X5.here hx rfl (hb hby d9_47) rfl ?_
    show OwnS p e below T5 (mkF m 49 #[rv r0, rv r1, rv ar0, rv ar1, rv b5, iv 0, iv 0, iv 0, .unset] [(.int 0), (.ref ar1), (.int x0)]) _
    refine X5.iaload hx (j := (0 : Int32)) (v := (.int x1)) (by rw [e5]; exact Ar_z9.1) (State.isArrayOf_alike hZ.alike Ar_z9.2.1) Ar_z9.2.2 hin11 (Has.at H_z9 hin11 rfl) (g := (mkF m 49 #[rv r0, rv r1, rv ar0, rv ar1, rv b5, iv 0, iv 0, iv 0, .unset] [(.int 0), (.ref ar1), (.int x0)])) rfl rfl (hb hby d9_49) _ ?_
    show OwnS p e below T5 (mkF m 50 #[rv r0, rv r1, rv ar0, rv ar1, rv b5, iv 0, iv 0, iv 0, .unset] [(.int x1), (.int x0)]) _
    refine XS.icmpYes X5.here hx rfl (pc0 := 50) (pc' := 71) rfl (hb hby d9_50) rfl (flt (own_asymm hlt)).2.1 (by decide) (by decide) ?_
    show OwnS p e below T5 (mkF m 71 #[rv r0, rv r1, rv ar0, rv ar1, rv b5, iv 0, iv 0, iv 0, .unset] []) _
    refine XS.aloadN X5.here hx rfl (hb hby d9_71) rfl rfl ?_
    show OwnS p e below T5 (mkF m 72 #[rv r0, rv r1, rv ar0, rv ar1, rv b5, iv 0, iv 0, iv 0, .unset] [(.ref ar0)]) _
    refine XS.iload X5.here hx rfl (hb hby d9_72) rfl ?_
    show OwnS p e below T5 (mkF m 74 #[rv r0, rv r1, rv ar0, rv ar1, rv b5, iv 0, iv 0, iv 0, .unset] [(.int 0), (.ref ar0)]) _
    refine X5.iaload hx (j := (0 : Int32)) (v := (.int x0)) (by rw [e5]; exact Ar_z7.1) (State.isArrayOf_alike hZ.alike Ar_z7.2.1) Ar_z7.2.2 hin12 (Has.at H_z7 hin12 rfl) (g := (mkF m 74 #[rv r0, rv r1, rv ar0, rv ar1, rv b5, iv 0, iv 0, iv 0, .unset] [(.int 0), (.ref ar0)])) rfl rfl (hb hby d9_74) _ ?_
    show OwnS p e below T5 (mkF m 75 #[rv r0, rv r1, rv ar0, rv ar1, rv b5, iv 0, iv 0, iv 0, .unset] [(.int x0)]) _
    refine XS.aloadN X5.here hx rfl (hb hby d9_75) rfl rfl ?_
    show OwnS p e below T5 (mkF m 76 #[rv r0, rv r1, rv ar0, rv ar1, rv b5, iv 0, iv 0, iv 0, .unset] [(.ref ar1), (.int x0)]) _
    refine XS.iload X5.here hx rfl (hb hby d9_76) rfl ?_
    show OwnS p e below T5 (mkF m 78 #[rv r0, rv r1, rv ar0, rv ar1, rv b5, iv 0, iv 0, iv 0, .unset] [(.int 0), (.ref ar1), (.int x0)]) _
    refine X5.iaload hx (j := (0 : Int32)) (v := (.int x1)) (by rw [e5]; exact Ar_z9.1) (State.isArrayOf_alike hZ.alike Ar_z9.2.1) Ar_z9.2.2 hin13 (Has.at H_z9 hin13 rfl) (g := (mkF m 78 #[rv r0, rv r1, rv ar0, rv ar1, rv b5, iv 0, iv 0, iv 0, .unset] [(.int 0), (.ref ar1), (.int x0)])) rfl rfl (hb hby d9_78) _ ?_
    show OwnS p e below T5 (mkF m 79 #[rv r0, rv r1, rv ar0, rv ar1, rv b5, iv 0, iv 0, iv 0, .unset] [(.int x1), (.int x0)]) _
    refine XS.icmpNo X5.here hx rfl (hb hby d9_79) rfl (tlt hlt).2.2.2 ?_
    show OwnS p e below T5 (mkF m 82 #[rv r0, rv r1, rv ar0, rv ar1, rv b5, iv 0, iv 0, iv 0, .unset] []) _
    refine XS.aload X5.here hx rfl (hb hby d9_82) rfl rfl ?_
    show OwnS p e below T5 (mkF m 84 #[rv r0, rv r1, rv ar0, rv ar1, rv b5, iv 0, iv 0, iv 0, .unset] [(.ref b5)]) _
    refine XS.iload X5.here hx rfl (hb hby d9_84) rfl ?_
    show OwnS p e below T5 (mkF m 86 #[rv r0, rv r1, rv ar0, rv ar1, rv b5, iv 0, iv 0, iv 0, .unset] [(.int 0), (.ref b5)]) _
    refine XS.iinc X5.here hx rfl (hb hby d9_86) rfl (l' := #[rv r0, rv r1, rv ar0, rv ar1, rv b5, iv ((0 : Int32) + (1 : Int32)), iv 0, iv 0, .unset]) rfl ?_
    show OwnS p e below T5 (mkF m 89 #[rv r0, rv r1, rv ar0, rv ar1, rv b5, iv ((0 : Int32) + (1 : Int32)), iv 0, iv 0, .unset] [(.int 0), (.ref b5)]) _
    refine XS.aloadN X5.here hx rfl (hb hby d9_89) rfl rfl ?_
    show OwnS p e below T5 (mkF m 90 #[rv r0, rv r1, rv ar0, rv ar1, rv b5, iv ((0 : Int32) + (1 : Int32)), iv 0, iv 0, .unset] [(.ref ar1), (.int 0), (.ref b5)]) _
    refine XS.iload X5.here hx rfl (hb hby d9_90) rfl ?_
    show OwnS p e below T5 (mkF m 92 #[rv r0, rv r1, rv ar0, rv ar1, rv b5, iv ((0 : Int32) + (1 : Int32)), iv 0, iv 0, .unset] [(.int 0), (.ref ar1), (.int 0), (.ref b5)]) _
    refine XS.iinc X5.here hx rfl (hb hby d9_92) rfl (l' := #[rv r0, rv r1, rv ar0, rv ar1, rv b5, iv ((0 : Int32) + (1 : Int32)), iv 0, iv ((0 : Int32) + (1 : Int32)), .unset]) rfl ?_
    show OwnS p e below T5 (mkF m 95 #[rv r0, rv r1, rv ar0, rv ar1, rv b5, iv ((0 : Int32) + (1 : Int32)), iv 0, iv ((0 : Int32) + (1 : Int32)), .unset] [(.int 0), (.ref ar1), (.int 0), (.ref b5)]) _
    refine X5.iaload hx (j := (0 : Int32)) (v := (.int x1)) (by rw [e5]; exact Ar_z9.1) (State.isArrayOf_alike hZ.alike Ar_z9.2.1) Ar_z9.2.2 hin14 (Has.at H_z9 hin14 rfl) (g := (mkF m 95 #[rv r0, rv r1, rv ar0, rv ar1, rv b5, iv ((0 : Int32) + (1 : Int32)), iv 0, iv ((0 : Int32) + (1 : Int32)), .unset] [(.int 0), (.ref ar1), (.int 0), (.ref b5)])) rfl rfl (hb hby d9_95) _ ?_
    show OwnS p e below T5 (mkF m 96 #[rv r0, rv r1, rv ar0, rv ar1, rv b5, iv ((0 : Int32) + (1 : Int32)), iv 0, iv ((0 : Int32) + (1 : Int32)), .unset] [(.int x1), (.int 0), (.ref b5)]) _
    refine st17 _ ?_
    show OwnS p e below T17 (mkF m 97 #[rv r0, rv r1, rv ar0, rv ar1, rv b5, iv ((0 : Int32) + (1 : Int32)), iv 0, iv ((0 : Int32) + (1 : Int32)), .unset] []) _
    refine XS.goto X17.here hx rfl (pc0 := 97) (pc' := 28) rfl (hb hby d9_97) (by decide) (by decide) ?_
    show OwnS p e below T17 (mkF m 28 #[rv r0, rv r1, rv ar0, rv ar1, rv b5, iv ((0 : Int32) + (1 : Int32)), iv 0, iv ((0 : Int32) + (1 : Int32)), .unset] []) _
    refine XS.iload X17.here hx rfl (hb hby d9_28) rfl ?_
    show OwnS p e below T17 (mkF m 30 #[rv r0, rv r1, rv ar0, rv ar1, rv b5, iv ((0 : Int32) + (1 : Int32)), iv 0, iv ((0 : Int32) + (1 : Int32)), .unset] [(.int 0)]) _
    refine XS.aloadN X17.here hx rfl (hb hby d9_30) rfl rfl ?_
    show OwnS p e below T17 (mkF m 31 #[rv r0, rv r1, rv ar0, rv ar1, rv b5, iv ((0 : Int32) + (1 : Int32)), iv 0, iv ((0 : Int32) + (1 : Int32)), .unset] [(.ref ar0), (.int 0)]) _
    refine X17.arraylength hx (by rw [e17]; exact Ar_z19.1) (State.isArrayOf_alike hZ.alike Ar_z19.2.1) (g := (mkF m 31 #[rv r0, rv r1, rv ar0, rv ar1, rv b5, iv ((0 : Int32) + (1 : Int32)), iv 0, iv ((0 : Int32) + (1 : Int32)), .unset] [(.ref ar0), (.int 0)])) rfl rfl (hb hby d9_31) _ ?_
    rw [len_of S_z19 N_z19]
    show OwnS p e below T17 (mkF m 32 #[rv r0, rv r1, rv ar0, rv ar1, rv b5, iv ((0 : Int32) + (1 : Int32)), iv 0, iv ((0 : Int32) + (1 : Int32)), .unset] [(.int 1), (.int 0)]) _
    refine XS.icmpNo X17.here hx rfl (hb hby d9_32) rfl (tlt (by decide : (0 : Int32) < (1 : Int32))).2.1 ?_
    show OwnS p e below T17 (mkF m 35 #[rv r0, rv r1, rv ar0, rv ar1, rv b5, iv ((0 : Int32) + (1 : Int32)), iv 0, iv ((0 : Int32) + (1 : Int32)), .unset] []) _
    refine XS.iload X17.here hx rfl (hb hby d9_35) rfl ?_
    show OwnS p e below T17 (mkF m 37 #[rv r0, rv r1, rv ar0, rv ar1, rv b5, iv ((0 : Int32) + (1 : Int32)), iv 0, iv ((0 : Int32) + (1 : Int32)), .unset] [(.int 1)]) _
    refine XS.aloadN X17.here hx rfl (hb hby d9_37) rfl rfl ?_
    show OwnS p e below T17 (mkF m 38 #[rv r0, rv r1, rv ar0, rv ar1, rv b5, iv ((0 : Int32) + (1 : Int32)), iv 0, iv ((0 : Int32) + (1 : Int32)), .unset] [(.ref ar1), (.int 1)]) _
    refine X17.arraylength hx (by rw [e17]; exact Ar_z21.1) (State.isArrayOf_alike hZ.alike Ar_z21.2.1) (g := (mkF m 38 #[rv r0, rv r1, rv ar0, rv ar1, rv b5, iv ((0 : Int32) + (1 : Int32)), iv 0, iv ((0 : Int32) + (1 : Int32)), .unset] [(.ref ar1), (.int 1)])) rfl rfl (hb hby d9_38) _ ?_
    rw [len_of S_z21 N_z21]
    show OwnS p e below T17 (mkF m 39 #[rv r0, rv r1, rv ar0, rv ar1, rv b5, iv ((0 : Int32) + (1 : Int32)), iv 0, iv ((0 : Int32) + (1 : Int32)), .unset] [(.int 1), (.int 1)]) _
    refine XS.icmpYes X17.here hx rfl (pc0 := 39) (pc' := 121) rfl (hb hby d9_39) rfl (flt (by decide : ¬ ((1 : Int32) < (1 : Int32)))).2.1 (by decide) (by decide) ?_
    show OwnS p e below T17 (mkF m 121 #[rv r0, rv r1, rv ar0, rv ar1, rv b5, iv ((0 : Int32) + (1 : Int32)), iv 0, iv ((0 : Int32) + (1 : Int32)), .unset] []) _
    refine XS.iload X17.here hx rfl (hb hby d9_121) rfl ?_
    show OwnS p e below T17 (mkF m 123 #[rv r0, rv r1, rv ar0, rv ar1, rv b5, iv ((0 : Int32) + (1 : Int32)), iv 0, iv ((0 : Int32) + (1 : Int32)), .unset] [(.int 0)]) _
    refine XS.aloadN X17.here hx rfl (hb hby d9_123) rfl rfl ?_
    show OwnS p e below T17 (mkF m 124 #[rv r0, rv r1, rv ar0, rv ar1, rv b5, iv ((0 : Int32) + (1 : Int32)), iv 0, iv ((0 : Int32) + (1 : Int32)), .unset] [(.ref ar0), (.int 0)]) _
    refine X17.arraylength hx (by rw [e17]; exact Ar_z19.1) (State.isArrayOf_alike hZ.alike Ar_z19.2.1) (g := (mkF m 124 #[rv r0, rv r1, rv ar0, rv ar1, rv b5, iv ((0 : Int32) + (1 : Int32)), iv 0, iv ((0 : Int32) + (1 : Int32)), .unset] [(.ref ar0), (.int 0)])) rfl rfl (hb hby d9_124) _ ?_
    rw [len_of S_z19 N_z19]
    show OwnS p e below T17 (mkF m 125 #[rv r0, rv r1, rv ar0, rv ar1, rv b5, iv ((0 : Int32) + (1 : Int32)), iv 0, iv ((0 : Int32) + (1 : Int32)), .unset] [(.int 1), (.int 0)]) _
    refine XS.icmpNo X17.here hx rfl (hb hby d9_125) rfl (tlt (by decide : (0 : Int32) < (1 : Int32))).2.1 ?_
    show OwnS p e below T17 (mkF m 128 #[rv r0, rv r1, rv ar0, rv ar1, rv b5, iv ((0 : Int32) + (1 : Int32)), iv 0, iv ((0 : Int32) + (1 : Int32)), .unset] []) _
    refine XS.aload X17.here hx rfl (hb hby d9_128) rfl rfl ?_
    show OwnS p e below T17 (mkF m 130 #[rv r0, rv r1, rv ar0, rv ar1, rv b5, iv ((0 : Int32) + (1 : Int32)), iv 0, iv ((0 : Int32) + (1 : Int32)), .unset] [(.ref b5)]) _
    refine XS.iload X17.here hx rfl (hb hby d9_130) rfl ?_
    show OwnS p e below T17 (mkF m 132 #[rv r0, rv r1, rv ar0, rv ar1, rv b5, iv ((0 : Int32) + (1 : Int32)), iv 0, iv ((0 : Int32) + (1 : Int32)), .unset] [(.int 1), (.ref b5)]) _
    refine XS.iinc X17.here hx rfl (hb hby d9_132) rfl (l' := #[rv r0, rv r1, rv ar0, rv ar1, rv b5, iv (((0 : Int32) + (1 : Int32)) + (1 : Int32)), iv 0, iv ((0 : Int32) + (1 : Int32)), .unset]) rfl ?_
    show OwnS p e below T17 (mkF m 135 #[rv r0, rv r1, rv ar0, rv ar1, rv b5, iv (((0 : Int32) + (1 : Int32)) + (1 : Int32)), iv 0, iv ((0 : Int32) + (1 : Int32)), .unset] [(.int 1), (.ref b5)]) _
    refine XS.aloadN X17.here hx rfl (hb hby d9_135) rfl rfl ?_
    show OwnS p e below T17 (mkF m 136 #[rv r0, rv r1, rv ar0, rv ar1, rv b5, iv (((0 : Int32) + (1 : Int32)) + (1 : Int32)), iv 0, iv ((0 : Int32) + (1 : Int32)), .unset] [(.ref ar0), (.int 1), (.ref b5)]) _
    refine XS.iload X17.here hx rfl (hb hby d9_136) rfl ?_
    show OwnS p e below T17 (mkF m 138 #[rv r0, rv r1, rv ar0, rv ar1, rv b5, iv (((0 : Int32) + (1 : Int32)) + (1 : Int32)), iv 0, iv ((0 : Int32) + (1 : Int32)), .unset] [(.int 0), (.ref ar0), (.int 1), (.ref b5)]) _
    refine XS.iinc X17.here hx rfl (hb hby d9_138) rfl (l' := #[rv r0, rv r1, rv ar0, rv ar1, rv b5, iv (((0 : Int32) + (1 : Int32)) + (1 : Int32)), iv ((0 : Int32) + (1 : Int32)), iv ((0 : Int32) + (1 : Int32)), .unset]) rfl ?_
    show OwnS p e below T17 (mkF m 141 #[rv r0, rv r1, rv ar0, rv ar1, rv b5, iv (((0 : Int32) + (1 : Int32)) + (1 : Int32)), iv ((0 : Int32) + (1 : Int32)), iv ((0 : Int32) + (1 : Int32)), .unset] [(.int 0), (.ref ar0), (.int 1), (.ref b5)]) _
    refine X17.iaload hx (j := (0 : Int32)) (v := (.int x0)) (by rw [e17]; exact Ar_z19.1) (State.isArrayOf_alike hZ.alike Ar_z19.2.1) Ar_z19.2.2 hin22 (Has.at H_z19 hin22 rfl) (g := (mkF m 141 #[rv r0, rv r1, rv ar0, rv ar1, rv b5, iv (((0 : Int32) + (1 : Int32)) + (1 : Int32)), iv ((0 : Int32) + (1 : Int32)), iv ((0 : Int32) + (1 : Int32)), .unset] [(.int 0), (.ref ar0), (.int 1), (.ref b5)])) rfl rfl (hb hby d9_141) _ ?_
    show OwnS p e below T17 (mkF m 142 #[rv r0, rv r1, rv ar0, rv ar1, rv b5, iv (((0 : Int32) + (1 : Int32)) + (1 : Int32)), iv ((0 : Int32) + (1 : Int32)), iv ((0 : Int32) + (1 : Int32)), .unset] [(.int x0), (.int 1), (.ref b5)]) _
    refine st25 _ ?_
    show OwnS p e below T25 (mkF m 143 #[rv r0, rv r1, rv ar0, rv ar1, rv b5, iv (((0 : Int32) + (1 : Int32)) + (1 : Int32)), iv ((0 : Int32) + (1 : Int32)), iv ((0 : Int32) + (1 : Int32)), .unset] []) _
    refine XS.goto X25.here hx rfl (pc0 := 143) (pc' := 121) rfl (hb hby d9_143) (by decide) (by decide) ?_
    show OwnS p e below T25 (mkF m 121 #[rv r0, rv r1, rv ar0, rv ar1, rv b5, iv (((0 : Int32) + (1 : Int32)) + (1 : Int32)), iv ((0 : Int32) + (1 : Int32)), iv ((0 : Int32) + (1 : Int32)), .unset] []) _
    refine XS.iload X25.here hx rfl (hb hby d9_121) rfl ?_
    show OwnS p e below T25 (mkF m 123 #[rv r0, rv r1, rv ar0, rv ar1, rv b5, iv (((0 : Int32) + (1 : Int32)) + (1 : Int32)), iv ((0 : Int32) + (1 : Int32)), iv ((0 : Int32) + (1 : Int32)), .unset] [(.int 1)]) _
    refine XS.aloadN X25.here hx rfl (hb hby d9_123) rfl rfl ?_
    show OwnS p e below T25 (mkF m 124 #[rv r0, rv r1, rv ar0, rv ar1, rv b5, iv (((0 : Int32) + (1 : Int32)) + (1 : Int32)), iv ((0 : Int32) + (1 : Int32)), iv ((0 : Int32) + (1 : Int32)), .unset] [(.ref ar0), (.int 1)]) _
    refine X25.arraylength hx (by rw [e25]; exact Ar_z27.1) (State.isArrayOf_alike hZ.alike Ar_z27.2.1) (g := (mkF m 124 #[rv r0, rv r1, rv ar0, rv ar1, rv b5, iv (((0 : Int32) + (1 : Int32)) + (1 : Int32)), iv ((0 : Int32) + (1 : Int32)), iv ((0 : Int32) + (1 : Int32)), .unset] [(.ref ar0), (.int 1)])) rfl rfl (hb hby d9_124) _ ?_
    rw [len_of S_z27 N_z27]
    show OwnS p e below T25 (mkF m 125 #[rv r0, rv r1, rv ar0, rv ar1, rv b5, iv (((0 : Int32) + (1 : Int32)) + (1 : Int32)), iv ((0 : Int32) + (1 : Int32)), iv ((0 : Int32) + (1 : Int32)), .unset] [(.int 1), (.int 1)]) _
    refine XS.icmpYes X25.here hx rfl (pc0 := 125) (pc' := 146) rfl (hb hby d9_125) rfl (flt (by decide : ¬ ((1 : Int32) < (1 : Int32)))).2.1 (by decide) (by decide) ?_
    show OwnS p e below T25 (mkF m 146 #[rv r0, rv r1, rv ar0, rv ar1, rv b5, iv (((0 : Int32) + (1 : Int32)) + (1 : Int32)), iv ((0 : Int32) + (1 : Int32)), iv ((0 : Int32) + (1 : Int32)), .unset] []) _
    refine XS.iload X25.here hx rfl (hb hby d9_146) rfl ?_
    show OwnS p e below T25 (mkF m 148 #[rv r0, rv r1, rv ar0, rv ar1, rv b5, iv (((0 : Int32) + (1 : Int32)) + (1 : Int32)), iv ((0 : Int32) + (1 : Int32)), iv ((0 : Int32) + (1 : Int32)), .unset] [(.int 1)]) _
    refine XS.aloadN X25.here hx rfl (hb hby d9_148) rfl rfl ?_
    show OwnS p e below T25 (mkF m 149 #[rv r0, rv r1, rv ar0, rv ar1, rv b5, iv (((0 : Int32) + (1 : Int32)) + (1 : Int32)), iv ((0 : Int32) + (1 : Int32)), iv ((0 : Int32) + (1 : Int32)), .unset] [(.ref ar1), (.int 1)]) _
    refine X25.arraylength hx (by rw [e25]; exact Ar_z29.1) (State.isArrayOf_alike hZ.alike Ar_z29.2.1) (g := (mkF m 149 #[rv r0, rv r1, rv ar0, rv ar1, rv b5, iv (((0 : Int32) + (1 : Int32)) + (1 : Int32)), iv ((0 : Int32) + (1 : Int32)), iv ((0 : Int32) + (1 : Int32)), .unset] [(.ref ar1), (.int 1)])) rfl rfl (hb hby d9_149) _ ?_
    rw [len_of S_z29 N_z29]
    show OwnS p e below T25 (mkF m 150 #[rv r0, rv r1, rv ar0, rv ar1, rv b5, iv (((0 : Int32) + (1 : Int32)) + (1 : Int32)), iv ((0 : Int32) + (1 : Int32)), iv ((0 : Int32) + (1 : Int32)), .unset] [(.int 1), (.int 1)]) _
    refine XS.icmpYes X25.here hx rfl (pc0 := 150) (pc' := 171) rfl (hb hby d9_150) rfl (flt (by decide : ¬ ((1 : Int32) < (1 : Int32)))).2.1 (by decide) (by decide) ?_
    show OwnS p e below T25 (mkF m 171 #[rv r0, rv r1, rv ar0, rv ar1, rv b5, iv (((0 : Int32) + (1 : Int32)) + (1 : Int32)), iv ((0 : Int32) + (1 : Int32)), iv ((0 : Int32) + (1 : Int32)), .unset] []) _
    refine XS.iload X25.here hx rfl (hb hby d9_171) rfl ?_
    show OwnS p e below T25 (mkF m 173 #[rv r0, rv r1, rv ar0, rv ar1, rv b5, iv (((0 : Int32) + (1 : Int32)) + (1 : Int32)), iv ((0 : Int32) + (1 : Int32)), iv ((0 : Int32) + (1 : Int32)), .unset] [(.int 2)]) _
    refine XS.aloadN X25.here hx rfl (hb hby d9_173) rfl rfl ?_
    show OwnS p e below T25 (mkF m 174 #[rv r0, rv r1, rv ar0, rv ar1, rv b5, iv (((0 : Int32) + (1 : Int32)) + (1 : Int32)), iv ((0 : Int32) + (1 : Int32)), iv ((0 : Int32) + (1 : Int32)), .unset] [(.ref ar0), (.int 2)]) _
    refine X25.arraylength hx (by rw [e25]; exact Ar_z27.1) (State.isArrayOf_alike hZ.alike Ar_z27.2.1) (g := (mkF m 174 #[rv r0, rv r1, rv ar0, rv ar1, rv b5, iv (((0 : Int32) + (1 : Int32)) + (1 : Int32)), iv ((0 : Int32) + (1 : Int32)), iv ((0 : Int32) + (1 : Int32)), .unset] [(.ref ar0), (.int 2)])) rfl rfl (hb hby d9_174) _ ?_
    rw [len_of S_z27 N_z27]
    show OwnS p e below T25 (mkF m 175 #[rv r0, rv r1, rv ar0, rv ar1, rv b5, iv (((0 : Int32) + (1 : Int32)) + (1 : Int32)), iv ((0 : Int32) + (1 : Int32)), iv ((0 : Int32) + (1 : Int32)), .unset] [(.int 1), (.int 2)]) _
    refine XS.icmpYes X25.here hx rfl (pc0 := 175) (pc' := 184) rfl (hb hby d9_175) rfl (feq (by decide : ¬ ((2 : Int32) = (1 : Int32)))).2 (by decide) (by decide) ?_
    show OwnS p e below T25 (mkF m 184 #[rv r0, rv r1, rv ar0, rv ar1, rv b5, iv (((0 : Int32) + (1 : Int32)) + (1 : Int32)), iv ((0 : Int32) + (1 : Int32)), iv ((0 : Int32) + (1 : Int32)), .unset] []) _
    refine XS.iload X25.here hx rfl (hb hby d9_184) rfl ?_
    show OwnS p e below T25 (mkF m 186 #[rv r0, rv r1, rv ar0, rv ar1, rv b5, iv (((0 : Int32) + (1 : Int32)) + (1 : Int32)), iv ((0 : Int32) + (1 : Int32)), iv ((0 : Int32) + (1 : Int32)), .unset] [(.int 2)]) _
    refine XS.aloadN X25.here hx rfl (hb hby d9_186) rfl rfl ?_
    show OwnS p e below T25 (mkF m 187 #[rv r0, rv r1, rv ar0, rv ar1, rv b5, iv (((0 : Int32) + (1 : Int32)) + (1 : Int32)), iv ((0 : Int32) + (1 : Int32)), iv ((0 : Int32) + (1 : Int32)), .unset] [(.ref ar1), (.int 2)]) _
    refine X25.arraylength hx (by rw [e25]; exact Ar_z29.1) (State.isArrayOf_alike hZ.alike Ar_z29.2.1) (g := (mkF m 187 #[rv r0, rv r1, rv ar0, rv ar1, rv b5, iv (((0 : Int32) + (1 : Int32)) + (1 : Int32)), iv ((0 : Int32) + (1 : Int32)), iv ((0 : Int32) + (1 : Int32)), .unset] [(.ref ar1), (.int 2)])) rfl rfl (hb hby d9_187) _ ?_
    rw [len_of S_z29 N_z29]
    show OwnS p e below T25 (mkF m 188 #[rv r0, rv r1, rv ar0, rv ar1, rv b5, iv (((0 : Int32) + (1 : Int32)) + (1 : Int32)), iv ((0 : Int32) + (1 : Int32)), iv ((0 : Int32) + (1 : Int32)), .unset] [(.int 1), (.int 2)]) _
    refine XS.icmpYes X25.here hx rfl (pc0 := 188) (pc' := 197) rfl (hb hby d9_188) rfl (feq (by decide : ¬ ((2 : Int32) = (1 : Int32)))).2 (by decide) (by decide) ?_
    show OwnS p e below T25 (mkF m 197 #[rv r0, rv r1, rv ar0, rv ar1, rv b5, iv (((0 : Int32) + (1 : Int32)) + (1 : Int32)), iv ((0 : Int32) + (1 : Int32)), iv ((0 : Int32) + (1 : Int32)), .unset] []) _
    refine st33 _ ?_
    show OwnS p e below T33 (mkF m 200 #[rv r0, rv r1, rv ar0, rv ar1, rv b5, iv (((0 : Int32) + (1 : Int32)) + (1 : Int32)), iv ((0 : Int32) + (1 : Int32)), iv ((0 : Int32) + (1 : Int32)), .unset] [(.ref b33)]) _
    refine XS.dup X33.here hx rfl (hb hby d9_200) rfl rfl ?_
    show OwnS p e below T33 (mkF m 201 #[rv r0, rv r1, rv ar0, rv ar1, rv b5, iv (((0 : Int32) + (1 : Int32)) + (1 : Int32)), iv ((0 : Int32) + (1 : Int32)), iv ((0 : Int32) + (1 : Int32)), .unset] [(.ref b33), (.ref b33)]) _
    refine XS.aload X33.here hx rfl (hb hby d9_201) rfl rfl ?_
    show OwnS p e below T33 (mkF m 203 #[rv r0, rv r1, rv ar0, rv ar1, rv b5, iv (((0 : Int32) + (1 : Int32)) + (1 : Int32)), iv ((0 : Int32) + (1 : Int32)), iv ((0 : Int32) + (1 : Int32)), .unset] [(.ref b5), (.ref b33), (.ref b33)]) _
    refine XS.iload X33.here hx rfl (hb hby d9_203) rfl ?_
    show OwnS p e below T33 (mkF m 205 #[rv r0, rv r1, rv ar0, rv ar1, rv b5, iv (((0 : Int32) + (1 : Int32)) + (1 : Int32)), iv ((0 : Int32) + (1 : Int32)), iv ((0 : Int32) + (1 : Int32)), .unset] [(.int 2), (.ref b5), (.ref b33), (.ref b33)]) _
    refine st34 _ ?_
    show OwnS p e below T34 (mkF m 208 #[rv r0, rv r1, rv ar0, rv ar1, rv b5, iv (((0 : Int32) + (1 : Int32)) + (1 : Int32)), iv ((0 : Int32) + (1 : Int32)), iv ((0 : Int32) + (1 : Int32)), .unset] [(.ref ar_34), (.ref b33), (.ref b33)]) _
    refine st41.trans ?_
    show OwnS p e below T41 (mkF m 211 #[rv r0, rv r1, rv ar0, rv ar1, rv b5, iv (((0 : Int32) + (1 : Int32)) + (1 : Int32)), iv ((0 : Int32) + (1 : Int32)), iv ((0 : Int32) + (1 : Int32)), .unset] [(.ref b33)]) _
    refine XS.astore X41.here hx rfl (hb hby d9_211) rfl rfl (l' := #[rv r0, rv r1, rv ar0, rv ar1, rv b5, iv (((0 : Int32) + (1 : Int32)) + (1 : Int32)), iv ((0 : Int32) + (1 : Int32)), iv ((0 : Int32) + (1 : Int32)), rv b33]) rfl ?_
    show OwnS p e below T41 (mkF m 213 #[rv r0, rv r1, rv ar0, rv ar1, rv b5, iv (((0 : Int32) + (1 : Int32)) + (1 : Int32)), iv ((0 : Int32) + (1 : Int32)), iv ((0 : Int32) + (1 : Int32)), rv b33] []) _
    refine XS.aload X41.here hx rfl (hb hby d9_213) rfl rfl ?_
    show OwnS p e below T41 (mkF m 215 #[rv r0, rv r1, rv ar0, rv ar1, rv b5, iv (((0 : Int32) + (1 : Int32)) + (1 : Int32)), iv ((0 : Int32) + (1 : Int32)), iv ((0 : Int32) + (1 : Int32)), rv b33] [(.ref b33)]) _
    jvm_step X41.here [X41.here.top, hx, (hb hby d9_215), X41.method', Bd.returns, Value.isRef, FieldType.isReference]
    first | (intro acts; rw [hr _ acts rfl rfl rfl]) | rw [hr _ _ rfl rfl rfl]
    exact Steps.refl _
  · show Q_9_gt Z r0 r1 ar0 k0c ar1 k1c x0 x1 h0 n0 _ T41.heap _
    exact ⟨b33, ar_34, kk_34, rfl, N41, (((((((Keep.refl h0 []).ext E5).wr W17 (Or.inr sz_b5)).wr W25 (Or.inr sz_b5)).ext E33).trans K34 all0).trans K41 (allS (Or.inr sz_b33) all0)), sz_b33, sz_ar_34, (Nat.ne_of_lt (Nat.lt_of_lt_of_le A33.lt p34_0)), p41_0, p41_1, f49, f50⟩
theorem d9_100 : decode prog_21_method_3_code 100 = .ok (.aload 4, 2) := by decide +kernel
theorem d9_102 : decode prog_21_method_3_code 102 = .ok (.iload 5, 2) := by decide +kernel
theorem d9_104 : decode prog_21_method_3_code 104 = .ok (.iinc 5 1, 3) := by decide +kernel
theorem d9_107 : decode prog_21_method_3_code 107 = .ok (.aload_n 2, 1) := by decide +kernel
theorem d9_108 : decode prog_21_method_3_code 108 = .ok (.iload 6, 2) := by decide +kernel
theorem d9_110 : decode prog_21_method_3_code 110 = .ok (.iinc 6 1, 3) := by decide +kernel
theorem d9_113 : decode prog_21_method_3_code 113 = .ok (.iaload, 1) := by decide +kernel
theorem d9_114 : decode prog_21_method_3_code 114 = .ok (.iastore, 1) := by decide +kernel
theorem d9_115 : decode prog_21_method_3_code 115 = .ok (.iinc 7 1, 3) := by decide +kernel
theorem d9_118 : decode prog_21_method_3_code 118 = .ok (.goto (-90), 3) := by decide +kernel
theorem d9_178 : decode prog_21_method_3_code 178 = .ok (.aload_n 0, 1) := by decide +kernel
theorem d9_179 : decode prog_21_method_3_code 179 = .ok (.astore 8, 2) := by decide +kernel
theorem d9_181 : decode prog_21_method_3_code 181 = .ok (.goto 32, 3) := by decide +kernel
def Q_9_eq (Z : State) (r0 : Addr) (r1 : Addr) (ar0 : Addr) (k0c : ClassId) (ar1 : Addr) (k1c : ClassId) (x0 : Int32) (h0 : Heap) (n0 : Nat) (v : Option Value) (h : Heap) (L : List Loc) : Prop := v = some (.ref r0) ∧ Fr n0 L ∧ Keep h0 h [] ∧ True
set_option maxRecDepth 65536 in
set_option maxHeartbeats 40000000 in
theorem rm9_eq (l : Launch) (Z : State) (a0 : Array Value) (hw : ∀ d ∈ tables_1, d.before a0 Z = true) (ws : List Jvm.Cond) (r0 : Addr) (r1 : Addr) (ar0 : Addr) (k0c : ClassId) (ar1 : Addr) (k1c : ClassId) (x0 : Int32) (h0 : Heap) (n0 : Nat) (Z0 : n0 ≤ h0.size) (E_r0 : Exa Z h0 r0 cS0) (F_levels_r0 : Fld Z h0 r0 cS0 "levels" "[I" (.ref ar0)) (V_ar0 : Arv Z h0 ar0 k0c .int (1 : Int32) [(.int x0)] (.int 0)) (E_ar0 : Exa Z h0 ar0 "[I") (E_r1 : Exa Z h0 r1 cS0) (F_levels_r1 : Fld Z h0 r1 cS0 "levels" "[I" (.ref ar1)) (V_ar1 : Arv Z h0 ar1 k1c .int (1 : Int32) [(.int x0)] (.int 0)) (E_ar1 : Exa Z h0 ar1 "[I") :
    MetFree l (⟨cS0, "union", cS2⟩ : MethodName) (head1 (Jvm.Cond.code (⟨cS0, "union", cS2⟩ : MethodName) prog_21_method_3_code 9 (some (.object cS0)) :: ws) ({ frames := 0, cells := 1, slots := 2, locals := 0 } : Room)) (fun a U => a = #[(.ref r0), (.ref r1)] ∧ Z.Warmed39 U.vm ∧ U.heap = h0) (fun _ _ _ _ _ => True) (fun _ U o U' => ∃ v L, o = .returned v ∧ Q_9_eq Z r0 r1 ar0 k0c ar1 k1c x0 h0 n0 v U'.heap L ∧ FrameEnd U o U' L ({ frames := 0, cells := 1, slots := 2, locals := 0 } : Room).cells ({ frames := 0, cells := 1, slots := 2, locals := 0 } : Room).slots) := by
  refine MetFree.of_bodySF (plainFor_of_name pn_com_example_tablox_tablox_tableau_Dependencies) hisR ?_
  intro p e s m args below meth c s₁ Bd hml0 hP hK
  obtain ⟨rfl, hZ, hh⟩ := hP
  have hx := Bd.exec
  have hby := Bd.bytes
  have hml : c.maxLocals = 9 := hml0
  have hown : s.vm.findClass cS0 = some m.cls := findClass_of_methodNamed Bd.named
  have hnm := (name_of_methodNamed Bd.named Bd.method).1
  have X0 : Stand p l e ({ frames := 0, cells := 1, slots := 2, locals := 0 } : Room) s m #[(.ref r0), (.ref r1)] below meth c s₁ [] 0 0 := Stand.of_body Bd
  have e0 : s₁.heap = h0 := by rw [← hh, Bd.state]; rfl
  have N0 := Fr.nil n0
  have k0 : ∀ t, OwnS p e below s₁ (mkF m 0 #[rv r0, rv r1, .unset, .unset, .unset, .unset, .unset, .unset, .unset] []) t → OwnS p e below s₁ (entryFrame m #[(.ref r0), (.ref r1)] 9) t := fun t k => castTop (ef_9 m r0 r1) k
  obtain ⟨T1, X1, e1, st1⟩ := getF X0 hx hZ hown (host := "") (Or.inl (own_at hw 13 rfl)) Via.refl e0 F_levels_r0 (g := (mkF m 1 #[rv r0, rv r1, .unset, .unset, .unset, .unset, .unset, .unset, .unset] [(.ref r0)])) rfl rfl (hb hby d9_1)
  obtain ⟨T2, X2, e2, st2⟩ := getF X1 hx hZ hown (host := "") (Or.inl (own_at hw 13 rfl)) Via.refl e1 F_levels_r1 (g := (mkF m 6 #[rv r0, rv r1, rv ar0, .unset, .unset, .unset, .unset, .unset, .unset] [(.ref r1)])) rfl rfl (hb hby d9_6)
  obtain ⟨cl_z3, Ar_z3, q_z3, S_z3, N_z3, H_z3, G_z3⟩ := id V_ar0
  obtain ⟨cl_z4, Ar_z4, q_z4, S_z4, N_z4, H_z4, G_z4⟩ := id V_ar1
  obtain ⟨T5, h5, k5, X5, e5, E5, A5, EA5, st5⟩ := newPE X2 hx hZ (own_at hw 6 rfl) e2 (g := (mkF m 15 #[rv r0, rv r1, rv ar0, rv ar1, .unset, .unset, .unset, .unset, .unset] [(.int 2)])) rfl (hb hby d9_15) rfl (by decide) (cap := 2) (by decide) (by decide) (by decide) (by decide) (ad := "[I") (by decide)
  obtain ⟨b5, g5⟩ : ∃ z, z = h0.size := ⟨_, rfl⟩
  rw [← g5] at A5 EA5 st5
  have g_b5 : n0 ≤ b5 := Nat.le_trans Z0 (Nat.le_of_eq g5.symm)
  have sz_b5 : h0.size ≤ b5 := Nat.le_trans (Keep.refl h0 []).1 (Nat.le_of_eq g5.symm)
  have V_b5 : Arv Z h5 b5 k5 .int (2 : Int32) [(.int 0), (.int 0)] (.int 0) := (Arv.new A5 (by decide)).pad (pad_rep [] (.int 0) 2)
  have f6 := (V_ar0.ext E5)
  obtain ⟨cl_z7, Ar_z7, q_z7, S_z7, N_z7, H_z7, G_z7⟩ := id f6
  have f8 := (V_ar1.ext E5)
  obtain ⟨cl_z9, Ar_z9, q_z9, S_z9, N_z9, H_z9, G_z9⟩ := id f8
  have hin10 : ¬ ((0 : Int32) < 0 ∨ cl_z7.slots.size ≤ ((0 : Int32)).toNatClampNeg) := inb_of S_z7 ⟨by decide, by decide⟩
  have hin11 : ¬ ((0 : Int32) < 0 ∨ cl_z9.slots.size ≤ ((0 : Int32)).toNatClampNeg) := inb_of S_z9 ⟨by decide, by decide⟩
  have hin12 : ¬ ((0 : Int32) < 0 ∨ cl_z7.slots.size ≤ ((0 : Int32)).toNatClampNeg) := inb_of S_z7 ⟨by decide, by decide⟩
  have hin13 : ¬ ((0 : Int32) < 0 ∨ cl_z9.slots.size ≤ ((0 : Int32)).toNatClampNeg) := inb_of S_z9 ⟨by decide, by decide⟩
  have hin14 : ¬ ((0 : Int32) < 0 ∨ cl_z7.slots.size ≤ ((0 : Int32)).toNatClampNeg) := inb_of S_z7 ⟨by decide, by decide⟩
  obtain ⟨cl_z15, Ar_z15, q_z15, S_z15, N_z15, H_z15, G_z15⟩ := id V_b5
  have hin16 : ¬ ((0 : Int32) < 0 ∨ cl_z15.slots.size ≤ ((0 : Int32)).toNatClampNeg) := inb_of S_z15 ⟨by decide, by decide⟩
  obtain ⟨T17, h17, X17, e17, W17, st17⟩ := stI X5 hx hZ e5 Ar_z15 (j := (0 : Int32)) hin16 (g := (mkF m 114 #[rv r0, rv r1, rv ar0, rv ar1, rv b5, iv ((0 : Int32) + (1 : Int32)), iv ((0 : Int32) + (1 : Int32)), iv 0, .unset] [(.int x0), (.int 0), (.ref b5)])) rfl rfl (hb hby d9_114)
  have V17 : Arv Z h17 b5 k5 .int (2 : Int32) [(.int x0), (.int 0)] (.int 0) := Arv.set Ar_z15 q_z15 S_z15 N_z15 H_z15 G_z15 rfl W17 0 rfl (Nat.le_of_ble_eq_true rfl)
  have N17 := Fr.snoc X17 N0 g_b5
  have f18 := (f6.other W17 (Nat.ne_of_lt (Nat.lt_of_lt_of_le V_ar0.lt (Nat.le_of_eq g5.symm))))
  obtain ⟨cl_z19, Ar_z19, q_z19, S_z19, N_z19, H_z19, G_z19⟩ := id f18
  have f20 := (f8.other W17 (Nat.ne_of_lt (Nat.lt_of_lt_of_le V_ar1.lt (Nat.le_of_eq g5.symm))))
  obtain ⟨cl_z21, Ar_z21, q_z21, S_z21, N_z21, H_z21, G_z21⟩ := id f20
  obtain ⟨fs, hr, hrun, hended, hW, hsame⟩ := X17.leave (v := some (.ref r0)) (fun h => by rw [Bd.returns] at h; cases h)
  refine ⟨_, _, k0 _ ?_, hrun, hended, _, _, rfl, ?_, ⟨_, rfl⟩, hW, hsame.mono (by decide) (by decide)⟩
  · show OwnS p e below s₁ (mkF m 0 #[rv r0, rv r1, .unset, .unset, .unset, .unset, .unset, .unset, .unset] []) _
    refine XS.aloadN X0.here hx rfl (hb hby d9_0) rfl rfl ?_
    show OwnS p e below s₁ (mkF m 1 #[rv r0, rv r1, .unset, .unset, .unset, .unset, .unset, .unset, .unset] [(.ref r0)]) _
    refine st1 _ ?_
    show OwnS p e below T1 (mkF m 4 #[rv r0, rv r1, .unset, .unset, .unset, .unset, .unset, .unset, .unset] [(.ref ar0)]) _
    refine XS.astoreN X1.here hx rfl (hb hby d9_4) rfl rfl (l' := #[rv r0, rv r1, rv ar0, .unset, .unset, .unset, .unset, .unset, .unset]) rfl ?_
    show OwnS p e below T1 (mkF m 5 #[rv r0, rv r1, rv ar0, .unset, .unset, .unset, .unset, .unset, .unset] []) _
    refine XS.aloadN X1.here hx rfl (hb hby d9_5) rfl rfl ?_
    show OwnS p e below T1 (mkF m 6 #[rv r0, rv r1, rv ar0, .unset, .unset, .unset, .unset, .unset, .unset] [(.ref r1)]) _
    refine st2 _ ?_
    show OwnS p e below T2 (mkF m 9 #[rv r0, rv r1, rv ar0, .unset, .unset, .unset, .unset, .unset, .unset] [(.ref ar1)]) _
    refine XS.astoreN X2.here hx rfl (hb hby d9_9) rfl rfl (l' := #[rv r0, rv r1, rv ar0, rv ar1, .unset, .unset, .unset, .unset, .unset]) rfl ?_
    show OwnS p e below T2 (mkF m 10 #[rv r0, rv r1, rv ar0, rv ar1, .unset, .unset, .unset, .unset, .unset] []) _
    refine XS.aloadN X2.here hx rfl (hb hby d9_10) rfl rfl ?_
    show OwnS p e below T2 (mkF m 11 #[rv r0, rv r1, rv ar0, rv ar1, .unset, .unset, .unset, .unset, .unset] [(.ref ar0)]) _
    refine X2.arraylength hx (by rw [e2]; exact Ar_z3.1) (State.isArrayOf_alike hZ.alike Ar_z3.2.1) (g := (mkF m 11 #[rv r0, rv r1, rv ar0, rv ar1, .unset, .unset, .unset, .unset, .unset] [(.ref ar0)])) rfl rfl (hb hby d9_11) _ ?_
    rw [len_of S_z3 N_z3]
    show OwnS p e below T2 (mkF m 12 #[rv r0, rv r1, rv ar0, rv ar1, .unset, .unset, .unset, .unset, .unset] [(.int 1)]) _
    refine XS.aloadN X2.here hx rfl (hb hby d9_12) rfl rfl ?_
    show OwnS p e below T2 (mkF m 13 #[rv r0, rv r1, rv ar0, rv ar1, .unset, .unset, .unset, .unset, .unset] [(.ref ar1), (.int 1)]) _
    refine X2.arraylength hx (by rw [e2]; exact Ar_z4.1) (State.isArrayOf_alike hZ.alike Ar_z4.2.1) (g := (mkF m 13 #[rv r0, rv r1, rv ar0, rv ar1, .unset, .unset, .unset, .unset, .unset] [(.ref ar1), (.int 1)])) rfl rfl (hb hby d9_13) _ ?_
    rw [len_of S_z4 N_z4]
    show OwnS p e below T2 (mkF m 14 #[rv r0, rv r1, rv ar0, rv ar1, .unset, .unset, .unset, .unset, .unset] [(.int 1), (.int 1)]) _
    refine XS.iadd X2.here hx rfl (hb hby d9_14) rfl ?_
    show OwnS p e below T2 (mkF m 15 #[rv r0, rv r1, rv ar0, rv ar1, .unset, .unset, .unset, .unset, .unset] [(.int 2)]) _
    refine st5 _ ?_
    show OwnS p e below T5 (mkF m 17 #[rv r0, rv r1, rv ar0, rv ar1, .unset, .unset, .unset, .unset, .unset] [(.ref b5)]) _
    refine XS.astore X5.here hx rfl (hb hby d9_17) rfl rfl (l' := #[rv r0, rv r1, rv ar0, rv ar1, rv b5, .unset, .unset, .unset, .unset]) rfl ?_
    show OwnS p e below T5 (mkF m 19 #[rv r0, rv r1, rv ar0, rv ar1, rv b5, .unset, .unset, .unset, .unset] []) _
    refine XS.iconst X5.here hx rfl (hb hby d9_19) ?_
    show OwnS p e below T5 (mkF m 20 #[rv r0, rv r1, rv ar0, rv ar1, rv b5, .unset, .unset, .unset, .unset] [(.int 0)]) _
    refine XS.istore X5.here hx rfl (hb hby d9_20) rfl (l' := #[rv r0, rv r1, rv ar0, rv ar1, rv b5, iv 0, .unset, .unset, .unset]) rfl ?_
    show OwnS p e below T5 (mkF m 22 #[rv r0, rv r1, rv ar0, rv ar1, rv b5, iv 0, .unset, .unset, .unset] []) _
    refine XS.iconst X5.here hx rfl (hb hby d9_22) ?_
    show OwnS p e below T5 (mkF m 23 #[rv r0, rv r1, rv ar0, rv ar1, rv b5, iv 0, .unset, .unset, .unset] [(.int 0)]) _
    refine XS.istore X5.here hx rfl (hb hby d9_23) rfl (l' := #[rv r0, rv r1, rv ar0, rv ar1, rv b5, iv 0, iv 0, .unset, .unset]) rfl ?_
    show OwnS p e below T5 (mkF m 25 #[rv r0, rv r1, rv ar0, rv ar1, rv b5, iv 0, iv 0, .unset, .unset] []) _
    refine XS.iconst X5.here hx rfl (hb hby d9_25) ?_
    show OwnS p e below T5 (mkF m 26 #[rv r0, rv r1, rv ar0, rv ar1, rv b5, iv 0, iv 0, .unset, .unset] [(.int 0)]) _
    refine XS.istore X5.here hx rfl (hb hby d9_26) rfl (l' := #[rv r0, rv r1, rv ar0, rv ar1, rv b5, iv 0, iv 0, iv 0, .unset]) rfl ?_
    show OwnS p e below T5 (mkF m 28 #[rv r0, rv r1, rv ar0, rv ar1, rv b5, iv 0, iv 0, iv 0, .unset] []) _
    refine XS.iload X5.here hx rfl (hb hby d9_28) rfl ?_
    show OwnS p e below T5 (mkF m 30 #[rv r0, rv r1, rv ar0, rv ar1, rv b5, iv 0, iv 0, iv 0, .unset] [(.int 0)]) _
    refine XS.aloadN X5.here hx rfl (hb hby d9_30) rfl rfl ?_
    show OwnS p e below T5 (mkF m 31 #[rv r0, rv r1, rv ar0, rv ar1, rv b5, iv 0, iv 0, iv 0, .unset] [(.ref ar0), (.int 0)]) _
    refine X5.arraylength hx (by rw [e5]; exact Ar_z7.1) (State.isArrayOf_alike hZ.alike Ar_z7.2.1) (g := (mkF m 31 #[rv r0, rv r1, rv ar0, rv ar1, rv b5, iv 0, iv 0, iv 0, .unset] [(.ref ar0), (.int 0)])) rfl rfl (hb hby d9_31) _ ?_
    rw [len_of S_z7 N_z7]
    show OwnS p e below T5 (mkF m 32 #[rv r0, rv r1, rv ar0, rv ar1, rv b5, iv 0, iv 0, iv 0, .unset] [(.int 1), (.int 0)]) _
    refine XS.icmpNo X5.here hx rfl (hb hby d9_32) rfl (tlt (by decide : (0 : Int32) < (1 : Int32))).2.1 ?_
    show OwnS p e below T5 (mkF m 35 #[rv r0, rv r1, rv ar0, rv ar1, rv b5, iv 0, iv 0, iv 0, .unset] []) _
    refine XS.iload X5.here hx rfl (hb hby d9_35) rfl ?_
    show OwnS p e below T5 (mkF m 37 #[rv r0, rv r1, rv ar0, rv ar1, rv b5, iv 0, iv 0, iv 0, .unset] [(.int 0)]) _
    refine XS.aloadN X5.here hx rfl (hb hby d9_37) rfl rfl ?_
    show OwnS p e below T5 (mkF m 38 #[rv r0, rv r1, rv ar0, rv ar1, rv b5, iv 0, iv 0, iv 0, .unset] [(.ref ar1), (.int 0)]) _
    refine X5.arraylength hx (by rw [e5]; exact Ar_z9.1) (State.isArrayOf_alike hZ.alike Ar_z9.2.1) (g := (mkF m 38 #[rv r0, rv r1, rv ar0, rv ar1, rv b5, iv 0, iv 0, iv 0, .unset] [(.ref ar1), (.int 0)])) rfl rfl (hb hby d9_38) _ ?_
    rw [len_of S_z9 N_z9]
    show OwnS p e below T5 (mkF m 39 #[rv r0, rv r1, rv ar0, rv ar1, rv b5, iv 0, iv 0, iv 0, .unset] [(.int 1), (.int 0)]) _
    refine XS.icmpNo X5.here hx rfl (hb hby d9_39) rfl (tlt (by decide : (0 : Int32) < (1 : Int32))).2.1 ?_
    show OwnS p e below T5 (mkF m 42 #[rv r0, rv r1, rv ar0, rv ar1, rv b5, iv 0, iv 0, iv 0, .unset] []) _
    refine XS.aloadN X5.here hx rfl (hb hby d9_42) rfl rfl ?_
    show OwnS p e below T5 (mkF m 43 #[rv r0, rv r1, rv ar0, rv ar1, rv b5, iv 0, iv 0, iv 0, .unset] [(.ref ar0)]) _
    refine XS.iload X5.here hx rfl (hb hby d9_43) rfl ?_
    show OwnS p e below T5 (mkF m 45 #[rv r0, rv r1, rv ar0, rv ar1, rv b5, iv 0, iv 0, iv 0, .unset] [(.int 0), (.ref ar0)]) _
    refine X5.iaload hx (j := (0 : Int32)) (v := (.int x0)) (by rw [e5]; exact Ar_z7.1) (State.isArrayOf_alike hZ.alike Ar_z7.2.1) Ar_z7.2.2 hin10 (Has.at H_z7 hin10 rfl) (g := (mkF m 45 #[rv r0, rv r1, rv ar0, rv ar1, rv b5, iv 0, iv 0, iv 0, .unset] [(.int 0), (.ref ar0)])) rfl rfl (hb hby d9_45) _ ?_
    show OwnS p e below T5 (mkF m 46 #[rv r0, rv r1, rv ar0, rv ar1, rv b5, iv 0, iv 0, iv 0, .unset] [(.int x0)]) _
    refine XS.aloadN X5.here hx rfl (hb hby d9_46) rfl rfl ?_
    show OwnS p e below T5 (mkF m 47 #[rv r0, rv r1, rv ar0, rv ar1, rv b5, iv 0, iv 0, iv 0, .unset] [(.ref ar1), (.int x0)]) _
    refine XS.iload X5.here hx rfl (hb hby d9_47) rfl ?_
    show OwnS p e below T5 (mkF m 49 #[rv r0, rv r1, rv ar0, rv ar1, rv b5, iv 0, iv 0, iv 0, .unset] [(.int 0), (.ref ar1), (.int x0)]) _
    refine X5.iaload hx (j := (0 : Int32)) (v := (.int x0)) (by rw [e5]; exact Ar_z9.1) (State.isArrayOf_alike hZ.alike Ar_z9.2.1) Ar_z9.2.2 hin11 (Has.at H_z9 hin11 rfl) (g := (mkF m 49 #[rv r0, rv r1, rv ar0, rv ar1, rv b5, iv 0, iv 0, iv 0, .unset] [(.int 0), (.ref ar1), (.int x0)])) rfl rfl (hb hby d9_49) _ ?_
    show OwnS p e below T5 (mkF m 50 #[rv r0, rv r1, rv ar0, rv ar1, rv b5, iv 0, iv 0, iv 0, .unset] [(.int x0), (.int x0)]) _
    refine XS.icmpYes X5.here hx rfl (pc0 := 50) (pc' := 71) rfl (hb hby d9_50) rfl (flt (own_irr _)).2.1 (by decide) (by decide) ?_
    show OwnS p e below T5 (mkF m 71 #[rv r0, rv r1, rv ar0, rv ar1, rv b5, iv 0, iv 0, iv 0, .unset] []) _
    refine XS.aloadN X5.here hx rfl (hb hby d9_71) rfl rfl ?_
    show OwnS p e below T5 (mkF m 72 #[rv r0, rv r1, rv ar0, rv ar1, rv b5, iv 0, iv 0, iv 0, .unset] [(.ref ar0)]) _
    refine XS.iload X5.here hx rfl (hb hby d9_72) rfl ?_
    show OwnS p e below T5 (mkF m 74 #[rv r0, rv r1, rv ar0, rv ar1, rv b5, iv 0, iv 0, iv 0, .unset] [(.int 0), (.ref ar0)]) _
    refine X5.iaload hx (j := (0 : Int32)) (v := (.int x0)) (by rw [e5]; exact Ar_z7.1) (State.isArrayOf_alike hZ.alike Ar_z7.2.1) Ar_z7.2.2 hin12 (Has.at H_z7 hin12 rfl) (g := (mkF m 74 #[rv r0, rv r1, rv ar0, rv ar1, rv b5, iv 0, iv 0, iv 0, .unset] [(.int 0), (.ref ar0)])) rfl rfl (hb hby d9_74) _ ?_
    show OwnS p e below T5 (mkF m 75 #[rv r0, rv r1, rv ar0, rv ar1, rv b5, iv 0, iv 0, iv 0, .unset] [(.int x0)]) _
    refine XS.aloadN X5.here hx rfl (hb hby d9_75) rfl rfl ?_
    show OwnS p e below T5 (mkF m 76 #[rv r0, rv r1, rv ar0, rv ar1, rv b5, iv 0, iv 0, iv 0, .unset] [(.ref ar1), (.int x0)]) _
    refine XS.iload X5.here hx rfl (hb hby d9_76) rfl ?_
    show OwnS p e below T5 (mkF m 78 #[rv r0, rv r1, rv ar0, rv ar1, rv b5, iv 0, iv 0, iv 0, .unset] [(.int 0), (.ref ar1), (.int x0)]) _
    refine X5.iaload hx (j := (0 : Int32)) (v := (.int x0)) (by rw [e5]; exact Ar_z9.1) (State.isArrayOf_alike hZ.alike Ar_z9.2.1) Ar_z9.2.2 hin13 (Has.at H_z9 hin13 rfl) (g := (mkF m 78 #[rv r0, rv r1, rv ar0, rv ar1, rv b5, iv 0, iv 0, iv 0, .unset] [(.int 0), (.ref ar1), (.int x0)])) rfl rfl (hb hby d9_78) _ ?_
    show OwnS p e below T5 (mkF m 79 #[rv r0, rv r1, rv ar0, rv ar1, rv b5, iv 0, iv 0, iv 0, .unset] [(.int x0), (.int x0)]) _
    refine XS.icmpYes X5.here hx rfl (pc0 := 79) (pc' := 100) rfl (hb hby d9_79) rfl (flt (own_irr _)).2.2.2 (by decide) (by decide) ?_
    show OwnS p e below T5 (mkF m 100 #[rv r0, rv r1, rv ar0, rv ar1, rv b5, iv 0, iv 0, iv 0, .unset] []) _
    refine XS.aload X5.here hx rfl (hb hby d9_100) rfl rfl ?_
    show OwnS p e below T5 (mkF m 102 #[rv r0, rv r1, rv ar0, rv ar1, rv b5, iv 0, iv 0, iv 0, .unset] [(.ref b5)]) _
    refine XS.iload X5.here hx rfl (hb hby d9_102) rfl ?_
    show OwnS p e below T5 (mkF m 104 #[rv r0, rv r1, rv ar0, rv ar1, rv b5, iv 0, iv 0, iv 0, .unset] [(.int 0), (.ref b5)]) _
    refine XS.iinc X5.here hx rfl (hb hby d9_104) rfl (l' := #[rv r0, rv r1, rv ar0, rv ar1, rv b5, iv ((0 : Int32) + (1 : Int32)), iv 0, iv 0, .unset]) rfl ?_
    show OwnS p e below T5 (mkF m 107 #[rv r0, rv r1, rv ar0, rv ar1, rv b5, iv ((0 : Int32) + (1 : Int32)), iv 0, iv 0, .unset] [(.int 0), (.ref b5)]) _
    refine XS.aloadN X5.here hx rfl (hb hby d9_107) rfl rfl ?_
    show OwnS p e below T5 (mkF m 108 #[rv r0, rv r1, rv ar0, rv ar1, rv b5, iv ((0 : Int32) + (1 : Int32)), iv 0, iv 0, .unset] [(.ref ar0), (.int 0), (.ref b5)]) _
    refine XS.iload X5.here hx rfl (hb hby d9_108) rfl ?_
    show OwnS p e below T5 (mkF m 110 #[rv r0, rv r1, rv ar0, rv ar1, rv b5, iv ((0 : Int32) + (1 : Int32)), iv 0, iv 0, .unset] [(.int 0), (.ref ar0), (.int 0), (.ref b5)]) _
    refine XS.iinc X5.here hx rfl (hb hby d9_110) rfl (l' := #[rv r0, rv r1, rv ar0, rv ar1, rv b5, iv ((0 : Int32) + (1 : Int32)), iv ((0 : Int32) + (1 : Int32)), iv 0, .unset]) rfl ?_
    show OwnS p e below T5 (mkF m 113 #[rv r0, rv r1, rv ar0, rv ar1, rv b5, iv ((0 : Int32) + (1 : Int32)), iv ((0 : Int32) + (1 : Int32)), iv 0, .unset] [(.int 0), (.ref ar0), (.int 0), (.ref b5)]) _
    refine X5.iaload hx (j := (0 : Int32)) (v := (.int x0)) (by rw [e5]; exact Ar_z7.1) (State.isArrayOf_alike hZ.alike Ar_z7.2.1) Ar_z7.2.2 hin14 (Has.at H_z7 hin14 rfl) (g := (mkF m 113 #[rv r0, rv r1, rv ar0, rv ar1, rv b5, iv ((0 : Int32) + (1 : Int32)), iv ((0 : Int32) + (1 : Int32)), iv 0, .unset] [(.int 0), (.ref ar0), (.int 0), (.ref b5)])) rfl rfl (hb hby d9_113) _ ?_
    show OwnS p e below T5 (mkF m 114 #[rv r0, rv r1, rv ar0, rv ar1, rv b5, iv ((0 : Int32) + (1 : Int32)), iv ((0 : Int32) + (1 : Int32)), iv 0, .unset] [(.int x0), (.int 0), (.ref b5)]) _
    refine st17 _ ?_
    show OwnS p e below T17 (mkF m 115 #[rv r0, rv r1, rv ar0, rv ar1, rv b5, iv ((0 : Int32) + (1 : Int32)), iv ((0 : Int32) + (1 : Int32)), iv 0, .unset] []) _
    refine XS.iinc X17.here hx rfl (hb hby d9_115) rfl (l' := #[rv r0, rv r1, rv ar0, rv ar1, rv b5, iv ((0 : Int32) + (1 : Int32)), iv ((0 : Int32) + (1 : Int32)), iv ((0 : Int32) + (1 : Int32)), .unset]) rfl ?_
    show OwnS p e below T17 (mkF m 118 #[rv r0, rv r1, rv ar0, rv ar1, rv b5, iv ((0 : Int32) + (1 : Int32)), iv ((0 : Int32) + (1 : Int32)), iv ((0 : Int32) + (1 : Int32)), .unset] []) _
    refine XS.goto X17.here hx rfl (pc0 := 118) (pc' := 28) rfl (hb hby d9_118) (by decide) (by decide) ?_
    show OwnS p e below T17 (mkF m 28 #[rv r0, rv r1, rv ar0, rv ar1, rv b5, iv ((0 : Int32) + (1 : Int32)), iv ((0 : Int32) + (1 : Int32)), iv ((0 : Int32) + (1 : Int32)), .unset] []) _
    refine XS.iload X17.here hx rfl (hb hby d9_28) rfl ?_
    show OwnS p e below T17 (mkF m 30 #[rv r0, rv r1, rv ar0, rv ar1, rv b5, iv ((0 : Int32) + (1 : Int32)), iv ((0 : Int32) + (1 : Int32)), iv ((0 : Int32) + (1 : Int32)), .unset] [(.int 1)]) _
    refine XS.aloadN X17.here hx rfl (hb hby d9_30) rfl rfl ?_
    show OwnS p e below T17 (mkF m 31 #[rv r0, rv r1, rv ar0, rv ar1, rv b5, iv ((0 : Int32) + (1 : Int32)), iv ((0 : Int32) + (1 : Int32)), iv ((0 : Int32) + (1 : Int32)), .unset] [(.ref ar0), (.int 1)]) _
    refine X17.arraylength hx (by rw [e17]; exact Ar_z19.1) (State.isArrayOf_alike hZ.alike Ar_z19.2.1) (g := (mkF m 31 #[rv r0, rv r1, rv ar0, rv ar1, rv b5, iv ((0 : Int32) + (1 : Int32)), iv ((0 : Int32) + (1 : Int32)), iv ((0 : Int32) + (1 : Int32)), .unset] [(.ref ar0), (.int 1)])) rfl rfl (hb hby d9_31) _ ?_
    rw [len_of S_z19 N_z19]
    show OwnS p e below T17 (mkF m 32 #[rv r0, rv r1, rv ar0, rv ar1, rv b5, iv ((0 : Int32) + (1 : Int32)), iv ((0 : Int32) + (1 : Int32)), iv ((0 : Int32) + (1 : Int32)), .unset] [(.int 1), (.int 1)]) _
    refine XS.icmpYes X17.here hx rfl (pc0 := 32) (pc' := 121) rfl (hb hby d9_32) rfl (flt (by decide : ¬ ((1 : Int32) < (1 : Int32)))).2.1 (by decide) (by decide) ?_
    show OwnS p e below T17 (mkF m 121 #[rv r0, rv r1, rv ar0, rv ar1, rv b5, iv ((0 : Int32) + (1 : Int32)), iv ((0 : Int32) + (1 : Int32)), iv ((0 : Int32) + (1 : Int32)), .unset] []) _
    refine XS.iload X17.here hx rfl (hb hby d9_121) rfl ?_
    show OwnS p e below T17 (mkF m 123 #[rv r0, rv r1, rv ar0, rv ar1, rv b5, iv ((0 : Int32) + (1 : Int32)), iv ((0 : Int32) + (1 : Int32)), iv ((0 : Int32) + (1 : Int32)), .unset] [(.int 1)]) _
    refine XS.aloadN X17.here hx rfl (hb hby d9_123) rfl rfl ?_
    show OwnS p e below T17 (mkF m 124 #[rv r0, rv r1, rv ar0, rv ar1, rv b5, iv ((0 : Int32) + (1 : Int32)), iv ((0 : Int32) + (1 : Int32)), iv ((0 : Int32) + (1 : Int32)), .unset] [(.ref ar0), (.int 1)]) _
    refine X17.arraylength hx (by rw [e17]; exact Ar_z19.1) (State.isArrayOf_alike hZ.alike Ar_z19.2.1) (g := (mkF m 124 #[rv r0, rv r1, rv ar0, rv ar1, rv b5, iv ((0 : Int32) + (1 : Int32)), iv ((0 : Int32) + (1 : Int32)), iv ((0 : Int32) + (1 : Int32)), .unset] [(.ref ar0), (.int 1)])) rfl rfl (hb hby d9_124) _ ?_
    rw [len_of S_z19 N_z19]
    show OwnS p e below T17 (mkF m 125 #[rv r0, rv r1, rv ar0, rv ar1, rv b5, iv ((0 : Int32) + (1 : Int32)), iv ((0 : Int32) + (1 : Int32)), iv ((0 : Int32) + (1 : Int32)), .unset] [(.int 1), (.int 1)]) _
    refine XS.icmpYes X17.here hx rfl (pc0 := 125) (pc' := 146) rfl (hb hby d9_125) rfl (flt (by decide : ¬ ((1 : Int32) < (1 : Int32)))).2.1 (by decide) (by decide) ?_
    show OwnS p e below T17 (mkF m 146 #[rv r0, rv r1, rv ar0, rv ar1, rv b5, iv ((0 : Int32) + (1 : Int32)), iv ((0 : Int32) + (1 : Int32)), iv ((0 : Int32) + (1 : Int32)), .unset] []) _
    refine XS.iload X17.here hx rfl (hb hby d9_146) rfl ?_
    show OwnS p e below T17 (mkF m 148 #[rv r0, rv r1, rv ar0, rv ar1, rv b5, iv ((0 : Int32) + (1 : Int32)), iv ((0 : Int32) + (1 : Int32)), iv ((0 : Int32) + (1 : Int32)), .unset] [(.int 1)]) _
    refine XS.aloadN X17.here hx rfl (hb hby d9_148) rfl rfl ?_
    show OwnS p e below T17 (mkF m 149 #[rv r0, rv r1, rv ar0, rv ar1, rv b5, iv ((0 : Int32) + (1 : Int32)), iv ((0 : Int32) + (1 : Int32)), iv ((0 : Int32) + (1 : Int32)), .unset] [(.ref ar1), (.int 1)]) _
    refine X17.arraylength hx (by rw [e17]; exact Ar_z21.1) (State.isArrayOf_alike hZ.alike Ar_z21.2.1) (g := (mkF m 149 #[rv r0, rv r1, rv ar0, rv ar1, rv b5, iv ((0 : Int32) + (1 : Int32)), iv ((0 : Int32) + (1 : Int32)), iv ((0 : Int32) + (1 : Int32)), .unset] [(.ref ar1), (.int 1)])) rfl rfl (hb hby d9_149) _ ?_
    rw [len_of S_z21 N_z21]
    show OwnS p e below T17 (mkF m 150 #[rv r0, rv r1, rv ar0, rv ar1, rv b5, iv ((0 : Int32) + (1 : Int32)), iv ((0 : Int32) + (1 : Int32)), iv ((0 : Int32) + (1 : Int32)), .unset] [(.int 1), (.int 1)]) _
    refine XS.icmpYes X17.here hx rfl (pc0 := 150) (pc' := 171) rfl (hb hby d9_150) rfl (flt (by decide : ¬ ((1 : Int32) < (1 : Int32)))).2.1 (by decide) (by decide) ?_
    show OwnS p e below T17 (mkF m 171 #[rv r0, rv r1, rv ar0, rv ar1, rv b5, iv ((0 : Int32) + (1 : Int32)), iv ((0 : Int32) + (1 : Int32)), iv ((0 : Int32) + (1 : Int32)), .unset] []) _
    refine XS.iload X17.here hx rfl (hb hby d9_171) rfl ?_
    show OwnS p e below T17 (mkF m 173 #[rv r0, rv r1, rv ar0, rv ar1, rv b5, iv ((0 : Int32) + (1 : Int32)), iv ((0 : Int32) + (1 : Int32)), iv ((0 : Int32) + (1 : Int32)), .unset] [(.int 1)]) _
    refine XS.aloadN X17.here hx rfl (hb hby d9_173) rfl rfl ?_
    show OwnS p e below T17 (mkF m 174 #[rv r0, rv r1, rv ar0, rv ar1, rv b5, iv ((0 : Int32) + (1 : Int32)), iv ((0 : Int32) + (1 : Int32)), iv ((0 : Int32) + (1 : Int32)), .unset] [(.ref ar0), (.int 1)]) _
    refine X17.arraylength hx (by rw [e17]; exact Ar_z19.1) (State.isArrayOf_alike hZ.alike Ar_z19.2.1) (g := (mkF m 174 #[rv r0, rv r1, rv ar0, rv ar1, rv b5, iv ((0 : Int32) + (1 : Int32)), iv ((0 : Int32) + (1 : Int32)), iv ((0 : Int32) + (1 : Int32)), .unset] [(.ref ar0), (.int 1)])) rfl rfl (hb hby d9_174) _ ?_
    rw [len_of S_z19 N_z19]
    show OwnS p e below T17 (mkF m 175 #[rv r0, rv r1, rv ar0, rv ar1, rv b5, iv ((0 : Int32) + (1 : Int32)), iv ((0 : Int32) + (1 : Int32)), iv ((0 : Int32) + (1 : Int32)), .unset] [(.int 1), (.int 1)]) _
    refine XS.icmpNo X17.here hx rfl (hb hby d9_175) rfl (teq (by decide : (1 : Int32) = (1 : Int32))).2 ?_
    show OwnS p e below T17 (mkF m 178 #[rv r0, rv r1, rv ar0, rv ar1, rv b5, iv ((0 : Int32) + (1 : Int32)), iv ((0 : Int32) + (1 : Int32)), iv ((0 : Int32) + (1 : Int32)), .unset] []) _
    refine XS.aloadN X17.here hx rfl (hb hby d9_178) rfl rfl ?_
    show OwnS p e below T17 (mkF m 179 #[rv r0, rv r1, rv ar0, rv ar1, rv b5, iv ((0 : Int32) + (1 : Int32)), iv ((0 : Int32) + (1 : Int32)), iv ((0 : Int32) + (1 : Int32)), .unset] [(.ref r0)]) _
    refine XS.astore X17.here hx rfl (hb hby d9_179) rfl rfl (l' := #[rv r0, rv r1, rv ar0, rv ar1, rv b5, iv ((0 : Int32) + (1 : Int32)), iv ((0 : Int32) + (1 : Int32)), iv ((0 : Int32) + (1 : Int32)), rv r0]) rfl ?_
    show OwnS p e below T17 (mkF m 181 #[rv r0, rv r1, rv ar0, rv ar1, rv b5, iv ((0 : Int32) + (1 : Int32)), iv ((0 : Int32) + (1 : Int32)), iv ((0 : Int32) + (1 : Int32)), rv r0] []) _
    refine XS.goto X17.here hx rfl (pc0 := 181) (pc' := 213) rfl (hb hby d9_181) (by decide) (by decide) ?_
    show OwnS p e below T17 (mkF m 213 #[rv r0, rv r1, rv ar0, rv ar1, rv b5, iv ((0 : Int32) + (1 : Int32)), iv ((0 : Int32) + (1 : Int32)), iv ((0 : Int32) + (1 : Int32)), rv r0] []) _
    refine XS.aload X17.here hx rfl (hb hby d9_213) rfl rfl ?_
    show OwnS p e below T17 (mkF m 215 #[rv r0, rv r1, rv ar0, rv ar1, rv b5, iv ((0 : Int32) + (1 : Int32)), iv ((0 : Int32) + (1 : Int32)), iv ((0 : Int32) + (1 : Int32)), rv r0] [(.ref r0)]) _
    jvm_step X17.here [X17.here.top, hx, (hb hby d9_215), X17.method', Bd.returns, Value.isRef, FieldType.isReference]
    first | (intro acts; rw [hr _ acts rfl rfl rfl]) | rw [hr _ _ rfl rfl rfl]
    exact Steps.refl _
  · show Q_9_eq Z r0 r1 ar0 k0c ar1 k1c x0 h0 n0 _ T17.heap _
    rw [e17]
    exact ⟨rfl, N17, (((Keep.refl h0 []).ext E5).wr W17 (Or.inr sz_b5)), trivial⟩
theorem d11_0 : decode jdk_29_method_65_code 0 = .ok (.iload_n 0, 1) := by decide +kernel
theorem d11_1 : decode jdk_29_method_65_code 1 = .ok (.iload_n 1, 1) := by decide +kernel
theorem d11_2 : decode jdk_29_method_65_code 2 = .ok (.if_icmp .lt 7, 3) := by decide +kernel
theorem d11_9 : decode jdk_29_method_65_code 9 = .ok (.iload_n 1, 1) := by decide +kernel
theorem d11_10 : decode jdk_29_method_65_code 10 = .ok (.ireturn, 1) := by decide +kernel
theorem ef_11 (m : MethodId) (x0 : Int32) (x1 : Int32) : entryFrame m #[(.int x0), (.int x1)] 2 = mkF m 0 #[.val (.int x0), .val (.int x1)] [] := by first | (simp [entryFrame, mkF, argsToLocals, Value.category]; done) | rfl
def Q_11_lt (Z : State) (p0 : Int32) (p1 : Int32) (h0 : Heap) (n0 : Nat) (v : Option Value) (h : Heap) (L : List Loc) : Prop := v = some (.int p1) ∧ Fr n0 L ∧ h = h0
set_option maxRecDepth 65536 in
set_option maxHeartbeats 40000000 in
theorem rm11_lt (l : Launch) (Z : State) (a0 : Array Value) (hw : ∀ d ∈ tables_1, d.before a0 Z = true) (ws : List Jvm.Cond) (p0 : Int32) (p1 : Int32) (h0 : Heap) (n0 : Nat) (Z0 : n0 ≤ h0.size) (hlt : p0 < p1) :
    MetFree l (⟨"java/lang/Math", "max", "(II)I"⟩ : MethodName) (head1 (Jvm.Cond.code (⟨"java/lang/Math", "max", "(II)I"⟩ : MethodName) jdk_29_method_65_code 2 (some .int) :: ws) ({ frames := 0, cells := 0, slots := 0, locals := 0 } : Room)) (fun a U => a = #[(.int p0), (.int p1)] ∧ Z.Warmed39 U.vm ∧ U.heap = h0) (fun _ _ _ _ _ => True) (fun _ U o U' => ∃ v L, o = .returned v ∧ Q_11_lt Z p0 p1 h0 n0 v U'.heap L ∧ FrameEnd U o U' L ({ frames := 0, cells := 0, slots := 0, locals := 0 } : Room).cells ({ frames := 0, cells := 0, slots := 0, locals := 0 } : Room).slots) := by
  refine MetFree.of_bodySF (Jvm.Free.JP.mathPlain rfl (by decide +kernel)) hisR ?_
  intro p e s m args below meth c s₁ Bd hml0 hP hK
  obtain ⟨rfl, hZ, hh⟩ := hP
  have hx := Bd.exec
  have hby := Bd.bytes
  have hml : c.maxLocals = 2 := hml0
  have hown : s.vm.findClass "java/lang/Math" = some m.cls := findClass_of_methodNamed Bd.named
  have hnm := (name_of_methodNamed Bd.named Bd.method).1
  have X0 : Stand p l e ({ frames := 0, cells := 0, slots := 0, locals := 0 } : Room) s m #[(.int p0), (.int p1)] below meth c s₁ [] 0 0 := Stand.of_body Bd
  have e0 : s₁.heap = h0 := by rw [← hh, Bd.state]; rfl
  have N0 := Fr.nil n0
  have k0 : ∀ t, OwnS p e below s₁ (mkF m 0 #[iv p0, iv p1] []) t → OwnS p e below s₁ (entryFrame m #[(.int p0), (.int p1)] 2) t := fun t k => castTop (ef_11 m p0 p1) k
  obtain ⟨fs, hr, hrun, hended, hW, hsame⟩ := X0.leave (v := some (.int p1)) (fun h => by rw [Bd.returns] at h; cases h)
  refine ⟨_, _, k0 _ ?_, hrun, hended, _, _, rfl, ?_, ⟨_, rfl⟩, hW, hsame.mono (by decide) (by decide)⟩
  · show OwnS p e below s₁ (mkF m 0 #[iv p0, iv p1] []) _
    refine XS.iloadN X0.here hx rfl (hb hby d11_0) rfl ?_
    show OwnS p e below s₁ (mkF m 1 #[iv p0, iv p1] [(.int p0)]) _
    refine XS.iloadN X0.here hx rfl (hb hby d11_1) rfl ?_
    show OwnS p e below s₁ (mkF m 2 #[iv p0, iv p1] [(.int p1), (.int p0)]) _
    refine XS.icmpYes X0.here hx rfl (pc0 := 2) (pc' := 9) rfl (hb hby d11_2) rfl (tlt hlt).1 (by decide) (by decide) ?_
    show OwnS p e below s₁ (mkF m 9 #[iv p0, iv p1] []) _
    refine XS.iloadN X0.here hx rfl (hb hby d11_9) rfl ?_
    show OwnS p e below s₁ (mkF m 10 #[iv p0, iv p1] [(.int p1)]) _
    exact retI X0 hx Bd.returns (hb hby d11_10) hr
  · show Q_11_lt Z p0 p1 h0 n0 _ s₁.heap _
    rw [e0]
    exact ⟨rfl, N0, rfl⟩
theorem d11_5 : decode jdk_29_method_65_code 5 = .ok (.iload_n 0, 1) := by decide +kernel
theorem d11_6 : decode jdk_29_method_65_code 6 = .ok (.goto 4, 3) := by decide +kernel
def Q_11_gt (Z : State) (p0 : Int32) (p1 : Int32) (h0 : Heap) (n0 : Nat) (v : Option Value) (h : Heap) (L : List Loc) : Prop := v = some (.int p0) ∧ Fr n0 L ∧ h = h0
set_option maxRecDepth 65536 in
set_option maxHeartbeats 40000000 in
theorem rm11_gt (l : Launch) (Z : State) (a0 : Array Value) (hw : ∀ d ∈ tables_1, d.before a0 Z = true) (ws : List Jvm.Cond) (p0 : Int32) (p1 : Int32) (h0 : Heap) (n0 : Nat) (Z0 : n0 ≤ h0.size) (hlt : p1 < p0) :
    MetFree l (⟨"java/lang/Math", "max", "(II)I"⟩ : MethodName) (head1 (Jvm.Cond.code (⟨"java/lang/Math", "max", "(II)I"⟩ : MethodName) jdk_29_method_65_code 2 (some .int) :: ws) ({ frames := 0, cells := 0, slots := 0, locals := 0 } : Room)) (fun a U => a = #[(.int p0), (.int p1)] ∧ Z.Warmed39 U.vm ∧ U.heap = h0) (fun _ _ _ _ _ => True) (fun _ U o U' => ∃ v L, o = .returned v ∧ Q_11_gt Z p0 p1 h0 n0 v U'.heap L ∧ FrameEnd U o U' L ({ frames := 0, cells := 0, slots := 0, locals := 0 } : Room).cells ({ frames := 0, cells := 0, slots := 0, locals := 0 } : Room).slots) := by
  refine MetFree.of_bodySF (Jvm.Free.JP.mathPlain rfl (by decide +kernel)) hisR ?_
  intro p e s m args below meth c s₁ Bd hml0 hP hK
  obtain ⟨rfl, hZ, hh⟩ := hP
  have hx := Bd.exec
  have hby := Bd.bytes
  have hml : c.maxLocals = 2 := hml0
  have hown : s.vm.findClass "java/lang/Math" = some m.cls := findClass_of_methodNamed Bd.named
  have hnm := (name_of_methodNamed Bd.named Bd.method).1
  have X0 : Stand p l e ({ frames := 0, cells := 0, slots := 0, locals := 0 } : Room) s m #[(.int p0), (.int p1)] below meth c s₁ [] 0 0 := Stand.of_body Bd
  have e0 : s₁.heap = h0 := by rw [← hh, Bd.state]; rfl
  have N0 := Fr.nil n0
  have k0 : ∀ t, OwnS p e below s₁ (mkF m 0 #[iv p0, iv p1] []) t → OwnS p e below s₁ (entryFrame m #[(.int p0), (.int p1)] 2) t := fun t k => castTop (ef_11 m p0 p1) k
  obtain ⟨fs, hr, hrun, hended, hW, hsame⟩ := X0.leave (v := some (.int p0)) (fun h => by rw [Bd.returns] at h; cases h)
  refine ⟨_, _, k0 _ ?_, hrun, hended, _, _, rfl, ?_, ⟨_, rfl⟩, hW, hsame.mono (by decide) (by decide)⟩
  · show OwnS p e below s₁ (mkF m 0 #[iv p0, iv p1] []) _
    refine XS.iloadN X0.here hx rfl (hb hby d11_0) rfl ?_
    show OwnS p e below s₁ (mkF m 1 #[iv p0, iv p1] [(.int p0)]) _
    refine XS.iloadN X0.here hx rfl (hb hby d11_1) rfl ?_
    show OwnS p e below s₁ (mkF m 2 #[iv p0, iv p1] [(.int p1), (.int p0)]) _
    refine XS.icmpNo X0.here hx rfl (hb hby d11_2) rfl (flt (own_asymm hlt)).1 ?_
    show OwnS p e below s₁ (mkF m 5 #[iv p0, iv p1] []) _
    refine XS.iloadN X0.here hx rfl (hb hby d11_5) rfl ?_
    show OwnS p e below s₁ (mkF m 6 #[iv p0, iv p1] [(.int p0)]) _
    refine XS.goto X0.here hx rfl (pc0 := 6) (pc' := 10) rfl (hb hby d11_6) (by decide) (by decide) ?_
    show OwnS p e below s₁ (mkF m 10 #[iv p0, iv p1] [(.int p0)]) _
    exact retI X0 hx Bd.returns (hb hby d11_10) hr
  · show Q_11_gt Z p0 p1 h0 n0 _ s₁.heap _
    rw [e0]
    exact ⟨rfl, N0, rfl⟩
def Q_11_eq (Z : State) (p0 : Int32) (h0 : Heap) (n0 : Nat) (v : Option Value) (h : Heap) (L : List Loc) : Prop := v = some (.int p0) ∧ Fr n0 L ∧ h = h0
set_option maxRecDepth 65536 in
set_option maxHeartbeats 40000000 in
theorem rm11_eq (l : Launch) (Z : State) (a0 : Array Value) (hw : ∀ d ∈ tables_1, d.before a0 Z = true) (ws : List Jvm.Cond) (p0 : Int32) (h0 : Heap) (n0 : Nat) (Z0 : n0 ≤ h0.size) :
    MetFree l (⟨"java/lang/Math", "max", "(II)I"⟩ : MethodName) (head1 (Jvm.Cond.code (⟨"java/lang/Math", "max", "(II)I"⟩ : MethodName) jdk_29_method_65_code 2 (some .int) :: ws) ({ frames := 0, cells := 0, slots := 0, locals := 0 } : Room)) (fun a U => a = #[(.int p0), (.int p0)] ∧ Z.Warmed39 U.vm ∧ U.heap = h0) (fun _ _ _ _ _ => True) (fun _ U o U' => ∃ v L, o = .returned v ∧ Q_11_eq Z p0 h0 n0 v U'.heap L ∧ FrameEnd U o U' L ({ frames := 0, cells := 0, slots := 0, locals := 0 } : Room).cells ({ frames := 0, cells := 0, slots := 0, locals := 0 } : Room).slots) := by
  refine MetFree.of_bodySF (Jvm.Free.JP.mathPlain rfl (by decide +kernel)) hisR ?_
  intro p e s m args below meth c s₁ Bd hml0 hP hK
  obtain ⟨rfl, hZ, hh⟩ := hP
  have hx := Bd.exec
  have hby := Bd.bytes
  have hml : c.maxLocals = 2 := hml0
  have hown : s.vm.findClass "java/lang/Math" = some m.cls := findClass_of_methodNamed Bd.named
  have hnm := (name_of_methodNamed Bd.named Bd.method).1
  have X0 : Stand p l e ({ frames := 0, cells := 0, slots := 0, locals := 0 } : Room) s m #[(.int p0), (.int p0)] below meth c s₁ [] 0 0 := Stand.of_body Bd
  have e0 : s₁.heap = h0 := by rw [← hh, Bd.state]; rfl
  have N0 := Fr.nil n0
  have k0 : ∀ t, OwnS p e below s₁ (mkF m 0 #[iv p0, iv p0] []) t → OwnS p e below s₁ (entryFrame m #[(.int p0), (.int p0)] 2) t := fun t k => castTop (ef_11 m p0 p0) k
  obtain ⟨fs, hr, hrun, hended, hW, hsame⟩ := X0.leave (v := some (.int p0)) (fun h => by rw [Bd.returns] at h; cases h)
  refine ⟨_, _, k0 _ ?_, hrun, hended, _, _, rfl, ?_, ⟨_, rfl⟩, hW, hsame.mono (by decide) (by decide)⟩
  · show OwnS p e below s₁ (mkF m 0 #[iv p0, iv p0] []) _
    refine XS.iloadN X0.here hx rfl (hb hby d11_0) rfl ?_
    show OwnS p e below s₁ (mkF m 1 #[iv p0, iv p0] [(.int p0)]) _
    refine XS.iloadN X0.here hx rfl (hb hby d11_1) rfl ?_
    show OwnS p e below s₁ (mkF m 2 #[iv p0, iv p0] [(.int p0), (.int p0)]) _
    refine XS.icmpNo X0.here hx rfl (hb hby d11_2) rfl (flt (own_irr _)).1 ?_
    show OwnS p e below s₁ (mkF m 5 #[iv p0, iv p0] []) _
    refine XS.iloadN X0.here hx rfl (hb hby d11_5) rfl ?_
    show OwnS p e below s₁ (mkF m 6 #[iv p0, iv p0] [(.int p0)]) _
    refine XS.goto X0.here hx rfl (pc0 := 6) (pc' := 10) rfl (hb hby d11_6) (by decide) (by decide) ?_
    show OwnS p e below s₁ (mkF m 10 #[iv p0, iv p0] [(.int p0)]) _
    exact retI X0 hx Bd.returns (hb hby d11_10) hr
  · show Q_11_eq Z p0 h0 n0 _ s₁.heap _
    rw [e0]
    exact ⟨rfl, N0, rfl⟩
theorem d12_0 : decode jdk_29_method_69_code 0 = .ok (.iload_n 0, 1) := by decide +kernel
theorem d12_1 : decode jdk_29_method_69_code 1 = .ok (.iload_n 1, 1) := by decide +kernel
theorem d12_2 : decode jdk_29_method_69_code 2 = .ok (.if_icmp .gt 7, 3) := by decide +kernel
theorem d12_5 : decode jdk_29_method_69_code 5 = .ok (.iload_n 0, 1) := by decide +kernel
theorem d12_6 : decode jdk_29_method_69_code 6 = .ok (.goto 4, 3) := by decide +kernel
theorem d12_10 : decode jdk_29_method_69_code 10 = .ok (.ireturn, 1) := by decide +kernel
theorem ef_12 (m : MethodId) (x0 : Int32) (x1 : Int32) : entryFrame m #[(.int x0), (.int x1)] 2 = mkF m 0 #[.val (.int x0), .val (.int x1)] [] := by first | (simp [entryFrame, mkF, argsToLocals, Value.category]; done) | rfl
def Q_12_lt (Z : State) (p0 : Int32) (p1 : Int32) (h0 : Heap) (n0 : Nat) (v : Option Value) (h : Heap) (L : List Loc) : Prop := v = some (.int p0) ∧ Fr n0 L ∧ h = h0
set_option maxRecDepth 65536 in
set_option maxHeartbeats 40000000 in
theorem rm12_lt (l : Launch) (Z : State) (a0 : Array Value) (hw : ∀ d ∈ tables_1, d.before a0 Z = true) (ws : List Jvm.Cond) (p0 : Int32) (p1 : Int32) (h0 : Heap) (n0 : Nat) (Z0 : n0 ≤ h0.size) (hlt : p0 < p1) :
    MetFree l (⟨"java/lang/Math", "min", "(II)I"⟩ : MethodName) (head1 (Jvm.Cond.code (⟨"java/lang/Math", "min", "(II)I"⟩ : MethodName) jdk_29_method_69_code 2 (some .int) :: ws) ({ frames := 0, cells := 0, slots := 0, locals := 0 } : Room)) (fun a U => a = #[(.int p0), (.int p1)] ∧ Z.Warmed39 U.vm ∧ U.heap = h0) (fun _ _ _ _ _ => True) (fun _ U o U' => ∃ v L, o = .returned v ∧ Q_12_lt Z p0 p1 h0 n0 v U'.heap L ∧ FrameEnd U o U' L ({ frames := 0, cells := 0, slots := 0, locals := 0 } : Room).cells ({ frames := 0, cells := 0, slots := 0, locals := 0 } : Room).slots) := by
  refine MetFree.of_bodySF (Jvm.Free.JP.mathPlain rfl (by decide +kernel)) hisR ?_
  intro p e s m args below meth c s₁ Bd hml0 hP hK
  obtain ⟨rfl, hZ, hh⟩ := hP
  have hx := Bd.exec
  have hby := Bd.bytes
  have hml : c.maxLocals = 2 := hml0
  have hown : s.vm.findClass "java/lang/Math" = some m.cls := findClass_of_methodNamed Bd.named
  have hnm := (name_of_methodNamed Bd.named Bd.method).1
  have X0 : Stand p l e ({ frames := 0, cells := 0, slots := 0, locals := 0 } : Room) s m #[(.int p0), (.int p1)] below meth c s₁ [] 0 0 := Stand.of_body Bd
  have e0 : s₁.heap = h0 := by rw [← hh, Bd.state]; rfl
  have N0 := Fr.nil n0
  have k0 : ∀ t, OwnS p e below s₁ (mkF m 0 #[iv p0, iv p1] []) t → OwnS p e below s₁ (entryFrame m #[(.int p0), (.int p1)] 2) t := fun t k => castTop (ef_12 m p0 p1) k
  obtain ⟨fs, hr, hrun, hended, hW, hsame⟩ := X0.leave (v := some (.int p0)) (fun h => by rw [Bd.returns] at h; cases h)
  refine ⟨_, _, k0 _ ?_, hrun, hended, _, _, rfl, ?_, ⟨_, rfl⟩, hW, hsame.mono (by decide) (by decide)⟩
  · show OwnS p e below s₁ (mkF m 0 #[iv p0, iv p1] []) _
    refine XS.iloadN X0.here hx rfl (hb hby d12_0) rfl ?_
    show OwnS p e below s₁ (mkF m 1 #[iv p0, iv p1] [(.int p0)]) _
    refine XS.iloadN X0.here hx rfl (hb hby d12_1) rfl ?_
    show OwnS p e below s₁ (mkF m 2 #[iv p0, iv p1] [(.int p1), (.int p0)]) _
    refine XS.icmpNo X0.here hx rfl (hb hby d12_2) rfl (flt (own_asymm hlt)).2.2.1 ?_
    show OwnS p e below s₁ (mkF m 5 #[iv p0, iv p1] []) _
    refine XS.iloadN X0.here hx rfl (hb hby d12_5) rfl ?_
    show OwnS p e below s₁ (mkF m 6 #[iv p0, iv p1] [(.int p0)]) _
    refine XS.goto X0.here hx rfl (pc0 := 6) (pc' := 10) rfl (hb hby d12_6) (by decide) (by decide) ?_
    show OwnS p e below s₁ (mkF m 10 #[iv p0, iv p1] [(.int p0)]) _
    exact retI X0 hx Bd.returns (hb hby d12_10) hr
  · show Q_12_lt Z p0 p1 h0 n0 _ s₁.heap _
    rw [e0]
    exact ⟨rfl, N0, rfl⟩
theorem d12_9 : decode jdk_29_method_69_code 9 = .ok (.iload_n 1, 1) := by decide +kernel
def Q_12_gt (Z : State) (p0 : Int32) (p1 : Int32) (h0 : Heap) (n0 : Nat) (v : Option Value) (h : Heap) (L : List Loc) : Prop := v = some (.int p1) ∧ Fr n0 L ∧ h = h0
set_option maxRecDepth 65536 in
set_option maxHeartbeats 40000000 in
theorem rm12_gt (l : Launch) (Z : State) (a0 : Array Value) (hw : ∀ d ∈ tables_1, d.before a0 Z = true) (ws : List Jvm.Cond) (p0 : Int32) (p1 : Int32) (h0 : Heap) (n0 : Nat) (Z0 : n0 ≤ h0.size) (hlt : p1 < p0) :
    MetFree l (⟨"java/lang/Math", "min", "(II)I"⟩ : MethodName) (head1 (Jvm.Cond.code (⟨"java/lang/Math", "min", "(II)I"⟩ : MethodName) jdk_29_method_69_code 2 (some .int) :: ws) ({ frames := 0, cells := 0, slots := 0, locals := 0 } : Room)) (fun a U => a = #[(.int p0), (.int p1)] ∧ Z.Warmed39 U.vm ∧ U.heap = h0) (fun _ _ _ _ _ => True) (fun _ U o U' => ∃ v L, o = .returned v ∧ Q_12_gt Z p0 p1 h0 n0 v U'.heap L ∧ FrameEnd U o U' L ({ frames := 0, cells := 0, slots := 0, locals := 0 } : Room).cells ({ frames := 0, cells := 0, slots := 0, locals := 0 } : Room).slots) := by
  refine MetFree.of_bodySF (Jvm.Free.JP.mathPlain rfl (by decide +kernel)) hisR ?_
  intro p e s m args below meth c s₁ Bd hml0 hP hK
  obtain ⟨rfl, hZ, hh⟩ := hP
  have hx := Bd.exec
  have hby := Bd.bytes
  have hml : c.maxLocals = 2 := hml0
  have hown : s.vm.findClass "java/lang/Math" = some m.cls := findClass_of_methodNamed Bd.named
  have hnm := (name_of_methodNamed Bd.named Bd.method).1
  have X0 : Stand p l e ({ frames := 0, cells := 0, slots := 0, locals := 0 } : Room) s m #[(.int p0), (.int p1)] below meth c s₁ [] 0 0 := Stand.of_body Bd
  have e0 : s₁.heap = h0 := by rw [← hh, Bd.state]; rfl
  have N0 := Fr.nil n0
  have k0 : ∀ t, OwnS p e below s₁ (mkF m 0 #[iv p0, iv p1] []) t → OwnS p e below s₁ (entryFrame m #[(.int p0), (.int p1)] 2) t := fun t k => castTop (ef_12 m p0 p1) k
  obtain ⟨fs, hr, hrun, hended, hW, hsame⟩ := X0.leave (v := some (.int p1)) (fun h => by rw [Bd.returns] at h; cases h)
  refine ⟨_, _, k0 _ ?_, hrun, hended, _, _, rfl, ?_, ⟨_, rfl⟩, hW, hsame.mono (by decide) (by decide)⟩
  · show OwnS p e below s₁ (mkF m 0 #[iv p0, iv p1] []) _
    refine XS.iloadN X0.here hx rfl (hb hby d12_0) rfl ?_
    show OwnS p e below s₁ (mkF m 1 #[iv p0, iv p1] [(.int p0)]) _
    refine XS.iloadN X0.here hx rfl (hb hby d12_1) rfl ?_
    show OwnS p e below s₁ (mkF m 2 #[iv p0, iv p1] [(.int p1), (.int p0)]) _
    refine XS.icmpYes X0.here hx rfl (pc0 := 2) (pc' := 9) rfl (hb hby d12_2) rfl (tlt hlt).2.2.1 (by decide) (by decide) ?_
    show OwnS p e below s₁ (mkF m 9 #[iv p0, iv p1] []) _
    refine XS.iloadN X0.here hx rfl (hb hby d12_9) rfl ?_
    show OwnS p e below s₁ (mkF m 10 #[iv p0, iv p1] [(.int p1)]) _
    exact retI X0 hx Bd.returns (hb hby d12_10) hr
  · show Q_12_gt Z p0 p1 h0 n0 _ s₁.heap _
    rw [e0]
    exact ⟨rfl, N0, rfl⟩
def Q_12_eq (Z : State) (p0 : Int32) (h0 : Heap) (n0 : Nat) (v : Option Value) (h : Heap) (L : List Loc) : Prop := v = some (.int p0) ∧ Fr n0 L ∧ h = h0
set_option maxRecDepth 65536 in
set_option maxHeartbeats 40000000 in
theorem rm12_eq (l : Launch) (Z : State) (a0 : Array Value) (hw : ∀ d ∈ tables_1, d.before a0 Z = true) (ws : List Jvm.Cond) (p0 : Int32) (h0 : Heap) (n0 : Nat) (Z0 : n0 ≤ h0.size) :
    MetFree l (⟨"java/lang/Math", "min", "(II)I"⟩ : MethodName) (head1 (Jvm.Cond.code (⟨"java/lang/Math", "min", "(II)I"⟩ : MethodName) jdk_29_method_69_code 2 (some .int) :: ws) ({ frames := 0, cells := 0, slots := 0, locals := 0 } : Room)) (fun a U => a = #[(.int p0), (.int p0)] ∧ Z.Warmed39 U.vm ∧ U.heap = h0) (fun _ _ _ _ _ => True) (fun _ U o U' => ∃ v L, o = .returned v ∧ Q_12_eq Z p0 h0 n0 v U'.heap L ∧ FrameEnd U o U' L ({ frames := 0, cells := 0, slots := 0, locals := 0 } : Room).cells ({ frames := 0, cells := 0, slots := 0, locals := 0 } : Room).slots) := by
  refine MetFree.of_bodySF (Jvm.Free.JP.mathPlain rfl (by decide +kernel)) hisR ?_
  intro p e s m args below meth c s₁ Bd hml0 hP hK
  obtain ⟨rfl, hZ, hh⟩ := hP
  have hx := Bd.exec
  have hby := Bd.bytes
  have hml : c.maxLocals = 2 := hml0
  have hown : s.vm.findClass "java/lang/Math" = some m.cls := findClass_of_methodNamed Bd.named
  have hnm := (name_of_methodNamed Bd.named Bd.method).1
  have X0 : Stand p l e ({ frames := 0, cells := 0, slots := 0, locals := 0 } : Room) s m #[(.int p0), (.int p0)] below meth c s₁ [] 0 0 := Stand.of_body Bd
  have e0 : s₁.heap = h0 := by rw [← hh, Bd.state]; rfl
  have N0 := Fr.nil n0
  have k0 : ∀ t, OwnS p e below s₁ (mkF m 0 #[iv p0, iv p0] []) t → OwnS p e below s₁ (entryFrame m #[(.int p0), (.int p0)] 2) t := fun t k => castTop (ef_12 m p0 p0) k
  obtain ⟨fs, hr, hrun, hended, hW, hsame⟩ := X0.leave (v := some (.int p0)) (fun h => by rw [Bd.returns] at h; cases h)
  refine ⟨_, _, k0 _ ?_, hrun, hended, _, _, rfl, ?_, ⟨_, rfl⟩, hW, hsame.mono (by decide) (by decide)⟩
  · show OwnS p e below s₁ (mkF m 0 #[iv p0, iv p0] []) _
    refine XS.iloadN X0.here hx rfl (hb hby d12_0) rfl ?_
    show OwnS p e below s₁ (mkF m 1 #[iv p0, iv p0] [(.int p0)]) _
    refine XS.iloadN X0.here hx rfl (hb hby d12_1) rfl ?_
    show OwnS p e below s₁ (mkF m 2 #[iv p0, iv p0] [(.int p0), (.int p0)]) _
    refine XS.icmpNo X0.here hx rfl (hb hby d12_2) rfl (flt (own_irr _)).2.2.1 ?_
    show OwnS p e below s₁ (mkF m 5 #[iv p0, iv p0] []) _
    refine XS.iloadN X0.here hx rfl (hb hby d12_5) rfl ?_
    show OwnS p e below s₁ (mkF m 6 #[iv p0, iv p0] [(.int p0)]) _
    refine XS.goto X0.here hx rfl (pc0 := 6) (pc' := 10) rfl (hb hby d12_6) (by decide) (by decide) ?_
    show OwnS p e below s₁ (mkF m 10 #[iv p0, iv p0] [(.int p0)]) _
    exact retI X0 hx Bd.returns (hb hby d12_10) hr
  · show Q_12_eq Z p0 h0 n0 _ s₁.heap _
    rw [e0]
    exact ⟨rfl, N0, rfl⟩
theorem pd_4 : parseMethodDescriptor cS1 = some ⟨[.int], some (.object cS0)⟩ := by decide +kernel
theorem pd_5 : parseMethodDescriptor "()Z" = some ⟨[], some .boolean⟩ := by decide +kernel
theorem pd_6 : parseMethodDescriptor "()I" = some ⟨[], some .int⟩ := by decide +kernel
theorem pd_7 : parseMethodDescriptor cS2 = some ⟨[(.object cS0)], some (.object cS0)⟩ := by decide +kernel
theorem pd_8 : parseMethodDescriptor "(II)I" = some ⟨[.int, .int], some .int⟩ := by decide +kernel
theorem pn_com_example_tablox_tablox_tableau_DependenciesOnPinLaw : plainName "com/example/tablox/tablox/tableau/DependenciesOnPinLaw" = true := by first | (simp [plainName, overriddenIn]; done) | decide +kernel
theorem ef_0 (m : MethodId) (x0 : Int32) (x1 : Int32) : entryFrame m #[(.int x0), (.int x1)] maxLocals = mkF m 0 #[.val (.int x0), .val (.int x1), .unset, .unset, .unset, .unset, .unset, .unset, .unset, .unset] [] := by first | (simp [entryFrame, mkF, argsToLocals, Value.category, maxLocals]; done) | rfl
def Q_0 (Z : State) (p0 : Int32) (p1 : Int32) (h0 : Heap) (n0 : Nat) (v : Option Value) (h : Heap) (L : List Loc) : Prop := v = some (.int 1) ∧ Fr n0 L ∧ True
set_option maxRecDepth 65536 in
set_option maxHeartbeats 40000000 in
theorem rm0 (l : Launch) (Z : State) (a0 : Array Value) (hw : ∀ d ∈ tables_1, d.before a0 Z = true) (ws : List Jvm.Cond) (p0 : Int32) (p1 : Int32) (h0 : Heap) (n0 : Nat) (Z0 : n0 ≤ h0.size) :
    MetFree l x (head1 (Jvm.Cond.code x code maxLocals ret :: ws) room_1) (fun a U => a = #[(.int p0), (.int p1)] ∧ Z.Warmed39 U.vm ∧ U.heap = h0) (fun _ _ _ _ _ => True) (fun _ U o U' => ∃ v L, o = .returned v ∧ Q_0 Z p0 p1 h0 n0 v U'.heap L ∧ FrameEnd U o U' L room_1.cells room_1.slots) := by
  refine MetFree.of_bodySF (plainFor_of_name pn_com_example_tablox_tablox_tableau_DependenciesOnPinLaw) hisR ?_
  intro p e s m args below meth c s₁ Bd hml0 hP hK
  obtain ⟨rfl, hZ, hh⟩ := hP
  have hx := Bd.exec
  have hby := Bd.bytes
  have hml : c.maxLocals = 10 := hml0
  have hown : s.vm.findClass "com/example/tablox/tablox/tableau/DependenciesOnPinLaw" = some m.cls := findClass_of_methodNamed Bd.named
  have hnm := (name_of_methodNamed Bd.named Bd.method).1
  have X0 : Stand p l e room_1 s m #[(.int p0), (.int p1)] below meth c s₁ [] 0 0 := Stand.of_body Bd
  have e0 : s₁.heap = h0 := by rw [← hh, Bd.state]; rfl
  have N0 := Fr.nil n0
  have k0 : ∀ t, OwnS p e below s₁ (mkF m 0 #[iv p0, iv p1, .unset, .unset, .unset, .unset, .unset, .unset, .unset, .unset] []) t → OwnS p e below s₁ (entryFrame m #[(.int p0), (.int p1)] maxLocals) t := fun t k => castTop (ef_0 m p0 p1) k
  rcases own_tri p0 p1 with ht | ht | ht
  · obtain ⟨_, _, ⟨T1, L1, j1, i1⟩, -, X1, ⟨Lc1, hQ1, l1, y1, z1⟩, st1⟩ := Jvm.LawKit.callS X0 hx (y := (⟨cS0, "on", cS1⟩ : MethodName)) hown (mvT hZ (own_at hw 0 rfl)) (mvT hZ (own_at hw 1 rfl)) (mvT hZ (own_at hw 2 rfl)) (mvT hZ (own_at hw 3 rfl)) (by decide) (backOf (W := 0) (rm1 l Z a0 hw [] p0 h0 n0 Z0 ) hZ (own_at hw 3 rfl) (own_at hw 2 rfl) (by decide) (by decide)) (g := (mkF m 1 #[iv p0, iv p1, .unset, .unset, .unset, .unset, .unset, .unset, .unset, .unset] [(.int p0)])) rfl (by rw [hml]; rfl) (argsL := [(.int p0)]) (rest := []) (lenOf pd_4 rfl) rfl (by show 2 * 0 + _ ≤ _; exact Nat.le_of_eq rfl) (hb hby at_1) (fun _ _ => ⟨rfl, e0, (by decide : 0 + 2 ≤ _), (by decide : 0 + 2 ≤ _)⟩)
    dsimp only [Pt.U, Pt.locs, Pt.cells, Pt.slots] at X1 l1 y1 z1 st1 hQ1
    subst l1 y1 z1
    obtain ⟨ob_1, ar_1, kk_1, rfl, N1q, K1, p1_0, p1_1, p1_2, p1_3, p1_4, p1_5, p1_6⟩ := hQ1
    have g_ob_1 : n0 ≤ ob_1 := Nat.le_trans Z0 p1_0
    have sz_ob_1 : h0.size ≤ ob_1 := Nat.le_trans (Keep.refl h0 []).1 p1_0
    have g_ar_1 : n0 ≤ ar_1 := Nat.le_trans Z0 p1_1
    have sz_ar_1 : h0.size ≤ ar_1 := Nat.le_trans (Keep.refl h0 []).1 p1_1
    have N1 := Fr.app N0 N1q
    obtain ⟨cq2, kq2, q2a, q2b, q2c⟩ := isOf hZ rfl p1_3
    obtain ⟨_, _, ⟨T2, L2, j2, i2⟩, -, X2, ⟨Lc2, hQ2, l2, y2, z2⟩, st2⟩ := X1.virtualBack hx (y := (⟨cS0, "isEmpty", "()Z"⟩ : MethodName)) (z := (⟨cS0, "isEmpty", "()Z"⟩ : MethodName)) hown (mvT hZ (own_at hw 15 rfl)) (mvT hZ (own_at hw 16 rfl)) (notFace_of_selects (args := #[]) (mvT hZ (own_at hw 18 rfl))) (mvT hZ (own_at hw 18 rfl)) (mvT hZ (own_at hw 17 rfl)) (by decide) (backOf (W := 0) (rm4_1 l Z a0 hw [] ob_1 ar_1 kk_1 p0 T1.heap n0 (Nat.le_trans Z0 K1.1) p1_3 p1_4 p1_5 p1_6) hZ (own_at hw 19 rfl) (own_at hw 2 rfl) (by decide) (by decide)) q2a q2c (g := (mkF m 6 #[iv p0, iv p1, rv ob_1, .unset, .unset, .unset, .unset, .unset, .unset, .unset] [(.ref ob_1)])) rfl (by rw [hml]; rfl) (Steps.refl _) (argsL := []) (rest := []) (lenOf pd_5 rfl) rfl (by show 2 * 0 + _ ≤ _; exact Nat.le_of_eq rfl) (hb hby at_6) (fun _ _ => ⟨rfl, rfl, (by decide : 2 + 0 ≤ _), (by decide : 2 + 0 ≤ _)⟩)
    dsimp only [Pt.U, Pt.locs, Pt.cells, Pt.slots] at X2 l2 y2 z2 st2 hQ2
    subst l2 y2 z2
    obtain ⟨rfl, N2q, e2⟩ := hQ2
    have N2 := Fr.app N1 N2q
    obtain ⟨cq3, kq3, q3a, q3b, q3c⟩ := isOf hZ e2 p1_3
    obtain ⟨_, _, ⟨T3, L3, j3, i3⟩, -, X3, ⟨Lc3, hQ3, l3, y3, z3⟩, st3⟩ := X2.virtualBack hx (y := (⟨cS0, "last", "()I"⟩ : MethodName)) (z := (⟨cS0, "last", "()I"⟩ : MethodName)) hown (mvT hZ (own_at hw 20 rfl)) (mvT hZ (own_at hw 21 rfl)) (notFace_of_selects (args := #[]) (mvT hZ (own_at hw 23 rfl))) (mvT hZ (own_at hw 23 rfl)) (mvT hZ (own_at hw 22 rfl)) (by decide) (backOf (W := 0) (rm5_1 l Z a0 hw [] ob_1 ar_1 kk_1 p0 T1.heap n0 (Nat.le_trans Z0 K1.1) p1_3 p1_4 p1_5 p1_6) hZ (own_at hw 24 rfl) (own_at hw 2 rfl) (by decide) (by decide)) q3a q3c (g := (mkF m 23 #[iv p0, iv p1, rv ob_1, iv 1, .unset, .unset, .unset, .unset, .unset, .unset] [(.ref ob_1)])) rfl (by rw [hml]; rfl) (Steps.refl _) (argsL := []) (rest := []) (lenOf pd_6 rfl) rfl (by show 2 * 0 + _ ≤ _; exact Nat.le_of_eq rfl) (hb hby at_23) (fun _ _ => ⟨rfl, e2, (by decide : 2 + 0 ≤ _), (by decide : 2 + 0 ≤ _)⟩)
    dsimp only [Pt.U, Pt.locs, Pt.cells, Pt.slots] at X3 l3 y3 z3 st3 hQ3
    subst l3 y3 z3
    obtain ⟨rfl, N3q, e3⟩ := hQ3
    have N3 := Fr.app N2 N3q
    obtain ⟨cq4, kq4, q4a, q4b, q4c⟩ := isOf hZ e3 p1_3
    obtain ⟨_, _, ⟨T4, L4, j4, i4⟩, -, X4, ⟨Lc4, hQ4, l4, y4, z4⟩, st4⟩ := X3.virtualBack hx (y := (⟨cS0, "without", cS1⟩ : MethodName)) (z := (⟨cS0, "without", cS1⟩ : MethodName)) hown (mvT hZ (own_at hw 25 rfl)) (mvT hZ (own_at hw 26 rfl)) (notFace_of_selects (args := #[]) (mvT hZ (own_at hw 28 rfl))) (mvT hZ (own_at hw 28 rfl)) (mvT hZ (own_at hw 27 rfl)) (by decide) (backOf (W := 0) (rm6_1 l Z a0 hw [] ob_1 p0 ar_1 kk_1 T1.heap n0 (Nat.le_trans Z0 K1.1) p1_3 p1_4 p1_5 p1_6) hZ (own_at hw 29 rfl) (own_at hw 2 rfl) (by decide) (by decide)) q4a q4c (g := (mkF m 42 #[iv p0, iv p1, rv ob_1, iv 1, .unset, .unset, .unset, .unset, .unset, .unset] [(.int p0), (.ref ob_1)])) rfl (by rw [hml]; rfl) (Steps.refl _) (argsL := [(.int p0)]) (rest := []) (lenOf pd_4 rfl) rfl (by show 2 * 0 + _ ≤ _; exact Nat.le_of_eq rfl) (hb hby at_42) (fun _ _ => ⟨rfl, e3, (by decide : 2 + 2 ≤ _), (by decide : 2 + 1 ≤ _)⟩)
    dsimp only [Pt.U, Pt.locs, Pt.cells, Pt.slots] at X4 l4 y4 z4 st4 hQ4
    subst l4 y4 z4
    obtain ⟨ob_4, ar_4, kk_4, rfl, N4q, K4, p4_0, p4_1, p4_2, p4_3, p4_4, p4_5, p4_6⟩ := hQ4
    have g_ob_4 : n0 ≤ ob_4 := Nat.le_trans (Nat.le_trans Z0 K1.1) p4_0
    have sz_ob_4 : h0.size ≤ ob_4 := Nat.le_trans ((Keep.refl h0 []).trans K1 all0).1 p4_0
    have g_ar_4 : n0 ≤ ar_4 := Nat.le_trans (Nat.le_trans Z0 K1.1) p4_1
    have sz_ar_4 : h0.size ≤ ar_4 := Nat.le_trans ((Keep.refl h0 []).trans K1 all0).1 p4_1
    have N4 := Fr.app N3 N4q
    obtain ⟨cq5, kq5, q5a, q5b, q5c⟩ := isOf hZ rfl p4_3
    obtain ⟨_, _, ⟨T5, L5, j5, i5⟩, -, X5, ⟨Lc5, hQ5, l5, y5, z5⟩, st5⟩ := X4.virtualBack hx (y := (⟨cS0, "isEmpty", "()Z"⟩ : MethodName)) (z := (⟨cS0, "isEmpty", "()Z"⟩ : MethodName)) hown (mvT hZ (own_at hw 15 rfl)) (mvT hZ (own_at hw 16 rfl)) (notFace_of_selects (args := #[]) (mvT hZ (own_at hw 18 rfl))) (mvT hZ (own_at hw 18 rfl)) (mvT hZ (own_at hw 17 rfl)) (by decide) (backOf (W := 0) (rm4_0 l Z a0 hw [] ob_4 ar_4 kk_4 T4.heap n0 (Nat.le_trans (Nat.le_trans Z0 K1.1) K4.1) p4_3 p4_4 p4_5 p4_6) hZ (own_at hw 19 rfl) (own_at hw 2 rfl) (by decide) (by decide)) q5a q5c (g := (mkF m 45 #[iv p0, iv p1, rv ob_1, iv 1, .unset, .unset, .unset, .unset, .unset, .unset] [(.ref ob_4)])) rfl (by rw [hml]; rfl) (Steps.refl _) (argsL := []) (rest := []) (lenOf pd_5 rfl) rfl (by show 2 * 0 + _ ≤ _; exact Nat.le_of_eq rfl) (hb hby at_45) (fun _ _ => ⟨rfl, rfl, (by decide : 4 + 0 ≤ _), (by decide : 3 + 0 ≤ _)⟩)
    dsimp only [Pt.U, Pt.locs, Pt.cells, Pt.slots] at X5 l5 y5 z5 st5 hQ5
    subst l5 y5 z5
    obtain ⟨rfl, N5q, e5⟩ := hQ5
    have N5 := Fr.app N4 N5q
    obtain ⟨_, _, ⟨T6, L6, j6, i6⟩, -, X6, ⟨Lc6, hQ6, l6, y6, z6⟩, st6⟩ := Jvm.LawKit.callS X5 hx (y := (⟨cS0, "on", cS1⟩ : MethodName)) hown (mvT hZ (own_at hw 0 rfl)) (mvT hZ (own_at hw 1 rfl)) (mvT hZ (own_at hw 2 rfl)) (mvT hZ (own_at hw 3 rfl)) (by decide) (backOf (W := 1) (rm1 l Z a0 hw [] p1 T4.heap n0 (Nat.le_trans (Nat.le_trans Z0 K1.1) K4.1) ) hZ (own_at hw 3 rfl) (own_at hw 2 rfl) (by decide) (by decide)) (g := (mkF m 59 #[iv p0, iv p1, rv ob_1, iv 1, .unset, .unset, .unset, .unset, .unset, .unset] [(.int p1), (.ref ob_1)])) rfl (by rw [hml]; rfl) (argsL := [(.int p1)]) (rest := [(.ref ob_1)]) (lenOf pd_4 rfl) rfl (by show 2 * 0 + _ ≤ _; exact Nat.le_of_eq rfl) (hb hby at_59) (fun _ _ => ⟨rfl, e5, (by decide : 4 + 2 ≤ _), (by decide : 3 + 2 ≤ _)⟩)
    dsimp only [Pt.U, Pt.locs, Pt.cells, Pt.slots] at X6 l6 y6 z6 st6 hQ6
    subst l6 y6 z6
    have f7 := (p1_3.keep K4)
    have f8 := (p1_5.keep K4 nin0)
    obtain ⟨ob_6, ar_6, kk_6, rfl, N6q, K6, p6_0, p6_1, p6_2, p6_3, p6_4, p6_5, p6_6⟩ := hQ6
    have g_ob_6 : n0 ≤ ob_6 := Nat.le_trans (Nat.le_trans (Nat.le_trans Z0 K1.1) K4.1) p6_0
    have sz_ob_6 : h0.size ≤ ob_6 := Nat.le_trans (((Keep.refl h0 []).trans K1 all0).trans K4 all0).1 p6_0
    have g_ar_6 : n0 ≤ ar_6 := Nat.le_trans (Nat.le_trans (Nat.le_trans Z0 K1.1) K4.1) p6_1
    have sz_ar_6 : h0.size ≤ ar_6 := Nat.le_trans (((Keep.refl h0 []).trans K1 all0).trans K4 all0).1 p6_1
    have N6 := Fr.app N5 N6q
    have f10 := (f7.keep K6)
    have f11 := ((p1_4.keep K4 nin0).keep K6 nin0)
    have f12 := (f8.keep K6 nin0)
    have f13 := ((p1_6.keep K4).keep K6)
    obtain ⟨cq9, kq9, q9a, q9b, q9c⟩ := isOf hZ rfl f10
    obtain ⟨_, _, ⟨T9, L9, j9, i9⟩, -, X9, ⟨Lc9, hQ9, l9, y9, z9⟩, st9⟩ := X6.virtualBack hx (y := (⟨cS0, "union", cS2⟩ : MethodName)) (z := (⟨cS0, "union", cS2⟩ : MethodName)) hown (mvT hZ (own_at hw 41 rfl)) (mvT hZ (own_at hw 42 rfl)) (notFace_of_selects (args := #[]) (mvT hZ (own_at hw 44 rfl))) (mvT hZ (own_at hw 44 rfl)) (mvT hZ (own_at hw 43 rfl)) (by decide) (backOf (W := 0) (rm9_lt l Z a0 hw [] ob_1 ob_6 ar_1 kk_1 ar_6 kk_6 p0 p1 T6.heap n0 (Nat.le_trans (Nat.le_trans (Nat.le_trans Z0 K1.1) K4.1) K6.1) f10 f11 f12 f13 p6_3 p6_4 p6_5 p6_6 ht) hZ (own_at hw 45 rfl) (own_at hw 2 rfl) (by decide) (by decide)) q9a q9c (g := (mkF m 62 #[iv p0, iv p1, rv ob_1, iv 1, .unset, .unset, .unset, .unset, .unset, .unset] [(.ref ob_6), (.ref ob_1)])) rfl (by rw [hml]; rfl) (Steps.refl _) (argsL := [(.ref ob_6)]) (rest := []) (lenOf pd_7 rfl) rfl (by show 2 * 0 + _ ≤ _; exact Nat.le_of_eq rfl) (hb hby at_62) (fun _ _ => ⟨rfl, rfl, (by decide : 6 + 3 ≤ _), (by decide : 5 + 5 ≤ _)⟩)
    dsimp only [Pt.U, Pt.locs, Pt.cells, Pt.slots] at X9 l9 y9 z9 st9 hQ9
    subst l9 y9 z9
    have f14 := (p4_3.keep K6)
    have f15 := (p4_5.keep K6 nin0)
    obtain ⟨ob_9, ar_9, kk_9, rfl, N9q, K9, p9_0, p9_1, p9_2, p9_3, p9_4, p9_5, p9_6⟩ := hQ9
    have g_ob_9 : n0 ≤ ob_9 := Nat.le_trans (Nat.le_trans (Nat.le_trans (Nat.le_trans Z0 K1.1) K4.1) K6.1) p9_0
    have sz_ob_9 : h0.size ≤ ob_9 := Nat.le_trans ((((Keep.refl h0 []).trans K1 all0).trans K4 all0).trans K6 all0).1 p9_0
    have g_ar_9 : n0 ≤ ar_9 := Nat.le_trans (Nat.le_trans (Nat.le_trans (Nat.le_trans Z0 K1.1) K4.1) K6.1) p9_1
    have sz_ar_9 : h0.size ≤ ar_9 := Nat.le_trans ((((Keep.refl h0 []).trans K1 all0).trans K4 all0).trans K6 all0).1 p9_1
    have N9 := Fr.app N6 N9q
    obtain ⟨_, _, ⟨T16, L16, j16, i16⟩, -, X16, ⟨Lc16, hQ16, l16, y16, z16⟩, st16⟩ := Jvm.LawKit.callS X9 hx (y := (⟨"java/lang/Math", "max", "(II)I"⟩ : MethodName)) hown (mvT hZ (own_at hw 58 rfl)) (mvT hZ (own_at hw 59 rfl)) (mvT hZ (own_at hw 60 rfl)) (mvT hZ (own_at hw 61 rfl)) (by decide) (backOf (W := 0) (rm11_lt l Z a0 hw [] p0 p1 T9.heap n0 (Nat.le_trans (Nat.le_trans (Nat.le_trans (Nat.le_trans Z0 K1.1) K4.1) K6.1) K9.1) ht) hZ (own_at hw 61 rfl) (own_at hw 60 rfl) (by decide) (by decide)) (g := (mkF m 69 #[iv p0, iv p1, rv ob_1, iv 1, rv ob_9, .unset, .unset, .unset, .unset, .unset] [(.int p1), (.int p0)])) rfl (by rw [hml]; rfl) (argsL := [(.int p0), (.int p1)]) (rest := []) (lenOf pd_8 rfl) rfl (by show 2 * 0 + _ ≤ _; exact Nat.le_of_eq rfl) (hb hby at_69) (fun _ _ => ⟨rfl, rfl, (by decide : 9 + 0 ≤ _), (by decide : 10 + 0 ≤ _)⟩)
    dsimp only [Pt.U, Pt.locs, Pt.cells, Pt.slots] at X16 l16 y16 z16 st16 hQ16
    subst l16 y16 z16
    obtain ⟨rfl, N16q, e16⟩ := hQ16
    have N16 := Fr.app N9 N16q
    obtain ⟨_, _, ⟨T17, L17, j17, i17⟩, -, X17, ⟨Lc17, hQ17, l17, y17, z17⟩, st17⟩ := Jvm.LawKit.callS X16 hx (y := (⟨"java/lang/Math", "min", "(II)I"⟩ : MethodName)) hown (mvT hZ (own_at hw 62 rfl)) (mvT hZ (own_at hw 63 rfl)) (mvT hZ (own_at hw 60 rfl)) (mvT hZ (own_at hw 64 rfl)) (by decide) (backOf (W := 0) (rm12_lt l Z a0 hw [] p0 p1 T9.heap n0 (Nat.le_trans (Nat.le_trans (Nat.le_trans (Nat.le_trans Z0 K1.1) K4.1) K6.1) K9.1) ht) hZ (own_at hw 64 rfl) (own_at hw 60 rfl) (by decide) (by decide)) (g := (mkF m 76 #[iv p0, iv p1, rv ob_1, iv 1, rv ob_9, iv p1, .unset, .unset, .unset, .unset] [(.int p1), (.int p0)])) rfl (by rw [hml]; rfl) (argsL := [(.int p0), (.int p1)]) (rest := []) (lenOf pd_8 rfl) rfl (by show 2 * 0 + _ ≤ _; exact Nat.le_of_eq rfl) (hb hby at_76) (fun _ _ => ⟨rfl, e16, (by decide : 9 + 0 ≤ _), (by decide : 10 + 0 ≤ _)⟩)
    dsimp only [Pt.U, Pt.locs, Pt.cells, Pt.slots] at X17 l17 y17 z17 st17 hQ17
    subst l17 y17 z17
    obtain ⟨rfl, N17q, e17⟩ := hQ17
    have N17 := Fr.app N16 N17q
    obtain ⟨cq18, kq18, q18a, q18b, q18c⟩ := isOf hZ e17 p9_3
    obtain ⟨_, _, ⟨T18, L18, j18, i18⟩, -, X18, ⟨Lc18, hQ18, l18, y18, z18⟩, st18⟩ := X17.virtualBack hx (y := (⟨cS0, "last", "()I"⟩ : MethodName)) (z := (⟨cS0, "last", "()I"⟩ : MethodName)) hown (mvT hZ (own_at hw 20 rfl)) (mvT hZ (own_at hw 21 rfl)) (notFace_of_selects (args := #[]) (mvT hZ (own_at hw 23 rfl))) (mvT hZ (own_at hw 23 rfl)) (mvT hZ (own_at hw 22 rfl)) (by decide) (backOf (W := 0) (rm5_2 l Z a0 hw [] ob_9 ar_9 kk_9 p0 p1 T9.heap n0 (Nat.le_trans (Nat.le_trans (Nat.le_trans (Nat.le_trans Z0 K1.1) K4.1) K6.1) K9.1) p9_3 p9_4 p9_5 p9_6) hZ (own_at hw 24 rfl) (own_at hw 2 rfl) (by decide) (by decide)) q18a q18c (g := (mkF m 87 #[iv p0, iv p1, rv ob_1, iv 1, rv ob_9, iv p1, iv p0, .unset, .unset, .unset] [(.ref ob_9)])) rfl (by rw [hml]; rfl) (Steps.refl _) (argsL := []) (rest := []) (lenOf pd_6 rfl) rfl (by show 2 * 0 + _ ≤ _; exact Nat.le_of_eq rfl) (hb hby at_87) (fun _ _ => ⟨rfl, e17, (by decide : 9 + 0 ≤ _), (by decide : 10 + 0 ≤ _)⟩)
    dsimp only [Pt.U, Pt.locs, Pt.cells, Pt.slots] at X18 l18 y18 z18 st18 hQ18
    subst l18 y18 z18
    obtain ⟨rfl, N18q, e18⟩ := hQ18
    have N18 := Fr.app N17 N18q
    obtain ⟨cq19, kq19, q19a, q19b, q19c⟩ := isOf hZ e18 p9_3
    obtain ⟨_, _, ⟨T19, L19, j19, i19⟩, -, X19, ⟨Lc19, hQ19, l19, y19, z19⟩, st19⟩ := X18.virtualBack hx (y := (⟨cS0, "without", cS1⟩ : MethodName)) (z := (⟨cS0, "without", cS1⟩ : MethodName)) hown (mvT hZ (own_at hw 25 rfl)) (mvT hZ (own_at hw 26 rfl)) (notFace_of_selects (args := #[]) (mvT hZ (own_at hw 28 rfl))) (mvT hZ (own_at hw 28 rfl)) (mvT hZ (own_at hw 27 rfl)) (by decide) (backOf (W := 0) (rm6_2 l Z a0 hw [] ob_9 p1 ar_9 kk_9 p0 T9.heap n0 (Nat.le_trans (Nat.le_trans (Nat.le_trans (Nat.le_trans Z0 K1.1) K4.1) K6.1) K9.1) p9_3 p9_4 p9_5 p9_6 ht) hZ (own_at hw 29 rfl) (own_at hw 2 rfl) (by decide) (by decide)) q19a q19c (g := (mkF m 105 #[iv p0, iv p1, rv ob_1, iv 1, rv ob_9, iv p1, iv p0, .unset, .unset, .unset] [(.int p1), (.ref ob_9)])) rfl (by rw [hml]; rfl) (Steps.refl _) (argsL := [(.int p1)]) (rest := []) (lenOf pd_4 rfl) rfl (by show 2 * 0 + _ ≤ _; exact Nat.le_of_eq rfl) (hb hby at_105) (fun _ _ => ⟨rfl, e18, (by decide : 9 + 2 ≤ _), (by decide : 10 + 2 ≤ _)⟩)
    dsimp only [Pt.U, Pt.locs, Pt.cells, Pt.slots] at X19 l19 y19 z19 st19 hQ19
    subst l19 y19 z19
    have f20 := (f10.keep K9)
    have f21 := (f12.keep K9 nin0)
    have f22 := (f14.keep K9)
    have f23 := (f15.keep K9 nin0)
    have f24 := (p6_3.keep K9)
    have f25 := (p6_5.keep K9 nin0)
    obtain ⟨ob_19, ar_19, kk_19, rfl, N19q, K19, p19_0, p19_1, p19_2, p19_3, p19_4, p19_5, p19_6⟩ := hQ19
    have g_ob_19 : n0 ≤ ob_19 := Nat.le_trans (Nat.le_trans (Nat.le_trans (Nat.le_trans (Nat.le_trans Z0 K1.1) K4.1) K6.1) K9.1) p19_0
    have sz_ob_19 : h0.size ≤ ob_19 := Nat.le_trans (((((Keep.refl h0 []).trans K1 all0).trans K4 all0).trans K6 all0).trans K9 all0).1 p19_0
    have g_ar_19 : n0 ≤ ar_19 := Nat.le_trans (Nat.le_trans (Nat.le_trans (Nat.le_trans (Nat.le_trans Z0 K1.1) K4.1) K6.1) K9.1) p19_1
    have sz_ar_19 : h0.size ≤ ar_19 := Nat.le_trans (((((Keep.refl h0 []).trans K1 all0).trans K4 all0).trans K6 all0).trans K9 all0).1 p19_1
    have N19 := Fr.app N18 N19q
    obtain ⟨cq26, kq26, q26a, q26b, q26c⟩ := isOf hZ rfl p19_3
    obtain ⟨_, _, ⟨T26, L26, j26, i26⟩, -, X26, ⟨Lc26, hQ26, l26, y26, z26⟩, st26⟩ := X19.virtualBack hx (y := (⟨cS0, "isEmpty", "()Z"⟩ : MethodName)) (z := (⟨cS0, "isEmpty", "()Z"⟩ : MethodName)) hown (mvT hZ (own_at hw 15 rfl)) (mvT hZ (own_at hw 16 rfl)) (notFace_of_selects (args := #[]) (mvT hZ (own_at hw 18 rfl))) (mvT hZ (own_at hw 18 rfl)) (mvT hZ (own_at hw 17 rfl)) (by decide) (backOf (W := 0) (rm4_1 l Z a0 hw [] ob_19 ar_19 kk_19 p0 T19.heap n0 (Nat.le_trans (Nat.le_trans (Nat.le_trans (Nat.le_trans (Nat.le_trans Z0 K1.1) K4.1) K6.1) K9.1) K19.1) p19_3 p19_4 p19_5 p19_6) hZ (own_at hw 19 rfl) (own_at hw 2 rfl) (by decide) (by decide)) q26a q26c (g := (mkF m 128 #[iv p0, iv p1, rv ob_1, iv 1, rv ob_9, iv p1, iv p0, rv ob_19, iv 0, .unset] [(.ref ob_19)])) rfl (by rw [hml]; rfl) (Steps.refl _) (argsL := []) (rest := []) (lenOf pd_5 rfl) rfl (by show 2 * 0 + _ ≤ _; exact Nat.le_of_eq rfl) (hb hby at_128) (fun _ _ => ⟨rfl, rfl, (by decide : 11 + 0 ≤ _), (by decide : 12 + 0 ≤ _)⟩)
    dsimp only [Pt.U, Pt.locs, Pt.cells, Pt.slots] at X26 l26 y26 z26 st26 hQ26
    subst l26 y26 z26
    obtain ⟨rfl, N26q, e26⟩ := hQ26
    have N26 := Fr.app N19 N26q
    obtain ⟨cq27, kq27, q27a, q27b, q27c⟩ := isOf hZ e26 p19_3
    obtain ⟨_, _, ⟨T27, L27, j27, i27⟩, -, X27, ⟨Lc27, hQ27, l27, y27, z27⟩, st27⟩ := X26.virtualBack hx (y := (⟨cS0, "last", "()I"⟩ : MethodName)) (z := (⟨cS0, "last", "()I"⟩ : MethodName)) hown (mvT hZ (own_at hw 20 rfl)) (mvT hZ (own_at hw 21 rfl)) (notFace_of_selects (args := #[]) (mvT hZ (own_at hw 23 rfl))) (mvT hZ (own_at hw 23 rfl)) (mvT hZ (own_at hw 22 rfl)) (by decide) (backOf (W := 0) (rm5_1 l Z a0 hw [] ob_19 ar_19 kk_19 p0 T19.heap n0 (Nat.le_trans (Nat.le_trans (Nat.le_trans (Nat.le_trans (Nat.le_trans Z0 K1.1) K4.1) K6.1) K9.1) K19.1) p19_3 p19_4 p19_5 p19_6) hZ (own_at hw 24 rfl) (own_at hw 2 rfl) (by decide) (by decide)) q27a q27c (g := (mkF m 161 #[iv p0, iv p1, rv ob_1, iv 1, rv ob_9, iv p1, iv p0, rv ob_19, iv 0, iv p0] [(.ref ob_19)])) rfl (by rw [hml]; rfl) (Steps.refl _) (argsL := []) (rest := []) (lenOf pd_6 rfl) rfl (by show 2 * 0 + _ ≤ _; exact Nat.le_of_eq rfl) (hb hby at_161) (fun _ _ => ⟨rfl, e26, (by decide : 11 + 0 ≤ _), (by decide : 12 + 0 ≤ _)⟩)
    dsimp only [Pt.U, Pt.locs, Pt.cells, Pt.slots] at X27 l27 y27 z27 st27 hQ27
    subst l27 y27 z27
    obtain ⟨rfl, N27q, e27⟩ := hQ27
    have N27 := Fr.app N26 N27q
    obtain ⟨fs, hr, hrun, hended, hW, hsame⟩ := X27.leave (v := some (.int 1)) (fun h => by rw [Bd.returns] at h; cases h)
    refine ⟨_, _, k0 _ ?_, hrun, hended, _, _, rfl, ?_, ⟨_, rfl⟩, hW, hsame.mono (by decide) (by decide)⟩
    · show OwnS p e below s₁ (mkF m 0 #[iv p0, iv p1, .unset, .unset, .unset, .unset, .unset, .unset, .unset, .unset] []) _
      refine XS.iloadN X0.here hx rfl (hb hby at_0) rfl ?_
      show OwnS p e below s₁ (mkF m 1 #[iv p0, iv p1, .unset, .unset, .unset, .unset, .unset, .unset, .unset, .unset] [(.int p0)]) _
      refine st1 _ ?_
      show OwnS p e below T1 (mkF m 4 #[iv p0, iv p1, .unset, .unset, .unset, .unset, .unset, .unset, .unset, .unset] [(.ref ob_1)]) _
      refine XS.astoreN X1.here hx rfl (hb hby at_4) rfl rfl (l' := #[iv p0, iv p1, rv ob_1, .unset, .unset, .unset, .unset, .unset, .unset, .unset]) rfl ?_
      show OwnS p e below T1 (mkF m 5 #[iv p0, iv p1, rv ob_1, .unset, .unset, .unset, .unset, .unset, .unset, .unset] []) _
      refine XS.aloadN X1.here hx rfl (hb hby at_5) rfl rfl ?_
      show OwnS p e below T1 (mkF m 6 #[iv p0, iv p1, rv ob_1, .unset, .unset, .unset, .unset, .unset, .unset, .unset] [(.ref ob_1)]) _
      refine st2.trans ?_
      show OwnS p e below T2 (mkF m 9 #[iv p0, iv p1, rv ob_1, .unset, .unset, .unset, .unset, .unset, .unset, .unset] [(.int 0)]) _
      refine XS.ifNo X2.here hx rfl (hb hby at_9) rfl ((if0 _ _).trans (teq (by decide : (0 : Int32) = (0 : Int32))).2) ?_
      show OwnS p e below T2 (mkF m 12 #[iv p0, iv p1, rv ob_1, .unset, .unset, .unset, .unset, .unset, .unset, .unset] []) _
      refine XS.iconst X2.here hx rfl (hb hby at_12) ?_
      show OwnS p e below T2 (mkF m 13 #[iv p0, iv p1, rv ob_1, .unset, .unset, .unset, .unset, .unset, .unset, .unset] [(.int 1)]) _
      refine XS.goto X2.here hx rfl (pc0 := 13) (pc' := 17) rfl (hb hby at_13) (by decide) (by decide) ?_
      show OwnS p e below T2 (mkF m 17 #[iv p0, iv p1, rv ob_1, .unset, .unset, .unset, .unset, .unset, .unset, .unset] [(.int 1)]) _
      refine XS.istoreN X2.here hx rfl (hb hby at_17) rfl (l' := #[iv p0, iv p1, rv ob_1, iv 1, .unset, .unset, .unset, .unset, .unset, .unset]) rfl ?_
      show OwnS p e below T2 (mkF m 18 #[iv p0, iv p1, rv ob_1, iv 1, .unset, .unset, .unset, .unset, .unset, .unset] []) _
      refine XS.iloadN X2.here hx rfl (hb hby at_18) rfl ?_
      show OwnS p e below T2 (mkF m 19 #[iv p0, iv p1, rv ob_1, iv 1, .unset, .unset, .unset, .unset, .unset, .unset] [(.int 1)]) _
      refine XS.ifNo X2.here hx rfl (hb hby at_19) rfl ((if0 _ _).trans (feq (by decide : ¬ ((1 : Int32) = (0 : Int32)))).1) ?_
      show OwnS p e below T2 (mkF m 22 #[iv p0, iv p1, rv ob_1, iv 1, .unset, .unset, .unset, .unset, .unset, .unset] []) _
      refine XS.aloadN X2.here hx rfl (hb hby at_22) rfl rfl ?_
      show OwnS p e below T2 (mkF m 23 #[iv p0, iv p1, rv ob_1, iv 1, .unset, .unset, .unset, .unset, .unset, .unset] [(.ref ob_1)]) _
      refine st3.trans ?_
      show OwnS p e below T3 (mkF m 26 #[iv p0, iv p1, rv ob_1, iv 1, .unset, .unset, .unset, .unset, .unset, .unset] [(.int p0)]) _
      refine XS.iloadN X3.here hx rfl (hb hby at_26) rfl ?_
      show OwnS p e below T3 (mkF m 27 #[iv p0, iv p1, rv ob_1, iv 1, .unset, .unset, .unset, .unset, .unset, .unset] [(.int p0), (.int p0)]) _
      refine XS.icmpNo X3.here hx rfl (hb hby at_27) rfl (teq (rfl : p0 = p0)).2 ?_
      show OwnS p e below T3 (mkF m 30 #[iv p0, iv p1, rv ob_1, iv 1, .unset, .unset, .unset, .unset, .unset, .unset] []) _
      refine XS.iconst X3.here hx rfl (hb hby at_30) ?_
      show OwnS p e below T3 (mkF m 31 #[iv p0, iv p1, rv ob_1, iv 1, .unset, .unset, .unset, .unset, .unset, .unset] [(.int 1)]) _
      refine XS.goto X3.here hx rfl (pc0 := 31) (pc' := 35) rfl (hb hby at_31) (by decide) (by decide) ?_
      show OwnS p e below T3 (mkF m 35 #[iv p0, iv p1, rv ob_1, iv 1, .unset, .unset, .unset, .unset, .unset, .unset] [(.int 1)]) _
      refine XS.istoreN X3.here hx rfl (hb hby at_35) rfl (l' := #[iv p0, iv p1, rv ob_1, iv 1, .unset, .unset, .unset, .unset, .unset, .unset]) rfl ?_
      show OwnS p e below T3 (mkF m 36 #[iv p0, iv p1, rv ob_1, iv 1, .unset, .unset, .unset, .unset, .unset, .unset] []) _
      refine XS.iloadN X3.here hx rfl (hb hby at_36) rfl ?_
      show OwnS p e below T3 (mkF m 37 #[iv p0, iv p1, rv ob_1, iv 1, .unset, .unset, .unset, .unset, .unset, .unset] [(.int 1)]) _
      refine XS.ifNo X3.here hx rfl (hb hby at_37) rfl ((if0 _ _).trans (feq (by decide : ¬ ((1 : Int32) = (0 : Int32)))).1) ?_
      show OwnS p e below T3 (mkF m 40 #[iv p0, iv p1, rv ob_1, iv 1, .unset, .unset, .unset, .unset, .unset, .unset] []) _
      refine XS.aloadN X3.here hx rfl (hb hby at_40) rfl rfl ?_
      show OwnS p e below T3 (mkF m 41 #[iv p0, iv p1, rv ob_1, iv 1, .unset, .unset, .unset, .unset, .unset, .unset] [(.ref ob_1)]) _
      refine XS.iloadN X3.here hx rfl (hb hby at_41) rfl ?_
      show OwnS p e below T3 (mkF m 42 #[iv p0, iv p1, rv ob_1, iv 1, .unset, .unset, .unset, .unset, .unset, .unset] [(.int p0), (.ref ob_1)]) _
      refine st4.trans ?_
      show OwnS p e below T4 (mkF m 45 #[iv p0, iv p1, rv ob_1, iv 1, .unset, .unset, .unset, .unset, .unset, .unset] [(.ref ob_4)]) _
      refine st5.trans ?_
      show OwnS p e below T5 (mkF m 48 #[iv p0, iv p1, rv ob_1, iv 1, .unset, .unset, .unset, .unset, .unset, .unset] [(.int 1)]) _
      refine XS.ifNo X5.here hx rfl (hb hby at_48) rfl ((if0 _ _).trans (feq (by decide : ¬ ((1 : Int32) = (0 : Int32)))).1) ?_
      show OwnS p e below T5 (mkF m 51 #[iv p0, iv p1, rv ob_1, iv 1, .unset, .unset, .unset, .unset, .unset, .unset] []) _
      refine XS.iconst X5.here hx rfl (hb hby at_51) ?_
      show OwnS p e below T5 (mkF m 52 #[iv p0, iv p1, rv ob_1, iv 1, .unset, .unset, .unset, .unset, .unset, .unset] [(.int 1)]) _
      refine XS.goto X5.here hx rfl (pc0 := 52) (pc' := 56) rfl (hb hby at_52) (by decide) (by decide) ?_
      show OwnS p e below T5 (mkF m 56 #[iv p0, iv p1, rv ob_1, iv 1, .unset, .unset, .unset, .unset, .unset, .unset] [(.int 1)]) _
      refine XS.istoreN X5.here hx rfl (hb hby at_56) rfl (l' := #[iv p0, iv p1, rv ob_1, iv 1, .unset, .unset, .unset, .unset, .unset, .unset]) rfl ?_
      show OwnS p e below T5 (mkF m 57 #[iv p0, iv p1, rv ob_1, iv 1, .unset, .unset, .unset, .unset, .unset, .unset] []) _
      refine XS.aloadN X5.here hx rfl (hb hby at_57) rfl rfl ?_
      show OwnS p e below T5 (mkF m 58 #[iv p0, iv p1, rv ob_1, iv 1, .unset, .unset, .unset, .unset, .unset, .unset] [(.ref ob_1)]) _
      refine XS.iloadN X5.here hx rfl (hb hby at_58) rfl ?_
      show OwnS p e below T5 (mkF m 59 #[iv p0, iv p1, rv ob_1, iv 1, .unset, .unset, .unset, .unset, .unset, .unset] [(.int p1), (.ref ob_1)]) _
      refine st6 _ ?_
      show OwnS p e below T6 (mkF m 62 #[iv p0, iv p1, rv ob_1, iv 1, .unset, .unset, .unset, .unset, .unset, .unset] [(.ref ob_6), (.ref ob_1)]) _
      refine st9.trans ?_
      show OwnS p e below T9 (mkF m 65 #[iv p0, iv p1, rv ob_1, iv 1, .unset, .unset, .unset, .unset, .unset, .unset] [(.ref ob_9)]) _
      refine XS.astore X9.here hx rfl (hb hby at_65) rfl rfl (l' := #[iv p0, iv p1, rv ob_1, iv 1, rv ob_9, .unset, .unset, .unset, .unset, .unset]) rfl ?_
      show OwnS p e below T9 (mkF m 67 #[iv p0, iv p1, rv ob_1, iv 1, rv ob_9, .unset, .unset, .unset, .unset, .unset] []) _
      refine XS.iloadN X9.here hx rfl (hb hby at_67) rfl ?_
      show OwnS p e below T9 (mkF m 68 #[iv p0, iv p1, rv ob_1, iv 1, rv ob_9, .unset, .unset, .unset, .unset, .unset] [(.int p0)]) _
      refine XS.iloadN X9.here hx rfl (hb hby at_68) rfl ?_
      show OwnS p e below T9 (mkF m 69 #[iv p0, iv p1, rv ob_1, iv 1, rv ob_9, .unset, .unset, .unset, .unset, .unset] [(.int p1), (.int p0)]) _
      refine st16 _ ?_
      show OwnS p e below T16 (mkF m 72 #[iv p0, iv p1, rv ob_1, iv 1, rv ob_9, .unset, .unset, .unset, .unset, .unset] [(.int p1)]) _
      refine XS.istore X16.here hx rfl (hb hby at_72) rfl (l' := #[iv p0, iv p1, rv ob_1, iv 1, rv ob_9, iv p1, .unset, .unset, .unset, .unset]) rfl ?_
      show OwnS p e below T16 (mkF m 74 #[iv p0, iv p1, rv ob_1, iv 1, rv ob_9, iv p1, .unset, .unset, .unset, .unset] []) _
      refine XS.iloadN X16.here hx rfl (hb hby at_74) rfl ?_
      show OwnS p e below T16 (mkF m 75 #[iv p0, iv p1, rv ob_1, iv 1, rv ob_9, iv p1, .unset, .unset, .unset, .unset] [(.int p0)]) _
      refine XS.iloadN X16.here hx rfl (hb hby at_75) rfl ?_
      show OwnS p e below T16 (mkF m 76 #[iv p0, iv p1, rv ob_1, iv 1, rv ob_9, iv p1, .unset, .unset, .unset, .unset] [(.int p1), (.int p0)]) _
      refine st17 _ ?_
      show OwnS p e below T17 (mkF m 79 #[iv p0, iv p1, rv ob_1, iv 1, rv ob_9, iv p1, .unset, .unset, .unset, .unset] [(.int p0)]) _
      refine XS.istore X17.here hx rfl (hb hby at_79) rfl (l' := #[iv p0, iv p1, rv ob_1, iv 1, rv ob_9, iv p1, iv p0, .unset, .unset, .unset]) rfl ?_
      show OwnS p e below T17 (mkF m 81 #[iv p0, iv p1, rv ob_1, iv 1, rv ob_9, iv p1, iv p0, .unset, .unset, .unset] []) _
      refine XS.iloadN X17.here hx rfl (hb hby at_81) rfl ?_
      show OwnS p e below T17 (mkF m 82 #[iv p0, iv p1, rv ob_1, iv 1, rv ob_9, iv p1, iv p0, .unset, .unset, .unset] [(.int 1)]) _
      refine XS.ifNo X17.here hx rfl (hb hby at_82) rfl ((if0 _ _).trans (feq (by decide : ¬ ((1 : Int32) = (0 : Int32)))).1) ?_
      show OwnS p e below T17 (mkF m 85 #[iv p0, iv p1, rv ob_1, iv 1, rv ob_9, iv p1, iv p0, .unset, .unset, .unset] []) _
      refine XS.aload X17.here hx rfl (hb hby at_85) rfl rfl ?_
      show OwnS p e below T17 (mkF m 87 #[iv p0, iv p1, rv ob_1, iv 1, rv ob_9, iv p1, iv p0, .unset, .unset, .unset] [(.ref ob_9)]) _
      refine st18.trans ?_
      show OwnS p e below T18 (mkF m 90 #[iv p0, iv p1, rv ob_1, iv 1, rv ob_9, iv p1, iv p0, .unset, .unset, .unset] [(.int p1)]) _
      refine XS.iload X18.here hx rfl (hb hby at_90) rfl ?_
      show OwnS p e below T18 (mkF m 92 #[iv p0, iv p1, rv ob_1, iv 1, rv ob_9, iv p1, iv p0, .unset, .unset, .unset] [(.int p1), (.int p1)]) _
      refine XS.icmpNo X18.here hx rfl (hb hby at_92) rfl (teq (rfl : p1 = p1)).2 ?_
      show OwnS p e below T18 (mkF m 95 #[iv p0, iv p1, rv ob_1, iv 1, rv ob_9, iv p1, iv p0, .unset, .unset, .unset] []) _
      refine XS.iconst X18.here hx rfl (hb hby at_95) ?_
      show OwnS p e below T18 (mkF m 96 #[iv p0, iv p1, rv ob_1, iv 1, rv ob_9, iv p1, iv p0, .unset, .unset, .unset] [(.int 1)]) _
      refine XS.goto X18.here hx rfl (pc0 := 96) (pc' := 100) rfl (hb hby at_96) (by decide) (by decide) ?_
      show OwnS p e below T18 (mkF m 100 #[iv p0, iv p1, rv ob_1, iv 1, rv ob_9, iv p1, iv p0, .unset, .unset, .unset] [(.int 1)]) _
      refine XS.istoreN X18.here hx rfl (hb hby at_100) rfl (l' := #[iv p0, iv p1, rv ob_1, iv 1, rv ob_9, iv p1, iv p0, .unset, .unset, .unset]) rfl ?_
      show OwnS p e below T18 (mkF m 101 #[iv p0, iv p1, rv ob_1, iv 1, rv ob_9, iv p1, iv p0, .unset, .unset, .unset] []) _
      refine XS.aload X18.here hx rfl (hb hby at_101) rfl rfl ?_
      show OwnS p e below T18 (mkF m 103 #[iv p0, iv p1, rv ob_1, iv 1, rv ob_9, iv p1, iv p0, .unset, .unset, .unset] [(.ref ob_9)]) _
      refine XS.iload X18.here hx rfl (hb hby at_103) rfl ?_
      show OwnS p e below T18 (mkF m 105 #[iv p0, iv p1, rv ob_1, iv 1, rv ob_9, iv p1, iv p0, .unset, .unset, .unset] [(.int p1), (.ref ob_9)]) _
      refine st19.trans ?_
      show OwnS p e below T19 (mkF m 108 #[iv p0, iv p1, rv ob_1, iv 1, rv ob_9, iv p1, iv p0, .unset, .unset, .unset] [(.ref ob_19)]) _
      refine XS.astore X19.here hx rfl (hb hby at_108) rfl rfl (l' := #[iv p0, iv p1, rv ob_1, iv 1, rv ob_9, iv p1, iv p0, rv ob_19, .unset, .unset]) rfl ?_
      show OwnS p e below T19 (mkF m 110 #[iv p0, iv p1, rv ob_1, iv 1, rv ob_9, iv p1, iv p0, rv ob_19, .unset, .unset] []) _
      refine XS.iloadN X19.here hx rfl (hb hby at_110) rfl ?_
      show OwnS p e below T19 (mkF m 111 #[iv p0, iv p1, rv ob_1, iv 1, rv ob_9, iv p1, iv p0, rv ob_19, .unset, .unset] [(.int p0)]) _
      refine XS.iloadN X19.here hx rfl (hb hby at_111) rfl ?_
      show OwnS p e below T19 (mkF m 112 #[iv p0, iv p1, rv ob_1, iv 1, rv ob_9, iv p1, iv p0, rv ob_19, .unset, .unset] [(.int p1), (.int p0)]) _
      refine XS.icmpYes X19.here hx rfl (pc0 := 112) (pc' := 119) rfl (hb hby at_112) rfl (feq (own_ne ht)).2 (by decide) (by decide) ?_
      show OwnS p e below T19 (mkF m 119 #[iv p0, iv p1, rv ob_1, iv 1, rv ob_9, iv p1, iv p0, rv ob_19, .unset, .unset] []) _
      refine XS.iconst X19.here hx rfl (hb hby at_119) ?_
      show OwnS p e below T19 (mkF m 120 #[iv p0, iv p1, rv ob_1, iv 1, rv ob_9, iv p1, iv p0, rv ob_19, .unset, .unset] [(.int 0)]) _
      refine XS.istore X19.here hx rfl (hb hby at_120) rfl (l' := #[iv p0, iv p1, rv ob_1, iv 1, rv ob_9, iv p1, iv p0, rv ob_19, iv 0, .unset]) rfl ?_
      show OwnS p e below T19 (mkF m 122 #[iv p0, iv p1, rv ob_1, iv 1, rv ob_9, iv p1, iv p0, rv ob_19, iv 0, .unset] []) _
      refine XS.iloadN X19.here hx rfl (hb hby at_122) rfl ?_
      show OwnS p e below T19 (mkF m 123 #[iv p0, iv p1, rv ob_1, iv 1, rv ob_9, iv p1, iv p0, rv ob_19, iv 0, .unset] [(.int 1)]) _
      refine XS.ifNo X19.here hx rfl (hb hby at_123) rfl ((if0 _ _).trans (feq (by decide : ¬ ((1 : Int32) = (0 : Int32)))).1) ?_
      show OwnS p e below T19 (mkF m 126 #[iv p0, iv p1, rv ob_1, iv 1, rv ob_9, iv p1, iv p0, rv ob_19, iv 0, .unset] []) _
      refine XS.aload X19.here hx rfl (hb hby at_126) rfl rfl ?_
      show OwnS p e below T19 (mkF m 128 #[iv p0, iv p1, rv ob_1, iv 1, rv ob_9, iv p1, iv p0, rv ob_19, iv 0, .unset] [(.ref ob_19)]) _
      refine st26.trans ?_
      show OwnS p e below T26 (mkF m 131 #[iv p0, iv p1, rv ob_1, iv 1, rv ob_9, iv p1, iv p0, rv ob_19, iv 0, .unset] [(.int 0)]) _
      refine XS.iload X26.here hx rfl (hb hby at_131) rfl ?_
      show OwnS p e below T26 (mkF m 133 #[iv p0, iv p1, rv ob_1, iv 1, rv ob_9, iv p1, iv p0, rv ob_19, iv 0, .unset] [(.int 0), (.int 0)]) _
      refine XS.icmpNo X26.here hx rfl (hb hby at_133) rfl (teq (by decide : (0 : Int32) = (0 : Int32))).2 ?_
      show OwnS p e below T26 (mkF m 136 #[iv p0, iv p1, rv ob_1, iv 1, rv ob_9, iv p1, iv p0, rv ob_19, iv 0, .unset] []) _
      refine XS.iconst X26.here hx rfl (hb hby at_136) ?_
      show OwnS p e below T26 (mkF m 137 #[iv p0, iv p1, rv ob_1, iv 1, rv ob_9, iv p1, iv p0, rv ob_19, iv 0, .unset] [(.int 1)]) _
      refine XS.goto X26.here hx rfl (pc0 := 137) (pc' := 141) rfl (hb hby at_137) (by decide) (by decide) ?_
      show OwnS p e below T26 (mkF m 141 #[iv p0, iv p1, rv ob_1, iv 1, rv ob_9, iv p1, iv p0, rv ob_19, iv 0, .unset] [(.int 1)]) _
      refine XS.istoreN X26.here hx rfl (hb hby at_141) rfl (l' := #[iv p0, iv p1, rv ob_1, iv 1, rv ob_9, iv p1, iv p0, rv ob_19, iv 0, .unset]) rfl ?_
      show OwnS p e below T26 (mkF m 142 #[iv p0, iv p1, rv ob_1, iv 1, rv ob_9, iv p1, iv p0, rv ob_19, iv 0, .unset] []) _
      refine XS.iload X26.here hx rfl (hb hby at_142) rfl ?_
      show OwnS p e below T26 (mkF m 144 #[iv p0, iv p1, rv ob_1, iv 1, rv ob_9, iv p1, iv p0, rv ob_19, iv 0, .unset] [(.int 0)]) _
      refine XS.ifYes X26.here hx rfl (pc0 := 144) (pc' := 151) rfl (hb hby at_144) rfl ((if0 _ _).trans (teq (by decide : (0 : Int32) = (0 : Int32))).1) (by decide) (by decide) ?_
      show OwnS p e below T26 (mkF m 151 #[iv p0, iv p1, rv ob_1, iv 1, rv ob_9, iv p1, iv p0, rv ob_19, iv 0, .unset] []) _
      refine XS.iload X26.here hx rfl (hb hby at_151) rfl ?_
      show OwnS p e below T26 (mkF m 153 #[iv p0, iv p1, rv ob_1, iv 1, rv ob_9, iv p1, iv p0, rv ob_19, iv 0, .unset] [(.int p0)]) _
      refine XS.istore X26.here hx rfl (hb hby at_153) rfl (l' := #[iv p0, iv p1, rv ob_1, iv 1, rv ob_9, iv p1, iv p0, rv ob_19, iv 0, iv p0]) rfl ?_
      show OwnS p e below T26 (mkF m 155 #[iv p0, iv p1, rv ob_1, iv 1, rv ob_9, iv p1, iv p0, rv ob_19, iv 0, iv p0] []) _
      refine XS.iloadN X26.here hx rfl (hb hby at_155) rfl ?_
      show OwnS p e below T26 (mkF m 156 #[iv p0, iv p1, rv ob_1, iv 1, rv ob_9, iv p1, iv p0, rv ob_19, iv 0, iv p0] [(.int 1)]) _
      refine XS.ifNo X26.here hx rfl (hb hby at_156) rfl ((if0 _ _).trans (feq (by decide : ¬ ((1 : Int32) = (0 : Int32)))).1) ?_
      show OwnS p e below T26 (mkF m 159 #[iv p0, iv p1, rv ob_1, iv 1, rv ob_9, iv p1, iv p0, rv ob_19, iv 0, iv p0] []) _
      refine XS.aload X26.here hx rfl (hb hby at_159) rfl rfl ?_
      show OwnS p e below T26 (mkF m 161 #[iv p0, iv p1, rv ob_1, iv 1, rv ob_9, iv p1, iv p0, rv ob_19, iv 0, iv p0] [(.ref ob_19)]) _
      refine st27.trans ?_
      show OwnS p e below T27 (mkF m 164 #[iv p0, iv p1, rv ob_1, iv 1, rv ob_9, iv p1, iv p0, rv ob_19, iv 0, iv p0] [(.int p0)]) _
      refine XS.iload X27.here hx rfl (hb hby at_164) rfl ?_
      show OwnS p e below T27 (mkF m 166 #[iv p0, iv p1, rv ob_1, iv 1, rv ob_9, iv p1, iv p0, rv ob_19, iv 0, iv p0] [(.int p0), (.int p0)]) _
      refine XS.icmpNo X27.here hx rfl (hb hby at_166) rfl (teq (rfl : p0 = p0)).2 ?_
      show OwnS p e below T27 (mkF m 169 #[iv p0, iv p1, rv ob_1, iv 1, rv ob_9, iv p1, iv p0, rv ob_19, iv 0, iv p0] []) _
      refine XS.iconst X27.here hx rfl (hb hby at_169) ?_
      show OwnS p e below T27 (mkF m 170 #[iv p0, iv p1, rv ob_1, iv 1, rv ob_9, iv p1, iv p0, rv ob_19, iv 0, iv p0] [(.int 1)]) _
      refine XS.goto X27.here hx rfl (pc0 := 170) (pc' := 174) rfl (hb hby at_170) (by decide) (by decide) ?_
      show OwnS p e below T27 (mkF m 174 #[iv p0, iv p1, rv ob_1, iv 1, rv ob_9, iv p1, iv p0, rv ob_19, iv 0, iv p0] [(.int 1)]) _
      refine XS.istoreN X27.here hx rfl (hb hby at_174) rfl (l' := #[iv p0, iv p1, rv ob_1, iv 1, rv ob_9, iv p1, iv p0, rv ob_19, iv 0, iv p0]) rfl ?_
      show OwnS p e below T27 (mkF m 175 #[iv p0, iv p1, rv ob_1, iv 1, rv ob_9, iv p1, iv p0, rv ob_19, iv 0, iv p0] []) _
      refine XS.iloadN X27.here hx rfl (hb hby at_175) rfl ?_
      show OwnS p e below T27 (mkF m 176 #[iv p0, iv p1, rv ob_1, iv 1, rv ob_9, iv p1, iv p0, rv ob_19, iv 0, iv p0] [(.int 1)]) _
      exact retN X27 hx (t := .boolean) Bd.returns (by simp) (hb hby at_176) hr
    · show Q_0 Z p0 p1 h0 n0 _ T27.heap _
      rw [e27]
      exact ⟨rfl, N27, trivial⟩
  · obtain ⟨_, _, ⟨T28, L28, j28, i28⟩, -, X28, ⟨Lc28, hQ28, l28, y28, z28⟩, st28⟩ := Jvm.LawKit.callS X0 hx (y := (⟨cS0, "on", cS1⟩ : MethodName)) hown (mvT hZ (own_at hw 0 rfl)) (mvT hZ (own_at hw 1 rfl)) (mvT hZ (own_at hw 2 rfl)) (mvT hZ (own_at hw 3 rfl)) (by decide) (backOf (W := 0) (rm1 l Z a0 hw [] p0 h0 n0 Z0 ) hZ (own_at hw 3 rfl) (own_at hw 2 rfl) (by decide) (by decide)) (g := (mkF m 1 #[iv p0, iv p0, .unset, .unset, .unset, .unset, .unset, .unset, .unset, .unset] [(.int p0)])) rfl (by rw [hml]; rfl) (argsL := [(.int p0)]) (rest := []) (lenOf pd_4 rfl) rfl (by show 2 * 0 + _ ≤ _; exact Nat.le_of_eq rfl) (hb hby at_1) (fun _ _ => ⟨rfl, e0, (by decide : 0 + 2 ≤ _), (by decide : 0 + 2 ≤ _)⟩)
    dsimp only [Pt.U, Pt.locs, Pt.cells, Pt.slots] at X28 l28 y28 z28 st28 hQ28
    subst l28 y28 z28
    obtain ⟨ob_28, ar_28, kk_28, rfl, N28q, K28, p28_0, p28_1, p28_2, p28_3, p28_4, p28_5, p28_6⟩ := hQ28
    have g_ob_28 : n0 ≤ ob_28 := Nat.le_trans Z0 p28_0
    have sz_ob_28 : h0.size ≤ ob_28 := Nat.le_trans (Keep.refl h0 []).1 p28_0
    have g_ar_28 : n0 ≤ ar_28 := Nat.le_trans Z0 p28_1
    have sz_ar_28 : h0.size ≤ ar_28 := Nat.le_trans (Keep.refl h0 []).1 p28_1
    have N28 := Fr.app N0 N28q
    obtain ⟨cq29, kq29, q29a, q29b, q29c⟩ := isOf hZ rfl p28_3
    obtain ⟨_, _, ⟨T29, L29, j29, i29⟩, -, X29, ⟨Lc29, hQ29, l29, y29, z29⟩, st29⟩ := X28.virtualBack hx (y := (⟨cS0, "isEmpty", "()Z"⟩ : MethodName)) (z := (⟨cS0, "isEmpty", "()Z"⟩ : MethodName)) hown (mvT hZ (own_at hw 15 rfl)) (mvT hZ (own_at hw 16 rfl)) (notFace_of_selects (args := #[]) (mvT hZ (own_at hw 18 rfl))) (mvT hZ (own_at hw 18 rfl)) (mvT hZ (own_at hw 17 rfl)) (by decide) (backOf (W := 0) (rm4_1 l Z a0 hw [] ob_28 ar_28 kk_28 p0 T28.heap n0 (Nat.le_trans Z0 K28.1) p28_3 p28_4 p28_5 p28_6) hZ (own_at hw 19 rfl) (own_at hw 2 rfl) (by decide) (by decide)) q29a q29c (g := (mkF m 6 #[iv p0, iv p0, rv ob_28, .unset, .unset, .unset, .unset, .unset, .unset, .unset] [(.ref ob_28)])) rfl (by rw [hml]; rfl) (Steps.refl _) (argsL := []) (rest := []) (lenOf pd_5 rfl) rfl (by show 2 * 0 + _ ≤ _; exact Nat.le_of_eq rfl) (hb hby at_6) (fun _ _ => ⟨rfl, rfl, (by decide : 2 + 0 ≤ _), (by decide : 2 + 0 ≤ _)⟩)
    dsimp only [Pt.U, Pt.locs, Pt.cells, Pt.slots] at X29 l29 y29 z29 st29 hQ29
    subst l29 y29 z29
    obtain ⟨rfl, N29q, e29⟩ := hQ29
    have N29 := Fr.app N28 N29q
    obtain ⟨cq30, kq30, q30a, q30b, q30c⟩ := isOf hZ e29 p28_3
    obtain ⟨_, _, ⟨T30, L30, j30, i30⟩, -, X30, ⟨Lc30, hQ30, l30, y30, z30⟩, st30⟩ := X29.virtualBack hx (y := (⟨cS0, "last", "()I"⟩ : MethodName)) (z := (⟨cS0, "last", "()I"⟩ : MethodName)) hown (mvT hZ (own_at hw 20 rfl)) (mvT hZ (own_at hw 21 rfl)) (notFace_of_selects (args := #[]) (mvT hZ (own_at hw 23 rfl))) (mvT hZ (own_at hw 23 rfl)) (mvT hZ (own_at hw 22 rfl)) (by decide) (backOf (W := 0) (rm5_1 l Z a0 hw [] ob_28 ar_28 kk_28 p0 T28.heap n0 (Nat.le_trans Z0 K28.1) p28_3 p28_4 p28_5 p28_6) hZ (own_at hw 24 rfl) (own_at hw 2 rfl) (by decide) (by decide)) q30a q30c (g := (mkF m 23 #[iv p0, iv p0, rv ob_28, iv 1, .unset, .unset, .unset, .unset, .unset, .unset] [(.ref ob_28)])) rfl (by rw [hml]; rfl) (Steps.refl _) (argsL := []) (rest := []) (lenOf pd_6 rfl) rfl (by show 2 * 0 + _ ≤ _; exact Nat.le_of_eq rfl) (hb hby at_23) (fun _ _ => ⟨rfl, e29, (by decide : 2 + 0 ≤ _), (by decide : 2 + 0 ≤ _)⟩)
    dsimp only [Pt.U, Pt.locs, Pt.cells, Pt.slots] at X30 l30 y30 z30 st30 hQ30
    subst l30 y30 z30
    obtain ⟨rfl, N30q, e30⟩ := hQ30
    have N30 := Fr.app N29 N30q
    obtain ⟨cq31, kq31, q31a, q31b, q31c⟩ := isOf hZ e30 p28_3
    obtain ⟨_, _, ⟨T31, L31, j31, i31⟩, -, X31, ⟨Lc31, hQ31, l31, y31, z31⟩, st31⟩ := X30.virtualBack hx (y := (⟨cS0, "without", cS1⟩ : MethodName)) (z := (⟨cS0, "without", cS1⟩ : MethodName)) hown (mvT hZ (own_at hw 25 rfl)) (mvT hZ (own_at hw 26 rfl)) (notFace_of_selects (args := #[]) (mvT hZ (own_at hw 28 rfl))) (mvT hZ (own_at hw 28 rfl)) (mvT hZ (own_at hw 27 rfl)) (by decide) (backOf (W := 0) (rm6_1 l Z a0 hw [] ob_28 p0 ar_28 kk_28 T28.heap n0 (Nat.le_trans Z0 K28.1) p28_3 p28_4 p28_5 p28_6) hZ (own_at hw 29 rfl) (own_at hw 2 rfl) (by decide) (by decide)) q31a q31c (g := (mkF m 42 #[iv p0, iv p0, rv ob_28, iv 1, .unset, .unset, .unset, .unset, .unset, .unset] [(.int p0), (.ref ob_28)])) rfl (by rw [hml]; rfl) (Steps.refl _) (argsL := [(.int p0)]) (rest := []) (lenOf pd_4 rfl) rfl (by show 2 * 0 + _ ≤ _; exact Nat.le_of_eq rfl) (hb hby at_42) (fun _ _ => ⟨rfl, e30, (by decide : 2 + 2 ≤ _), (by decide : 2 + 1 ≤ _)⟩)
    dsimp only [Pt.U, Pt.locs, Pt.cells, Pt.slots] at X31 l31 y31 z31 st31 hQ31
    subst l31 y31 z31
    obtain ⟨ob_31, ar_31, kk_31, rfl, N31q, K31, p31_0, p31_1, p31_2, p31_3, p31_4, p31_5, p31_6⟩ := hQ31
    have g_ob_31 : n0 ≤ ob_31 := Nat.le_trans (Nat.le_trans Z0 K28.1) p31_0
    have sz_ob_31 : h0.size ≤ ob_31 := Nat.le_trans ((Keep.refl h0 []).trans K28 all0).1 p31_0
    have g_ar_31 : n0 ≤ ar_31 := Nat.le_trans (Nat.le_trans Z0 K28.1) p31_1
    have sz_ar_31 : h0.size ≤ ar_31 := Nat.le_trans ((Keep.refl h0 []).trans K28 all0).1 p31_1
    have N31 := Fr.app N30 N31q
    obtain ⟨cq32, kq32, q32a, q32b, q32c⟩ := isOf hZ rfl p31_3
    obtain ⟨_, _, ⟨T32, L32, j32, i32⟩, -, X32, ⟨Lc32, hQ32, l32, y32, z32⟩, st32⟩ := X31.virtualBack hx (y := (⟨cS0, "isEmpty", "()Z"⟩ : MethodName)) (z := (⟨cS0, "isEmpty", "()Z"⟩ : MethodName)) hown (mvT hZ (own_at hw 15 rfl)) (mvT hZ (own_at hw 16 rfl)) (notFace_of_selects (args := #[]) (mvT hZ (own_at hw 18 rfl))) (mvT hZ (own_at hw 18 rfl)) (mvT hZ (own_at hw 17 rfl)) (by decide) (backOf (W := 0) (rm4_0 l Z a0 hw [] ob_31 ar_31 kk_31 T31.heap n0 (Nat.le_trans (Nat.le_trans Z0 K28.1) K31.1) p31_3 p31_4 p31_5 p31_6) hZ (own_at hw 19 rfl) (own_at hw 2 rfl) (by decide) (by decide)) q32a q32c (g := (mkF m 45 #[iv p0, iv p0, rv ob_28, iv 1, .unset, .unset, .unset, .unset, .unset, .unset] [(.ref ob_31)])) rfl (by rw [hml]; rfl) (Steps.refl _) (argsL := []) (rest := []) (lenOf pd_5 rfl) rfl (by show 2 * 0 + _ ≤ _; exact Nat.le_of_eq rfl) (hb hby at_45) (fun _ _ => ⟨rfl, rfl, (by decide : 4 + 0 ≤ _), (by decide : 3 + 0 ≤ _)⟩)
    dsimp only [Pt.U, Pt.locs, Pt.cells, Pt.slots] at X32 l32 y32 z32 st32 hQ32
    subst l32 y32 z32
    obtain ⟨rfl, N32q, e32⟩ := hQ32
    have N32 := Fr.app N31 N32q
    obtain ⟨_, _, ⟨T33, L33, j33, i33⟩, -, X33, ⟨Lc33, hQ33, l33, y33, z33⟩, st33⟩ := Jvm.LawKit.callS X32 hx (y := (⟨cS0, "on", cS1⟩ : MethodName)) hown (mvT hZ (own_at hw 0 rfl)) (mvT hZ (own_at hw 1 rfl)) (mvT hZ (own_at hw 2 rfl)) (mvT hZ (own_at hw 3 rfl)) (by decide) (backOf (W := 1) (rm1 l Z a0 hw [] p0 T31.heap n0 (Nat.le_trans (Nat.le_trans Z0 K28.1) K31.1) ) hZ (own_at hw 3 rfl) (own_at hw 2 rfl) (by decide) (by decide)) (g := (mkF m 59 #[iv p0, iv p0, rv ob_28, iv 1, .unset, .unset, .unset, .unset, .unset, .unset] [(.int p0), (.ref ob_28)])) rfl (by rw [hml]; rfl) (argsL := [(.int p0)]) (rest := [(.ref ob_28)]) (lenOf pd_4 rfl) rfl (by show 2 * 0 + _ ≤ _; exact Nat.le_of_eq rfl) (hb hby at_59) (fun _ _ => ⟨rfl, e32, (by decide : 4 + 2 ≤ _), (by decide : 3 + 2 ≤ _)⟩)
    dsimp only [Pt.U, Pt.locs, Pt.cells, Pt.slots] at X33 l33 y33 z33 st33 hQ33
    subst l33 y33 z33
    have f34 := (p28_3.keep K31)
    have f35 := (p28_5.keep K31 nin0)
    obtain ⟨ob_33, ar_33, kk_33, rfl, N33q, K33, p33_0, p33_1, p33_2, p33_3, p33_4, p33_5, p33_6⟩ := hQ33
    have g_ob_33 : n0 ≤ ob_33 := Nat.le_trans (Nat.le_trans (Nat.le_trans Z0 K28.1) K31.1) p33_0
    have sz_ob_33 : h0.size ≤ ob_33 := Nat.le_trans (((Keep.refl h0 []).trans K28 all0).trans K31 all0).1 p33_0
    have g_ar_33 : n0 ≤ ar_33 := Nat.le_trans (Nat.le_trans (Nat.le_trans Z0 K28.1) K31.1) p33_1
    have sz_ar_33 : h0.size ≤ ar_33 := Nat.le_trans (((Keep.refl h0 []).trans K28 all0).trans K31 all0).1 p33_1
    have N33 := Fr.app N32 N33q
    have f37 := (f34.keep K33)
    have f38 := ((p28_4.keep K31 nin0).keep K33 nin0)
    have f39 := (f35.keep K33 nin0)
    have f40 := ((p28_6.keep K31).keep K33)
    obtain ⟨cq36, kq36, q36a, q36b, q36c⟩ := isOf hZ rfl f37
    obtain ⟨_, _, ⟨T36, L36, j36, i36⟩, -, X36, ⟨Lc36, hQ36, l36, y36, z36⟩, st36⟩ := X33.virtualBack hx (y := (⟨cS0, "union", cS2⟩ : MethodName)) (z := (⟨cS0, "union", cS2⟩ : MethodName)) hown (mvT hZ (own_at hw 41 rfl)) (mvT hZ (own_at hw 42 rfl)) (notFace_of_selects (args := #[]) (mvT hZ (own_at hw 44 rfl))) (mvT hZ (own_at hw 44 rfl)) (mvT hZ (own_at hw 43 rfl)) (by decide) (backOf (W := 0) (rm9_eq l Z a0 hw [] ob_28 ob_33 ar_28 kk_28 ar_33 kk_33 p0 T33.heap n0 (Nat.le_trans (Nat.le_trans (Nat.le_trans Z0 K28.1) K31.1) K33.1) f37 f38 f39 f40 p33_3 p33_4 p33_5 p33_6) hZ (own_at hw 45 rfl) (own_at hw 2 rfl) (by decide) (by decide)) q36a q36c (g := (mkF m 62 #[iv p0, iv p0, rv ob_28, iv 1, .unset, .unset, .unset, .unset, .unset, .unset] [(.ref ob_33), (.ref ob_28)])) rfl (by rw [hml]; rfl) (Steps.refl _) (argsL := [(.ref ob_33)]) (rest := []) (lenOf pd_7 rfl) rfl (by show 2 * 0 + _ ≤ _; exact Nat.le_of_eq rfl) (hb hby at_62) (fun _ _ => ⟨rfl, rfl, (by decide : 6 + 1 ≤ _), (by decide : 5 + 2 ≤ _)⟩)
    dsimp only [Pt.U, Pt.locs, Pt.cells, Pt.slots] at X36 l36 y36 z36 st36 hQ36
    subst l36 y36 z36
    have f41 := (p31_3.keep K33)
    have f42 := (p31_5.keep K33 nin0)
    obtain ⟨rfl, N36q, K36, -⟩ := hQ36
    have N36 := Fr.app N33 N36q
    obtain ⟨_, _, ⟨T43, L43, j43, i43⟩, -, X43, ⟨Lc43, hQ43, l43, y43, z43⟩, st43⟩ := Jvm.LawKit.callS X36 hx (y := (⟨"java/lang/Math", "max", "(II)I"⟩ : MethodName)) hown (mvT hZ (own_at hw 58 rfl)) (mvT hZ (own_at hw 59 rfl)) (mvT hZ (own_at hw 60 rfl)) (mvT hZ (own_at hw 61 rfl)) (by decide) (backOf (W := 0) (rm11_eq l Z a0 hw [] p0 T36.heap n0 (Nat.le_trans (Nat.le_trans (Nat.le_trans (Nat.le_trans Z0 K28.1) K31.1) K33.1) K36.1) ) hZ (own_at hw 61 rfl) (own_at hw 60 rfl) (by decide) (by decide)) (g := (mkF m 69 #[iv p0, iv p0, rv ob_28, iv 1, rv ob_28, .unset, .unset, .unset, .unset, .unset] [(.int p0), (.int p0)])) rfl (by rw [hml]; rfl) (argsL := [(.int p0), (.int p0)]) (rest := []) (lenOf pd_8 rfl) rfl (by show 2 * 0 + _ ≤ _; exact Nat.le_of_eq rfl) (hb hby at_69) (fun _ _ => ⟨rfl, rfl, (by decide : 7 + 0 ≤ _), (by decide : 7 + 0 ≤ _)⟩)
    dsimp only [Pt.U, Pt.locs, Pt.cells, Pt.slots] at X43 l43 y43 z43 st43 hQ43
    subst l43 y43 z43
    obtain ⟨rfl, N43q, e43⟩ := hQ43
    have N43 := Fr.app N36 N43q
    obtain ⟨_, _, ⟨T44, L44, j44, i44⟩, -, X44, ⟨Lc44, hQ44, l44, y44, z44⟩, st44⟩ := Jvm.LawKit.callS X43 hx (y := (⟨"java/lang/Math", "min", "(II)I"⟩ : MethodName)) hown (mvT hZ (own_at hw 62 rfl)) (mvT hZ (own_at hw 63 rfl)) (mvT hZ (own_at hw 60 rfl)) (mvT hZ (own_at hw 64 rfl)) (by decide) (backOf (W := 0) (rm12_eq l Z a0 hw [] p0 T36.heap n0 (Nat.le_trans (Nat.le_trans (Nat.le_trans (Nat.le_trans Z0 K28.1) K31.1) K33.1) K36.1) ) hZ (own_at hw 64 rfl) (own_at hw 60 rfl) (by decide) (by decide)) (g := (mkF m 76 #[iv p0, iv p0, rv ob_28, iv 1, rv ob_28, iv p0, .unset, .unset, .unset, .unset] [(.int p0), (.int p0)])) rfl (by rw [hml]; rfl) (argsL := [(.int p0), (.int p0)]) (rest := []) (lenOf pd_8 rfl) rfl (by show 2 * 0 + _ ≤ _; exact Nat.le_of_eq rfl) (hb hby at_76) (fun _ _ => ⟨rfl, e43, (by decide : 7 + 0 ≤ _), (by decide : 7 + 0 ≤ _)⟩)
    dsimp only [Pt.U, Pt.locs, Pt.cells, Pt.slots] at X44 l44 y44 z44 st44 hQ44
    subst l44 y44 z44
    obtain ⟨rfl, N44q, e44⟩ := hQ44
    have N44 := Fr.app N43 N44q
    have f46 := (f37.keep K36)
    have f47 := (f38.keep K36 nin0)
    have f48 := (f39.keep K36 nin0)
    have f49 := (f40.keep K36)
    obtain ⟨cq45, kq45, q45a, q45b, q45c⟩ := isOf hZ e44 f46
    obtain ⟨_, _, ⟨T45, L45, j45, i45⟩, -, X45, ⟨Lc45, hQ45, l45, y45, z45⟩, st45⟩ := X44.virtualBack hx (y := (⟨cS0, "last", "()I"⟩ : MethodName)) (z := (⟨cS0, "last", "()I"⟩ : MethodName)) hown (mvT hZ (own_at hw 20 rfl)) (mvT hZ (own_at hw 21 rfl)) (notFace_of_selects (args := #[]) (mvT hZ (own_at hw 23 rfl))) (mvT hZ (own_at hw 23 rfl)) (mvT hZ (own_at hw 22 rfl)) (by decide) (backOf (W := 0) (rm5_1 l Z a0 hw [] ob_28 ar_28 kk_28 p0 T36.heap n0 (Nat.le_trans (Nat.le_trans (Nat.le_trans (Nat.le_trans Z0 K28.1) K31.1) K33.1) K36.1) f46 f47 f48 f49) hZ (own_at hw 24 rfl) (own_at hw 2 rfl) (by decide) (by decide)) q45a q45c (g := (mkF m 87 #[iv p0, iv p0, rv ob_28, iv 1, rv ob_28, iv p0, iv p0, .unset, .unset, .unset] [(.ref ob_28)])) rfl (by rw [hml]; rfl) (Steps.refl _) (argsL := []) (rest := []) (lenOf pd_6 rfl) rfl (by show 2 * 0 + _ ≤ _; exact Nat.le_of_eq rfl) (hb hby at_87) (fun _ _ => ⟨rfl, e44, (by decide : 7 + 0 ≤ _), (by decide : 7 + 0 ≤ _)⟩)
    dsimp only [Pt.U, Pt.locs, Pt.cells, Pt.slots] at X45 l45 y45 z45 st45 hQ45
    subst l45 y45 z45
    obtain ⟨rfl, N45q, e45⟩ := hQ45
    have N45 := Fr.app N44 N45q
    obtain ⟨cq50, kq50, q50a, q50b, q50c⟩ := isOf hZ e45 f46
    obtain ⟨_, _, ⟨T50, L50, j50, i50⟩, -, X50, ⟨Lc50, hQ50, l50, y50, z50⟩, st50⟩ := X45.virtualBack hx (y := (⟨cS0, "without", cS1⟩ : MethodName)) (z := (⟨cS0, "without", cS1⟩ : MethodName)) hown (mvT hZ (own_at hw 25 rfl)) (mvT hZ (own_at hw 26 rfl)) (notFace_of_selects (args := #[]) (mvT hZ (own_at hw 28 rfl))) (mvT hZ (own_at hw 28 rfl)) (mvT hZ (own_at hw 27 rfl)) (by decide) (backOf (W := 0) (rm6_1 l Z a0 hw [] ob_28 p0 ar_28 kk_28 T36.heap n0 (Nat.le_trans (Nat.le_trans (Nat.le_trans (Nat.le_trans Z0 K28.1) K31.1) K33.1) K36.1) f46 f47 f48 f49) hZ (own_at hw 29 rfl) (own_at hw 2 rfl) (by decide) (by decide)) q50a q50c (g := (mkF m 105 #[iv p0, iv p0, rv ob_28, iv 1, rv ob_28, iv p0, iv p0, .unset, .unset, .unset] [(.int p0), (.ref ob_28)])) rfl (by rw [hml]; rfl) (Steps.refl _) (argsL := [(.int p0)]) (rest := []) (lenOf pd_4 rfl) rfl (by show 2 * 0 + _ ≤ _; exact Nat.le_of_eq rfl) (hb hby at_105) (fun _ _ => ⟨rfl, e45, (by decide : 7 + 2 ≤ _), (by decide : 7 + 1 ≤ _)⟩)
    dsimp only [Pt.U, Pt.locs, Pt.cells, Pt.slots] at X50 l50 y50 z50 st50 hQ50
    subst l50 y50 z50
    have f51 := (f41.keep K36)
    have f52 := (f42.keep K36 nin0)
    have f53 := (p33_3.keep K36)
    have f54 := (p33_5.keep K36 nin0)
    obtain ⟨ob_50, ar_50, kk_50, rfl, N50q, K50, p50_0, p50_1, p50_2, p50_3, p50_4, p50_5, p50_6⟩ := hQ50
    have g_ob_50 : n0 ≤ ob_50 := Nat.le_trans (Nat.le_trans (Nat.le_trans (Nat.le_trans (Nat.le_trans Z0 K28.1) K31.1) K33.1) K36.1) p50_0
    have sz_ob_50 : h0.size ≤ ob_50 := Nat.le_trans (((((Keep.refl h0 []).trans K28 all0).trans K31 all0).trans K33 all0).trans K36 all0).1 p50_0
    have g_ar_50 : n0 ≤ ar_50 := Nat.le_trans (Nat.le_trans (Nat.le_trans (Nat.le_trans (Nat.le_trans Z0 K28.1) K31.1) K33.1) K36.1) p50_1
    have sz_ar_50 : h0.size ≤ ar_50 := Nat.le_trans (((((Keep.refl h0 []).trans K28 all0).trans K31 all0).trans K33 all0).trans K36 all0).1 p50_1
    have N50 := Fr.app N45 N50q
    obtain ⟨cq55, kq55, q55a, q55b, q55c⟩ := isOf hZ rfl p50_3
    obtain ⟨_, _, ⟨T55, L55, j55, i55⟩, -, X55, ⟨Lc55, hQ55, l55, y55, z55⟩, st55⟩ := X50.virtualBack hx (y := (⟨cS0, "isEmpty", "()Z"⟩ : MethodName)) (z := (⟨cS0, "isEmpty", "()Z"⟩ : MethodName)) hown (mvT hZ (own_at hw 15 rfl)) (mvT hZ (own_at hw 16 rfl)) (notFace_of_selects (args := #[]) (mvT hZ (own_at hw 18 rfl))) (mvT hZ (own_at hw 18 rfl)) (mvT hZ (own_at hw 17 rfl)) (by decide) (backOf (W := 0) (rm4_0 l Z a0 hw [] ob_50 ar_50 kk_50 T50.heap n0 (Nat.le_trans (Nat.le_trans (Nat.le_trans (Nat.le_trans (Nat.le_trans Z0 K28.1) K31.1) K33.1) K36.1) K50.1) p50_3 p50_4 p50_5 p50_6) hZ (own_at hw 19 rfl) (own_at hw 2 rfl) (by decide) (by decide)) q55a q55c (g := (mkF m 128 #[iv p0, iv p0, rv ob_28, iv 1, rv ob_28, iv p0, iv p0, rv ob_50, iv 1, .unset] [(.ref ob_50)])) rfl (by rw [hml]; rfl) (Steps.refl _) (argsL := []) (rest := []) (lenOf pd_5 rfl) rfl (by show 2 * 0 + _ ≤ _; exact Nat.le_of_eq rfl) (hb hby at_128) (fun _ _ => ⟨rfl, rfl, (by decide : 9 + 0 ≤ _), (by decide : 8 + 0 ≤ _)⟩)
    dsimp only [Pt.U, Pt.locs, Pt.cells, Pt.slots] at X55 l55 y55 z55 st55 hQ55
    subst l55 y55 z55
    obtain ⟨rfl, N55q, e55⟩ := hQ55
    have N55 := Fr.app N50 N55q
    obtain ⟨cq56, kq56, q56a, q56b, q56c⟩ := isOf hZ e55 p50_3
    obtain ⟨_, _, ⟨T56, L56, j56, i56⟩, -, X56, ⟨Lc56, hQ56, l56, y56, z56⟩, st56⟩ := X55.virtualBack hx (y := (⟨cS0, "last", "()I"⟩ : MethodName)) (z := (⟨cS0, "last", "()I"⟩ : MethodName)) hown (mvT hZ (own_at hw 20 rfl)) (mvT hZ (own_at hw 21 rfl)) (notFace_of_selects (args := #[]) (mvT hZ (own_at hw 23 rfl))) (mvT hZ (own_at hw 23 rfl)) (mvT hZ (own_at hw 22 rfl)) (by decide) (backOf (W := 0) (rm5_0 l Z a0 hw [] ob_50 ar_50 kk_50 T50.heap n0 (Nat.le_trans (Nat.le_trans (Nat.le_trans (Nat.le_trans (Nat.le_trans Z0 K28.1) K31.1) K33.1) K36.1) K50.1) p50_3 p50_4 p50_5 p50_6) hZ (own_at hw 24 rfl) (own_at hw 2 rfl) (by decide) (by decide)) q56a q56c (g := (mkF m 161 #[iv p0, iv p0, rv ob_28, iv 1, rv ob_28, iv p0, iv p0, rv ob_50, iv 1, iv 0] [(.ref ob_50)])) rfl (by rw [hml]; rfl) (Steps.refl _) (argsL := []) (rest := []) (lenOf pd_6 rfl) rfl (by show 2 * 0 + _ ≤ _; exact Nat.le_of_eq rfl) (hb hby at_161) (fun _ _ => ⟨rfl, e55, (by decide : 9 + 0 ≤ _), (by decide : 8 + 0 ≤ _)⟩)
    dsimp only [Pt.U, Pt.locs, Pt.cells, Pt.slots] at X56 l56 y56 z56 st56 hQ56
    subst l56 y56 z56
    obtain ⟨rfl, N56q, e56⟩ := hQ56
    have N56 := Fr.app N55 N56q
    obtain ⟨fs, hr, hrun, hended, hW, hsame⟩ := X56.leave (v := some (.int 1)) (fun h => by rw [Bd.returns] at h; cases h)
    refine ⟨_, _, k0 _ ?_, hrun, hended, _, _, rfl, ?_, ⟨_, rfl⟩, hW, hsame.mono (by decide) (by decide)⟩
    · rw [← ht]
      show OwnS p e below s₁ (mkF m 0 #[iv p0, iv p0, .unset, .unset, .unset, .unset, .unset, .unset, .unset, .unset] []) _
      refine XS.iloadN X0.here hx rfl (hb hby at_0) rfl ?_
      show OwnS p e below s₁ (mkF m 1 #[iv p0, iv p0, .unset, .unset, .unset, .unset, .unset, .unset, .unset, .unset] [(.int p0)]) _
      refine st28 _ ?_
      show OwnS p e below T28 (mkF m 4 #[iv p0, iv p0, .unset, .unset, .unset, .unset, .unset, .unset, .unset, .unset] [(.ref ob_28)]) _
      refine XS.astoreN X28.here hx rfl (hb hby at_4) rfl rfl (l' := #[iv p0, iv p0, rv ob_28, .unset, .unset, .unset, .unset, .unset, .unset, .unset]) rfl ?_
      show OwnS p e below T28 (mkF m 5 #[iv p0, iv p0, rv ob_28, .unset, .unset, .unset, .unset, .unset, .unset, .unset] []) _
      refine XS.aloadN X28.here hx rfl (hb hby at_5) rfl rfl ?_
      show OwnS p e below T28 (mkF m 6 #[iv p0, iv p0, rv ob_28, .unset, .unset, .unset, .unset, .unset, .unset, .unset] [(.ref ob_28)]) _
      refine st29.trans ?_
      show OwnS p e below T29 (mkF m 9 #[iv p0, iv p0, rv ob_28, .unset, .unset, .unset, .unset, .unset, .unset, .unset] [(.int 0)]) _
      refine XS.ifNo X29.here hx rfl (hb hby at_9) rfl ((if0 _ _).trans (teq (by decide : (0 : Int32) = (0 : Int32))).2) ?_
      show OwnS p e below T29 (mkF m 12 #[iv p0, iv p0, rv ob_28, .unset, .unset, .unset, .unset, .unset, .unset, .unset] []) _
      refine XS.iconst X29.here hx rfl (hb hby at_12) ?_
      show OwnS p e below T29 (mkF m 13 #[iv p0, iv p0, rv ob_28, .unset, .unset, .unset, .unset, .unset, .unset, .unset] [(.int 1)]) _
      refine XS.goto X29.here hx rfl (pc0 := 13) (pc' := 17) rfl (hb hby at_13) (by decide) (by decide) ?_
      show OwnS p e below T29 (mkF m 17 #[iv p0, iv p0, rv ob_28, .unset, .unset, .unset, .unset, .unset, .unset, .unset] [(.int 1)]) _
      refine XS.istoreN X29.here hx rfl (hb hby at_17) rfl (l' := #[iv p0, iv p0, rv ob_28, iv 1, .unset, .unset, .unset, .unset, .unset, .unset]) rfl ?_
      show OwnS p e below T29 (mkF m 18 #[iv p0, iv p0, rv ob_28, iv 1, .unset, .unset, .unset, .unset, .unset, .unset] []) _
      refine XS.iloadN X29.here hx rfl (hb hby at_18) rfl ?_
      show OwnS p e below T29 (mkF m 19 #[iv p0, iv p0, rv ob_28, iv 1, .unset, .unset, .unset, .unset, .unset, .unset] [(.int 1)]) _
      refine XS.ifNo X29.here hx rfl (hb hby at_19) rfl ((if0 _ _).trans (feq (by decide : ¬ ((1 : Int32) = (0 : Int32)))).1) ?_
      show OwnS p e below T29 (mkF m 22 #[iv p0, iv p0, rv ob_28, iv 1, .unset, .unset, .unset, .unset, .unset, .unset] []) _
      refine XS.aloadN X29.here hx rfl (hb hby at_22) rfl rfl ?_
      show OwnS p e below T29 (mkF m 23 #[iv p0, iv p0, rv ob_28, iv 1, .unset, .unset, .unset, .unset, .unset, .unset] [(.ref ob_28)]) _
      refine st30.trans ?_
      show OwnS p e below T30 (mkF m 26 #[iv p0, iv p0, rv ob_28, iv 1, .unset, .unset, .unset, .unset, .unset, .unset] [(.int p0)]) _
      refine XS.iloadN X30.here hx rfl (hb hby at_26) rfl ?_
      show OwnS p e below T30 (mkF m 27 #[iv p0, iv p0, rv ob_28, iv 1, .unset, .unset, .unset, .unset, .unset, .unset] [(.int p0), (.int p0)]) _
      refine XS.icmpNo X30.here hx rfl (hb hby at_27) rfl (teq (rfl : p0 = p0)).2 ?_
      show OwnS p e below T30 (mkF m 30 #[iv p0, iv p0, rv ob_28, iv 1, .unset, .unset, .unset, .unset, .unset, .unset] []) _
      refine XS.iconst X30.here hx rfl (hb hby at_30) ?_
      show OwnS p e below T30 (mkF m 31 #[iv p0, iv p0, rv ob_28, iv 1, .unset, .unset, .unset, .unset, .unset, .unset] [(.int 1)]) _
      refine XS.goto X30.here hx rfl (pc0 := 31) (pc' := 35) rfl (hb hby at_31) (by decide) (by decide) ?_
      show OwnS p e below T30 (mkF m 35 #[iv p0, iv p0, rv ob_28, iv 1, .unset, .unset, .unset, .unset, .unset, .unset] [(.int 1)]) _
      refine XS.istoreN X30.here hx rfl (hb hby at_35) rfl (l' := #[iv p0, iv p0, rv ob_28, iv 1, .unset, .unset, .unset, .unset, .unset, .unset]) rfl ?_
      show OwnS p e below T30 (mkF m 36 #[iv p0, iv p0, rv ob_28, iv 1, .unset, .unset, .unset, .unset, .unset, .unset] []) _
      refine XS.iloadN X30.here hx rfl (hb hby at_36) rfl ?_
      show OwnS p e below T30 (mkF m 37 #[iv p0, iv p0, rv ob_28, iv 1, .unset, .unset, .unset, .unset, .unset, .unset] [(.int 1)]) _
      refine XS.ifNo X30.here hx rfl (hb hby at_37) rfl ((if0 _ _).trans (feq (by decide : ¬ ((1 : Int32) = (0 : Int32)))).1) ?_
      show OwnS p e below T30 (mkF m 40 #[iv p0, iv p0, rv ob_28, iv 1, .unset, .unset, .unset, .unset, .unset, .unset] []) _
      refine XS.aloadN X30.here hx rfl (hb hby at_40) rfl rfl ?_
      show OwnS p e below T30 (mkF m 41 #[iv p0, iv p0, rv ob_28, iv 1, .unset, .unset, .unset, .unset, .unset, .unset] [(.ref ob_28)]) _
      refine XS.iloadN X30.here hx rfl (hb hby at_41) rfl ?_
      show OwnS p e below T30 (mkF m 42 #[iv p0, iv p0, rv ob_28, iv 1, .unset, .unset, .unset, .unset, .unset, .unset] [(.int p0), (.ref ob_28)]) _
      refine st31.trans ?_
      show OwnS p e below T31 (mkF m 45 #[iv p0, iv p0, rv ob_28, iv 1, .unset, .unset, .unset, .unset, .unset, .unset] [(.ref ob_31)]) _
      refine st32.trans ?_
      show OwnS p e below T32 (mkF m 48 #[iv p0, iv p0, rv ob_28, iv 1, .unset, .unset, .unset, .unset, .unset, .unset] [(.int 1)]) _
      refine XS.ifNo X32.here hx rfl (hb hby at_48) rfl ((if0 _ _).trans (feq (by decide : ¬ ((1 : Int32) = (0 : Int32)))).1) ?_
      show OwnS p e below T32 (mkF m 51 #[iv p0, iv p0, rv ob_28, iv 1, .unset, .unset, .unset, .unset, .unset, .unset] []) _
      refine XS.iconst X32.here hx rfl (hb hby at_51) ?_
      show OwnS p e below T32 (mkF m 52 #[iv p0, iv p0, rv ob_28, iv 1, .unset, .unset, .unset, .unset, .unset, .unset] [(.int 1)]) _
      refine XS.goto X32.here hx rfl (pc0 := 52) (pc' := 56) rfl (hb hby at_52) (by decide) (by decide) ?_
      show OwnS p e below T32 (mkF m 56 #[iv p0, iv p0, rv ob_28, iv 1, .unset, .unset, .unset, .unset, .unset, .unset] [(.int 1)]) _
      refine XS.istoreN X32.here hx rfl (hb hby at_56) rfl (l' := #[iv p0, iv p0, rv ob_28, iv 1, .unset, .unset, .unset, .unset, .unset, .unset]) rfl ?_
      show OwnS p e below T32 (mkF m 57 #[iv p0, iv p0, rv ob_28, iv 1, .unset, .unset, .unset, .unset, .unset, .unset] []) _
      refine XS.aloadN X32.here hx rfl (hb hby at_57) rfl rfl ?_
      show OwnS p e below T32 (mkF m 58 #[iv p0, iv p0, rv ob_28, iv 1, .unset, .unset, .unset, .unset, .unset, .unset] [(.ref ob_28)]) _
      refine XS.iloadN X32.here hx rfl (hb hby at_58) rfl ?_
      show OwnS p e below T32 (mkF m 59 #[iv p0, iv p0, rv ob_28, iv 1, .unset, .unset, .unset, .unset, .unset, .unset] [(.int p0), (.ref ob_28)]) _
      refine st33 _ ?_
      show OwnS p e below T33 (mkF m 62 #[iv p0, iv p0, rv ob_28, iv 1, .unset, .unset, .unset, .unset, .unset, .unset] [(.ref ob_33), (.ref ob_28)]) _
      refine st36.trans ?_
      show OwnS p e below T36 (mkF m 65 #[iv p0, iv p0, rv ob_28, iv 1, .unset, .unset, .unset, .unset, .unset, .unset] [(.ref ob_28)]) _
      refine XS.astore X36.here hx rfl (hb hby at_65) rfl rfl (l' := #[iv p0, iv p0, rv ob_28, iv 1, rv ob_28, .unset, .unset, .unset, .unset, .unset]) rfl ?_
      show OwnS p e below T36 (mkF m 67 #[iv p0, iv p0, rv ob_28, iv 1, rv ob_28, .unset, .unset, .unset, .unset, .unset] []) _
      refine XS.iloadN X36.here hx rfl (hb hby at_67) rfl ?_
      show OwnS p e below T36 (mkF m 68 #[iv p0, iv p0, rv ob_28, iv 1, rv ob_28, .unset, .unset, .unset, .unset, .unset] [(.int p0)]) _
      refine XS.iloadN X36.here hx rfl (hb hby at_68) rfl ?_
      show OwnS p e below T36 (mkF m 69 #[iv p0, iv p0, rv ob_28, iv 1, rv ob_28, .unset, .unset, .unset, .unset, .unset] [(.int p0), (.int p0)]) _
      refine st43 _ ?_
      show OwnS p e below T43 (mkF m 72 #[iv p0, iv p0, rv ob_28, iv 1, rv ob_28, .unset, .unset, .unset, .unset, .unset] [(.int p0)]) _
      refine XS.istore X43.here hx rfl (hb hby at_72) rfl (l' := #[iv p0, iv p0, rv ob_28, iv 1, rv ob_28, iv p0, .unset, .unset, .unset, .unset]) rfl ?_
      show OwnS p e below T43 (mkF m 74 #[iv p0, iv p0, rv ob_28, iv 1, rv ob_28, iv p0, .unset, .unset, .unset, .unset] []) _
      refine XS.iloadN X43.here hx rfl (hb hby at_74) rfl ?_
      show OwnS p e below T43 (mkF m 75 #[iv p0, iv p0, rv ob_28, iv 1, rv ob_28, iv p0, .unset, .unset, .unset, .unset] [(.int p0)]) _
      refine XS.iloadN X43.here hx rfl (hb hby at_75) rfl ?_
      show OwnS p e below T43 (mkF m 76 #[iv p0, iv p0, rv ob_28, iv 1, rv ob_28, iv p0, .unset, .unset, .unset, .unset] [(.int p0), (.int p0)]) _
      refine st44 _ ?_
      show OwnS p e below T44 (mkF m 79 #[iv p0, iv p0, rv ob_28, iv 1, rv ob_28, iv p0, .unset, .unset, .unset, .unset] [(.int p0)]) _
      refine XS.istore X44.here hx rfl (hb hby at_79) rfl (l' := #[iv p0, iv p0, rv ob_28, iv 1, rv ob_28, iv p0, iv p0, .unset, .unset, .unset]) rfl ?_
      show OwnS p e below T44 (mkF m 81 #[iv p0, iv p0, rv ob_28, iv 1, rv ob_28, iv p0, iv p0, .unset, .unset, .unset] []) _
      refine XS.iloadN X44.here hx rfl (hb hby at_81) rfl ?_
      show OwnS p e below T44 (mkF m 82 #[iv p0, iv p0, rv ob_28, iv 1, rv ob_28, iv p0, iv p0, .unset, .unset, .unset] [(.int 1)]) _
      refine XS.ifNo X44.here hx rfl (hb hby at_82) rfl ((if0 _ _).trans (feq (by decide : ¬ ((1 : Int32) = (0 : Int32)))).1) ?_
      show OwnS p e below T44 (mkF m 85 #[iv p0, iv p0, rv ob_28, iv 1, rv ob_28, iv p0, iv p0, .unset, .unset, .unset] []) _
      refine XS.aload X44.here hx rfl (hb hby at_85) rfl rfl ?_
      show OwnS p e below T44 (mkF m 87 #[iv p0, iv p0, rv ob_28, iv 1, rv ob_28, iv p0, iv p0, .unset, .unset, .unset] [(.ref ob_28)]) _
      refine st45.trans ?_
      show OwnS p e below T45 (mkF m 90 #[iv p0, iv p0, rv ob_28, iv 1, rv ob_28, iv p0, iv p0, .unset, .unset, .unset] [(.int p0)]) _
      refine XS.iload X45.here hx rfl (hb hby at_90) rfl ?_
      show OwnS p e below T45 (mkF m 92 #[iv p0, iv p0, rv ob_28, iv 1, rv ob_28, iv p0, iv p0, .unset, .unset, .unset] [(.int p0), (.int p0)]) _
      refine XS.icmpNo X45.here hx rfl (hb hby at_92) rfl (teq (rfl : p0 = p0)).2 ?_
      show OwnS p e below T45 (mkF m 95 #[iv p0, iv p0, rv ob_28, iv 1, rv ob_28, iv p0, iv p0, .unset, .unset, .unset] []) _
      refine XS.iconst X45.here hx rfl (hb hby at_95) ?_
      show OwnS p e below T45 (mkF m 96 #[iv p0, iv p0, rv ob_28, iv 1, rv ob_28, iv p0, iv p0, .unset, .unset, .unset] [(.int 1)]) _
      refine XS.goto X45.here hx rfl (pc0 := 96) (pc' := 100) rfl (hb hby at_96) (by decide) (by decide) ?_
      show OwnS p e below T45 (mkF m 100 #[iv p0, iv p0, rv ob_28, iv 1, rv ob_28, iv p0, iv p0, .unset, .unset, .unset] [(.int 1)]) _
      refine XS.istoreN X45.here hx rfl (hb hby at_100) rfl (l' := #[iv p0, iv p0, rv ob_28, iv 1, rv ob_28, iv p0, iv p0, .unset, .unset, .unset]) rfl ?_
      show OwnS p e below T45 (mkF m 101 #[iv p0, iv p0, rv ob_28, iv 1, rv ob_28, iv p0, iv p0, .unset, .unset, .unset] []) _
      refine XS.aload X45.here hx rfl (hb hby at_101) rfl rfl ?_
      show OwnS p e below T45 (mkF m 103 #[iv p0, iv p0, rv ob_28, iv 1, rv ob_28, iv p0, iv p0, .unset, .unset, .unset] [(.ref ob_28)]) _
      refine XS.iload X45.here hx rfl (hb hby at_103) rfl ?_
      show OwnS p e below T45 (mkF m 105 #[iv p0, iv p0, rv ob_28, iv 1, rv ob_28, iv p0, iv p0, .unset, .unset, .unset] [(.int p0), (.ref ob_28)]) _
      refine st50.trans ?_
      show OwnS p e below T50 (mkF m 108 #[iv p0, iv p0, rv ob_28, iv 1, rv ob_28, iv p0, iv p0, .unset, .unset, .unset] [(.ref ob_50)]) _
      refine XS.astore X50.here hx rfl (hb hby at_108) rfl rfl (l' := #[iv p0, iv p0, rv ob_28, iv 1, rv ob_28, iv p0, iv p0, rv ob_50, .unset, .unset]) rfl ?_
      show OwnS p e below T50 (mkF m 110 #[iv p0, iv p0, rv ob_28, iv 1, rv ob_28, iv p0, iv p0, rv ob_50, .unset, .unset] []) _
      refine XS.iloadN X50.here hx rfl (hb hby at_110) rfl ?_
      show OwnS p e below T50 (mkF m 111 #[iv p0, iv p0, rv ob_28, iv 1, rv ob_28, iv p0, iv p0, rv ob_50, .unset, .unset] [(.int p0)]) _
      refine XS.iloadN X50.here hx rfl (hb hby at_111) rfl ?_
      show OwnS p e below T50 (mkF m 112 #[iv p0, iv p0, rv ob_28, iv 1, rv ob_28, iv p0, iv p0, rv ob_50, .unset, .unset] [(.int p0), (.int p0)]) _
      refine XS.icmpNo X50.here hx rfl (hb hby at_112) rfl (teq (rfl : p0 = p0)).2 ?_
      show OwnS p e below T50 (mkF m 115 #[iv p0, iv p0, rv ob_28, iv 1, rv ob_28, iv p0, iv p0, rv ob_50, .unset, .unset] []) _
      refine XS.iconst X50.here hx rfl (hb hby at_115) ?_
      show OwnS p e below T50 (mkF m 116 #[iv p0, iv p0, rv ob_28, iv 1, rv ob_28, iv p0, iv p0, rv ob_50, .unset, .unset] [(.int 1)]) _
      refine XS.goto X50.here hx rfl (pc0 := 116) (pc' := 120) rfl (hb hby at_116) (by decide) (by decide) ?_
      show OwnS p e below T50 (mkF m 120 #[iv p0, iv p0, rv ob_28, iv 1, rv ob_28, iv p0, iv p0, rv ob_50, .unset, .unset] [(.int 1)]) _
      refine XS.istore X50.here hx rfl (hb hby at_120) rfl (l' := #[iv p0, iv p0, rv ob_28, iv 1, rv ob_28, iv p0, iv p0, rv ob_50, iv 1, .unset]) rfl ?_
      show OwnS p e below T50 (mkF m 122 #[iv p0, iv p0, rv ob_28, iv 1, rv ob_28, iv p0, iv p0, rv ob_50, iv 1, .unset] []) _
      refine XS.iloadN X50.here hx rfl (hb hby at_122) rfl ?_
      show OwnS p e below T50 (mkF m 123 #[iv p0, iv p0, rv ob_28, iv 1, rv ob_28, iv p0, iv p0, rv ob_50, iv 1, .unset] [(.int 1)]) _
      refine XS.ifNo X50.here hx rfl (hb hby at_123) rfl ((if0 _ _).trans (feq (by decide : ¬ ((1 : Int32) = (0 : Int32)))).1) ?_
      show OwnS p e below T50 (mkF m 126 #[iv p0, iv p0, rv ob_28, iv 1, rv ob_28, iv p0, iv p0, rv ob_50, iv 1, .unset] []) _
      refine XS.aload X50.here hx rfl (hb hby at_126) rfl rfl ?_
      show OwnS p e below T50 (mkF m 128 #[iv p0, iv p0, rv ob_28, iv 1, rv ob_28, iv p0, iv p0, rv ob_50, iv 1, .unset] [(.ref ob_50)]) _
      refine st55.trans ?_
      show OwnS p e below T55 (mkF m 131 #[iv p0, iv p0, rv ob_28, iv 1, rv ob_28, iv p0, iv p0, rv ob_50, iv 1, .unset] [(.int 1)]) _
      refine XS.iload X55.here hx rfl (hb hby at_131) rfl ?_
      show OwnS p e below T55 (mkF m 133 #[iv p0, iv p0, rv ob_28, iv 1, rv ob_28, iv p0, iv p0, rv ob_50, iv 1, .unset] [(.int 1), (.int 1)]) _
      refine XS.icmpNo X55.here hx rfl (hb hby at_133) rfl (teq (by decide : (1 : Int32) = (1 : Int32))).2 ?_
      show OwnS p e below T55 (mkF m 136 #[iv p0, iv p0, rv ob_28, iv 1, rv ob_28, iv p0, iv p0, rv ob_50, iv 1, .unset] []) _
      refine XS.iconst X55.here hx rfl (hb hby at_136) ?_
      show OwnS p e below T55 (mkF m 137 #[iv p0, iv p0, rv ob_28, iv 1, rv ob_28, iv p0, iv p0, rv ob_50, iv 1, .unset] [(.int 1)]) _
      refine XS.goto X55.here hx rfl (pc0 := 137) (pc' := 141) rfl (hb hby at_137) (by decide) (by decide) ?_
      show OwnS p e below T55 (mkF m 141 #[iv p0, iv p0, rv ob_28, iv 1, rv ob_28, iv p0, iv p0, rv ob_50, iv 1, .unset] [(.int 1)]) _
      refine XS.istoreN X55.here hx rfl (hb hby at_141) rfl (l' := #[iv p0, iv p0, rv ob_28, iv 1, rv ob_28, iv p0, iv p0, rv ob_50, iv 1, .unset]) rfl ?_
      show OwnS p e below T55 (mkF m 142 #[iv p0, iv p0, rv ob_28, iv 1, rv ob_28, iv p0, iv p0, rv ob_50, iv 1, .unset] []) _
      refine XS.iload X55.here hx rfl (hb hby at_142) rfl ?_
      show OwnS p e below T55 (mkF m 144 #[iv p0, iv p0, rv ob_28, iv 1, rv ob_28, iv p0, iv p0, rv ob_50, iv 1, .unset] [(.int 1)]) _
      refine XS.ifNo X55.here hx rfl (hb hby at_144) rfl ((if0 _ _).trans (feq (by decide : ¬ ((1 : Int32) = (0 : Int32)))).1) ?_
      show OwnS p e below T55 (mkF m 147 #[iv p0, iv p0, rv ob_28, iv 1, rv ob_28, iv p0, iv p0, rv ob_50, iv 1, .unset] []) _
      refine XS.iconst X55.here hx rfl (hb hby at_147) ?_
      show OwnS p e below T55 (mkF m 148 #[iv p0, iv p0, rv ob_28, iv 1, rv ob_28, iv p0, iv p0, rv ob_50, iv 1, .unset] [(.int 0)]) _
      refine XS.goto X55.here hx rfl (pc0 := 148) (pc' := 153) rfl (hb hby at_148) (by decide) (by decide) ?_
      show OwnS p e below T55 (mkF m 153 #[iv p0, iv p0, rv ob_28, iv 1, rv ob_28, iv p0, iv p0, rv ob_50, iv 1, .unset] [(.int 0)]) _
      refine XS.istore X55.here hx rfl (hb hby at_153) rfl (l' := #[iv p0, iv p0, rv ob_28, iv 1, rv ob_28, iv p0, iv p0, rv ob_50, iv 1, iv 0]) rfl ?_
      show OwnS p e below T55 (mkF m 155 #[iv p0, iv p0, rv ob_28, iv 1, rv ob_28, iv p0, iv p0, rv ob_50, iv 1, iv 0] []) _
      refine XS.iloadN X55.here hx rfl (hb hby at_155) rfl ?_
      show OwnS p e below T55 (mkF m 156 #[iv p0, iv p0, rv ob_28, iv 1, rv ob_28, iv p0, iv p0, rv ob_50, iv 1, iv 0] [(.int 1)]) _
      refine XS.ifNo X55.here hx rfl (hb hby at_156) rfl ((if0 _ _).trans (feq (by decide : ¬ ((1 : Int32) = (0 : Int32)))).1) ?_
      show OwnS p e below T55 (mkF m 159 #[iv p0, iv p0, rv ob_28, iv 1, rv ob_28, iv p0, iv p0, rv ob_50, iv 1, iv 0] []) _
      refine XS.aload X55.here hx rfl (hb hby at_159) rfl rfl ?_
      show OwnS p e below T55 (mkF m 161 #[iv p0, iv p0, rv ob_28, iv 1, rv ob_28, iv p0, iv p0, rv ob_50, iv 1, iv 0] [(.ref ob_50)]) _
      refine st56.trans ?_
      show OwnS p e below T56 (mkF m 164 #[iv p0, iv p0, rv ob_28, iv 1, rv ob_28, iv p0, iv p0, rv ob_50, iv 1, iv 0] [(.int 0)]) _
      refine XS.iload X56.here hx rfl (hb hby at_164) rfl ?_
      show OwnS p e below T56 (mkF m 166 #[iv p0, iv p0, rv ob_28, iv 1, rv ob_28, iv p0, iv p0, rv ob_50, iv 1, iv 0] [(.int 0), (.int 0)]) _
      refine XS.icmpNo X56.here hx rfl (hb hby at_166) rfl (teq (by decide : (0 : Int32) = (0 : Int32))).2 ?_
      show OwnS p e below T56 (mkF m 169 #[iv p0, iv p0, rv ob_28, iv 1, rv ob_28, iv p0, iv p0, rv ob_50, iv 1, iv 0] []) _
      refine XS.iconst X56.here hx rfl (hb hby at_169) ?_
      show OwnS p e below T56 (mkF m 170 #[iv p0, iv p0, rv ob_28, iv 1, rv ob_28, iv p0, iv p0, rv ob_50, iv 1, iv 0] [(.int 1)]) _
      refine XS.goto X56.here hx rfl (pc0 := 170) (pc' := 174) rfl (hb hby at_170) (by decide) (by decide) ?_
      show OwnS p e below T56 (mkF m 174 #[iv p0, iv p0, rv ob_28, iv 1, rv ob_28, iv p0, iv p0, rv ob_50, iv 1, iv 0] [(.int 1)]) _
      refine XS.istoreN X56.here hx rfl (hb hby at_174) rfl (l' := #[iv p0, iv p0, rv ob_28, iv 1, rv ob_28, iv p0, iv p0, rv ob_50, iv 1, iv 0]) rfl ?_
      show OwnS p e below T56 (mkF m 175 #[iv p0, iv p0, rv ob_28, iv 1, rv ob_28, iv p0, iv p0, rv ob_50, iv 1, iv 0] []) _
      refine XS.iloadN X56.here hx rfl (hb hby at_175) rfl ?_
      show OwnS p e below T56 (mkF m 176 #[iv p0, iv p0, rv ob_28, iv 1, rv ob_28, iv p0, iv p0, rv ob_50, iv 1, iv 0] [(.int 1)]) _
      exact retN X56 hx (t := .boolean) Bd.returns (by simp) (hb hby at_176) hr
    · show Q_0 Z p0 p1 h0 n0 _ T56.heap _
      rw [e56]
      exact ⟨rfl, N56, trivial⟩
  · obtain ⟨_, _, ⟨T57, L57, j57, i57⟩, -, X57, ⟨Lc57, hQ57, l57, y57, z57⟩, st57⟩ := Jvm.LawKit.callS X0 hx (y := (⟨cS0, "on", cS1⟩ : MethodName)) hown (mvT hZ (own_at hw 0 rfl)) (mvT hZ (own_at hw 1 rfl)) (mvT hZ (own_at hw 2 rfl)) (mvT hZ (own_at hw 3 rfl)) (by decide) (backOf (W := 0) (rm1 l Z a0 hw [] p0 h0 n0 Z0 ) hZ (own_at hw 3 rfl) (own_at hw 2 rfl) (by decide) (by decide)) (g := (mkF m 1 #[iv p0, iv p1, .unset, .unset, .unset, .unset, .unset, .unset, .unset, .unset] [(.int p0)])) rfl (by rw [hml]; rfl) (argsL := [(.int p0)]) (rest := []) (lenOf pd_4 rfl) rfl (by show 2 * 0 + _ ≤ _; exact Nat.le_of_eq rfl) (hb hby at_1) (fun _ _ => ⟨rfl, e0, (by decide : 0 + 2 ≤ _), (by decide : 0 + 2 ≤ _)⟩)
    dsimp only [Pt.U, Pt.locs, Pt.cells, Pt.slots] at X57 l57 y57 z57 st57 hQ57
    subst l57 y57 z57
    obtain ⟨ob_57, ar_57, kk_57, rfl, N57q, K57, p57_0, p57_1, p57_2, p57_3, p57_4, p57_5, p57_6⟩ := hQ57
    have g_ob_57 : n0 ≤ ob_57 := Nat.le_trans Z0 p57_0
    have sz_ob_57 : h0.size ≤ ob_57 := Nat.le_trans (Keep.refl h0 []).1 p57_0
    have g_ar_57 : n0 ≤ ar_57 := Nat.le_trans Z0 p57_1
    have sz_ar_57 : h0.size ≤ ar_57 := Nat.le_trans (Keep.refl h0 []).1 p57_1
    have N57 := Fr.app N0 N57q
    obtain ⟨cq58, kq58, q58a, q58b, q58c⟩ := isOf hZ rfl p57_3
    obtain ⟨_, _, ⟨T58, L58, j58, i58⟩, -, X58, ⟨Lc58, hQ58, l58, y58, z58⟩, st58⟩ := X57.virtualBack hx (y := (⟨cS0, "isEmpty", "()Z"⟩ : MethodName)) (z := (⟨cS0, "isEmpty", "()Z"⟩ : MethodName)) hown (mvT hZ (own_at hw 15 rfl)) (mvT hZ (own_at hw 16 rfl)) (notFace_of_selects (args := #[]) (mvT hZ (own_at hw 18 rfl))) (mvT hZ (own_at hw 18 rfl)) (mvT hZ (own_at hw 17 rfl)) (by decide) (backOf (W := 0) (rm4_1 l Z a0 hw [] ob_57 ar_57 kk_57 p0 T57.heap n0 (Nat.le_trans Z0 K57.1) p57_3 p57_4 p57_5 p57_6) hZ (own_at hw 19 rfl) (own_at hw 2 rfl) (by decide) (by decide)) q58a q58c (g := (mkF m 6 #[iv p0, iv p1, rv ob_57, .unset, .unset, .unset, .unset, .unset, .unset, .unset] [(.ref ob_57)])) rfl (by rw [hml]; rfl) (Steps.refl _) (argsL := []) (rest := []) (lenOf pd_5 rfl) rfl (by show 2 * 0 + _ ≤ _; exact Nat.le_of_eq rfl) (hb hby at_6) (fun _ _ => ⟨rfl, rfl, (by decide : 2 + 0 ≤ _), (by decide : 2 + 0 ≤ _)⟩)
    dsimp only [Pt.U, Pt.locs, Pt.cells, Pt.slots] at X58 l58 y58 z58 st58 hQ58
    subst l58 y58 z58
    obtain ⟨rfl, N58q, e58⟩ := hQ58
    have N58 := Fr.app N57 N58q
    obtain ⟨cq59, kq59, q59a, q59b, q59c⟩ := isOf hZ e58 p57_3
    obtain ⟨_, _, ⟨T59, L59, j59, i59⟩, -, X59, ⟨Lc59, hQ59, l59, y59, z59⟩, st59⟩ := X58.virtualBack hx (y := (⟨cS0, "last", "()I"⟩ : MethodName)) (z := (⟨cS0, "last", "()I"⟩ : MethodName)) hown (mvT hZ (own_at hw 20 rfl)) (mvT hZ (own_at hw 21 rfl)) (notFace_of_selects (args := #[]) (mvT hZ (own_at hw 23 rfl))) (mvT hZ (own_at hw 23 rfl)) (mvT hZ (own_at hw 22 rfl)) (by decide) (backOf (W := 0) (rm5_1 l Z a0 hw [] ob_57 ar_57 kk_57 p0 T57.heap n0 (Nat.le_trans Z0 K57.1) p57_3 p57_4 p57_5 p57_6) hZ (own_at hw 24 rfl) (own_at hw 2 rfl) (by decide) (by decide)) q59a q59c (g := (mkF m 23 #[iv p0, iv p1, rv ob_57, iv 1, .unset, .unset, .unset, .unset, .unset, .unset] [(.ref ob_57)])) rfl (by rw [hml]; rfl) (Steps.refl _) (argsL := []) (rest := []) (lenOf pd_6 rfl) rfl (by show 2 * 0 + _ ≤ _; exact Nat.le_of_eq rfl) (hb hby at_23) (fun _ _ => ⟨rfl, e58, (by decide : 2 + 0 ≤ _), (by decide : 2 + 0 ≤ _)⟩)
    dsimp only [Pt.U, Pt.locs, Pt.cells, Pt.slots] at X59 l59 y59 z59 st59 hQ59
    subst l59 y59 z59
    obtain ⟨rfl, N59q, e59⟩ := hQ59
    have N59 := Fr.app N58 N59q
    obtain ⟨cq60, kq60, q60a, q60b, q60c⟩ := isOf hZ e59 p57_3
    obtain ⟨_, _, ⟨T60, L60, j60, i60⟩, -, X60, ⟨Lc60, hQ60, l60, y60, z60⟩, st60⟩ := X59.virtualBack hx (y := (⟨cS0, "without", cS1⟩ : MethodName)) (z := (⟨cS0, "without", cS1⟩ : MethodName)) hown (mvT hZ (own_at hw 25 rfl)) (mvT hZ (own_at hw 26 rfl)) (notFace_of_selects (args := #[]) (mvT hZ (own_at hw 28 rfl))) (mvT hZ (own_at hw 28 rfl)) (mvT hZ (own_at hw 27 rfl)) (by decide) (backOf (W := 0) (rm6_1 l Z a0 hw [] ob_57 p0 ar_57 kk_57 T57.heap n0 (Nat.le_trans Z0 K57.1) p57_3 p57_4 p57_5 p57_6) hZ (own_at hw 29 rfl) (own_at hw 2 rfl) (by decide) (by decide)) q60a q60c (g := (mkF m 42 #[iv p0, iv p1, rv ob_57, iv 1, .unset, .unset, .unset, .unset, .unset, .unset] [(.int p0), (.ref ob_57)])) rfl (by rw [hml]; rfl) (Steps.refl _) (argsL := [(.int p0)]) (rest := []) (lenOf pd_4 rfl) rfl (by show 2 * 0 + _ ≤ _; exact Nat.le_of_eq rfl) (hb hby at_42) (fun _ _ => ⟨rfl, e59, (by decide : 2 + 2 ≤ _), (by decide : 2 + 1 ≤ _)⟩)
    dsimp only [Pt.U, Pt.locs, Pt.cells, Pt.slots] at X60 l60 y60 z60 st60 hQ60
    subst l60 y60 z60
    obtain ⟨ob_60, ar_60, kk_60, rfl, N60q, K60, p60_0, p60_1, p60_2, p60_3, p60_4, p60_5, p60_6⟩ := hQ60
    have g_ob_60 : n0 ≤ ob_60 := Nat.le_trans (Nat.le_trans Z0 K57.1) p60_0
    have sz_ob_60 : h0.size ≤ ob_60 := Nat.le_trans ((Keep.refl h0 []).trans K57 all0).1 p60_0
    have g_ar_60 : n0 ≤ ar_60 := Nat.le_trans (Nat.le_trans Z0 K57.1) p60_1
    have sz_ar_60 : h0.size ≤ ar_60 := Nat.le_trans ((Keep.refl h0 []).trans K57 all0).1 p60_1
    have N60 := Fr.app N59 N60q
    obtain ⟨cq61, kq61, q61a, q61b, q61c⟩ := isOf hZ rfl p60_3
    obtain ⟨_, _, ⟨T61, L61, j61, i61⟩, -, X61, ⟨Lc61, hQ61, l61, y61, z61⟩, st61⟩ := X60.virtualBack hx (y := (⟨cS0, "isEmpty", "()Z"⟩ : MethodName)) (z := (⟨cS0, "isEmpty", "()Z"⟩ : MethodName)) hown (mvT hZ (own_at hw 15 rfl)) (mvT hZ (own_at hw 16 rfl)) (notFace_of_selects (args := #[]) (mvT hZ (own_at hw 18 rfl))) (mvT hZ (own_at hw 18 rfl)) (mvT hZ (own_at hw 17 rfl)) (by decide) (backOf (W := 0) (rm4_0 l Z a0 hw [] ob_60 ar_60 kk_60 T60.heap n0 (Nat.le_trans (Nat.le_trans Z0 K57.1) K60.1) p60_3 p60_4 p60_5 p60_6) hZ (own_at hw 19 rfl) (own_at hw 2 rfl) (by decide) (by decide)) q61a q61c (g := (mkF m 45 #[iv p0, iv p1, rv ob_57, iv 1, .unset, .unset, .unset, .unset, .unset, .unset] [(.ref ob_60)])) rfl (by rw [hml]; rfl) (Steps.refl _) (argsL := []) (rest := []) (lenOf pd_5 rfl) rfl (by show 2 * 0 + _ ≤ _; exact Nat.le_of_eq rfl) (hb hby at_45) (fun _ _ => ⟨rfl, rfl, (by decide : 4 + 0 ≤ _), (by decide : 3 + 0 ≤ _)⟩)
    dsimp only [Pt.U, Pt.locs, Pt.cells, Pt.slots] at X61 l61 y61 z61 st61 hQ61
    subst l61 y61 z61
    obtain ⟨rfl, N61q, e61⟩ := hQ61
    have N61 := Fr.app N60 N61q
    obtain ⟨_, _, ⟨T62, L62, j62, i62⟩, -, X62, ⟨Lc62, hQ62, l62, y62, z62⟩, st62⟩ := Jvm.LawKit.callS X61 hx (y := (⟨cS0, "on", cS1⟩ : MethodName)) hown (mvT hZ (own_at hw 0 rfl)) (mvT hZ (own_at hw 1 rfl)) (mvT hZ (own_at hw 2 rfl)) (mvT hZ (own_at hw 3 rfl)) (by decide) (backOf (W := 1) (rm1 l Z a0 hw [] p1 T60.heap n0 (Nat.le_trans (Nat.le_trans Z0 K57.1) K60.1) ) hZ (own_at hw 3 rfl) (own_at hw 2 rfl) (by decide) (by decide)) (g := (mkF m 59 #[iv p0, iv p1, rv ob_57, iv 1, .unset, .unset, .unset, .unset, .unset, .unset] [(.int p1), (.ref ob_57)])) rfl (by rw [hml]; rfl) (argsL := [(.int p1)]) (rest := [(.ref ob_57)]) (lenOf pd_4 rfl) rfl (by show 2 * 0 + _ ≤ _; exact Nat.le_of_eq rfl) (hb hby at_59) (fun _ _ => ⟨rfl, e61, (by decide : 4 + 2 ≤ _), (by decide : 3 + 2 ≤ _)⟩)
    dsimp only [Pt.U, Pt.locs, Pt.cells, Pt.slots] at X62 l62 y62 z62 st62 hQ62
    subst l62 y62 z62
    have f63 := (p57_3.keep K60)
    have f64 := (p57_5.keep K60 nin0)
    obtain ⟨ob_62, ar_62, kk_62, rfl, N62q, K62, p62_0, p62_1, p62_2, p62_3, p62_4, p62_5, p62_6⟩ := hQ62
    have g_ob_62 : n0 ≤ ob_62 := Nat.le_trans (Nat.le_trans (Nat.le_trans Z0 K57.1) K60.1) p62_0
    have sz_ob_62 : h0.size ≤ ob_62 := Nat.le_trans (((Keep.refl h0 []).trans K57 all0).trans K60 all0).1 p62_0
    have g_ar_62 : n0 ≤ ar_62 := Nat.le_trans (Nat.le_trans (Nat.le_trans Z0 K57.1) K60.1) p62_1
    have sz_ar_62 : h0.size ≤ ar_62 := Nat.le_trans (((Keep.refl h0 []).trans K57 all0).trans K60 all0).1 p62_1
    have N62 := Fr.app N61 N62q
    have f66 := (f63.keep K62)
    have f67 := ((p57_4.keep K60 nin0).keep K62 nin0)
    have f68 := (f64.keep K62 nin0)
    have f69 := ((p57_6.keep K60).keep K62)
    obtain ⟨cq65, kq65, q65a, q65b, q65c⟩ := isOf hZ rfl f66
    obtain ⟨_, _, ⟨T65, L65, j65, i65⟩, -, X65, ⟨Lc65, hQ65, l65, y65, z65⟩, st65⟩ := X62.virtualBack hx (y := (⟨cS0, "union", cS2⟩ : MethodName)) (z := (⟨cS0, "union", cS2⟩ : MethodName)) hown (mvT hZ (own_at hw 41 rfl)) (mvT hZ (own_at hw 42 rfl)) (notFace_of_selects (args := #[]) (mvT hZ (own_at hw 44 rfl))) (mvT hZ (own_at hw 44 rfl)) (mvT hZ (own_at hw 43 rfl)) (by decide) (backOf (W := 0) (rm9_gt l Z a0 hw [] ob_57 ob_62 ar_57 kk_57 ar_62 kk_62 p0 p1 T62.heap n0 (Nat.le_trans (Nat.le_trans (Nat.le_trans Z0 K57.1) K60.1) K62.1) f66 f67 f68 f69 p62_3 p62_4 p62_5 p62_6 ht) hZ (own_at hw 45 rfl) (own_at hw 2 rfl) (by decide) (by decide)) q65a q65c (g := (mkF m 62 #[iv p0, iv p1, rv ob_57, iv 1, .unset, .unset, .unset, .unset, .unset, .unset] [(.ref ob_62), (.ref ob_57)])) rfl (by rw [hml]; rfl) (Steps.refl _) (argsL := [(.ref ob_62)]) (rest := []) (lenOf pd_7 rfl) rfl (by show 2 * 0 + _ ≤ _; exact Nat.le_of_eq rfl) (hb hby at_62) (fun _ _ => ⟨rfl, rfl, (by decide : 6 + 3 ≤ _), (by decide : 5 + 5 ≤ _)⟩)
    dsimp only [Pt.U, Pt.locs, Pt.cells, Pt.slots] at X65 l65 y65 z65 st65 hQ65
    subst l65 y65 z65
    have f70 := (p60_3.keep K62)
    have f71 := (p60_5.keep K62 nin0)
    obtain ⟨ob_65, ar_65, kk_65, rfl, N65q, K65, p65_0, p65_1, p65_2, p65_3, p65_4, p65_5, p65_6⟩ := hQ65
    have g_ob_65 : n0 ≤ ob_65 := Nat.le_trans (Nat.le_trans (Nat.le_trans (Nat.le_trans Z0 K57.1) K60.1) K62.1) p65_0
    have sz_ob_65 : h0.size ≤ ob_65 := Nat.le_trans ((((Keep.refl h0 []).trans K57 all0).trans K60 all0).trans K62 all0).1 p65_0
    have g_ar_65 : n0 ≤ ar_65 := Nat.le_trans (Nat.le_trans (Nat.le_trans (Nat.le_trans Z0 K57.1) K60.1) K62.1) p65_1
    have sz_ar_65 : h0.size ≤ ar_65 := Nat.le_trans ((((Keep.refl h0 []).trans K57 all0).trans K60 all0).trans K62 all0).1 p65_1
    have N65 := Fr.app N62 N65q
    obtain ⟨_, _, ⟨T72, L72, j72, i72⟩, -, X72, ⟨Lc72, hQ72, l72, y72, z72⟩, st72⟩ := Jvm.LawKit.callS X65 hx (y := (⟨"java/lang/Math", "max", "(II)I"⟩ : MethodName)) hown (mvT hZ (own_at hw 58 rfl)) (mvT hZ (own_at hw 59 rfl)) (mvT hZ (own_at hw 60 rfl)) (mvT hZ (own_at hw 61 rfl)) (by decide) (backOf (W := 0) (rm11_gt l Z a0 hw [] p0 p1 T65.heap n0 (Nat.le_trans (Nat.le_trans (Nat.le_trans (Nat.le_trans Z0 K57.1) K60.1) K62.1) K65.1) ht) hZ (own_at hw 61 rfl) (own_at hw 60 rfl) (by decide) (by decide)) (g := (mkF m 69 #[iv p0, iv p1, rv ob_57, iv 1, rv ob_65, .unset, .unset, .unset, .unset, .unset] [(.int p1), (.int p0)])) rfl (by rw [hml]; rfl) (argsL := [(.int p0), (.int p1)]) (rest := []) (lenOf pd_8 rfl) rfl (by show 2 * 0 + _ ≤ _; exact Nat.le_of_eq rfl) (hb hby at_69) (fun _ _ => ⟨rfl, rfl, (by decide : 9 + 0 ≤ _), (by decide : 10 + 0 ≤ _)⟩)
    dsimp only [Pt.U, Pt.locs, Pt.cells, Pt.slots] at X72 l72 y72 z72 st72 hQ72
    subst l72 y72 z72
    obtain ⟨rfl, N72q, e72⟩ := hQ72
    have N72 := Fr.app N65 N72q
    obtain ⟨_, _, ⟨T73, L73, j73, i73⟩, -, X73, ⟨Lc73, hQ73, l73, y73, z73⟩, st73⟩ := Jvm.LawKit.callS X72 hx (y := (⟨"java/lang/Math", "min", "(II)I"⟩ : MethodName)) hown (mvT hZ (own_at hw 62 rfl)) (mvT hZ (own_at hw 63 rfl)) (mvT hZ (own_at hw 60 rfl)) (mvT hZ (own_at hw 64 rfl)) (by decide) (backOf (W := 0) (rm12_gt l Z a0 hw [] p0 p1 T65.heap n0 (Nat.le_trans (Nat.le_trans (Nat.le_trans (Nat.le_trans Z0 K57.1) K60.1) K62.1) K65.1) ht) hZ (own_at hw 64 rfl) (own_at hw 60 rfl) (by decide) (by decide)) (g := (mkF m 76 #[iv p0, iv p1, rv ob_57, iv 1, rv ob_65, iv p0, .unset, .unset, .unset, .unset] [(.int p1), (.int p0)])) rfl (by rw [hml]; rfl) (argsL := [(.int p0), (.int p1)]) (rest := []) (lenOf pd_8 rfl) rfl (by show 2 * 0 + _ ≤ _; exact Nat.le_of_eq rfl) (hb hby at_76) (fun _ _ => ⟨rfl, e72, (by decide : 9 + 0 ≤ _), (by decide : 10 + 0 ≤ _)⟩)
    dsimp only [Pt.U, Pt.locs, Pt.cells, Pt.slots] at X73 l73 y73 z73 st73 hQ73
    subst l73 y73 z73
    obtain ⟨rfl, N73q, e73⟩ := hQ73
    have N73 := Fr.app N72 N73q
    obtain ⟨cq74, kq74, q74a, q74b, q74c⟩ := isOf hZ e73 p65_3
    obtain ⟨_, _, ⟨T74, L74, j74, i74⟩, -, X74, ⟨Lc74, hQ74, l74, y74, z74⟩, st74⟩ := X73.virtualBack hx (y := (⟨cS0, "last", "()I"⟩ : MethodName)) (z := (⟨cS0, "last", "()I"⟩ : MethodName)) hown (mvT hZ (own_at hw 20 rfl)) (mvT hZ (own_at hw 21 rfl)) (notFace_of_selects (args := #[]) (mvT hZ (own_at hw 23 rfl))) (mvT hZ (own_at hw 23 rfl)) (mvT hZ (own_at hw 22 rfl)) (by decide) (backOf (W := 0) (rm5_2 l Z a0 hw [] ob_65 ar_65 kk_65 p1 p0 T65.heap n0 (Nat.le_trans (Nat.le_trans (Nat.le_trans (Nat.le_trans Z0 K57.1) K60.1) K62.1) K65.1) p65_3 p65_4 p65_5 p65_6) hZ (own_at hw 24 rfl) (own_at hw 2 rfl) (by decide) (by decide)) q74a q74c (g := (mkF m 87 #[iv p0, iv p1, rv ob_57, iv 1, rv ob_65, iv p0, iv p1, .unset, .unset, .unset] [(.ref ob_65)])) rfl (by rw [hml]; rfl) (Steps.refl _) (argsL := []) (rest := []) (lenOf pd_6 rfl) rfl (by show 2 * 0 + _ ≤ _; exact Nat.le_of_eq rfl) (hb hby at_87) (fun _ _ => ⟨rfl, e73, (by decide : 9 + 0 ≤ _), (by decide : 10 + 0 ≤ _)⟩)
    dsimp only [Pt.U, Pt.locs, Pt.cells, Pt.slots] at X74 l74 y74 z74 st74 hQ74
    subst l74 y74 z74
    obtain ⟨rfl, N74q, e74⟩ := hQ74
    have N74 := Fr.app N73 N74q
    obtain ⟨cq75, kq75, q75a, q75b, q75c⟩ := isOf hZ e74 p65_3
    obtain ⟨_, _, ⟨T75, L75, j75, i75⟩, -, X75, ⟨Lc75, hQ75, l75, y75, z75⟩, st75⟩ := X74.virtualBack hx (y := (⟨cS0, "without", cS1⟩ : MethodName)) (z := (⟨cS0, "without", cS1⟩ : MethodName)) hown (mvT hZ (own_at hw 25 rfl)) (mvT hZ (own_at hw 26 rfl)) (notFace_of_selects (args := #[]) (mvT hZ (own_at hw 28 rfl))) (mvT hZ (own_at hw 28 rfl)) (mvT hZ (own_at hw 27 rfl)) (by decide) (backOf (W := 0) (rm6_2 l Z a0 hw [] ob_65 p0 ar_65 kk_65 p1 T65.heap n0 (Nat.le_trans (Nat.le_trans (Nat.le_trans (Nat.le_trans Z0 K57.1) K60.1) K62.1) K65.1) p65_3 p65_4 p65_5 p65_6 ht) hZ (own_at hw 29 rfl) (own_at hw 2 rfl) (by decide) (by decide)) q75a q75c (g := (mkF m 105 #[iv p0, iv p1, rv ob_57, iv 1, rv ob_65, iv p0, iv p1, .unset, .unset, .unset] [(.int p0), (.ref ob_65)])) rfl (by rw [hml]; rfl) (Steps.refl _) (argsL := [(.int p0)]) (rest := []) (lenOf pd_4 rfl) rfl (by show 2 * 0 + _ ≤ _; exact Nat.le_of_eq rfl) (hb hby at_105) (fun _ _ => ⟨rfl, e74, (by decide : 9 + 2 ≤ _), (by decide : 10 + 2 ≤ _)⟩)
    dsimp only [Pt.U, Pt.locs, Pt.cells, Pt.slots] at X75 l75 y75 z75 st75 hQ75
    subst l75 y75 z75
    have f76 := (f66.keep K65)
    have f77 := (f68.keep K65 nin0)
    have f78 := (f70.keep K65)
    have f79 := (f71.keep K65 nin0)
    have f80 := (p62_3.keep K65)
    have f81 := (p62_5.keep K65 nin0)
    obtain ⟨ob_75, ar_75, kk_75, rfl, N75q, K75, p75_0, p75_1, p75_2, p75_3, p75_4, p75_5, p75_6⟩ := hQ75
    have g_ob_75 : n0 ≤ ob_75 := Nat.le_trans (Nat.le_trans (Nat.le_trans (Nat.le_trans (Nat.le_trans Z0 K57.1) K60.1) K62.1) K65.1) p75_0
    have sz_ob_75 : h0.size ≤ ob_75 := Nat.le_trans (((((Keep.refl h0 []).trans K57 all0).trans K60 all0).trans K62 all0).trans K65 all0).1 p75_0
    have g_ar_75 : n0 ≤ ar_75 := Nat.le_trans (Nat.le_trans (Nat.le_trans (Nat.le_trans (Nat.le_trans Z0 K57.1) K60.1) K62.1) K65.1) p75_1
    have sz_ar_75 : h0.size ≤ ar_75 := Nat.le_trans (((((Keep.refl h0 []).trans K57 all0).trans K60 all0).trans K62 all0).trans K65 all0).1 p75_1
    have N75 := Fr.app N74 N75q
    obtain ⟨cq82, kq82, q82a, q82b, q82c⟩ := isOf hZ rfl p75_3
    obtain ⟨_, _, ⟨T82, L82, j82, i82⟩, -, X82, ⟨Lc82, hQ82, l82, y82, z82⟩, st82⟩ := X75.virtualBack hx (y := (⟨cS0, "isEmpty", "()Z"⟩ : MethodName)) (z := (⟨cS0, "isEmpty", "()Z"⟩ : MethodName)) hown (mvT hZ (own_at hw 15 rfl)) (mvT hZ (own_at hw 16 rfl)) (notFace_of_selects (args := #[]) (mvT hZ (own_at hw 18 rfl))) (mvT hZ (own_at hw 18 rfl)) (mvT hZ (own_at hw 17 rfl)) (by decide) (backOf (W := 0) (rm4_1 l Z a0 hw [] ob_75 ar_75 kk_75 p1 T75.heap n0 (Nat.le_trans (Nat.le_trans (Nat.le_trans (Nat.le_trans (Nat.le_trans Z0 K57.1) K60.1) K62.1) K65.1) K75.1) p75_3 p75_4 p75_5 p75_6) hZ (own_at hw 19 rfl) (own_at hw 2 rfl) (by decide) (by decide)) q82a q82c (g := (mkF m 128 #[iv p0, iv p1, rv ob_57, iv 1, rv ob_65, iv p0, iv p1, rv ob_75, iv 0, .unset] [(.ref ob_75)])) rfl (by rw [hml]; rfl) (Steps.refl _) (argsL := []) (rest := []) (lenOf pd_5 rfl) rfl (by show 2 * 0 + _ ≤ _; exact Nat.le_of_eq rfl) (hb hby at_128) (fun _ _ => ⟨rfl, rfl, (by decide : 11 + 0 ≤ _), (by decide : 12 + 0 ≤ _)⟩)
    dsimp only [Pt.U, Pt.locs, Pt.cells, Pt.slots] at X82 l82 y82 z82 st82 hQ82
    subst l82 y82 z82
    obtain ⟨rfl, N82q, e82⟩ := hQ82
    have N82 := Fr.app N75 N82q
    obtain ⟨cq83, kq83, q83a, q83b, q83c⟩ := isOf hZ e82 p75_3
    obtain ⟨_, _, ⟨T83, L83, j83, i83⟩, -, X83, ⟨Lc83, hQ83, l83, y83, z83⟩, st83⟩ := X82.virtualBack hx (y := (⟨cS0, "last", "()I"⟩ : MethodName)) (z := (⟨cS0, "last", "()I"⟩ : MethodName)) hown (mvT hZ (own_at hw 20 rfl)) (mvT hZ (own_at hw 21 rfl)) (notFace_of_selects (args := #[]) (mvT hZ (own_at hw 23 rfl))) (mvT hZ (own_at hw 23 rfl)) (mvT hZ (own_at hw 22 rfl)) (by decide) (backOf (W := 0) (rm5_1 l Z a0 hw [] ob_75 ar_75 kk_75 p1 T75.heap n0 (Nat.le_trans (Nat.le_trans (Nat.le_trans (Nat.le_trans (Nat.le_trans Z0 K57.1) K60.1) K62.1) K65.1) K75.1) p75_3 p75_4 p75_5 p75_6) hZ (own_at hw 24 rfl) (own_at hw 2 rfl) (by decide) (by decide)) q83a q83c (g := (mkF m 161 #[iv p0, iv p1, rv ob_57, iv 1, rv ob_65, iv p0, iv p1, rv ob_75, iv 0, iv p1] [(.ref ob_75)])) rfl (by rw [hml]; rfl) (Steps.refl _) (argsL := []) (rest := []) (lenOf pd_6 rfl) rfl (by show 2 * 0 + _ ≤ _; exact Nat.le_of_eq rfl) (hb hby at_161) (fun _ _ => ⟨rfl, e82, (by decide : 11 + 0 ≤ _), (by decide : 12 + 0 ≤ _)⟩)
    dsimp only [Pt.U, Pt.locs, Pt.cells, Pt.slots] at X83 l83 y83 z83 st83 hQ83
    subst l83 y83 z83
    obtain ⟨rfl, N83q, e83⟩ := hQ83
    have N83 := Fr.app N82 N83q
    obtain ⟨fs, hr, hrun, hended, hW, hsame⟩ := X83.leave (v := some (.int 1)) (fun h => by rw [Bd.returns] at h; cases h)
    refine ⟨_, _, k0 _ ?_, hrun, hended, _, _, rfl, ?_, ⟨_, rfl⟩, hW, hsame.mono (by decide) (by decide)⟩
    · show OwnS p e below s₁ (mkF m 0 #[iv p0, iv p1, .unset, .unset, .unset, .unset, .unset, .unset, .unset, .unset] []) _
      refine XS.iloadN X0.here hx rfl (hb hby at_0) rfl ?_
      show OwnS p e below s₁ (mkF m 1 #[iv p0, iv p1, .unset, .unset, .unset, .unset, .unset, .unset, .unset, .unset] [(.int p0)]) _
      refine st57 _ ?_
      show OwnS p e below T57 (mkF m 4 #[iv p0, iv p1, .unset, .unset, .unset, .unset, .unset, .unset, .unset, .unset] [(.ref ob_57)]) _
      refine XS.astoreN X57.here hx rfl (hb hby at_4) rfl rfl (l' := #[iv p0, iv p1, rv ob_57, .unset, .unset, .unset, .unset, .unset, .unset, .unset]) rfl ?_
      show OwnS p e below T57 (mkF m 5 #[iv p0, iv p1, rv ob_57, .unset, .unset, .unset, .unset, .unset, .unset, .unset] []) _
      refine XS.aloadN X57.here hx rfl (hb hby at_5) rfl rfl ?_
      show OwnS p e below T57 (mkF m 6 #[iv p0, iv p1, rv ob_57, .unset, .unset, .unset, .unset, .unset, .unset, .unset] [(.ref ob_57)]) _
      refine st58.trans ?_
      show OwnS p e below T58 (mkF m 9 #[iv p0, iv p1, rv ob_57, .unset, .unset, .unset, .unset, .unset, .unset, .unset] [(.int 0)]) _
      refine XS.ifNo X58.here hx rfl (hb hby at_9) rfl ((if0 _ _).trans (teq (by decide : (0 : Int32) = (0 : Int32))).2) ?_
      show OwnS p e below T58 (mkF m 12 #[iv p0, iv p1, rv ob_57, .unset, .unset, .unset, .unset, .unset, .unset, .unset] []) _
      refine XS.iconst X58.here hx rfl (hb hby at_12) ?_
      show OwnS p e below T58 (mkF m 13 #[iv p0, iv p1, rv ob_57, .unset, .unset, .unset, .unset, .unset, .unset, .unset] [(.int 1)]) _
      refine XS.goto X58.here hx rfl (pc0 := 13) (pc' := 17) rfl (hb hby at_13) (by decide) (by decide) ?_
      show OwnS p e below T58 (mkF m 17 #[iv p0, iv p1, rv ob_57, .unset, .unset, .unset, .unset, .unset, .unset, .unset] [(.int 1)]) _
      refine XS.istoreN X58.here hx rfl (hb hby at_17) rfl (l' := #[iv p0, iv p1, rv ob_57, iv 1, .unset, .unset, .unset, .unset, .unset, .unset]) rfl ?_
      show OwnS p e below T58 (mkF m 18 #[iv p0, iv p1, rv ob_57, iv 1, .unset, .unset, .unset, .unset, .unset, .unset] []) _
      refine XS.iloadN X58.here hx rfl (hb hby at_18) rfl ?_
      show OwnS p e below T58 (mkF m 19 #[iv p0, iv p1, rv ob_57, iv 1, .unset, .unset, .unset, .unset, .unset, .unset] [(.int 1)]) _
      refine XS.ifNo X58.here hx rfl (hb hby at_19) rfl ((if0 _ _).trans (feq (by decide : ¬ ((1 : Int32) = (0 : Int32)))).1) ?_
      show OwnS p e below T58 (mkF m 22 #[iv p0, iv p1, rv ob_57, iv 1, .unset, .unset, .unset, .unset, .unset, .unset] []) _
      refine XS.aloadN X58.here hx rfl (hb hby at_22) rfl rfl ?_
      show OwnS p e below T58 (mkF m 23 #[iv p0, iv p1, rv ob_57, iv 1, .unset, .unset, .unset, .unset, .unset, .unset] [(.ref ob_57)]) _
      refine st59.trans ?_
      show OwnS p e below T59 (mkF m 26 #[iv p0, iv p1, rv ob_57, iv 1, .unset, .unset, .unset, .unset, .unset, .unset] [(.int p0)]) _
      refine XS.iloadN X59.here hx rfl (hb hby at_26) rfl ?_
      show OwnS p e below T59 (mkF m 27 #[iv p0, iv p1, rv ob_57, iv 1, .unset, .unset, .unset, .unset, .unset, .unset] [(.int p0), (.int p0)]) _
      refine XS.icmpNo X59.here hx rfl (hb hby at_27) rfl (teq (rfl : p0 = p0)).2 ?_
      show OwnS p e below T59 (mkF m 30 #[iv p0, iv p1, rv ob_57, iv 1, .unset, .unset, .unset, .unset, .unset, .unset] []) _
      refine XS.iconst X59.here hx rfl (hb hby at_30) ?_
      show OwnS p e below T59 (mkF m 31 #[iv p0, iv p1, rv ob_57, iv 1, .unset, .unset, .unset, .unset, .unset, .unset] [(.int 1)]) _
      refine XS.goto X59.here hx rfl (pc0 := 31) (pc' := 35) rfl (hb hby at_31) (by decide) (by decide) ?_
      show OwnS p e below T59 (mkF m 35 #[iv p0, iv p1, rv ob_57, iv 1, .unset, .unset, .unset, .unset, .unset, .unset] [(.int 1)]) _
      refine XS.istoreN X59.here hx rfl (hb hby at_35) rfl (l' := #[iv p0, iv p1, rv ob_57, iv 1, .unset, .unset, .unset, .unset, .unset, .unset]) rfl ?_
      show OwnS p e below T59 (mkF m 36 #[iv p0, iv p1, rv ob_57, iv 1, .unset, .unset, .unset, .unset, .unset, .unset] []) _
      refine XS.iloadN X59.here hx rfl (hb hby at_36) rfl ?_
      show OwnS p e below T59 (mkF m 37 #[iv p0, iv p1, rv ob_57, iv 1, .unset, .unset, .unset, .unset, .unset, .unset] [(.int 1)]) _
      refine XS.ifNo X59.here hx rfl (hb hby at_37) rfl ((if0 _ _).trans (feq (by decide : ¬ ((1 : Int32) = (0 : Int32)))).1) ?_
      show OwnS p e below T59 (mkF m 40 #[iv p0, iv p1, rv ob_57, iv 1, .unset, .unset, .unset, .unset, .unset, .unset] []) _
      refine XS.aloadN X59.here hx rfl (hb hby at_40) rfl rfl ?_
      show OwnS p e below T59 (mkF m 41 #[iv p0, iv p1, rv ob_57, iv 1, .unset, .unset, .unset, .unset, .unset, .unset] [(.ref ob_57)]) _
      refine XS.iloadN X59.here hx rfl (hb hby at_41) rfl ?_
      show OwnS p e below T59 (mkF m 42 #[iv p0, iv p1, rv ob_57, iv 1, .unset, .unset, .unset, .unset, .unset, .unset] [(.int p0), (.ref ob_57)]) _
      refine st60.trans ?_
      show OwnS p e below T60 (mkF m 45 #[iv p0, iv p1, rv ob_57, iv 1, .unset, .unset, .unset, .unset, .unset, .unset] [(.ref ob_60)]) _
      refine st61.trans ?_
      show OwnS p e below T61 (mkF m 48 #[iv p0, iv p1, rv ob_57, iv 1, .unset, .unset, .unset, .unset, .unset, .unset] [(.int 1)]) _
      refine XS.ifNo X61.here hx rfl (hb hby at_48) rfl ((if0 _ _).trans (feq (by decide : ¬ ((1 : Int32) = (0 : Int32)))).1) ?_
      show OwnS p e below T61 (mkF m 51 #[iv p0, iv p1, rv ob_57, iv 1, .unset, .unset, .unset, .unset, .unset, .unset] []) _
      refine XS.iconst X61.here hx rfl (hb hby at_51) ?_
      show OwnS p e below T61 (mkF m 52 #[iv p0, iv p1, rv ob_57, iv 1, .unset, .unset, .unset, .unset, .unset, .unset] [(.int 1)]) _
      refine XS.goto X61.here hx rfl (pc0 := 52) (pc' := 56) rfl (hb hby at_52) (by decide) (by decide) ?_
      show OwnS p e below T61 (mkF m 56 #[iv p0, iv p1, rv ob_57, iv 1, .unset, .unset, .unset, .unset, .unset, .unset] [(.int 1)]) _
      refine XS.istoreN X61.here hx rfl (hb hby at_56) rfl (l' := #[iv p0, iv p1, rv ob_57, iv 1, .unset, .unset, .unset, .unset, .unset, .unset]) rfl ?_
      show OwnS p e below T61 (mkF m 57 #[iv p0, iv p1, rv ob_57, iv 1, .unset, .unset, .unset, .unset, .unset, .unset] []) _
      refine XS.aloadN X61.here hx rfl (hb hby at_57) rfl rfl ?_
      show OwnS p e below T61 (mkF m 58 #[iv p0, iv p1, rv ob_57, iv 1, .unset, .unset, .unset, .unset, .unset, .unset] [(.ref ob_57)]) _
      refine XS.iloadN X61.here hx rfl (hb hby at_58) rfl ?_
      show OwnS p e below T61 (mkF m 59 #[iv p0, iv p1, rv ob_57, iv 1, .unset, .unset, .unset, .unset, .unset, .unset] [(.int p1), (.ref ob_57)]) _
      refine st62 _ ?_
      show OwnS p e below T62 (mkF m 62 #[iv p0, iv p1, rv ob_57, iv 1, .unset, .unset, .unset, .unset, .unset, .unset] [(.ref ob_62), (.ref ob_57)]) _
      refine st65.trans ?_
      show OwnS p e below T65 (mkF m 65 #[iv p0, iv p1, rv ob_57, iv 1, .unset, .unset, .unset, .unset, .unset, .unset] [(.ref ob_65)]) _
      refine XS.astore X65.here hx rfl (hb hby at_65) rfl rfl (l' := #[iv p0, iv p1, rv ob_57, iv 1, rv ob_65, .unset, .unset, .unset, .unset, .unset]) rfl ?_
      show OwnS p e below T65 (mkF m 67 #[iv p0, iv p1, rv ob_57, iv 1, rv ob_65, .unset, .unset, .unset, .unset, .unset] []) _
      refine XS.iloadN X65.here hx rfl (hb hby at_67) rfl ?_
      show OwnS p e below T65 (mkF m 68 #[iv p0, iv p1, rv ob_57, iv 1, rv ob_65, .unset, .unset, .unset, .unset, .unset] [(.int p0)]) _
      refine XS.iloadN X65.here hx rfl (hb hby at_68) rfl ?_
      show OwnS p e below T65 (mkF m 69 #[iv p0, iv p1, rv ob_57, iv 1, rv ob_65, .unset, .unset, .unset, .unset, .unset] [(.int p1), (.int p0)]) _
      refine st72 _ ?_
      show OwnS p e below T72 (mkF m 72 #[iv p0, iv p1, rv ob_57, iv 1, rv ob_65, .unset, .unset, .unset, .unset, .unset] [(.int p0)]) _
      refine XS.istore X72.here hx rfl (hb hby at_72) rfl (l' := #[iv p0, iv p1, rv ob_57, iv 1, rv ob_65, iv p0, .unset, .unset, .unset, .unset]) rfl ?_
      show OwnS p e below T72 (mkF m 74 #[iv p0, iv p1, rv ob_57, iv 1, rv ob_65, iv p0, .unset, .unset, .unset, .unset] []) _
      refine XS.iloadN X72.here hx rfl (hb hby at_74) rfl ?_
      show OwnS p e below T72 (mkF m 75 #[iv p0, iv p1, rv ob_57, iv 1, rv ob_65, iv p0, .unset, .unset, .unset, .unset] [(.int p0)]) _
      refine XS.iloadN X72.here hx rfl (hb hby at_75) rfl ?_
      show OwnS p e below T72 (mkF m 76 #[iv p0, iv p1, rv ob_57, iv 1, rv ob_65, iv p0, .unset, .unset, .unset, .unset] [(.int p1), (.int p0)]) _
      refine st73 _ ?_
      show OwnS p e below T73 (mkF m 79 #[iv p0, iv p1, rv ob_57, iv 1, rv ob_65, iv p0, .unset, .unset, .unset, .unset] [(.int p1)]) _
      refine XS.istore X73.here hx rfl (hb hby at_79) rfl (l' := #[iv p0, iv p1, rv ob_57, iv 1, rv ob_65, iv p0, iv p1, .unset, .unset, .unset]) rfl ?_
      show OwnS p e below T73 (mkF m 81 #[iv p0, iv p1, rv ob_57, iv 1, rv ob_65, iv p0, iv p1, .unset, .unset, .unset] []) _
      refine XS.iloadN X73.here hx rfl (hb hby at_81) rfl ?_
      show OwnS p e below T73 (mkF m 82 #[iv p0, iv p1, rv ob_57, iv 1, rv ob_65, iv p0, iv p1, .unset, .unset, .unset] [(.int 1)]) _
      refine XS.ifNo X73.here hx rfl (hb hby at_82) rfl ((if0 _ _).trans (feq (by decide : ¬ ((1 : Int32) = (0 : Int32)))).1) ?_
      show OwnS p e below T73 (mkF m 85 #[iv p0, iv p1, rv ob_57, iv 1, rv ob_65, iv p0, iv p1, .unset, .unset, .unset] []) _
      refine XS.aload X73.here hx rfl (hb hby at_85) rfl rfl ?_
      show OwnS p e below T73 (mkF m 87 #[iv p0, iv p1, rv ob_57, iv 1, rv ob_65, iv p0, iv p1, .unset, .unset, .unset] [(.ref ob_65)]) _
      refine st74.trans ?_
      show OwnS p e below T74 (mkF m 90 #[iv p0, iv p1, rv ob_57, iv 1, rv ob_65, iv p0, iv p1, .unset, .unset, .unset] [(.int p0)]) _
      refine XS.iload X74.here hx rfl (hb hby at_90) rfl ?_
      show OwnS p e below T74 (mkF m 92 #[iv p0, iv p1, rv ob_57, iv 1, rv ob_65, iv p0, iv p1, .unset, .unset, .unset] [(.int p0), (.int p0)]) _
      refine XS.icmpNo X74.here hx rfl (hb hby at_92) rfl (teq (rfl : p0 = p0)).2 ?_
      show OwnS p e below T74 (mkF m 95 #[iv p0, iv p1, rv ob_57, iv 1, rv ob_65, iv p0, iv p1, .unset, .unset, .unset] []) _
      refine XS.iconst X74.here hx rfl (hb hby at_95) ?_
      show OwnS p e below T74 (mkF m 96 #[iv p0, iv p1, rv ob_57, iv 1, rv ob_65, iv p0, iv p1, .unset, .unset, .unset] [(.int 1)]) _
      refine XS.goto X74.here hx rfl (pc0 := 96) (pc' := 100) rfl (hb hby at_96) (by decide) (by decide) ?_
      show OwnS p e below T74 (mkF m 100 #[iv p0, iv p1, rv ob_57, iv 1, rv ob_65, iv p0, iv p1, .unset, .unset, .unset] [(.int 1)]) _
      refine XS.istoreN X74.here hx rfl (hb hby at_100) rfl (l' := #[iv p0, iv p1, rv ob_57, iv 1, rv ob_65, iv p0, iv p1, .unset, .unset, .unset]) rfl ?_
      show OwnS p e below T74 (mkF m 101 #[iv p0, iv p1, rv ob_57, iv 1, rv ob_65, iv p0, iv p1, .unset, .unset, .unset] []) _
      refine XS.aload X74.here hx rfl (hb hby at_101) rfl rfl ?_
      show OwnS p e below T74 (mkF m 103 #[iv p0, iv p1, rv ob_57, iv 1, rv ob_65, iv p0, iv p1, .unset, .unset, .unset] [(.ref ob_65)]) _
      refine XS.iload X74.here hx rfl (hb hby at_103) rfl ?_
      show OwnS p e below T74 (mkF m 105 #[iv p0, iv p1, rv ob_57, iv 1, rv ob_65, iv p0, iv p1, .unset, .unset, .unset] [(.int p0), (.ref ob_65)]) _
      refine st75.trans ?_
      show OwnS p e below T75 (mkF m 108 #[iv p0, iv p1, rv ob_57, iv 1, rv ob_65, iv p0, iv p1, .unset, .unset, .unset] [(.ref ob_75)]) _
      refine XS.astore X75.here hx rfl (hb hby at_108) rfl rfl (l' := #[iv p0, iv p1, rv ob_57, iv 1, rv ob_65, iv p0, iv p1, rv ob_75, .unset, .unset]) rfl ?_
      show OwnS p e below T75 (mkF m 110 #[iv p0, iv p1, rv ob_57, iv 1, rv ob_65, iv p0, iv p1, rv ob_75, .unset, .unset] []) _
      refine XS.iloadN X75.here hx rfl (hb hby at_110) rfl ?_
      show OwnS p e below T75 (mkF m 111 #[iv p0, iv p1, rv ob_57, iv 1, rv ob_65, iv p0, iv p1, rv ob_75, .unset, .unset] [(.int p0)]) _
      refine XS.iloadN X75.here hx rfl (hb hby at_111) rfl ?_
      show OwnS p e below T75 (mkF m 112 #[iv p0, iv p1, rv ob_57, iv 1, rv ob_65, iv p0, iv p1, rv ob_75, .unset, .unset] [(.int p1), (.int p0)]) _
      refine XS.icmpYes X75.here hx rfl (pc0 := 112) (pc' := 119) rfl (hb hby at_112) rfl (feq (own_ne' ht)).2 (by decide) (by decide) ?_
      show OwnS p e below T75 (mkF m 119 #[iv p0, iv p1, rv ob_57, iv 1, rv ob_65, iv p0, iv p1, rv ob_75, .unset, .unset] []) _
      refine XS.iconst X75.here hx rfl (hb hby at_119) ?_
      show OwnS p e below T75 (mkF m 120 #[iv p0, iv p1, rv ob_57, iv 1, rv ob_65, iv p0, iv p1, rv ob_75, .unset, .unset] [(.int 0)]) _
      refine XS.istore X75.here hx rfl (hb hby at_120) rfl (l' := #[iv p0, iv p1, rv ob_57, iv 1, rv ob_65, iv p0, iv p1, rv ob_75, iv 0, .unset]) rfl ?_
      show OwnS p e below T75 (mkF m 122 #[iv p0, iv p1, rv ob_57, iv 1, rv ob_65, iv p0, iv p1, rv ob_75, iv 0, .unset] []) _
      refine XS.iloadN X75.here hx rfl (hb hby at_122) rfl ?_
      show OwnS p e below T75 (mkF m 123 #[iv p0, iv p1, rv ob_57, iv 1, rv ob_65, iv p0, iv p1, rv ob_75, iv 0, .unset] [(.int 1)]) _
      refine XS.ifNo X75.here hx rfl (hb hby at_123) rfl ((if0 _ _).trans (feq (by decide : ¬ ((1 : Int32) = (0 : Int32)))).1) ?_
      show OwnS p e below T75 (mkF m 126 #[iv p0, iv p1, rv ob_57, iv 1, rv ob_65, iv p0, iv p1, rv ob_75, iv 0, .unset] []) _
      refine XS.aload X75.here hx rfl (hb hby at_126) rfl rfl ?_
      show OwnS p e below T75 (mkF m 128 #[iv p0, iv p1, rv ob_57, iv 1, rv ob_65, iv p0, iv p1, rv ob_75, iv 0, .unset] [(.ref ob_75)]) _
      refine st82.trans ?_
      show OwnS p e below T82 (mkF m 131 #[iv p0, iv p1, rv ob_57, iv 1, rv ob_65, iv p0, iv p1, rv ob_75, iv 0, .unset] [(.int 0)]) _
      refine XS.iload X82.here hx rfl (hb hby at_131) rfl ?_
      show OwnS p e below T82 (mkF m 133 #[iv p0, iv p1, rv ob_57, iv 1, rv ob_65, iv p0, iv p1, rv ob_75, iv 0, .unset] [(.int 0), (.int 0)]) _
      refine XS.icmpNo X82.here hx rfl (hb hby at_133) rfl (teq (by decide : (0 : Int32) = (0 : Int32))).2 ?_
      show OwnS p e below T82 (mkF m 136 #[iv p0, iv p1, rv ob_57, iv 1, rv ob_65, iv p0, iv p1, rv ob_75, iv 0, .unset] []) _
      refine XS.iconst X82.here hx rfl (hb hby at_136) ?_
      show OwnS p e below T82 (mkF m 137 #[iv p0, iv p1, rv ob_57, iv 1, rv ob_65, iv p0, iv p1, rv ob_75, iv 0, .unset] [(.int 1)]) _
      refine XS.goto X82.here hx rfl (pc0 := 137) (pc' := 141) rfl (hb hby at_137) (by decide) (by decide) ?_
      show OwnS p e below T82 (mkF m 141 #[iv p0, iv p1, rv ob_57, iv 1, rv ob_65, iv p0, iv p1, rv ob_75, iv 0, .unset] [(.int 1)]) _
      refine XS.istoreN X82.here hx rfl (hb hby at_141) rfl (l' := #[iv p0, iv p1, rv ob_57, iv 1, rv ob_65, iv p0, iv p1, rv ob_75, iv 0, .unset]) rfl ?_
      show OwnS p e below T82 (mkF m 142 #[iv p0, iv p1, rv ob_57, iv 1, rv ob_65, iv p0, iv p1, rv ob_75, iv 0, .unset] []) _
      refine XS.iload X82.here hx rfl (hb hby at_142) rfl ?_
      show OwnS p e below T82 (mkF m 144 #[iv p0, iv p1, rv ob_57, iv 1, rv ob_65, iv p0, iv p1, rv ob_75, iv 0, .unset] [(.int 0)]) _
      refine XS.ifYes X82.here hx rfl (pc0 := 144) (pc' := 151) rfl (hb hby at_144) rfl ((if0 _ _).trans (teq (by decide : (0 : Int32) = (0 : Int32))).1) (by decide) (by decide) ?_
      show OwnS p e below T82 (mkF m 151 #[iv p0, iv p1, rv ob_57, iv 1, rv ob_65, iv p0, iv p1, rv ob_75, iv 0, .unset] []) _
      refine XS.iload X82.here hx rfl (hb hby at_151) rfl ?_
      show OwnS p e below T82 (mkF m 153 #[iv p0, iv p1, rv ob_57, iv 1, rv ob_65, iv p0, iv p1, rv ob_75, iv 0, .unset] [(.int p1)]) _
      refine XS.istore X82.here hx rfl (hb hby at_153) rfl (l' := #[iv p0, iv p1, rv ob_57, iv 1, rv ob_65, iv p0, iv p1, rv ob_75, iv 0, iv p1]) rfl ?_
      show OwnS p e below T82 (mkF m 155 #[iv p0, iv p1, rv ob_57, iv 1, rv ob_65, iv p0, iv p1, rv ob_75, iv 0, iv p1] []) _
      refine XS.iloadN X82.here hx rfl (hb hby at_155) rfl ?_
      show OwnS p e below T82 (mkF m 156 #[iv p0, iv p1, rv ob_57, iv 1, rv ob_65, iv p0, iv p1, rv ob_75, iv 0, iv p1] [(.int 1)]) _
      refine XS.ifNo X82.here hx rfl (hb hby at_156) rfl ((if0 _ _).trans (feq (by decide : ¬ ((1 : Int32) = (0 : Int32)))).1) ?_
      show OwnS p e below T82 (mkF m 159 #[iv p0, iv p1, rv ob_57, iv 1, rv ob_65, iv p0, iv p1, rv ob_75, iv 0, iv p1] []) _
      refine XS.aload X82.here hx rfl (hb hby at_159) rfl rfl ?_
      show OwnS p e below T82 (mkF m 161 #[iv p0, iv p1, rv ob_57, iv 1, rv ob_65, iv p0, iv p1, rv ob_75, iv 0, iv p1] [(.ref ob_75)]) _
      refine st83.trans ?_
      show OwnS p e below T83 (mkF m 164 #[iv p0, iv p1, rv ob_57, iv 1, rv ob_65, iv p0, iv p1, rv ob_75, iv 0, iv p1] [(.int p1)]) _
      refine XS.iload X83.here hx rfl (hb hby at_164) rfl ?_
      show OwnS p e below T83 (mkF m 166 #[iv p0, iv p1, rv ob_57, iv 1, rv ob_65, iv p0, iv p1, rv ob_75, iv 0, iv p1] [(.int p1), (.int p1)]) _
      refine XS.icmpNo X83.here hx rfl (hb hby at_166) rfl (teq (rfl : p1 = p1)).2 ?_
      show OwnS p e below T83 (mkF m 169 #[iv p0, iv p1, rv ob_57, iv 1, rv ob_65, iv p0, iv p1, rv ob_75, iv 0, iv p1] []) _
      refine XS.iconst X83.here hx rfl (hb hby at_169) ?_
      show OwnS p e below T83 (mkF m 170 #[iv p0, iv p1, rv ob_57, iv 1, rv ob_65, iv p0, iv p1, rv ob_75, iv 0, iv p1] [(.int 1)]) _
      refine XS.goto X83.here hx rfl (pc0 := 170) (pc' := 174) rfl (hb hby at_170) (by decide) (by decide) ?_
      show OwnS p e below T83 (mkF m 174 #[iv p0, iv p1, rv ob_57, iv 1, rv ob_65, iv p0, iv p1, rv ob_75, iv 0, iv p1] [(.int 1)]) _
      refine XS.istoreN X83.here hx rfl (hb hby at_174) rfl (l' := #[iv p0, iv p1, rv ob_57, iv 1, rv ob_65, iv p0, iv p1, rv ob_75, iv 0, iv p1]) rfl ?_
      show OwnS p e below T83 (mkF m 175 #[iv p0, iv p1, rv ob_57, iv 1, rv ob_65, iv p0, iv p1, rv ob_75, iv 0, iv p1] []) _
      refine XS.iloadN X83.here hx rfl (hb hby at_175) rfl ?_
      show OwnS p e below T83 (mkF m 176 #[iv p0, iv p1, rv ob_57, iv 1, rv ob_65, iv p0, iv p1, rv ob_75, iv 0, iv p1] [(.int 1)]) _
      exact retN X83 hx (t := .boolean) Bd.returns (by simp) (hb hby at_176) hr
    · show Q_0 Z p0 p1 h0 n0 _ T83.heap _
      rw [e83]
      exact ⟨rfl, N83, trivial⟩
set_option maxRecDepth 65536 in
set_option maxHeartbeats 40000000 in
theorem comes_1 {Post : Tables → Env → Array Value → State → Outcome → State → Prop} (hpost : ∀ tb e args s v u, (limb_1_1.after args s (.returned v) u = true ∧ limb_1_2.after args s (.returned v) u = true ∧ True) → FrameEnd s (.returned v) u (Jvm.fieldLocs frame_1_writes args s ++ Jvm.arrayLocs frame_1_arrays args s ++ Jvm.staticLocs frame_1_statics s) 32 128 → Post tb e args s (.returned v) u) :
    ArmFor flags0 classFile x code maxLocals ret World_1 tables_1 room_1 Calls_1 rest_1 Pre_1 Post := by
  intro l hfl _ _ p e ha hc hk s m args below hf hA hF happ hP
  obtain ⟨hcalls, hrest, hpre⟩ := hP
  obtain ⟨-, -, -, hnamed, -, -, -, hat⟩ := (Spec.applies_iff hf).mp happ
  obtain ⟨hg, hn⟩ := and_e (Cond.before_iff.mp (show (Jvm.Cond.and given_1 narrow_1).before args s = true from hpre))
  have hw := fun d (hd : d ∈ tables_1) => atoms_spec (ws := Jvm.Cond.code x code maxLocals ret :: tables_1) hat d (List.mem_cons_of_mem _ hd)
  have hfit : Fit s := fun {y c} hc i hi => by
    obtain ⟨ha, rfl⟩ := Array.getElem?_eq_some_iff.mp hc
    have q := List.all_eq_true.mp ((Array.all_eq_true_iff_forall_mem.mp hF) _ (Array.getElem_mem ha)) i (List.mem_range.mpr hi)
    simpa [Array.getElem?_eq_getElem hi] using q
  obtain ⟨cj1, cj2⟩ := and_e hg
  obtain ⟨cj3, cj4⟩ := and_e cj2
  obtain ⟨w0, w1, rfl⟩ : ∃ w0 w1 : Value, args = #[w0, w1] := by
    have hs : args.size = 2 := by simpa [Cond.value, given_1] using cj1
    obtain ⟨L⟩ := args
    match L, hs with
    | [w0, w1], _ => exact ⟨w0, w1, rfl⟩
  obtain ⟨i0, ei0⟩ := is_v cj3
  obtain rfl : w0 = (.int i0) := Option.some.inj ei0
  obtain ⟨i1, ei1⟩ := is_v cj4
  obtain rfl : w1 = (.int i1) := Option.some.inj ei1
  obtain ⟨n, o, h1, h2, h3, _, L, rfl, ⟨rfl, N, -⟩, hq⟩ := rm0 l s _ hw tables_1 i0 i1 s.heap s.heap.size (Nat.le_refl _)  p e ha hc hk s m _ below hf ((Spec.applies_iff_loose hf).mp happ).1 ⟨rfl, State.Warmed39.refl s, rfl⟩ trivial
  refine ⟨n, _, h1, h2, h3, hpost _ _ _ _ _ _ ⟨Cond.after_iff.mpr rfl, Cond.after_iff.mpr (eq_i res_at (Term.int_eval (1)) rfl), trivial⟩ ⟨hq.1, hq.2.1, (hq.2.2.sift fun y hy => Or.inr (N y hy)).mono (by decide) (by decide)⟩⟩
theorem main_1_1 : Claimed_1_1 := comes_1 fun _ _ _ _ _ _ h hF => ⟨h.1, hF⟩
theorem main_1_2 : Claimed_1_2 := comes_1 fun _ _ _ _ _ _ h hF => ⟨h.2.1, hF⟩
end Jvm.Pilot.@@N@@
namespace Jvm.Pilot.@@N@@
open Jvm Jvm.ClassFile Sem Op Lib Jvm.Free Jvm.Stand Jvm.Pilot.@@N@@.Jvm.D
/-! MADE BY PROGRAM (witnessworld.py) out of the Statement's table words and the real class files: 12 classes; the members and pool entries that the words name. The judged class is class 1, her method 1. -/
namespace start1
open Jvm.ClassFile
def u (s : String) : CpInfo := .utf8 (stringToUtf16 s)
/-- a pool by its gaps: so many unusable entries, then the entry; so many at the end -/
def gap : Nat → List CpInfo → List CpInfo
  | 0, r => r
  | n + 1, r => .unusable :: gap n r
def poolList (es : List (Nat × CpInfo)) (last : Nat) : List CpInfo := es.foldr (fun e r => gap e.1 (e.2 :: r)) (gap last [])
def pool (es : List (Nat × CpInfo)) (last : Nat) : Array CpInfo := ⟨poolList es last⟩
def fileOf (pool : Array CpInfo) (this : Nat) (attrs : Array Attribute := #[]) (ms : Array MethodInfo := #[]) (fl : Nat := 33) (sup : Nat := 0) (ifs : Array Nat := #[]) (fds : Array FieldInfo := #[]) : ClassFile where
  minorVersion := 0
  majorVersion := 65
  constantPool := pool
  accessFlags := fl
  thisClass := this
  superClass := sup
  interfaces := ifs
  fields := fds
  methods := ms
  attributes := attrs
def plain (name : String) (sup : Option ClassId) : Class where
  name := name
  kind := .ordinary
  loader := none
  accessFlags := 33
  super := sup
  interfaces := #[]
  cf := none
  fields := #[]
  methods := #[]
  instanceTypes := #[]
  staticTypes := #[]
  resolved := #[]
  callSites := []
  init := .initialized
  statics := none
  mirror := none

def pool0 : Array CpInfo := pool [(5, u "<init>"), (0, u "()V"), (1, .class_ 10), (1, u "java/lang/Object"), (85, u "clone"), (0, u "()Ljava/lang/Object;")] 26

def k0c0 : Code := { maxStack := 0, maxLocals := 1, code := object_method_1_code, exceptionTable := #[], attributes := #[] }
def k0m0 : Method := { name := "<init>", desc := "()V", sig := { parameters := [], returnType := none }, accessFlags := 1, code := some k0c0 }
def k0m1 : Method := { name := "clone", desc := "()Ljava/lang/Object;", sig := { parameters := [], returnType := some (.object "java/lang/Object") }, accessFlags := 260, code := none }
/-- java/lang/Object -/
def k0 : Class := { plain "java/lang/Object" none with
  accessFlags := 33
  interfaces := #[]
  cf := some (fileOf pool0 8 #[] #[{ accessFlags := 1, nameIndex := 5, descriptorIndex := 6, attributes := #[] }, { accessFlags := 260, nameIndex := 96, descriptorIndex := 97, attributes := #[] }] 33 0 #[] #[])
  fields := #[]
  methods := #[k0m0, k0m1]
  instanceTypes := #[]
  staticTypes := #[]
  resolved := Array.replicate 124 none
  statics := none }

def pool1 : Array CpInfo := pool [(2, .class_ 4), (1, u "java/lang/Object"), (0, u "<init>"), (0, u "()V"), (0, .methodref 8 9), (0, .class_ 10), (0, .nameAndType 11 12), (0, u "com/example/tablox/tablox/tableau/Dependencies"), (0, u "on"), (0, u "(I)Lcom/example/tablox/tablox/tableau/Dependencies;"), (0, .methodref 8 14), (0, .nameAndType 15 16), (0, u "isEmpty"), (0, u "()Z"), (0, .methodref 8 18), (0, .nameAndType 19 20), (0, u "last"), (0, u "()I"), (0, .methodref 8 22), (0, .nameAndType 23 12), (0, u "without"), (0, .methodref 8 25), (0, .nameAndType 26 27), (0, u "union"), (0, u "(Lcom/example/tablox/tablox/tableau/Dependencies;)Lcom/example/tablox/tablox/tableau/Dependencies;"), (0, .methodref 29 30), (0, .class_ 31), (0, .nameAndType 32 33), (0, u "java/lang/Math"), (0, u "max"), (0, u "(II)I"), (0, .methodref 29 35), (0, .nameAndType 36 33), (0, u "min"), (0, .class_ 38), (0, u "com/example/tablox/tablox/tableau/DependenciesOnPinLaw"), (2, u "law"), (0, u "(II)Z")] 3

def k1m0 : Method := { name := "<init>", desc := "()V", sig := { parameters := [], returnType := none }, accessFlags := 1, code := none }
def k1c1 : Code := { maxStack := 2, maxLocals := 10, code := code, exceptionTable := #[], attributes := #[] }
def k1m1 : Method := { name := "law", desc := "(II)Z", sig := { parameters := [.int, .int], returnType := some .boolean }, accessFlags := 9, code := some k1c1 }
/-- com/example/tablox/tablox/tableau/DependenciesOnPinLaw -/
def k1 : Class := { plain "com/example/tablox/tablox/tableau/DependenciesOnPinLaw" (some 0) with
  accessFlags := 49
  interfaces := #[]
  cf := some (fileOf pool1 37 #[] #[{ accessFlags := 1, nameIndex := 5, descriptorIndex := 6, attributes := #[] }, { accessFlags := 9, nameIndex := 41, descriptorIndex := 42, attributes := #[] }] 49 2 #[] #[])
  fields := #[]
  methods := #[k1m0, k1m1]
  instanceTypes := #[]
  staticTypes := #[]
  resolved := Array.replicate 46 none
  statics := none }

def pool2 : Array CpInfo := pool [(1, .methodref 2 3), (0, .class_ 4), (0, .nameAndType 5 6), (0, u "java/lang/Object"), (0, u "<init>"), (0, u "()V"), (0, .fieldref 8 9), (0, .class_ 10), (0, .nameAndType 11 12), (0, u "com/example/tablox/tablox/tableau/Dependencies"), (0, u "levels"), (0, u "[I"), (0, .methodref 8 14), (0, .nameAndType 5 15), (0, u "([I)V"), (0, .methodref 17 18), (0, .class_ 19), (0, .nameAndType 20 21), (0, u "java/util/Arrays"), (0, u "copyOf"), (0, u "([II)[I"), (0, .methodref 17 23), (0, .nameAndType 24 25), (0, u "binarySearch"), (0, u "([II)I"), (0, .methodref 27 28), (0, .class_ 29), (0, .nameAndType 30 31), (0, u "java/lang/System"), (0, u "arraycopy"), (0, u "(Ljava/lang/Object;ILjava/lang/Object;II)V"), (2, u "NONE"), (0, u "Lcom/example/tablox/tablox/tableau/Dependencies;"), (2, u "on"), (0, u "(I)Lcom/example/tablox/tablox/tableau/Dependencies;"), (0, u "union"), (0, u "(Lcom/example/tablox/tablox/tableau/Dependencies;)Lcom/example/tablox/tablox/tableau/Dependencies;"), (2, u "without"), (0, u "isEmpty"), (0, u "()Z"), (0, u "last"), (0, u "()I")] 3

def k2c0 : Code := { maxStack := 2, maxLocals := 2, code := prog_21_method_1_code, exceptionTable := #[], attributes := #[] }
def k2m0 : Method := { name := "<init>", desc := "([I)V", sig := { parameters := [(.array .int)], returnType := none }, accessFlags := 2, code := some k2c0 }
def k2c1 : Code := { maxStack := 6, maxLocals := 1, code := prog_21_method_2_code, exceptionTable := #[], attributes := #[] }
def k2m1 : Method := { name := "on", desc := "(I)Lcom/example/tablox/tablox/tableau/Dependencies;", sig := { parameters := [.int], returnType := some (.object "com/example/tablox/tablox/tableau/Dependencies") }, accessFlags := 8, code := some k2c1 }
def k2c2 : Code := { maxStack := 4, maxLocals := 9, code := prog_21_method_3_code, exceptionTable := #[], attributes := #[] }
def k2m2 : Method := { name := "union", desc := "(Lcom/example/tablox/tablox/tableau/Dependencies;)Lcom/example/tablox/tablox/tableau/Dependencies;", sig := { parameters := [(.object "com/example/tablox/tablox/tableau/Dependencies")], returnType := some (.object "com/example/tablox/tablox/tableau/Dependencies") }, accessFlags := 0, code := some k2c2 }
def k2c3 : Code := { maxStack := 6, maxLocals := 5, code := prog_21_method_4_code, exceptionTable := #[], attributes := #[] }
def k2m3 : Method := { name := "without", desc := "(I)Lcom/example/tablox/tablox/tableau/Dependencies;", sig := { parameters := [.int], returnType := some (.object "com/example/tablox/tablox/tableau/Dependencies") }, accessFlags := 0, code := some k2c3 }
def k2c4 : Code := { maxStack := 1, maxLocals := 1, code := prog_21_method_5_code, exceptionTable := #[], attributes := #[] }
def k2m4 : Method := { name := "isEmpty", desc := "()Z", sig := { parameters := [], returnType := some .boolean }, accessFlags := 0, code := some k2c4 }
def k2c5 : Code := { maxStack := 3, maxLocals := 1, code := prog_21_method_6_code, exceptionTable := #[], attributes := #[] }
def k2m5 : Method := { name := "last", desc := "()I", sig := { parameters := [], returnType := some .int }, accessFlags := 0, code := some k2c5 }
/-- com/example/tablox/tablox/tableau/Dependencies -/
def k2 : Class := { plain "com/example/tablox/tablox/tableau/Dependencies" (some 0) with
  accessFlags := 48
  interfaces := #[]
  cf := some (fileOf pool2 8 #[] #[{ accessFlags := 2, nameIndex := 5, descriptorIndex := 15, attributes := #[] }, { accessFlags := 8, nameIndex := 38, descriptorIndex := 39, attributes := #[] }, { accessFlags := 0, nameIndex := 40, descriptorIndex := 41, attributes := #[] }, { accessFlags := 0, nameIndex := 44, descriptorIndex := 39, attributes := #[] }, { accessFlags := 0, nameIndex := 45, descriptorIndex := 46, attributes := #[] }, { accessFlags := 0, nameIndex := 47, descriptorIndex := 48, attributes := #[] }] 48 2 #[] #[{ accessFlags := 24, nameIndex := 34, descriptorIndex := 35, attributes := #[] }, { accessFlags := 18, nameIndex := 11, descriptorIndex := 12, attributes := #[] }])
  fields := #[{ name := "NONE", type := (.object "com/example/tablox/tablox/tableau/Dependencies"), accessFlags := 24, slot := 0, constantValue := 0 }, { name := "levels", type := (.array .int), accessFlags := 18, slot := 0, constantValue := 0 }]
  methods := #[k2m0, k2m1, k2m2, k2m3, k2m4, k2m5]
  instanceTypes := #[(.array .int)]
  staticTypes := #[(.object "com/example/tablox/tablox/tableau/Dependencies")]
  resolved := Array.replicate 52 none
  statics := none }

def pool3 : Array CpInfo := pool [(2, .class_ 4), (1, u "java/lang/Object"), (0, u "<init>"), (0, u "()V"), (7, .class_ 16), (1, u "java/util/Arrays"), (57, .class_ 76), (1, u "java/util/Arrays$NaturalOrder"), (32, u "()Ljava/lang/Object;"), (3, .class_ 115), (1, u "java/util/Arrays$LegacyMergeSort"), (1, u "Z"), (10, .nameAndType 129 109), (0, u "clone"), (77, u "binarySearch0"), (1, .methodref 14 210), (0, .nameAndType 207 211), (0, u "([IIII)I"), (90, u "copyOf"), (13, .methodref 317 128), (0, .class_ 318), (0, u "[I"), (56, .class_ 376), (0, u "java/util/Arrays$ArrayList"), (68, u "$assertionsDisabled"), (269, u "MIN_ARRAY_SORT_GRAN"), (0, u "I"), (2, u "INSERTIONSORT_THRESHOLD"), (74, u "binarySearch"), (4, u "([II)I"), (71, u "([II)[I"), (103, .class_ 976), (0, u "java/util/Arrays$ArrayItr")] 52

def k3m0 : Method := { name := "<init>", desc := "()V", sig := { parameters := [], returnType := none }, accessFlags := 2, code := none }
def k3c1 : Code := { maxStack := 4, maxLocals := 2, code := jdk_65_method_57_code, exceptionTable := #[], attributes := #[] }
def k3m1 : Method := { name := "binarySearch", desc := "([II)I", sig := { parameters := [(.array .int), .int], returnType := some .int }, accessFlags := 9, code := some k3c1 }
def k3c2 : Code := { maxStack := 2, maxLocals := 8, code := jdk_65_method_59_code, exceptionTable := #[], attributes := #[] }
def k3m2 : Method := { name := "binarySearch0", desc := "([IIII)I", sig := { parameters := [(.array .int), .int, .int, .int], returnType := some .int }, accessFlags := 10, code := some k3c2 }
def k3c3 : Code := { maxStack := 6, maxLocals := 3, code := jdk_65_method_123_code, exceptionTable := #[], attributes := #[] }
def k3m3 : Method := { name := "copyOf", desc := "([II)[I", sig := { parameters := [(.array .int), .int], returnType := some (.array .int) }, accessFlags := 9, code := some k3c3 }
/-- java/util/Arrays -/
def k3 : Class := { plain "java/util/Arrays" (some 0) with
  accessFlags := 49
  interfaces := #[]
  cf := some (fileOf pool3 14 #[.nestMembers #[975, 375, 113, 74]] #[{ accessFlags := 2, nameIndex := 5, descriptorIndex := 6, attributes := #[] }, { accessFlags := 9, nameIndex := 794, descriptorIndex := 799, attributes := #[] }, { accessFlags := 10, nameIndex := 207, descriptorIndex := 211, attributes := #[] }, { accessFlags := 9, nameIndex := 302, descriptorIndex := 871, attributes := #[] }] 49 2 #[] #[{ accessFlags := 26, nameIndex := 715, descriptorIndex := 716, attributes := #[] }, { accessFlags := 26, nameIndex := 719, descriptorIndex := 716, attributes := #[] }, { accessFlags := 4120, nameIndex := 445, descriptorIndex := 117, attributes := #[] }])
  fields := #[{ name := "MIN_ARRAY_SORT_GRAN", type := .int, accessFlags := 26, slot := 0, constantValue := 0 }, { name := "INSERTIONSORT_THRESHOLD", type := .int, accessFlags := 26, slot := 1, constantValue := 0 }, { name := "$assertionsDisabled", type := .boolean, accessFlags := 4120, slot := 2, constantValue := 0 }]
  methods := #[k3m0, k3m1, k3m2, k3m3]
  instanceTypes := #[]
  staticTypes := #[.int, .int, .boolean]
  resolved := Array.replicate 1029 none
  statics := none }

def pool4 : Array CpInfo := pool [(2, .class_ 4), (1, u "java/lang/Object"), (0, u "<init>"), (0, u "()V"), (1, .class_ 10), (1, u "java/lang/System"), (0, u "allowSecurityManager"), (0, u "I"), (16, u "cons"), (0, u "Ljava/io/Console;"), (77, .class_ 110), (1, u "java/lang/System$CallersHolder"), (43, u "initialErrStream"), (0, u "Ljava/io/PrintStream;"), (19, u "security"), (0, u "Ljava/lang/SecurityManager;"), (31, .class_ 209), (0, u "java/lang/System$1"), (7, u "props"), (0, u "Ljava/util/Properties;"), (2, u "lineSeparator"), (0, u "Ljava/lang/String;"), (96, .class_ 321), (1, u "java/lang/System$LoggerFinder"), (5, .class_ 328), (0, u "java/lang/System$Logger"), (67, u "err"), (2, u "out"), (91, u "notSupportedJnuEncoding"), (15, u "in"), (17, u "initialIn"), (0, u "Ljava/io/InputStream;"), (35, u "bootLayer"), (0, u "Ljava/lang/ModuleLayer;"), (99, .class_ 664), (0, u "java/lang/System$2"), (9, u "NEVER"), (2, u "MAYBE"), (49, u "arraycopy"), (0, u "(Ljava/lang/Object;ILjava/lang/Object;II)V"), (72, .class_ 802), (0, u "java/lang/System$Logger$Level")] 31

def k4m0 : Method := { name := "<init>", desc := "()V", sig := { parameters := [], returnType := none }, accessFlags := 2, code := none }
def k4m1 : Method := { name := "arraycopy", desc := "(Ljava/lang/Object;ILjava/lang/Object;II)V", sig := { parameters := [(.object "java/lang/Object"), .int, (.object "java/lang/Object"), .int, .int], returnType := none }, accessFlags := 265, code := none }
/-- java/lang/System -/
def k4 : Class := { plain "java/lang/System" (some 0) with
  accessFlags := 49
  interfaces := #[]
  cf := some (fileOf pool4 8 #[.nestMembers #[319, 327, 801, 108, 663, 208]] #[{ accessFlags := 2, nameIndex := 5, descriptorIndex := 6, attributes := #[] }, { accessFlags := 265, nameIndex := 727, descriptorIndex := 728, attributes := #[] }] 49 2 #[] #[{ accessFlags := 25, nameIndex := 507, descriptorIndex := 526, attributes := #[] }, { accessFlags := 25, nameIndex := 399, descriptorIndex := 155, attributes := #[] }, { accessFlags := 25, nameIndex := 396, descriptorIndex := 155, attributes := #[] }, { accessFlags := 10, nameIndex := 525, descriptorIndex := 526, attributes := #[] }, { accessFlags := 26, nameIndex := 674, descriptorIndex := 12, attributes := #[] }, { accessFlags := 26, nameIndex := 677, descriptorIndex := 12, attributes := #[] }, { accessFlags := 10, nameIndex := 11, descriptorIndex := 12, attributes := #[] }, { accessFlags := 74, nameIndex := 175, descriptorIndex := 176, attributes := #[] }, { accessFlags := 10, nameIndex := 491, descriptorIndex := 222, attributes := #[] }, { accessFlags := 74, nameIndex := 29, descriptorIndex := 30, attributes := #[] }, { accessFlags := 74, nameIndex := 154, descriptorIndex := 155, attributes := #[] }, { accessFlags := 10, nameIndex := 217, descriptorIndex := 218, attributes := #[] }, { accessFlags := 10, nameIndex := 221, descriptorIndex := 222, attributes := #[] }, { accessFlags := 8, nameIndex := 562, descriptorIndex := 563, attributes := #[] }])
  fields := #[{ name := "in", type := (.object "java/io/InputStream"), accessFlags := 25, slot := 0, constantValue := 0 }, { name := "out", type := (.object "java/io/PrintStream"), accessFlags := 25, slot := 1, constantValue := 0 }, { name := "err", type := (.object "java/io/PrintStream"), accessFlags := 25, slot := 2, constantValue := 0 }, { name := "initialIn", type := (.object "java/io/InputStream"), accessFlags := 10, slot := 3, constantValue := 0 }, { name := "NEVER", type := .int, accessFlags := 26, slot := 4, constantValue := 0 }, { name := "MAYBE", type := .int, accessFlags := 26, slot := 5, constantValue := 0 }, { name := "allowSecurityManager", type := .int, accessFlags := 10, slot := 6, constantValue := 0 }, { name := "security", type := (.object "java/lang/SecurityManager"), accessFlags := 74, slot := 7, constantValue := 0 }, { name := "notSupportedJnuEncoding", type := (.object "java/lang/String"), accessFlags := 10, slot := 8, constantValue := 0 }, { name := "cons", type := (.object "java/io/Console"), accessFlags := 74, slot := 9, constantValue := 0 }, { name := "initialErrStream", type := (.object "java/io/PrintStream"), accessFlags := 74, slot := 10, constantValue := 0 }, { name := "props", type := (.object "java/util/Properties"), accessFlags := 10, slot := 11, constantValue := 0 }, { name := "lineSeparator", type := (.object "java/lang/String"), accessFlags := 10, slot := 12, constantValue := 0 }, { name := "bootLayer", type := (.object "java/lang/ModuleLayer"), accessFlags := 8, slot := 13, constantValue := 0 }]
  methods := #[k4m0, k4m1]
  instanceTypes := #[]
  staticTypes := #[(.object "java/io/InputStream"), (.object "java/io/PrintStream"), (.object "java/io/PrintStream"), (.object "java/io/InputStream"), .int, .int, .int, (.object "java/lang/SecurityManager"), (.object "java/lang/String"), (.object "java/io/Console"), (.object "java/io/PrintStream"), (.object "java/util/Properties"), (.object "java/lang/String"), (.object "java/lang/ModuleLayer")]
  resolved := Array.replicate 834 none
  statics := none }

def pool5 : Array CpInfo := pool [(1, .class_ 2), (0, u "java/lang/Cloneable"), (0, .class_ 4), (0, u "java/lang/Object")] 2

/-- java/lang/Cloneable -/
def k5 : Class := { plain "java/lang/Cloneable" (some 0) with
  accessFlags := 1537
  interfaces := #[]
  cf := some (fileOf pool5 1 #[] #[] 1537 3 #[] #[])
  fields := #[]
  methods := #[]
  instanceTypes := #[]
  staticTypes := #[]
  resolved := Array.replicate 7 none
  statics := none }

def pool6 : Array CpInfo := pool [(1, .class_ 2), (0, u "java/lang/Math"), (1, .class_ 6), (1, u "java/lang/Object"), (0, u "<init>"), (0, u "()V"), (89, .class_ 100), (1, u "java/lang/Math$RandomNumberGeneratorHolder"), (71, u "negativeZeroFloatBits"), (0, u "J"), (2, u "negativeZeroDoubleBits"), (21, u "max"), (2, u "min"), (43, u "$assertionsDisabled"), (0, u "Z"), (88, u "(II)I"), (2, u "twoToTheDoubleScaleDown"), (0, u "D"), (4, u "twoToTheDoubleScaleUp"), (9, u "E"), (3, u "PI"), (2, u "TAU"), (2, u "DEGREES_TO_RADIANS"), (0, u "RADIANS_TO_DEGREES")] 94

def k6m0 : Method := { name := "<init>", desc := "()V", sig := { parameters := [], returnType := none }, accessFlags := 2, code := none }
def k6c1 : Code := { maxStack := 2, maxLocals := 2, code := jdk_29_method_65_code, exceptionTable := #[], attributes := #[] }
def k6m1 : Method := { name := "max", desc := "(II)I", sig := { parameters := [.int, .int], returnType := some .int }, accessFlags := 9, code := some k6c1 }
def k6c2 : Code := { maxStack := 2, maxLocals := 2, code := jdk_29_method_69_code, exceptionTable := #[], attributes := #[] }
def k6m2 : Method := { name := "min", desc := "(II)I", sig := { parameters := [.int, .int], returnType := some .int }, accessFlags := 9, code := some k6c2 }
/-- java/lang/Math -/
def k6 : Class := { plain "java/lang/Math" (some 0) with
  accessFlags := 49
  interfaces := #[]
  cf := some (fileOf pool6 1 #[.nestMembers #[98]] #[{ accessFlags := 2, nameIndex := 7, descriptorIndex := 8, attributes := #[] }, { accessFlags := 9, nameIndex := 198, descriptorIndex := 335, attributes := #[] }, { accessFlags := 9, nameIndex := 201, descriptorIndex := 335, attributes := #[] }] 49 4 #[] #[{ accessFlags := 25, nameIndex := 354, descriptorIndex := 339, attributes := #[] }, { accessFlags := 25, nameIndex := 358, descriptorIndex := 339, attributes := #[] }, { accessFlags := 25, nameIndex := 361, descriptorIndex := 339, attributes := #[] }, { accessFlags := 26, nameIndex := 364, descriptorIndex := 339, attributes := #[] }, { accessFlags := 26, nameIndex := 365, descriptorIndex := 339, attributes := #[] }, { accessFlags := 26, nameIndex := 172, descriptorIndex := 173, attributes := #[] }, { accessFlags := 26, nameIndex := 176, descriptorIndex := 173, attributes := #[] }, { accessFlags := 8, nameIndex := 344, descriptorIndex := 339, attributes := #[] }, { accessFlags := 8, nameIndex := 338, descriptorIndex := 339, attributes := #[] }, { accessFlags := 4120, nameIndex := 245, descriptorIndex := 246, attributes := #[] }])
  fields := #[{ name := "E", type := .double, accessFlags := 25, slot := 0, constantValue := 0 }, { name := "PI", type := .double, accessFlags := 25, slot := 1, constantValue := 0 }, { name := "TAU", type := .double, accessFlags := 25, slot := 2, constantValue := 0 }, { name := "DEGREES_TO_RADIANS", type := .double, accessFlags := 26, slot := 3, constantValue := 0 }, { name := "RADIANS_TO_DEGREES", type := .double, accessFlags := 26, slot := 4, constantValue := 0 }, { name := "negativeZeroFloatBits", type := .long, accessFlags := 26, slot := 5, constantValue := 0 }, { name := "negativeZeroDoubleBits", type := .long, accessFlags := 26, slot := 6, constantValue := 0 }, { name := "twoToTheDoubleScaleUp", type := .double, accessFlags := 8, slot := 7, constantValue := 0 }, { name := "twoToTheDoubleScaleDown", type := .double, accessFlags := 8, slot := 8, constantValue := 0 }, { name := "$assertionsDisabled", type := .boolean, accessFlags := 4120, slot := 9, constantValue := 0 }]
  methods := #[k6m0, k6m1, k6m2]
  instanceTypes := #[]
  staticTypes := #[.double, .double, .double, .double, .double, .long, .long, .double, .double, .boolean]
  resolved := Array.replicate 460 none
  statics := none }

def pool7 : Array CpInfo := pool [(1, u "java/io/Serializable"), (0, .class_ 1), (0, u "java/lang/Object"), (0, .class_ 3)] 3

/-- java/io/Serializable -/
def k7 : Class := { plain "java/io/Serializable" (some 0) with
  accessFlags := 1537
  interfaces := #[]
  cf := some (fileOf pool7 2 #[] #[] 1537 4 #[] #[])
  fields := #[]
  methods := #[]
  instanceTypes := #[]
  staticTypes := #[]
  resolved := Array.replicate 8 none
  statics := none }

/-- the primitive byte -/
def k8 : Class := { plain "byte" none with kind := .primitive 'B', accessFlags := 0x411 }
/-- [B -/
def k9 : Class := { plain "[B" (some 0) with kind := .array 8 .byte, interfaces := #[5, 7], accessFlags := 1041 }

/-- the primitive int -/
def k10 : Class := { plain "int" none with kind := .primitive 'I', accessFlags := 0x411 }
/-- [I -/
def k11 : Class := { plain "[I" (some 0) with kind := .array 10 .int, interfaces := #[5, 7], accessFlags := 1041 }

def heap : Heap := #[]
def classes : Array Class := #[k0, k1, k2, k3, k4, k5, k6, k7, k8, k9, k10, k11]
def interned : List (Array UInt16 × Addr) := []
def slotsUsed : Nat := 0
def theMethod : MethodId := ⟨1, 1⟩
def args0 : Array Value := #[.int 5, .int 6]
def aboutOver (below : List Frame) : State where
  vm := { classes := classes, interned := interned.toArray }
  heap := heap
  slotsUsed := slotsUsed
  threads := #[{ frames := .invoking theMethod args0 :: below }]
def below0 : List Frame := [.native { method := ⟨0, 0⟩, args := #[] }]
def about1 : State := aboutOver below0
def p0 : Program := .bare "" "" ""
def e0 : Env := launch0.env 0 0 0
theorem w_frames : about1.frames = Frame.invoking theMethod args0 :: below0 := rfl
set_option maxRecDepth 65536 in
theorem w_args : argsFit about1.vm theMethod args0 = true := by decide +kernel
set_option maxRecDepth 65536 in
theorem w_heap : heapFits about1 = true := by decide +kernel
set_option maxRecDepth 65536 in
theorem w_runnable : about1.curStatus? = some .runnable := by decide +kernel
set_option maxRecDepth 65536 in
theorem w_alone : about1.alone = true := by decide +kernel
set_option maxRecDepth 65536 in
theorem w_named : about1.methodNamed? x = some theMethod := by decide +kernel
set_option maxRecDepth 65536 in
theorem w_hears : about1.hears theMethod below0 = true := by decide +kernel
set_option maxRecDepth 65536 in
theorem w_ripe : about1.ripe theMethod args0 below0 = true := by decide +kernel
theorem w_running : about1.status = .running := rfl
set_option maxRecDepth 65536 in
theorem w_room : about1.hasRoom e0.platform room_1 = true :=
  launch0.hasRoom_least _ room_1 (by decide +kernel) (by decide +kernel) (by decide +kernel) (by decide +kernel) (by decide +kernel) (by decide +kernel)
theorem allAtoms_all (ts : List Jvm.Cond) (a : Array Jvm.Value) (st : Jvm.State) : (allAtoms ts).before a st = ts.all (fun c => c.before a st) := by
  induction ts with
  | nil => rfl
  | cons c t ih =>
    show (Jvm.Cond.and c (allAtoms t)).before a st = _
    rw [Jvm.Cond.before_and, ih, List.all_cons]
def words1 : List Jvm.Cond := Jvm.Cond.code x code maxLocals ret :: tables_1
/-- a 'code' word, met by the world's own term for the bytes: nothing is compared byte by byte -/
theorem code_word {y : MethodName} {bytes : ByteArray} {mx : Nat} {rt : Option FieldType} {a : Array Value} {s : State} {m : MethodId} {meth : Method} {c : Code} (h1 : s.methodNamed? y = some m) (h2 : s.vm.method? m = some meth) (h3 : meth.code = some c) (h4 : c.code = bytes)
    (h5 : (c.maxLocals == mx && c.exceptionTable.isEmpty && decide (c.maxStack ≤ mostOperands) && decide (meth.sig.returnType = rt) && !meth.locks && decide (parseMethodDescriptor y.desc = some meth.sig)) = true) : (Jvm.Cond.code y bytes mx rt).before a s = true := by
  simp only [Bool.and_eq_true, beq_iff_eq, Bool.not_eq_true', decide_eq_true_eq] at h5
  obtain ⟨⟨⟨⟨⟨g1, g2⟩, g3⟩, g4⟩, g5⟩, g6⟩ := h5
  simp [Cond.before, Cond.holds, Cond.value, h1, h2, h3, h4, g1, g2, g3, g4, g5, g6]
def isCode : Jvm.Cond → Bool
  | .code _ _ _ _ => true
  | _ => false
theorem all_split {L : List Jvm.Cond} {P : Jvm.Cond → Bool} (h1 : L.all (fun c => isCode c || P c) = true) (h2 : ∀ c ∈ L.filter isCode, P c = true) : L.all P = true := by
  refine List.all_eq_true.mpr fun c hc => ?_
  have h := List.all_eq_true.mp h1 c hc
  rcases Bool.eq_false_or_eq_true (isCode c) with hi | hi
  · exact h2 c (List.mem_filter.mpr ⟨hc, hi⟩)
  · simpa [hi] using h
set_option maxRecDepth 65536 in
theorem w_c0 : (Jvm.Cond.code x code maxLocals ret).before args0 about1 = true := code_word (m := ⟨1, 1⟩) (meth := k1m1) (c := k1c1) (by decide +kernel) rfl rfl rfl (by decide +kernel)
set_option maxRecDepth 65536 in
theorem w_c1 : (Jvm.Cond.code ({ cls := "com/example/tablox/tablox/tableau/Dependencies", name := "on", desc := "(I)Lcom/example/tablox/tablox/tableau/Dependencies;" } : Jvm.MethodName) prog_21_method_2_code (1 : Nat) (Option.some (Jvm.ClassFile.FieldType.object "com/example/tablox/tablox/tableau/Dependencies"))).before args0 about1 = true := code_word (m := ⟨2, 1⟩) (meth := k2m1) (c := k2c1) (by decide +kernel) rfl rfl rfl (by decide +kernel)
set_option maxRecDepth 65536 in
theorem w_c2 : (Jvm.Cond.code ({ cls := "com/example/tablox/tablox/tableau/Dependencies", name := "<init>", desc := "([I)V" } : Jvm.MethodName) prog_21_method_1_code (2 : Nat) (Option.none : Option Jvm.ClassFile.FieldType)).before args0 about1 = true := code_word (m := ⟨2, 0⟩) (meth := k2m0) (c := k2c0) (by decide +kernel) rfl rfl rfl (by decide +kernel)
set_option maxRecDepth 65536 in
theorem w_c3 : (Jvm.Cond.code ({ cls := "java/lang/Object", name := "<init>", desc := "()V" } : Jvm.MethodName) object_method_1_code (1 : Nat) (Option.none : Option Jvm.ClassFile.FieldType)).before args0 about1 = true := code_word (m := ⟨0, 0⟩) (meth := k0m0) (c := k0c0) (by decide +kernel) rfl rfl rfl (by decide +kernel)
set_option maxRecDepth 65536 in
theorem w_c4 : (Jvm.Cond.code ({ cls := "com/example/tablox/tablox/tableau/Dependencies", name := "isEmpty", desc := "()Z" } : Jvm.MethodName) prog_21_method_5_code (1 : Nat) (Option.some Jvm.ClassFile.FieldType.boolean)).before args0 about1 = true := code_word (m := ⟨2, 4⟩) (meth := k2m4) (c := k2c4) (by decide +kernel) rfl rfl rfl (by decide +kernel)
set_option maxRecDepth 65536 in
theorem w_c5 : (Jvm.Cond.code ({ cls := "com/example/tablox/tablox/tableau/Dependencies", name := "last", desc := "()I" } : Jvm.MethodName) prog_21_method_6_code (1 : Nat) (Option.some Jvm.ClassFile.FieldType.int)).before args0 about1 = true := code_word (m := ⟨2, 5⟩) (meth := k2m5) (c := k2c5) (by decide +kernel) rfl rfl rfl (by decide +kernel)
set_option maxRecDepth 65536 in
theorem w_c6 : (Jvm.Cond.code ({ cls := "com/example/tablox/tablox/tableau/Dependencies", name := "without", desc := "(I)Lcom/example/tablox/tablox/tableau/Dependencies;" } : Jvm.MethodName) prog_21_method_4_code (5 : Nat) (Option.some (Jvm.ClassFile.FieldType.object "com/example/tablox/tablox/tableau/Dependencies"))).before args0 about1 = true := code_word (m := ⟨2, 3⟩) (meth := k2m3) (c := k2c3) (by decide +kernel) rfl rfl rfl (by decide +kernel)
set_option maxRecDepth 65536 in
theorem w_c7 : (Jvm.Cond.code ({ cls := "java/util/Arrays", name := "binarySearch", desc := "([II)I" } : Jvm.MethodName) jdk_65_method_57_code (2 : Nat) (Option.some Jvm.ClassFile.FieldType.int)).before args0 about1 = true := code_word (m := ⟨3, 1⟩) (meth := k3m1) (c := k3c1) (by decide +kernel) rfl rfl rfl (by decide +kernel)
set_option maxRecDepth 65536 in
theorem w_c8 : (Jvm.Cond.code ({ cls := "java/util/Arrays", name := "binarySearch0", desc := "([IIII)I" } : Jvm.MethodName) jdk_65_method_59_code (8 : Nat) (Option.some Jvm.ClassFile.FieldType.int)).before args0 about1 = true := code_word (m := ⟨3, 2⟩) (meth := k3m2) (c := k3c2) (by decide +kernel) rfl rfl rfl (by decide +kernel)
set_option maxRecDepth 65536 in
theorem w_c9 : (Jvm.Cond.code ({ cls := "com/example/tablox/tablox/tableau/Dependencies", name := "union", desc := "(Lcom/example/tablox/tablox/tableau/Dependencies;)Lcom/example/tablox/tablox/tableau/Dependencies;" } : Jvm.MethodName) prog_21_method_3_code (9 : Nat) (Option.some (Jvm.ClassFile.FieldType.object "com/example/tablox/tablox/tableau/Dependencies"))).before args0 about1 = true := code_word (m := ⟨2, 2⟩) (meth := k2m2) (c := k2c2) (by decide +kernel) rfl rfl rfl (by decide +kernel)
set_option maxRecDepth 65536 in
theorem w_c10 : (Jvm.Cond.code ({ cls := "java/util/Arrays", name := "copyOf", desc := "([II)[I" } : Jvm.MethodName) jdk_65_method_123_code (3 : Nat) (Option.some (Jvm.ClassFile.FieldType.array Jvm.ClassFile.FieldType.int))).before args0 about1 = true := code_word (m := ⟨3, 3⟩) (meth := k3m3) (c := k3c3) (by decide +kernel) rfl rfl rfl (by decide +kernel)
set_option maxRecDepth 65536 in
theorem w_c11 : (Jvm.Cond.code ({ cls := "java/lang/Math", name := "max", desc := "(II)I" } : Jvm.MethodName) jdk_29_method_65_code (2 : Nat) (Option.some Jvm.ClassFile.FieldType.int)).before args0 about1 = true := code_word (m := ⟨6, 1⟩) (meth := k6m1) (c := k6c1) (by decide +kernel) rfl rfl rfl (by decide +kernel)
set_option maxRecDepth 65536 in
theorem w_c12 : (Jvm.Cond.code ({ cls := "java/lang/Math", name := "min", desc := "(II)I" } : Jvm.MethodName) jdk_29_method_69_code (2 : Nat) (Option.some Jvm.ClassFile.FieldType.int)).before args0 about1 = true := code_word (m := ⟨6, 2⟩) (meth := k6m2) (c := k6c2) (by decide +kernel) rfl rfl rfl (by decide +kernel)
def codes1 : List Jvm.Cond := [Jvm.Cond.code x code maxLocals ret, Jvm.Cond.code ({ cls := "com/example/tablox/tablox/tableau/Dependencies", name := "on", desc := "(I)Lcom/example/tablox/tablox/tableau/Dependencies;" } : Jvm.MethodName) prog_21_method_2_code (1 : Nat) (Option.some (Jvm.ClassFile.FieldType.object "com/example/tablox/tablox/tableau/Dependencies")), Jvm.Cond.code ({ cls := "com/example/tablox/tablox/tableau/Dependencies", name := "<init>", desc := "([I)V" } : Jvm.MethodName) prog_21_method_1_code (2 : Nat) (Option.none : Option Jvm.ClassFile.FieldType), Jvm.Cond.code ({ cls := "java/lang/Object", name := "<init>", desc := "()V" } : Jvm.MethodName) object_method_1_code (1 : Nat) (Option.none : Option Jvm.ClassFile.FieldType), Jvm.Cond.code ({ cls := "com/example/tablox/tablox/tableau/Dependencies", name := "isEmpty", desc := "()Z" } : Jvm.MethodName) prog_21_method_5_code (1 : Nat) (Option.some Jvm.ClassFile.FieldType.boolean), Jvm.Cond.code ({ cls := "com/example/tablox/tablox/tableau/Dependencies", name := "last", desc := "()I" } : Jvm.MethodName) prog_21_method_6_code (1 : Nat) (Option.some Jvm.ClassFile.FieldType.int), Jvm.Cond.code ({ cls := "com/example/tablox/tablox/tableau/Dependencies", name := "without", desc := "(I)Lcom/example/tablox/tablox/tableau/Dependencies;" } : Jvm.MethodName) prog_21_method_4_code (5 : Nat) (Option.some (Jvm.ClassFile.FieldType.object "com/example/tablox/tablox/tableau/Dependencies")), Jvm.Cond.code ({ cls := "java/util/Arrays", name := "binarySearch", desc := "([II)I" } : Jvm.MethodName) jdk_65_method_57_code (2 : Nat) (Option.some Jvm.ClassFile.FieldType.int), Jvm.Cond.code ({ cls := "java/util/Arrays", name := "binarySearch0", desc := "([IIII)I" } : Jvm.MethodName) jdk_65_method_59_code (8 : Nat) (Option.some Jvm.ClassFile.FieldType.int), Jvm.Cond.code ({ cls := "com/example/tablox/tablox/tableau/Dependencies", name := "union", desc := "(Lcom/example/tablox/tablox/tableau/Dependencies;)Lcom/example/tablox/tablox/tableau/Dependencies;" } : Jvm.MethodName) prog_21_method_3_code (9 : Nat) (Option.some (Jvm.ClassFile.FieldType.object "com/example/tablox/tablox/tableau/Dependencies")), Jvm.Cond.code ({ cls := "java/util/Arrays", name := "copyOf", desc := "([II)[I" } : Jvm.MethodName) jdk_65_method_123_code (3 : Nat) (Option.some (Jvm.ClassFile.FieldType.array Jvm.ClassFile.FieldType.int)), Jvm.Cond.code ({ cls := "java/lang/Math", name := "max", desc := "(II)I" } : Jvm.MethodName) jdk_29_method_65_code (2 : Nat) (Option.some Jvm.ClassFile.FieldType.int), Jvm.Cond.code ({ cls := "java/lang/Math", name := "min", desc := "(II)I" } : Jvm.MethodName) jdk_29_method_69_code (2 : Nat) (Option.some Jvm.ClassFile.FieldType.int)]
set_option maxRecDepth 65536 in
theorem codes_eq : words1.filter isCode = codes1 := rfl
theorem w_codes : ∀ c ∈ words1.filter isCode, c.before args0 about1 = true := by
  rw [codes_eq]
  intro c hc
  simp only [codes1, List.mem_cons, List.not_mem_nil, or_false] at hc
  rcases hc with rfl | rfl | rfl | rfl | rfl | rfl | rfl | rfl | rfl | rfl | rfl | rfl | rfl
  · exact w_c0
  · exact w_c1
  · exact w_c2
  · exact w_c3
  · exact w_c4
  · exact w_c5
  · exact w_c6
  · exact w_c7
  · exact w_c8
  · exact w_c9
  · exact w_c10
  · exact w_c11
  · exact w_c12
set_option maxRecDepth 65536 in
theorem w_t1 : (words1.take 24).all (fun c => isCode c || c.before args0 about1) = true := by decide +kernel
set_option maxRecDepth 65536 in
theorem w_t2 : ((words1.drop 24).take 24).all (fun c => isCode c || c.before args0 about1) = true := by decide +kernel
set_option maxRecDepth 65536 in
theorem w_t3 : ((words1.drop 24).drop 24).all (fun c => isCode c || c.before args0 about1) = true := by decide +kernel
theorem w_tables : (allAtoms (Jvm.Cond.code x code maxLocals ret :: tables_1)).before args0 about1 = true := by
  rw [allAtoms_all]
  show words1.all (fun c => c.before args0 about1) = true
  refine all_split ?_ w_codes
  rw [← List.take_append_drop 24 words1, List.all_append, w_t1, ← List.take_append_drop 24 (words1.drop 24), List.all_append, w_t2, w_t3]
  rfl
set_option maxRecDepth 65536 in
theorem w_case : (Jvm.Cond.and given_1 narrow_1).before args0 about1 = true := by decide +kernel
theorem w_applies : (headSpec (Jvm.Cond.code x code maxLocals ret :: tables_1) room_1).applies x e0.platform about1 = true :=
  (Spec.applies_iff w_frames).mpr ⟨w_running, w_runnable, w_alone, w_named, w_hears, w_ripe, w_room, w_tables⟩
theorem atStart : AtStart classFile x code maxLocals ret World_1 tables_1 room_1 Calls_1 rest_1 Pre_1 launch0 p0 e0 about1 theMethod args0 below0 :=
  ⟨lists_1, trivial, launch0.admits_env _ _ _, launch0.least_env, fairChoices_fair.cas, fairChoices_fair.clock, w_frames, w_args, w_heap, w_applies, trivial, trivial, w_case⟩
end start1
theorem witness_1 : WitnessClaimed_1 := ⟨start1.p0, start1.e0, start1.about1, start1.theMethod, start1.args0, start1.below0, start1.atStart⟩
end Jvm.Pilot.@@N@@
