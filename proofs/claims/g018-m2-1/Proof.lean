import JvmDerived
import JvmDerived.Pilot.@@N@@Statement
import JvmDerived.Pilot.@@N@@Code
set_option linter.unusedVariables false
set_option linter.unusedSimpArgs false
namespace Jvm.RoadKit
open Sem ClassFile Op Lib Jvm.Stand Jvm.Free Jvm.LawKit
section New
variable {p : Program} {l : Launch} {e : Env} {R : Room} {s : State} {m : MethodId} {args : Array Value} {below : List Frame} {meth : Method} {c : Code} {T : State} {locs : List Loc} {cells slots : Nat}
theorem retI (X : Stand p l e R s m args below meth c T locs cells slots) (hx : p.tables.exec = Jvm.exec) {pc : Nat} {Ls : Array Slot} {z : Int32} {rest : List Value} (hret : meth.sig.returnType = some .int) (hd : decode c.code pc = .ok (.ireturn, 1)) {fs : List Frame}
    (hl : ∀ (f : JFrame) (acts : List Action), f.method = m → f.locked = none → f.entered = [] → (doReturn e (T.setTop f) acts (some (.int z))).1 = T.setFrames fs) : Steps p.tables e below (T.setTop (mkF m pc Ls (.int z :: rest))) (T.setFrames fs) := by
  have hm' : T.vm.method? m = some meth := X.method'
  have hn : narrow .int (.int z) = .int z := rfl
  show Steps p.tables e below (T.setTop { method := m, pc := pc, locals := Ls, stack := _ :: rest, locked := none }) _
  jvm_step X.here [X.here.top, hx, hd, hm', hret, hn]
  first | (intro acts; rw [hl _ acts rfl rfl rfl]) | rw [hl _ _ rfl rfl rfl]
  exact Steps.refl _
theorem retD (X : Stand p l e R s m args below meth c T locs cells slots) (hx : p.tables.exec = Jvm.exec) {pc : Nat} {Ls : Array Slot} {z : UInt64} {rest : List Value} (hret : meth.sig.returnType = some .double) (hd : decode c.code pc = .ok (.dreturn, 1)) {fs : List Frame}
    (hl : ∀ (f : JFrame) (acts : List Action), f.method = m → f.locked = none → f.entered = [] → (doReturn e (T.setTop f) acts (some (.double z))).1 = T.setFrames fs) : Steps p.tables e below (T.setTop (mkF m pc Ls (.double z :: rest))) (T.setFrames fs) := by
  have hm' : T.vm.method? m = some meth := X.method'
  have hn : narrow .double (.double z) = .double z := rfl
  show Steps p.tables e below (T.setTop { method := m, pc := pc, locals := Ls, stack := _ :: rest, locked := none }) _
  jvm_step X.here [X.here.top, hx, hd, hm', hret, hn]
  first | (intro acts; rw [hl _ acts rfl rfl rfl]) | rw [hl _ _ rfl rfl rfl]
  exact Steps.refl _
end New
end Jvm.RoadKit
namespace Jvm.Pilot.@@N@@
open Jvm Jvm.ClassFile Sem Op Lib Jvm.Free Jvm.Stand Jvm.LawKit Jvm.RoadKit Bundle Jvm.Pilot.@@N@@.Jvm.D
theorem own_at {Z : State} {a0 : Array Value} (hw : ∀ d ∈ tables_1, d.before a0 Z = true) (i : Nat) {d : Jvm.Cond} (h : tables_1[i]? = some d) : d.before a0 Z = true := hw _ (List.mem_of_getElem? h)
abbrev OwnS (p : Program) (e : Env) (below : List Frame) (T : State) (g : JFrame) (t : State) : Prop := Steps p.tables e below (T.setTop g) t
theorem own_selpriv {s : State} {args : Array Value} {y : MethodName} {n : Nat} (hy : y.cls ≠ "java/lang/invoke/MethodHandle" ∧ y.cls ≠ "java/lang/invoke/VarHandle") (hins : (Jvm.Cond.instantiable y.cls n).before args s = true) (hp : (Jvm.Cond.privateMethod y).before args s = true) (hi : (Jvm.Cond.instanceMethod y).before args s = true) : (Jvm.Cond.selects y.cls y y).before args s = true := by
  obtain ⟨c, k, hc, hk, -, hniab, -⟩ := Cond.instantiable_spec hins
  exact selects_self_of_private hc hk (Bool.or_eq_false_iff.mp hniab).1 (Cond.privateMethod_at hp) hi hy
theorem own_irr (x : Int32) : ¬ (x < x) := by rw [Int32.lt_iff_toInt_lt]; omega
theorem own_asymm {x y : Int32} (h : x < y) : ¬ (y < x) := by rw [Int32.lt_iff_toInt_lt] at *; omega
theorem own_irr64 (x : Int64) : ¬ (x < x) := by rw [Int64.lt_iff_toInt_lt]; omega
theorem own_asymm64 {x y : Int64} (h : x < y) : ¬ (y < x) := by rw [Int64.lt_iff_toInt_lt] at *; omega
theorem own_ne {x y : Int32} (h : x < y) : ¬ (x = y) := fun q => own_irr x (by rw [← q] at h; exact h)
theorem own_ne' {x y : Int32} (h : x < y) : ¬ (y = x) := fun q => own_irr x (by rw [q] at h; exact h)
theorem own_tri (x y : Int32) : x < y ∨ x = y ∨ y < x := by
  rw [Int32.lt_iff_toInt_lt, Int32.lt_iff_toInt_lt, ← Int32.toInt_inj]; omega
theorem own_ns {Z : State} {h : Heap} {a : Addr} {C : String} (F : Exa Z h a C) : ∃ cell : Cell, h[a]? = some cell ∧ cell.vm.isStatics = false := by
  obtain ⟨cell, k, h1, -, -, h4, -⟩ := F; exact ⟨cell, h1, h4⟩
theorem own_sta_keep {Z : State} {h h' : Heap} {ws : List Addr} {C n d : String} {v : Value} (F : Sta Z h C n d v) (K : Keep h h' ws) (q : ∀ x ∈ ws, ∃ cell : Cell, h[x]? = some cell ∧ cell.vm.isStatics = false) : Sta Z h' C n d v := by
  obtain ⟨cf, i, k, f, st, cell, h1, h2, h3, h4, h5, h6, h7⟩ := F
  refine ⟨cf, i, k, f, st, cell, h1, h2, h3, h4, K.2.1 st cell h5 fun r => ?_, h6, h7⟩
  obtain ⟨c2, g1, g2⟩ := q st r
  cases h5.symm.trans g1
  rw [g2] at h6; cases h6
theorem own_eq_int {args : Array Value} {first s : State} {o : Option Outcome} {idx : List Nat} {t : Term} {k : Int32} (h : (Jvm.Cond.eq t (.int k)).value args first o s idx = some true) : t.eval args first o idx s = some (.int k) := by
  simp only [Cond.value, Term.eval] at h
  cases ht : t.eval args first o idx s with
  | none => simp [ht] at h
  | some x => cases x <;> simp [ht] at h ⊢; exact h
theorem own_m4 (q : Int32) : (q &&& (3 : Int32)) = (0 : Int32) ∨ (q &&& (3 : Int32)) = (1 : Int32) ∨ (q &&& (3 : Int32)) = (2 : Int32) ∨ (q &&& (3 : Int32)) = (3 : Int32) := by
  have h := c_and q 3 (by decide)
  have e : (3 : Int32).toInt = 3 := by decide
  have h2 : (q &&& (3 : Int32)).toInt = 0 ∨ (q &&& (3 : Int32)).toInt = 1 ∨ (q &&& (3 : Int32)).toInt = 2 ∨ (q &&& (3 : Int32)).toInt = 3 := by omega
  rcases h2 with h2 | h2 | h2 | h2
  · exact Or.inl (Int32.toInt_inj.mp h2)
  · exact Or.inr (Or.inl (Int32.toInt_inj.mp h2))
  · exact Or.inr (Or.inr (Or.inl (Int32.toInt_inj.mp h2)))
  · exact Or.inr (Or.inr (Or.inr (Int32.toInt_inj.mp h2)))
theorem own_le (x : Int32) : ¬ ((255 : Int32) < ((x &&& (255 : Int32)).toUInt32.toUInt16.toUInt32.toInt32).toUInt32.toUInt16.toUInt32.toInt32) := by
  rw [i2c_mask, i2c_mask, Int32.lt_iff_toInt_lt]
  have h := c_and x 255 (by decide)
  have e : (255 : Int32).toInt = 255 := by decide
  omega
def own_n (q : Int32) : Int32 := (q &&& (3 : Int32))
def own_str (p0 q : Int32) : List Value := if (q &&& (3 : Int32)) = (0 : Int32) then [] else if (q &&& (3 : Int32)) = (1 : Int32) then [(.int (((((p0 &&& (255 : Int32)).toUInt32.toUInt16.toUInt32.toInt32).toUInt32.toUInt16.toUInt32.toInt32).toInt8.toInt32).toInt8.toInt32))] else if (q &&& (3 : Int32)) = (2 : Int32) then [(.int (((((p0 &&& (255 : Int32)).toUInt32.toUInt16.toUInt32.toInt32).toUInt32.toUInt16.toUInt32.toInt32).toInt8.toInt32).toInt8.toInt32)), (.int (((((((p0.toUInt32 >>> ((8 : Int32) &&& 31).toUInt32).toInt32) &&& (255 : Int32)).toUInt32.toUInt16.toUInt32.toInt32).toUInt32.toUInt16.toUInt32.toInt32).toInt8.toInt32).toInt8.toInt32))] else [(.int (((((p0 &&& (255 : Int32)).toUInt32.toUInt16.toUInt32.toInt32).toUInt32.toUInt16.toUInt32.toInt32).toInt8.toInt32).toInt8.toInt32)), (.int (((((((p0.toUInt32 >>> ((8 : Int32) &&& 31).toUInt32).toInt32) &&& (255 : Int32)).toUInt32.toUInt16.toUInt32.toInt32).toUInt32.toUInt16.toUInt32.toInt32).toInt8.toInt32).toInt8.toInt32)), (.int (((((((p0.toUInt32 >>> ((16 : Int32) &&& 31).toUInt32).toInt32) &&& (255 : Int32)).toUInt32.toUInt16.toUInt32.toInt32).toUInt32.toUInt16.toUInt32.toInt32).toInt8.toInt32).toInt8.toInt32))]
def own_small (z : Int32) (L : List Value) : Prop := (z = 0 ∧ L = []) ∨ (∃ x0, z = 1 ∧ L = [.int x0]) ∨ (∃ x0 x1, z = 2 ∧ L = [.int x0, .int x1]) ∨ (∃ x0 x1 x2, z = 3 ∧ L = [.int x0, .int x1, .int x2])
theorem own_sm (p q : Int32) : own_small (own_n q) (own_str p q) := by
  unfold own_small own_n own_str
  rcases own_m4 q with h | h | h | h
  · rw [h]; exact Or.inl ⟨rfl, rfl⟩
  · rw [h]; exact Or.inr (Or.inl ⟨_, rfl, rfl⟩)
  · rw [h]; exact Or.inr (Or.inr (Or.inl ⟨_, _, rfl, rfl⟩))
  · rw [h]; exact Or.inr (Or.inr (Or.inr ⟨_, _, _, rfl, rfl⟩))
theorem own_len {z : Int32} {L : List Value} (h : own_small z L) : z = L.length.toInt32 := by
  rcases h with ⟨rfl, rfl⟩ | ⟨x0, rfl, rfl⟩ | ⟨x0, x1, rfl, rfl⟩ | ⟨x0, x1, x2, rfl, rfl⟩ <;> rfl
theorem own_eqn {p q p' q' : Int32} (h : own_str p q = own_str p' q') : own_n q = own_n q' := by rw [own_len (own_sm p q), own_len (own_sm p' q'), h]
def own_EL : List (String × Nat) := [("java/lang/String", 7)]
theorem own_mem0 : ("java/lang/String", 7) ∈ own_EL := List.mem_of_getElem? (i := 0) rfl
theorem own_ew {Z : State} {a0 : Array Value} (hw : ∀ d ∈ tables_1, d.before a0 Z = true) : EW Z a0 own_EL := EW.cons (own_at hw 88 rfl) (by decide) (EW.nil)
theorem own_ws {Z : State} {a0 : Array Value} (hw : ∀ d ∈ tables_1, d.before a0 Z = true) : ∀ a ∈ Bundle.stringAtoms, a.before a0 Z = true := by
  intro d hd
  simp only [Bundle.stringAtoms, List.mem_cons, List.not_mem_nil, or_false] at hd
  rcases hd with rfl | rfl | rfl | rfl | rfl | rfl | rfl
  · exact own_at hw 6 rfl
  · exact own_at hw 5 rfl
  · exact own_at hw 23 rfl
  · exact own_at hw 33 rfl
  · exact own_at hw 31 rfl
  · exact own_at hw 41 rfl
  · exact own_at hw 42 rfl
theorem own_elc : ∀ p ∈ own_EL, p ∈ consts_1 := by decide
theorem own_safe_null {Z : State} {vm : Vm} {h : Heap} {x : Addr} {EL : List (String × Nat)} (hal : Z.vm.Alike vm) (E : Exa Z h x "java/lang/String") (F : Fld Z h x "java/lang/String" "value" "[B" .null) : Safe Z EL vm h x := fun B => by
  obtain ⟨p, hp, u, a, hB, q, hqa, G, hx⟩ := B
  obtain ⟨cS, ⟨⟨s1, s2, s3, ⟨cv, kv, iv, s4, s4'⟩, s5, s6, s7, s8, s9, s10, r⟩, hfS, hcS⟩, k, hBB, hbyt⟩ := G
  rcases hx with rfl | rfl
  · obtain ⟨cell, cf, k2, i, f, h1, h2, -, -, -, -, h7⟩ := F
    obtain ⟨kv', z4⟩ := ff_back (U := Wst Z vm h) hal s4
    cases h2.symm.trans z4
    cases h1.symm.trans (show h[q.sa]? = some q.sC from s1)
    cases h7.symm.trans s8
  · obtain ⟨cell, k2, h1, h2, -⟩ := E
    cases h1.symm.trans (show h[q.sd]? = some q.SA from s10)
    have e1 : Z.vm.findClass "[B" = some q.SA.cls := by rw [← hal.findClass]; exact hBB
    obtain ⟨k3, a1, a2⟩ := Vm.findClass_spec h2
    obtain ⟨k4, b1, b2⟩ := Vm.findClass_spec e1
    cases a1.symm.trans b1
    have := a2.symm.trans b2
    revert this; decide
theorem own_ncs {args : Array Value} {s : State} {w : Int32} (ev : (Term.static "java/lang/String" "COMPACT_STRINGS" "Z").eval args s none [] s = some (.int w)) (h : Jvm.Lit.compactW.before args s = true) : ¬ (w = (0 : Int32)) := by
  intro q
  subst q
  have h2 := not_v (Cond.before_iff.mp h)
  rw [eq_i ev (Term.int_eval (0 : Int32)) rfl] at h2
  cases h2
abbrev cS0 : String := "com/example/tablox/tablox/concept/Role"
abbrev cS1 : String := "java/lang/String"
abbrev cS2 : String := "(Ljava/lang/Object;)Z"
abbrev cS3 : String := "java/lang/StringUTF16"
abbrev cS4 : String := "()Lcom/example/tablox/tablox/concept/Role;"
abbrev cS5 : String := "(Ljava/lang/String;)Lcom/example/tablox/tablox/concept/Role;"
abbrev cS6 : String := "Ljava/lang/String;"
abbrev cS7 : String := "com/example/tablox/tablox/concept/RoleNamedPinLaw"
theorem d6_0 : decode jdk_52_method_21_code 0 = .ok (.iconst 0, 1) := by decide +kernel
theorem d6_1 : decode jdk_52_method_21_code 1 = .ok (.istore 5, 2) := by decide +kernel
theorem d6_3 : decode jdk_52_method_21_code 3 = .ok (.iload 5, 2) := by decide +kernel
theorem d6_5 : decode jdk_52_method_21_code 5 = .ok (.iload 4, 2) := by decide +kernel
theorem d6_7 : decode jdk_52_method_21_code 7 = .ok (.if_icmp .ge 37, 3) := by decide +kernel
theorem d6_10 : decode jdk_52_method_21_code 10 = .ok (.aload_n 0, 1) := by decide +kernel
theorem d6_11 : decode jdk_52_method_21_code 11 = .ok (.iload_n 1, 1) := by decide +kernel
theorem d6_12 : decode jdk_52_method_21_code 12 = .ok (.caload, 1) := by decide +kernel
theorem d6_13 : decode jdk_52_method_21_code 13 = .ok (.istore 6, 2) := by decide +kernel
theorem d6_15 : decode jdk_52_method_21_code 15 = .ok (.iload 6, 2) := by decide +kernel
theorem d6_17 : decode jdk_52_method_21_code 17 = .ok (.sipush 255, 3) := by decide +kernel
theorem d6_20 : decode jdk_52_method_21_code 20 = .ok (.if_icmp .le 6, 3) := by decide +kernel
theorem d6_26 : decode jdk_52_method_21_code 26 = .ok (.aload_n 2, 1) := by decide +kernel
theorem d6_27 : decode jdk_52_method_21_code 27 = .ok (.iload_n 3, 1) := by decide +kernel
theorem d6_28 : decode jdk_52_method_21_code 28 = .ok (.iload 6, 2) := by decide +kernel
theorem d6_30 : decode jdk_52_method_21_code 30 = .ok (.i2b, 1) := by decide +kernel
theorem d6_31 : decode jdk_52_method_21_code 31 = .ok (.bastore, 1) := by decide +kernel
theorem d6_32 : decode jdk_52_method_21_code 32 = .ok (.iinc 1 1, 3) := by decide +kernel
theorem d6_35 : decode jdk_52_method_21_code 35 = .ok (.iinc 3 1, 3) := by decide +kernel
theorem d6_38 : decode jdk_52_method_21_code 38 = .ok (.iinc 5 1, 3) := by decide +kernel
theorem d6_41 : decode jdk_52_method_21_code 41 = .ok (.goto (-38), 3) := by decide +kernel
theorem d6_44 : decode jdk_52_method_21_code 44 = .ok (.iload 4, 2) := by decide +kernel
theorem d6_46 : decode jdk_52_method_21_code 46 = .ok (.ireturn, 1) := by decide +kernel
theorem pn_java_lang_StringUTF16 : plainName cS3 = true := by first | (simp [plainName, overriddenIn]; done) | decide +kernel
theorem ef_6 (m : MethodId) (x0 : Addr) (x1 : Int32) (x2 : Addr) (x3 : Int32) (x4 : Int32) : entryFrame m #[(.ref x0), (.int x1), (.ref x2), (.int x3), (.int x4)] 7 = mkF m 0 #[.val (.ref x0), .val (.int x1), .val (.ref x2), .val (.int x3), .val (.int x4), .unset, .unset] [] := by first | (simp [entryFrame, mkF, argsToLocals, Value.category]; done) | rfl
def Q_6_1 (Z : State) (r0 : Addr) (r2 : Addr) (kC : ClassId) (kB : ClassId) (x0 : Int32) (h0 : Heap) (n0 : Nat) (v : Option Value) (h : Heap) (L : List Loc) : Prop := v = some (.int 1) ∧ Fr n0 L ∧ Keep h0 h [r2] ∧ Arv Z h r2 kB .byte (1 : Int32) [(.int ((x0.toInt8.toInt32).toInt8.toInt32))] (.int 0)
set_option maxRecDepth 65536 in
set_option maxHeartbeats 40000000 in
theorem rm6_1 (l : Launch) (Z : State) (a0 : Array Value) (hw : ∀ d ∈ tables_1, d.before a0 Z = true) (ws : List Jvm.Cond) (r0 : Addr) (r2 : Addr) (kC : ClassId) (kB : ClassId) (x0 : Int32) (h0 : Heap) (n0 : Nat) (Z0 : n0 ≤ h0.size) (V_r0 : Arv Z h0 r0 kC .char (1 : Int32) [(.int x0)] (.int 0)) (V_r2 : Arv Z h0 r2 kB .byte (1 : Int32) [(.int 0)] (.int 0)) (E_r2 : Exa Z h0 r2 "[B") (hle_x0 : ¬ ((255 : Int32) < x0)) (ge_r2 : n0 ≤ r2) :
    MetFree l (⟨cS3, "compress", "([CI[BII)I"⟩ : MethodName) (head1 (Jvm.Cond.code (⟨cS3, "compress", "([CI[BII)I"⟩ : MethodName) jdk_52_method_21_code 7 (some .int) :: ws) ({ frames := 0, cells := 0, slots := 0, locals := 0 } : Room)) (fun a U => a = #[(.ref r0), (.int 0), (.ref r2), (.int 0), (.int 1)] ∧ Z.Warmed39 U.vm ∧ U.heap = h0) (fun _ _ _ _ _ => True) (fun _ U o U' => ∃ v L, o = .returned v ∧ Q_6_1 Z r0 r2 kC kB x0 h0 n0 v U'.heap L ∧ FrameEnd U o U' L ({ frames := 0, cells := 0, slots := 0, locals := 0 } : Room).cells ({ frames := 0, cells := 0, slots := 0, locals := 0 } : Room).slots) := by
  refine MetFree.of_bodySF (plainFor_of_name pn_java_lang_StringUTF16) hisR ?_
  intro p e s m args below meth c s₁ Bd hml0 hP hK
  obtain ⟨rfl, hZ, hh⟩ := hP
  have hx := Bd.exec
  have hby := Bd.bytes
  have hml : c.maxLocals = 7 := hml0
  have hown : s.vm.findClass cS3 = some m.cls := findClass_of_methodNamed Bd.named
  have hnm := (name_of_methodNamed Bd.named Bd.method).1
  have X0 : Stand p l e ({ frames := 0, cells := 0, slots := 0, locals := 0 } : Room) s m #[(.ref r0), (.int 0), (.ref r2), (.int 0), (.int 1)] below meth c s₁ [] 0 0 := Stand.of_body Bd
  have e0 : s₁.heap = h0 := by rw [← hh, Bd.state]; rfl
  have N0 := Fr.nil n0
  have k0 : ∀ t, OwnS p e below s₁ (mkF m 0 #[rv r0, iv 0, rv r2, iv 0, iv 1, .unset, .unset] []) t → OwnS p e below s₁ (entryFrame m #[(.ref r0), (.int 0), (.ref r2), (.int 0), (.int 1)] 7) t := fun t k => castTop (ef_6 m r0 (0 : Int32) r2 (0 : Int32) (1 : Int32)) k
  obtain ⟨cl_z1, Ar_z1, q_z1, S_z1, N_z1, H_z1, G_z1⟩ := id V_r0
  have hin2 : ¬ ((0 : Int32) < 0 ∨ cl_z1.slots.size ≤ ((0 : Int32)).toNatClampNeg) := inb_of S_z1 ⟨by decide, by decide⟩
  obtain ⟨cl_z3, Ar_z3, q_z3, S_z3, N_z3, H_z3, G_z3⟩ := id V_r2
  have hin4 : ¬ ((0 : Int32) < 0 ∨ cl_z3.slots.size ≤ ((0 : Int32)).toNatClampNeg) := inb_of S_z3 ⟨by decide, by decide⟩
  obtain ⟨T5, h5, X5, e5, W5, st5⟩ := stB X0 hx hZ e0 Ar_z3 (j := (0 : Int32)) hin4 (g := (mkF m 31 #[rv r0, iv 0, rv r2, iv 0, iv 1, iv 0, iv x0] [(.int (x0.toInt8.toInt32)), (.int 0), (.ref r2)])) rfl rfl (hb hby d6_31)
  have V5 : Arv Z h5 r2 kB .byte (1 : Int32) [(.int ((x0.toInt8.toInt32).toInt8.toInt32))] (.int 0) := Arv.set Ar_z3 q_z3 S_z3 N_z3 H_z3 G_z3 (fits_nar_byte _) W5 0 rfl (Nat.le_of_ble_eq_true rfl)
  have N5 := Fr.snoc X5 N0 ge_r2
  obtain ⟨fs, hr, hrun, hended, hW, hsame⟩ := X5.leave (v := some (.int 1)) (fun h => by rw [Bd.returns] at h; cases h)
  refine ⟨_, _, k0 _ ?_, hrun, hended, _, _, rfl, ?_, ⟨_, rfl⟩, hW, hsame.mono (by decide) (by decide)⟩
  · show OwnS p e below s₁ (mkF m 0 #[rv r0, iv 0, rv r2, iv 0, iv 1, .unset, .unset] []) _
    refine XS.iconst X0.here hx rfl (hb hby d6_0) ?_
    refine XS.istore X0.here hx rfl (hb hby d6_1) rfl (l' := #[rv r0, iv 0, rv r2, iv 0, iv 1, iv 0, .unset]) rfl ?_
    refine XS.iload X0.here hx rfl (hb hby d6_3) rfl ?_
    refine XS.iload X0.here hx rfl (hb hby d6_5) rfl ?_
    refine XS.icmpNo X0.here hx rfl (hb hby d6_7) rfl (tlt (by decide : (0 : Int32) < (1 : Int32))).2.1 ?_
    refine XS.aloadN X0.here hx rfl (hb hby d6_10) rfl rfl ?_
    refine XS.iloadN X0.here hx rfl (hb hby d6_11) rfl ?_
    refine X0.caload hx (j := (0 : Int32)) (v := (.int x0)) (by rw [e0]; exact Ar_z1.1) (State.isArrayOf_alike hZ.alike Ar_z1.2.1) Ar_z1.2.2 hin2 (Has.at H_z1 hin2 rfl) (g := (mkF m 12 #[rv r0, iv 0, rv r2, iv 0, iv 1, iv 0, .unset] [(.int 0), (.ref r0)])) rfl rfl (hb hby d6_12) _ ?_
    refine XS.istore X0.here hx rfl (hb hby d6_13) rfl (l' := #[rv r0, iv 0, rv r2, iv 0, iv 1, iv 0, iv x0]) rfl ?_
    refine XS.iload X0.here hx rfl (hb hby d6_15) rfl ?_
    refine XS.sipush X0.here hx rfl (hb hby d6_17) ?_
    refine XS.icmpYes X0.here hx rfl (pc0 := 20) (pc' := 26) rfl (hb hby d6_20) rfl (flt hle_x0).2.2.2 (by decide) (by decide) ?_
    refine XS.aloadN X0.here hx rfl (hb hby d6_26) rfl rfl ?_
    refine XS.iloadN X0.here hx rfl (hb hby d6_27) rfl ?_
    refine XS.iload X0.here hx rfl (hb hby d6_28) rfl ?_
    refine XS.i2b X0.here hx rfl (hb hby d6_30) rfl ?_
    refine st5 _ ?_
    refine XS.iinc X5.here hx rfl (hb hby d6_32) rfl (l' := #[rv r0, iv ((0 : Int32) + (1 : Int32)), rv r2, iv 0, iv 1, iv 0, iv x0]) rfl ?_
    refine XS.iinc X5.here hx rfl (hb hby d6_35) rfl (l' := #[rv r0, iv ((0 : Int32) + (1 : Int32)), rv r2, iv ((0 : Int32) + (1 : Int32)), iv 1, iv 0, iv x0]) rfl ?_
    refine XS.iinc X5.here hx rfl (hb hby d6_38) rfl (l' := #[rv r0, iv ((0 : Int32) + (1 : Int32)), rv r2, iv ((0 : Int32) + (1 : Int32)), iv 1, iv ((0 : Int32) + (1 : Int32)), iv x0]) rfl ?_
    refine XS.goto X5.here hx rfl (pc0 := 41) (pc' := 3) rfl (hb hby d6_41) (by decide) (by decide) ?_
    refine XS.iload X5.here hx rfl (hb hby d6_3) rfl ?_
    refine XS.iload X5.here hx rfl (hb hby d6_5) rfl ?_
    refine XS.icmpYes X5.here hx rfl (pc0 := 7) (pc' := 44) rfl (hb hby d6_7) rfl (flt (by decide : ¬ ((1 : Int32) < (1 : Int32)))).2.1 (by decide) (by decide) ?_
    refine XS.iload X5.here hx rfl (hb hby d6_44) rfl ?_
    exact retI X5 hx Bd.returns (hb hby d6_46) hr
  · show Q_6_1 Z _ _ _ _ _ h0 n0 _ T5.heap _
    rw [e5]
    exact ⟨rfl, N5, ((Keep.refl h0 [r2]).wr W5 (Or.inl (List.mem_of_getElem? (i := 0) rfl))), V5⟩
theorem pd_0 : parseMethodDescriptor "([CI[BII)I" = some ⟨[(.array .char), .int, (.array .byte), .int, .int], some .int⟩ := by decide +kernel
theorem d5_0 : decode jdk_52_method_16_code 0 = .ok (.iload_n 2, 1) := by decide +kernel
theorem d5_1 : decode jdk_52_method_16_code 1 = .ok (.newarray .byte, 2) := by decide +kernel
theorem d5_3 : decode jdk_52_method_16_code 3 = .ok (.astore_n 3, 1) := by decide +kernel
theorem d5_4 : decode jdk_52_method_16_code 4 = .ok (.aload_n 0, 1) := by decide +kernel
theorem d5_5 : decode jdk_52_method_16_code 5 = .ok (.iload_n 1, 1) := by decide +kernel
theorem d5_6 : decode jdk_52_method_16_code 6 = .ok (.aload_n 3, 1) := by decide +kernel
theorem d5_7 : decode jdk_52_method_16_code 7 = .ok (.iconst 0, 1) := by decide +kernel
theorem d5_8 : decode jdk_52_method_16_code 8 = .ok (.iload_n 2, 1) := by decide +kernel
theorem d5_9 : decode jdk_52_method_16_code 9 = .ok (.invokestatic 115, 3) := by decide +kernel
theorem d5_12 : decode jdk_52_method_16_code 12 = .ok (.istore 4, 2) := by decide +kernel
theorem d5_14 : decode jdk_52_method_16_code 14 = .ok (.iload 4, 2) := by decide +kernel
theorem d5_16 : decode jdk_52_method_16_code 16 = .ok (.iload_n 2, 1) := by decide +kernel
theorem d5_17 : decode jdk_52_method_16_code 17 = .ok (.if_icmp .eq 40, 3) := by decide +kernel
theorem d5_57 : decode jdk_52_method_16_code 57 = .ok (.aload_n 3, 1) := by decide +kernel
theorem d5_58 : decode jdk_52_method_16_code 58 = .ok (.areturn, 1) := by decide +kernel
theorem ef_5 (m : MethodId) (x0 : Addr) (x1 : Int32) (x2 : Int32) : entryFrame m #[(.ref x0), (.int x1), (.int x2)] 6 = mkF m 0 #[.val (.ref x0), .val (.int x1), .val (.int x2), .unset, .unset, .unset] [] := by first | (simp [entryFrame, mkF, argsToLocals, Value.category]; done) | rfl
def Q_5_1 (Z : State) (r0 : Addr) (kC : ClassId) (x0 : Int32) (h0 : Heap) (n0 : Nat) (v : Option Value) (h : Heap) (L : List Loc) : Prop := ∃ ar : Addr, ∃ kk : ClassId, v = some (.ref ar) ∧ Fr n0 L ∧ Keep h0 h [] ∧ h0.size ≤ ar ∧ Arv Z h ar kk .byte (1 : Int32) [(.int ((x0.toInt8.toInt32).toInt8.toInt32))] (.int 0) ∧ Exa Z h ar "[B"
set_option maxRecDepth 65536 in
set_option maxHeartbeats 40000000 in
theorem rm5_1 (l : Launch) (Z : State) (a0 : Array Value) (hw : ∀ d ∈ tables_1, d.before a0 Z = true) (ws : List Jvm.Cond) (r0 : Addr) (kC : ClassId) (x0 : Int32) (h0 : Heap) (n0 : Nat) (Z0 : n0 ≤ h0.size) (V_r0 : Arv Z h0 r0 kC .char (1 : Int32) [(.int x0)] (.int 0)) (hle_x0 : ¬ ((255 : Int32) < x0)) :
    MetFree l (⟨cS3, "compress", "([CII)[B"⟩ : MethodName) (head1 (Jvm.Cond.code (⟨cS3, "compress", "([CII)[B"⟩ : MethodName) jdk_52_method_16_code 6 (some (.array .byte)) :: ws) ({ frames := 1, cells := 1, slots := 1, locals := 18 } : Room)) (fun a U => a = #[(.ref r0), (.int 0), (.int 1)] ∧ Z.Warmed39 U.vm ∧ U.heap = h0) (fun _ _ _ _ _ => True) (fun _ U o U' => ∃ v L, o = .returned v ∧ Q_5_1 Z r0 kC x0 h0 n0 v U'.heap L ∧ FrameEnd U o U' L ({ frames := 1, cells := 1, slots := 1, locals := 18 } : Room).cells ({ frames := 1, cells := 1, slots := 1, locals := 18 } : Room).slots) := by
  refine MetFree.of_bodySF (plainFor_of_name pn_java_lang_StringUTF16) hisR ?_
  intro p e s m args below meth c s₁ Bd hml0 hP hK
  obtain ⟨rfl, hZ, hh⟩ := hP
  have hx := Bd.exec
  have hby := Bd.bytes
  have hml : c.maxLocals = 6 := hml0
  have hown : s.vm.findClass cS3 = some m.cls := findClass_of_methodNamed Bd.named
  have hnm := (name_of_methodNamed Bd.named Bd.method).1
  have X0 : Stand p l e ({ frames := 1, cells := 1, slots := 1, locals := 18 } : Room) s m #[(.ref r0), (.int 0), (.int 1)] below meth c s₁ [] 0 0 := Stand.of_body Bd
  have e0 : s₁.heap = h0 := by rw [← hh, Bd.state]; rfl
  have N0 := Fr.nil n0
  have k0 : ∀ t, OwnS p e below s₁ (mkF m 0 #[rv r0, iv 0, iv 1, .unset, .unset, .unset] []) t → OwnS p e below s₁ (entryFrame m #[(.ref r0), (.int 0), (.int 1)] 6) t := fun t k => castTop (ef_5 m r0 (0 : Int32) (1 : Int32)) k
  obtain ⟨T1, h1, k1, X1, e1, E1, A1, EA1, st1⟩ := newPE X0 hx hZ (own_at hw 23 rfl) e0 (g := (mkF m 1 #[rv r0, iv 0, iv 1, .unset, .unset, .unset] [(.int 1)])) rfl (hb hby d5_1) rfl (by decide) (cap := 1) (by decide) (by decide) (by decide) (by decide) (ad := "[B") (by decide)
  obtain ⟨b1, g1⟩ : ∃ z, z = h0.size := ⟨_, rfl⟩
  rw [← g1] at A1 EA1 st1
  have g_b1 : n0 ≤ b1 := Nat.le_trans Z0 (Nat.le_of_eq g1.symm)
  have sz_b1 : h0.size ≤ b1 := Nat.le_trans (Keep.refl h0 []).1 (Nat.le_of_eq g1.symm)
  have V_b1 : Arv Z h1 b1 k1 .byte (1 : Int32) [(.int 0)] (.int 0) := (Arv.new A1 (by decide)).pad (pad_rep [] (.int 0) 1)
  have f3 := (V_r0.ext E1)
  obtain ⟨_, _, ⟨T2, L2, j2, i2⟩, -, X2, ⟨Lc2, hQ2, l2, y2, z2⟩, st2⟩ := Jvm.LawKit.callS X1 hx (y := (⟨cS3, "compress", "([CI[BII)I"⟩ : MethodName)) hown (mvT hZ (own_at hw 24 rfl)) (mvT hZ (own_at hw 25 rfl)) (mvT hZ (own_at hw 21 rfl)) (mvT hZ (own_at hw 26 rfl)) (by decide) (backOf (W := 0) (rm6_1 l Z a0 hw [] r0 b1 kC k1 x0 h1 n0 (Nat.le_trans Z0 E1.1) f3 V_b1 EA1 hle_x0 g_b1) hZ (own_at hw 26 rfl) (own_at hw 21 rfl) (by decide) (by decide)) (g := (mkF m 9 #[rv r0, iv 0, iv 1, rv b1, .unset, .unset] [(.int 1), (.int 0), (.ref b1), (.int 0), (.ref r0)])) rfl (by rw [hml]; rfl) (argsL := [(.ref r0), (.int 0), (.ref b1), (.int 0), (.int 1)]) (rest := []) (lenOf pd_0 rfl) rfl (Nat.le_refl _) (hb hby d5_9) (fun _ _ => ⟨rfl, e1, (by decide : 1 + 0 ≤ _), (by decide : 1 + 0 ≤ _)⟩)
  dsimp only [Pt.U, Pt.locs, Pt.cells, Pt.slots] at X2 l2 y2 z2 st2 hQ2
  subst l2 y2 z2
  obtain ⟨rfl, N2q, K2, p2_0⟩ := hQ2
  have pl2 := (allS (P := fun x => ∃ cell : Cell, h1[x]? = some cell ∧ cell.vm.isStatics = false) (own_ns EA1) all0)
  have N2 := Fr.app N0 N2q
  have f4 := (EA1.keep K2)
  obtain ⟨fs, hr, hrun, hended, hW, hsame⟩ := X2.leave (v := some (.ref b1)) (fun h => by rw [Bd.returns] at h; cases h)
  refine ⟨_, _, k0 _ ?_, hrun, hended, _, _, rfl, ?_, ⟨_, rfl⟩, hW, hsame.mono (by decide) (by decide)⟩
  · show OwnS p e below s₁ (mkF m 0 #[rv r0, iv 0, iv 1, .unset, .unset, .unset] []) _
    refine XS.iloadN X0.here hx rfl (hb hby d5_0) rfl ?_
    refine st1 _ ?_
    refine XS.astoreN X1.here hx rfl (hb hby d5_3) rfl rfl (l' := #[rv r0, iv 0, iv 1, rv b1, .unset, .unset]) rfl ?_
    refine XS.aloadN X1.here hx rfl (hb hby d5_4) rfl rfl ?_
    refine XS.iloadN X1.here hx rfl (hb hby d5_5) rfl ?_
    refine XS.aloadN X1.here hx rfl (hb hby d5_6) rfl rfl ?_
    refine XS.iconst X1.here hx rfl (hb hby d5_7) ?_
    refine XS.iloadN X1.here hx rfl (hb hby d5_8) rfl ?_
    refine st2 _ ?_
    refine XS.istore X2.here hx rfl (hb hby d5_12) rfl (l' := #[rv r0, iv 0, iv 1, rv b1, iv 1, .unset]) rfl ?_
    refine XS.iload X2.here hx rfl (hb hby d5_14) rfl ?_
    refine XS.iloadN X2.here hx rfl (hb hby d5_16) rfl ?_
    refine XS.icmpYes X2.here hx rfl (pc0 := 17) (pc' := 57) rfl (hb hby d5_17) rfl (teq (by decide : (1 : Int32) = (1 : Int32))).1 (by decide) (by decide) ?_
    refine XS.aloadN X2.here hx rfl (hb hby d5_57) rfl rfl ?_
    jvm_step X2.here [X2.here.top, hx, (hb hby d5_58), X2.method', Bd.returns, Value.isRef, FieldType.isReference]
    first | (intro acts; rw [hr _ acts rfl rfl rfl]) | rw [hr _ _ rfl rfl rfl]
    exact Steps.refl _
  · show Q_5_1 Z _ _ _ h0 n0 _ T2.heap _
    exact ⟨b1, k1, rfl, N2, (((Keep.refl h0 []).ext E1).trans K2 (allS (Or.inr sz_b1) all0)), sz_b1, p2_0, f4⟩
theorem d7_0 : decode jdk_52_method_15_code 0 = .ok (.iload_n 1, 1) := by decide +kernel
theorem d7_1 : decode jdk_52_method_15_code 1 = .ok (.aload_n 0, 1) := by decide +kernel
theorem d7_2 : decode jdk_52_method_15_code 2 = .ok (.arraylength, 1) := by decide +kernel
theorem d7_3 : decode jdk_52_method_15_code 3 = .ok (.isub, 1) := by decide +kernel
theorem d7_4 : decode jdk_52_method_15_code 4 = .ok (.bipush 31, 2) := by decide +kernel
theorem d7_6 : decode jdk_52_method_15_code 6 = .ok (.iushr, 1) := by decide +kernel
theorem d7_7 : decode jdk_52_method_15_code 7 = .ok (.i2b, 1) := by decide +kernel
theorem d7_8 : decode jdk_52_method_15_code 8 = .ok (.ireturn, 1) := by decide +kernel
theorem ef_7 (m : MethodId) (x0 : Addr) (x1 : Int32) : entryFrame m #[(.ref x0), (.int x1)] 2 = mkF m 0 #[.val (.ref x0), .val (.int x1)] [] := by first | (simp [entryFrame, mkF, argsToLocals, Value.category]; done) | rfl
def Q_7_1 (Z : State) (r0 : Addr) (kB : ClassId) (vs : List Value) (h0 : Heap) (n0 : Nat) (v : Option Value) (h : Heap) (L : List Loc) : Prop := v = some (.int 0) ∧ Fr n0 L ∧ h = h0
set_option maxRecDepth 65536 in
set_option maxHeartbeats 40000000 in
theorem rm7_1 (l : Launch) (Z : State) (a0 : Array Value) (hw : ∀ d ∈ tables_1, d.before a0 Z = true) (ws : List Jvm.Cond) (r0 : Addr) (kB : ClassId) (vs : List Value) (h0 : Heap) (n0 : Nat) (Z0 : n0 ≤ h0.size) (V_r0 : Arv Z h0 r0 kB .byte (1 : Int32) vs (.int 0)) :
    MetFree l (⟨cS3, "coderFromArrayLen", "([BI)B"⟩ : MethodName) (head1 (Jvm.Cond.code (⟨cS3, "coderFromArrayLen", "([BI)B"⟩ : MethodName) jdk_52_method_15_code 2 (some .byte) :: ws) ({ frames := 0, cells := 0, slots := 0, locals := 0 } : Room)) (fun a U => a = #[(.ref r0), (.int 1)] ∧ Z.Warmed39 U.vm ∧ U.heap = h0) (fun _ _ _ _ _ => True) (fun _ U o U' => ∃ v L, o = .returned v ∧ Q_7_1 Z r0 kB vs h0 n0 v U'.heap L ∧ FrameEnd U o U' L ({ frames := 0, cells := 0, slots := 0, locals := 0 } : Room).cells ({ frames := 0, cells := 0, slots := 0, locals := 0 } : Room).slots) := by
  refine MetFree.of_bodySF (plainFor_of_name pn_java_lang_StringUTF16) hisR ?_
  intro p e s m args below meth c s₁ Bd hml0 hP hK
  obtain ⟨rfl, hZ, hh⟩ := hP
  have hx := Bd.exec
  have hby := Bd.bytes
  have hml : c.maxLocals = 2 := hml0
  have hown : s.vm.findClass cS3 = some m.cls := findClass_of_methodNamed Bd.named
  have hnm := (name_of_methodNamed Bd.named Bd.method).1
  have X0 : Stand p l e ({ frames := 0, cells := 0, slots := 0, locals := 0 } : Room) s m #[(.ref r0), (.int 1)] below meth c s₁ [] 0 0 := Stand.of_body Bd
  have e0 : s₁.heap = h0 := by rw [← hh, Bd.state]; rfl
  have N0 := Fr.nil n0
  have k0 : ∀ t, OwnS p e below s₁ (mkF m 0 #[rv r0, iv 1] []) t → OwnS p e below s₁ (entryFrame m #[(.ref r0), (.int 1)] 2) t := fun t k => castTop (ef_7 m r0 (1 : Int32)) k
  obtain ⟨cl_z1, Ar_z1, q_z1, S_z1, N_z1, H_z1, G_z1⟩ := id V_r0
  obtain ⟨fs, hr, hrun, hended, hW, hsame⟩ := X0.leave (v := some (.int 0)) (fun h => by rw [Bd.returns] at h; cases h)
  refine ⟨_, _, k0 _ ?_, hrun, hended, _, _, rfl, ?_, ⟨_, rfl⟩, hW, hsame.mono (by decide) (by decide)⟩
  · show OwnS p e below s₁ (mkF m 0 #[rv r0, iv 1] []) _
    refine XS.iloadN X0.here hx rfl (hb hby d7_0) rfl ?_
    refine XS.aloadN X0.here hx rfl (hb hby d7_1) rfl rfl ?_
    refine X0.arraylength hx (by rw [e0]; exact Ar_z1.1) (State.isArrayOf_alike hZ.alike Ar_z1.2.1) (g := (mkF m 2 #[rv r0, iv 1] [(.ref r0), (.int 1)])) rfl rfl (hb hby d7_2) _ ?_
    rw [len_of S_z1 N_z1]
    refine XS.isub X0.here hx rfl (hb hby d7_3) rfl ?_
    refine XS.bipush X0.here hx rfl (hb hby d7_4) ?_
    refine XS.iushr X0.here hx rfl (hb hby d7_6) rfl ?_
    refine XS.i2b X0.here hx rfl (hb hby d7_7) rfl ?_
    exact retN X0 hx (t := .byte) Bd.returns (by simp) (hb hby d7_8) hr
  · show Q_7_1 Z _ _ _ h0 n0 _ s₁.heap _
    rw [e0]
    exact ⟨rfl, N0, rfl⟩
theorem pd_1 : parseMethodDescriptor "([CII)[B" = some ⟨[(.array .char), .int, .int], some (.array .byte)⟩ := by decide +kernel
theorem pd_2 : parseMethodDescriptor "([BI)B" = some ⟨[(.array .byte), .int], some .byte⟩ := by decide +kernel
theorem d3_0 : decode jdk_42_method_149_code 0 = .ok (.aload_n 0, 1) := by decide +kernel
theorem d3_1 : decode jdk_42_method_149_code 1 = .ok (.invokespecial 1, 3) := by decide +kernel
theorem d3_4 : decode jdk_42_method_149_code 4 = .ok (.iload_n 3, 1) := by decide +kernel
theorem d3_5 : decode jdk_42_method_149_code 5 = .ok (.ifCond .ne 22, 3) := by decide +kernel
theorem d3_27 : decode jdk_42_method_149_code 27 = .ok (.getstatic 38, 3) := by decide +kernel
theorem d3_30 : decode jdk_42_method_149_code 30 = .ok (.ifCond .eq 28, 3) := by decide +kernel
theorem d3_33 : decode jdk_42_method_149_code 33 = .ok (.aload_n 1, 1) := by decide +kernel
theorem d3_34 : decode jdk_42_method_149_code 34 = .ok (.iload_n 2, 1) := by decide +kernel
theorem d3_35 : decode jdk_42_method_149_code 35 = .ok (.iload_n 3, 1) := by decide +kernel
theorem d3_36 : decode jdk_42_method_149_code 36 = .ok (.invokestatic 177, 3) := by decide +kernel
theorem d3_39 : decode jdk_42_method_149_code 39 = .ok (.astore 5, 2) := by decide +kernel
theorem d3_41 : decode jdk_42_method_149_code 41 = .ok (.aload_n 0, 1) := by decide +kernel
theorem d3_42 : decode jdk_42_method_149_code 42 = .ok (.aload 5, 2) := by decide +kernel
theorem d3_44 : decode jdk_42_method_149_code 44 = .ok (.iload_n 3, 1) := by decide +kernel
theorem d3_45 : decode jdk_42_method_149_code 45 = .ok (.invokestatic 47, 3) := by decide +kernel
theorem d3_48 : decode jdk_42_method_149_code 48 = .ok (.putfield 15, 3) := by decide +kernel
theorem d3_51 : decode jdk_42_method_149_code 51 = .ok (.aload_n 0, 1) := by decide +kernel
theorem d3_52 : decode jdk_42_method_149_code 52 = .ok (.aload 5, 2) := by decide +kernel
theorem d3_54 : decode jdk_42_method_149_code 54 = .ok (.putfield 9, 3) := by decide +kernel
theorem d3_57 : decode jdk_42_method_149_code 57 = .ok (.return_, 1) := by decide +kernel
theorem pn_java_lang_String : plainName cS1 = true := by first | (simp [plainName, overriddenIn]; done) | decide +kernel
theorem ef_3n4 (m : MethodId) (x0 : Addr) (x1 : Addr) (x2 : Int32) (x3 : Int32) : entryFrame m #[(.ref x0), (.ref x1), (.int x2), (.int x3), .null] 6 = mkF m 0 #[.val (.ref x0), .val (.ref x1), .val (.int x2), .val (.int x3), .val .null, .unset] [] := by first | (simp [entryFrame, mkF, argsToLocals, Value.category]; done) | rfl
def Q_3_1 (Z : State) (r0 : Addr) (r1 : Addr) (w_CS : Int32) (kC : ClassId) (x0 : Int32) (u_coder_r0 : Value) (u_value_r0 : Value) (h0 : Heap) (n0 : Nat) (v : Option Value) (h : Heap) (L : List Loc) : Prop := ∃ ar : Addr, ∃ kk : ClassId, v = none ∧ Fr n0 L ∧ Keep h0 h [r0] ∧ h0.size ≤ ar ∧ Exa Z h r0 cS1 ∧ Fld Z h r0 cS1 "coder" "B" (.int 0) ∧ Fld Z h r0 cS1 "value" "[B" (.ref ar) ∧ Arv Z h ar kk .byte (1 : Int32) [(.int ((x0.toInt8.toInt32).toInt8.toInt32))] (.int 0) ∧ Exa Z h ar "[B"
set_option maxRecDepth 65536 in
set_option maxHeartbeats 40000000 in
theorem rm3_1 (l : Launch) (Z : State) (a0 : Array Value) (hw : ∀ d ∈ tables_1, d.before a0 Z = true) (ws : List Jvm.Cond) (r0 : Addr) (r1 : Addr) (w_CS : Int32) (kC : ClassId) (x0 : Int32) (u_coder_r0 : Value) (u_value_r0 : Value) (h0 : Heap) (n0 : Nat) (Z0 : n0 ≤ h0.size) (S_CS : Sta Z h0 cS1 "COMPACT_STRINGS" "Z" (.int w_CS)) (hcs : ¬ (w_CS = (0 : Int32))) (E_r0 : Exa Z h0 r0 cS1) (V_r1 : Arv Z h0 r1 kC .char (1 : Int32) [(.int x0)] (.int 0)) (hle_x0 : ¬ ((255 : Int32) < x0)) (F_coder_r0 : Fld Z h0 r0 cS1 "coder" "B" u_coder_r0) (ge_r0 : n0 ≤ r0) (F_value_r0 : Fld Z h0 r0 cS1 "value" "[B" u_value_r0) :
    MetFree l (⟨cS1, "<init>", "([CIILjava/lang/Void;)V"⟩ : MethodName) (head1 (Jvm.Cond.code (⟨cS1, "<init>", "([CIILjava/lang/Void;)V"⟩ : MethodName) jdk_42_method_149_code 6 none :: ws) ({ frames := 2, cells := 1, slots := 1, locals := 35 } : Room)) (fun a U => a = #[(.ref r0), (.ref r1), (.int 0), (.int 1), .null] ∧ Z.Warmed39 U.vm ∧ U.heap = h0) (fun _ _ _ _ _ => True) (fun _ U o U' => ∃ v L, o = .returned v ∧ Q_3_1 Z r0 r1 w_CS kC x0 u_coder_r0 u_value_r0 h0 n0 v U'.heap L ∧ FrameEnd U o U' L ({ frames := 2, cells := 1, slots := 1, locals := 35 } : Room).cells ({ frames := 2, cells := 1, slots := 1, locals := 35 } : Room).slots) := by
  refine MetFree.of_bodySF (plainFor_of_name pn_java_lang_String) hisR ?_
  intro p e s m args below meth c s₁ Bd hml0 hP hK
  obtain ⟨rfl, hZ, hh⟩ := hP
  have hx := Bd.exec
  have hby := Bd.bytes
  have hml : c.maxLocals = 6 := hml0
  have hown : s.vm.findClass cS1 = some m.cls := findClass_of_methodNamed Bd.named
  have hnm := (name_of_methodNamed Bd.named Bd.method).1
  have X0 : Stand p l e ({ frames := 2, cells := 1, slots := 1, locals := 35 } : Room) s m #[(.ref r0), (.ref r1), (.int 0), (.int 1), .null] below meth c s₁ [] 0 0 := Stand.of_body Bd
  have e0 : s₁.heap = h0 := by rw [← hh, Bd.state]; rfl
  have N0 := Fr.nil n0
  have k0 : ∀ t, OwnS p e below s₁ (mkF m 0 #[rv r0, rv r1, iv 0, iv 1, .val .null, .unset] []) t → OwnS p e below s₁ (entryFrame m #[(.ref r0), (.ref r1), (.int 0), (.int 1), .null] 6) t := fun t k => castTop (ef_3n4 m r0 r1 (0 : Int32) (1 : Int32)) k
  obtain ⟨T1, X1, e1, st1⟩ := initO X0 hx hZ hown (own_at hw 15 rfl) (own_at hw 16 rfl) (own_at hw 17 rfl) e0 (g := (mkF m 1 #[rv r0, rv r1, iv 0, iv 1, .val .null, .unset] [(.ref r0)])) rfl (by rw [hml]; rfl) rfl (hb hby d3_1) (by decide) (W := 0) (Nat.le_refl _) (by decide)
  obtain ⟨T2, X2, e2, st2⟩ := getS2 X1 hx hZ hown (host := "") (Or.inl (own_at hw 18 rfl)) Via.refl e1 S_CS (g := (mkF m 27 #[rv r0, rv r1, iv 0, iv 1, .val .null, .unset] [])) rfl (hb hby d3_27)
  obtain ⟨_, _, ⟨T3, L3, j3, i3⟩, -, X3, ⟨Lc3, hQ3, l3, y3, z3⟩, st3⟩ := Jvm.LawKit.callS X2 hx (y := (⟨cS3, "compress", "([CII)[B"⟩ : MethodName)) hown (mvT hZ (own_at hw 19 rfl)) (mvT hZ (own_at hw 20 rfl)) (mvT hZ (own_at hw 21 rfl)) (mvT hZ (own_at hw 22 rfl)) (by decide) (backOf (W := 0) (rm5_1 l Z a0 hw [] r1 kC x0 h0 n0 Z0 V_r1 hle_x0) hZ (own_at hw 22 rfl) (own_at hw 21 rfl) (by decide) (by decide)) (g := (mkF m 36 #[rv r0, rv r1, iv 0, iv 1, .val .null, .unset] [(.int 1), (.int 0), (.ref r1)])) rfl (by rw [hml]; rfl) (argsL := [(.ref r1), (.int 0), (.int 1)]) (rest := []) (lenOf pd_1 rfl) rfl (Nat.le_refl _) (hb hby d3_36) (fun _ _ => ⟨rfl, e2, (by decide : 0 + 1 ≤ _), (by decide : 0 + 1 ≤ _)⟩)
  dsimp only [Pt.U, Pt.locs, Pt.cells, Pt.slots] at X3 l3 y3 z3 st3 hQ3
  subst l3 y3 z3
  obtain ⟨ar_3, kk_3, rfl, N3q, K3, p3_0, p3_1, p3_2⟩ := hQ3
  have g_ar_3 : n0 ≤ ar_3 := Nat.le_trans Z0 p3_0
  have sz_ar_3 : h0.size ≤ ar_3 := Nat.le_trans (Keep.refl h0 []).1 p3_0
  have N3 := Fr.app N0 N3q
  obtain ⟨_, _, ⟨T4, L4, j4, i4⟩, -, X4, ⟨Lc4, hQ4, l4, y4, z4⟩, st4⟩ := Jvm.LawKit.callS X3 hx (y := (⟨cS3, "coderFromArrayLen", "([BI)B"⟩ : MethodName)) hown (mvT hZ (own_at hw 27 rfl)) (mvT hZ (own_at hw 28 rfl)) (mvT hZ (own_at hw 21 rfl)) (mvT hZ (own_at hw 29 rfl)) (by decide) (backOf (W := 1) (rm7_1 l Z a0 hw [] ar_3 kk_3 [(.int ((x0.toInt8.toInt32).toInt8.toInt32))] T3.heap n0 (Nat.le_trans Z0 K3.1) p3_1) hZ (own_at hw 29 rfl) (own_at hw 21 rfl) (by decide) (by decide)) (g := (mkF m 45 #[rv r0, rv r1, iv 0, iv 1, .val .null, rv ar_3] [(.int 1), (.ref ar_3), (.ref r0)])) rfl (by rw [hml]; rfl) (argsL := [(.ref ar_3), (.int 1)]) (rest := [(.ref r0)]) (lenOf pd_2 rfl) rfl (Nat.le_refl _) (hb hby d3_45) (fun _ _ => ⟨rfl, rfl, (by decide : 1 + 0 ≤ _), (by decide : 1 + 0 ≤ _)⟩)
  dsimp only [Pt.U, Pt.locs, Pt.cells, Pt.slots] at X4 l4 y4 z4 st4 hQ4
  subst l4 y4 z4
  obtain ⟨rfl, N4q, e4⟩ := hQ4
  have N4 := Fr.app N3 N4q
  have f5 := (E_r0.keep K3)
  have f6 := (F_coder_r0.keep K3 nin0)
  obtain ⟨T7, h7, X7, e7, W7, st7⟩ := putFN X4 hx hZ hown (own_at hw 30 rfl) Via.refl e4 f6 f5 (Or.inr ⟨(own_at hw 31 rfl), rfl, hnm⟩) (own_at hw 5 rfl) (ty := .byte) (v' := (.int 0)) (by decide) rfl rfl (g := (mkF m 48 #[rv r0, rv r1, iv 0, iv 1, .val .null, rv ar_3] [(.int 0), (.ref r0)])) rfl rfl (hb hby d3_48)
  have Fw7 : Fld Z h7 r0 cS1 "coder" "B" (.int 0) := f6.same W7
  have N7 := Fr.snoc X7 N4 ge_r0
  have f8 := (f5.wr W7)
  have f9 := ((F_value_r0.keep K3 nin0).other W7 (Or.inr (slot_ne (Or.inr (own_at hw 33 rfl)) (Or.inr (own_at hw 31 rfl)) (by decide) (t := (.array .byte)) (t' := .byte) (by decide) (by decide))))
  obtain ⟨T10, h10, X10, e10, W10, st10⟩ := putF X7 hx hZ hown (host := "") (Or.inl (own_at hw 32 rfl)) Via.refl e7 f9 f8 (Or.inr ⟨(own_at hw 33 rfl), rfl, hnm⟩) (own_at hw 5 rfl) (ty := (.array .byte)) (by decide) rfl rfl (g := (mkF m 54 #[rv r0, rv r1, iv 0, iv 1, .val .null, rv ar_3] [(.ref ar_3), (.ref r0)])) rfl rfl (hb hby d3_54)
  have Fw10 : Fld Z h10 r0 cS1 "value" "[B" (.ref ar_3) := f9.same W10
  have N10 := Fr.snoc X10 N7 ge_r0
  have f11 := (f8.wr W10)
  have f12 := (Fw7.other W10 (Or.inr (slot_ne (Or.inr (own_at hw 31 rfl)) (Or.inr (own_at hw 33 rfl)) (by decide) (t := .byte) (t' := (.array .byte)) (by decide) (by decide))))
  have f13 := ((p3_1.other W7 (Ne.symm (Nat.ne_of_lt (Nat.lt_of_lt_of_le E_r0.lt p3_0)))).other W10 (Ne.symm (Nat.ne_of_lt (Nat.lt_of_lt_of_le E_r0.lt p3_0))))
  have f14 := ((p3_2.wr W7).wr W10)
  obtain ⟨fs, hr, hrun, hended, hW, hsame⟩ := X10.leave (v := none) (fun _ => rfl)
  refine ⟨_, _, k0 _ ?_, hrun, hended, _, _, rfl, ?_, ⟨_, rfl⟩, hW, hsame.mono (by decide) (by decide)⟩
  · show OwnS p e below s₁ (mkF m 0 #[rv r0, rv r1, iv 0, iv 1, .val .null, .unset] []) _
    refine XS.aloadN X0.here hx rfl (hb hby d3_0) rfl rfl ?_
    refine st1 _ ?_
    refine XS.iloadN X1.here hx rfl (hb hby d3_4) rfl ?_
    refine XS.ifYes X1.here hx rfl (pc0 := 5) (pc' := 27) rfl (hb hby d3_5) rfl ((if0 _ _).trans (feq (by decide : ¬ ((1 : Int32) = (0 : Int32)))).2) (by decide) (by decide) ?_
    refine st2 _ ?_
    refine XS.ifNo X2.here hx rfl (hb hby d3_30) rfl ((if0 _ _).trans (feq hcs).1) ?_
    refine XS.aloadN X2.here hx rfl (hb hby d3_33) rfl rfl ?_
    refine XS.iloadN X2.here hx rfl (hb hby d3_34) rfl ?_
    refine XS.iloadN X2.here hx rfl (hb hby d3_35) rfl ?_
    refine st3 _ ?_
    refine XS.astore X3.here hx rfl (hb hby d3_39) rfl rfl (l' := #[rv r0, rv r1, iv 0, iv 1, .val .null, rv ar_3]) rfl ?_
    refine XS.aloadN X3.here hx rfl (hb hby d3_41) rfl rfl ?_
    refine XS.aload X3.here hx rfl (hb hby d3_42) rfl rfl ?_
    refine XS.iloadN X3.here hx rfl (hb hby d3_44) rfl ?_
    refine st4 _ ?_
    refine st7 _ ?_
    refine XS.aloadN X7.here hx rfl (hb hby d3_51) rfl rfl ?_
    refine XS.aload X7.here hx rfl (hb hby d3_52) rfl rfl ?_
    refine st10 _ ?_
    exact X10.returnOut hx Bd.returns (hb hby d3_57) hr
  · show Q_3_1 Z _ _ _ _ _ _ _ h0 n0 _ T10.heap _
    rw [e10]
    exact ⟨ar_3, kk_3, rfl, N10, ((((Keep.refl h0 [r0]).trans K3 all0).wr W7 (Or.inl (List.mem_of_getElem? (i := 0) rfl))).wr W10 (Or.inl (List.mem_of_getElem? (i := 0) rfl))), sz_ar_3, f11, f12, Fw10, f13, f14⟩
theorem pd_3 : parseMethodDescriptor "([CIILjava/lang/Void;)V" = some ⟨[(.array .char), .int, .int, (.object "java/lang/Void")], none⟩ := by decide +kernel
theorem d2_0 : decode jdk_42_method_3_code 0 = .ok (.aload_n 0, 1) := by decide +kernel
theorem d2_1 : decode jdk_42_method_3_code 1 = .ok (.aload_n 1, 1) := by decide +kernel
theorem d2_2 : decode jdk_42_method_3_code 2 = .ok (.iconst 0, 1) := by decide +kernel
theorem d2_3 : decode jdk_42_method_3_code 3 = .ok (.aload_n 1, 1) := by decide +kernel
theorem d2_4 : decode jdk_42_method_3_code 4 = .ok (.arraylength, 1) := by decide +kernel
theorem d2_5 : decode jdk_42_method_3_code 5 = .ok (.aconst_null, 1) := by decide +kernel
theorem d2_6 : decode jdk_42_method_3_code 6 = .ok (.invokespecial 27, 3) := by decide +kernel
theorem d2_9 : decode jdk_42_method_3_code 9 = .ok (.return_, 1) := by decide +kernel
theorem ef_2 (m : MethodId) (x0 : Addr) (x1 : Addr) : entryFrame m #[(.ref x0), (.ref x1)] 2 = mkF m 0 #[.val (.ref x0), .val (.ref x1)] [] := by first | (simp [entryFrame, mkF, argsToLocals, Value.category]; done) | rfl
def Q_2_1 (Z : State) (r0 : Addr) (r1 : Addr) (w_CS : Int32) (kC : ClassId) (x0 : Int32) (u_coder_r0 : Value) (u_value_r0 : Value) (h0 : Heap) (n0 : Nat) (v : Option Value) (h : Heap) (L : List Loc) : Prop := ∃ ar : Addr, ∃ kk : ClassId, v = none ∧ Fr n0 L ∧ Keep h0 h [r0] ∧ h0.size ≤ ar ∧ Exa Z h r0 cS1 ∧ Fld Z h r0 cS1 "coder" "B" (.int 0) ∧ Fld Z h r0 cS1 "value" "[B" (.ref ar) ∧ Arv Z h ar kk .byte (1 : Int32) [(.int ((x0.toInt8.toInt32).toInt8.toInt32))] (.int 0) ∧ Exa Z h ar "[B"
set_option maxRecDepth 65536 in
set_option maxHeartbeats 40000000 in
theorem rm2_1 (l : Launch) (Z : State) (a0 : Array Value) (hw : ∀ d ∈ tables_1, d.before a0 Z = true) (ws : List Jvm.Cond) (r0 : Addr) (r1 : Addr) (w_CS : Int32) (kC : ClassId) (x0 : Int32) (u_coder_r0 : Value) (u_value_r0 : Value) (h0 : Heap) (n0 : Nat) (Z0 : n0 ≤ h0.size) (S_CS : Sta Z h0 cS1 "COMPACT_STRINGS" "Z" (.int w_CS)) (hcs : ¬ (w_CS = (0 : Int32))) (E_r0 : Exa Z h0 r0 cS1) (V_r1 : Arv Z h0 r1 kC .char (1 : Int32) [(.int x0)] (.int 0)) (hle_x0 : ¬ ((255 : Int32) < x0)) (F_coder_r0 : Fld Z h0 r0 cS1 "coder" "B" u_coder_r0) (ge_r0 : n0 ≤ r0) (F_value_r0 : Fld Z h0 r0 cS1 "value" "[B" u_value_r0) :
    MetFree l (⟨cS1, "<init>", "([C)V"⟩ : MethodName) (head1 (Jvm.Cond.code (⟨cS1, "<init>", "([C)V"⟩ : MethodName) jdk_42_method_3_code 2 none :: ws) ({ frames := 3, cells := 1, slots := 1, locals := 52 } : Room)) (fun a U => a = #[(.ref r0), (.ref r1)] ∧ Z.Warmed39 U.vm ∧ U.heap = h0) (fun _ _ _ _ _ => True) (fun _ U o U' => ∃ v L, o = .returned v ∧ Q_2_1 Z r0 r1 w_CS kC x0 u_coder_r0 u_value_r0 h0 n0 v U'.heap L ∧ FrameEnd U o U' L ({ frames := 3, cells := 1, slots := 1, locals := 52 } : Room).cells ({ frames := 3, cells := 1, slots := 1, locals := 52 } : Room).slots) := by
  refine MetFree.of_bodySF (plainFor_of_name pn_java_lang_String) hisR ?_
  intro p e s m args below meth c s₁ Bd hml0 hP hK
  obtain ⟨rfl, hZ, hh⟩ := hP
  have hx := Bd.exec
  have hby := Bd.bytes
  have hml : c.maxLocals = 2 := hml0
  have hown : s.vm.findClass cS1 = some m.cls := findClass_of_methodNamed Bd.named
  have hnm := (name_of_methodNamed Bd.named Bd.method).1
  have X0 : Stand p l e ({ frames := 3, cells := 1, slots := 1, locals := 52 } : Room) s m #[(.ref r0), (.ref r1)] below meth c s₁ [] 0 0 := Stand.of_body Bd
  have e0 : s₁.heap = h0 := by rw [← hh, Bd.state]; rfl
  have N0 := Fr.nil n0
  have k0 : ∀ t, OwnS p e below s₁ (mkF m 0 #[rv r0, rv r1] []) t → OwnS p e below s₁ (entryFrame m #[(.ref r0), (.ref r1)] 2) t := fun t k => castTop (ef_2 m r0 r1) k
  obtain ⟨cl_z1, Ar_z1, q_z1, S_z1, N_z1, H_z1, G_z1⟩ := id V_r1
  obtain ⟨_, _, ⟨T2, L2, j2, i2⟩, -, X2, ⟨Lc2, hQ2, l2, y2, z2⟩, st2⟩ := X0.specialBack hx (y := (⟨cS1, "<init>", "([CIILjava/lang/Void;)V"⟩ : MethodName)) rfl hown (mvT hZ (own_at hw 11 rfl)) (mvT hZ (own_at hw 12 rfl)) (mvT hZ (own_at hw 14 rfl)) (by decide) (backOf (W := 0) (rm3_1 l Z a0 hw [] r0 r1 w_CS kC x0 u_coder_r0 u_value_r0 h0 n0 Z0 S_CS hcs E_r0 V_r1 hle_x0 F_coder_r0 ge_r0 F_value_r0) hZ (own_at hw 14 rfl) (own_at hw 6 rfl) (by decide) (by decide)) (g := (mkF m 6 #[rv r0, rv r1] [.null, (.int 1), (.int 0), (.ref r1), (.ref r0)])) rfl (by rw [hml]; rfl) (Steps.refl _) (a := r0) (argsL := [(.ref r1), (.int 0), (.int 1), .null]) (rest := []) (lenOf pd_3 rfl) rfl (Nat.le_refl _) (hb hby d2_6) (fun _ _ => ⟨rfl, e0, (by decide : 0 + 1 ≤ _), (by decide : 0 + 1 ≤ _)⟩)
  dsimp only [Pt.U, Pt.locs, Pt.cells, Pt.slots] at X2 l2 y2 z2 st2 hQ2
  subst l2 y2 z2
  obtain ⟨ar_2, kk_2, rfl, N2q, K2, p2_0, p2_1, p2_2, p2_3, p2_4, p2_5⟩ := hQ2
  have pl2 := (allS (P := fun x => ∃ cell : Cell, h0[x]? = some cell ∧ cell.vm.isStatics = false) (own_ns E_r0) all0)
  have g_ar_2 : n0 ≤ ar_2 := Nat.le_trans Z0 p2_0
  have sz_ar_2 : h0.size ≤ ar_2 := Nat.le_trans (Keep.refl h0 []).1 p2_0
  have N2 := Fr.app N0 N2q
  obtain ⟨fs, hr, hrun, hended, hW, hsame⟩ := X2.leave (v := none) (fun _ => rfl)
  refine ⟨_, _, k0 _ ?_, hrun, hended, _, _, rfl, ?_, ⟨_, rfl⟩, hW, hsame.mono (by decide) (by decide)⟩
  · show OwnS p e below s₁ (mkF m 0 #[rv r0, rv r1] []) _
    refine XS.aloadN X0.here hx rfl (hb hby d2_0) rfl rfl ?_
    refine XS.aloadN X0.here hx rfl (hb hby d2_1) rfl rfl ?_
    refine XS.iconst X0.here hx rfl (hb hby d2_2) ?_
    refine XS.aloadN X0.here hx rfl (hb hby d2_3) rfl rfl ?_
    refine X0.arraylength hx (by rw [e0]; exact Ar_z1.1) (State.isArrayOf_alike hZ.alike Ar_z1.2.1) (g := (mkF m 4 #[rv r0, rv r1] [(.ref r1), (.int 0), (.ref r1), (.ref r0)])) rfl rfl (hb hby d2_4) _ ?_
    rw [len_of S_z1 N_z1]
    refine XS.aconstNull X0.here hx rfl (hb hby d2_5) ?_
    refine st2.trans ?_
    exact X2.returnOut hx Bd.returns (hb hby d2_9) hr
  · show Q_2_1 Z _ _ _ _ _ _ _ h0 n0 _ T2.heap _
    exact ⟨ar_2, kk_2, rfl, N2, ((Keep.refl h0 [r0]).trans K2 (allS (Or.inl (List.mem_of_getElem? (i := 0) rfl)) all0)), sz_ar_2, p2_1, p2_2, p2_3, p2_4, p2_5⟩
def Q_6_2 (Z : State) (r0 : Addr) (r2 : Addr) (kC : ClassId) (kB : ClassId) (x0 : Int32) (x1 : Int32) (h0 : Heap) (n0 : Nat) (v : Option Value) (h : Heap) (L : List Loc) : Prop := v = some (.int 2) ∧ Fr n0 L ∧ Keep h0 h [r2] ∧ Arv Z h r2 kB .byte (2 : Int32) [(.int ((x0.toInt8.toInt32).toInt8.toInt32)), (.int ((x1.toInt8.toInt32).toInt8.toInt32))] (.int 0)
set_option maxRecDepth 65536 in
set_option maxHeartbeats 40000000 in
theorem rm6_2 (l : Launch) (Z : State) (a0 : Array Value) (hw : ∀ d ∈ tables_1, d.before a0 Z = true) (ws : List Jvm.Cond) (r0 : Addr) (r2 : Addr) (kC : ClassId) (kB : ClassId) (x0 : Int32) (x1 : Int32) (h0 : Heap) (n0 : Nat) (Z0 : n0 ≤ h0.size) (V_r0 : Arv Z h0 r0 kC .char (2 : Int32) [(.int x0), (.int x1)] (.int 0)) (V_r2 : Arv Z h0 r2 kB .byte (2 : Int32) [(.int 0), (.int 0)] (.int 0)) (E_r2 : Exa Z h0 r2 "[B") (hle_x0 : ¬ ((255 : Int32) < x0)) (hle_x1 : ¬ ((255 : Int32) < x1)) (ge_r2 : n0 ≤ r2) (ne_r0_r2 : r0 ≠ r2) :
    MetFree l (⟨cS3, "compress", "([CI[BII)I"⟩ : MethodName) (head1 (Jvm.Cond.code (⟨cS3, "compress", "([CI[BII)I"⟩ : MethodName) jdk_52_method_21_code 7 (some .int) :: ws) ({ frames := 0, cells := 0, slots := 0, locals := 0 } : Room)) (fun a U => a = #[(.ref r0), (.int 0), (.ref r2), (.int 0), (.int 2)] ∧ Z.Warmed39 U.vm ∧ U.heap = h0) (fun _ _ _ _ _ => True) (fun _ U o U' => ∃ v L, o = .returned v ∧ Q_6_2 Z r0 r2 kC kB x0 x1 h0 n0 v U'.heap L ∧ FrameEnd U o U' L ({ frames := 0, cells := 0, slots := 0, locals := 0 } : Room).cells ({ frames := 0, cells := 0, slots := 0, locals := 0 } : Room).slots) := by
  refine MetFree.of_bodySF (plainFor_of_name pn_java_lang_StringUTF16) hisR ?_
  intro p e s m args below meth c s₁ Bd hml0 hP hK
  obtain ⟨rfl, hZ, hh⟩ := hP
  have hx := Bd.exec
  have hby := Bd.bytes
  have hml : c.maxLocals = 7 := hml0
  have hown : s.vm.findClass cS3 = some m.cls := findClass_of_methodNamed Bd.named
  have hnm := (name_of_methodNamed Bd.named Bd.method).1
  have X0 : Stand p l e ({ frames := 0, cells := 0, slots := 0, locals := 0 } : Room) s m #[(.ref r0), (.int 0), (.ref r2), (.int 0), (.int 2)] below meth c s₁ [] 0 0 := Stand.of_body Bd
  have e0 : s₁.heap = h0 := by rw [← hh, Bd.state]; rfl
  have N0 := Fr.nil n0
  have k0 : ∀ t, OwnS p e below s₁ (mkF m 0 #[rv r0, iv 0, rv r2, iv 0, iv 2, .unset, .unset] []) t → OwnS p e below s₁ (entryFrame m #[(.ref r0), (.int 0), (.ref r2), (.int 0), (.int 2)] 7) t := fun t k => castTop (ef_6 m r0 (0 : Int32) r2 (0 : Int32) (2 : Int32)) k
  obtain ⟨cl_z1, Ar_z1, q_z1, S_z1, N_z1, H_z1, G_z1⟩ := id V_r0
  have hin2 : ¬ ((0 : Int32) < 0 ∨ cl_z1.slots.size ≤ ((0 : Int32)).toNatClampNeg) := inb_of S_z1 ⟨by decide, by decide⟩
  obtain ⟨cl_z3, Ar_z3, q_z3, S_z3, N_z3, H_z3, G_z3⟩ := id V_r2
  have hin4 : ¬ ((0 : Int32) < 0 ∨ cl_z3.slots.size ≤ ((0 : Int32)).toNatClampNeg) := inb_of S_z3 ⟨by decide, by decide⟩
  obtain ⟨T5, h5, X5, e5, W5, st5⟩ := stB X0 hx hZ e0 Ar_z3 (j := (0 : Int32)) hin4 (g := (mkF m 31 #[rv r0, iv 0, rv r2, iv 0, iv 2, iv 0, iv x0] [(.int (x0.toInt8.toInt32)), (.int 0), (.ref r2)])) rfl rfl (hb hby d6_31)
  have V5 : Arv Z h5 r2 kB .byte (2 : Int32) [(.int ((x0.toInt8.toInt32).toInt8.toInt32)), (.int 0)] (.int 0) := Arv.set Ar_z3 q_z3 S_z3 N_z3 H_z3 G_z3 (fits_nar_byte _) W5 0 rfl (Nat.le_of_ble_eq_true rfl)
  have N5 := Fr.snoc X5 N0 ge_r2
  have f6 := (V_r0.other W5 ne_r0_r2)
  obtain ⟨cl_z7, Ar_z7, q_z7, S_z7, N_z7, H_z7, G_z7⟩ := id f6
  have hin8 : ¬ ((1 : Int32) < 0 ∨ cl_z7.slots.size ≤ ((1 : Int32)).toNatClampNeg) := inb_of S_z7 ⟨by decide, by decide⟩
  obtain ⟨cl_z9, Ar_z9, q_z9, S_z9, N_z9, H_z9, G_z9⟩ := id V5
  have hin10 : ¬ ((1 : Int32) < 0 ∨ cl_z9.slots.size ≤ ((1 : Int32)).toNatClampNeg) := inb_of S_z9 ⟨by decide, by decide⟩
  obtain ⟨T11, h11, X11, e11, W11, st11⟩ := stB X5 hx hZ e5 Ar_z9 (j := (1 : Int32)) hin10 (g := (mkF m 31 #[rv r0, iv ((0 : Int32) + (1 : Int32)), rv r2, iv ((0 : Int32) + (1 : Int32)), iv 2, iv ((0 : Int32) + (1 : Int32)), iv x1] [(.int (x1.toInt8.toInt32)), (.int 1), (.ref r2)])) rfl rfl (hb hby d6_31)
  have V11 : Arv Z h11 r2 kB .byte (2 : Int32) [(.int ((x0.toInt8.toInt32).toInt8.toInt32)), (.int ((x1.toInt8.toInt32).toInt8.toInt32))] (.int 0) := Arv.set Ar_z9 q_z9 S_z9 N_z9 H_z9 G_z9 (fits_nar_byte _) W11 1 rfl (Nat.le_of_ble_eq_true rfl)
  have N11 := Fr.snoc X11 N5 ge_r2
  obtain ⟨fs, hr, hrun, hended, hW, hsame⟩ := X11.leave (v := some (.int 2)) (fun h => by rw [Bd.returns] at h; cases h)
  refine ⟨_, _, k0 _ ?_, hrun, hended, _, _, rfl, ?_, ⟨_, rfl⟩, hW, hsame.mono (by decide) (by decide)⟩
  · show OwnS p e below s₁ (mkF m 0 #[rv r0, iv 0, rv r2, iv 0, iv 2, .unset, .unset] []) _
    refine XS.iconst X0.here hx rfl (hb hby d6_0) ?_
    refine XS.istore X0.here hx rfl (hb hby d6_1) rfl (l' := #[rv r0, iv 0, rv r2, iv 0, iv 2, iv 0, .unset]) rfl ?_
    refine XS.iload X0.here hx rfl (hb hby d6_3) rfl ?_
    refine XS.iload X0.here hx rfl (hb hby d6_5) rfl ?_
    refine XS.icmpNo X0.here hx rfl (hb hby d6_7) rfl (tlt (by decide : (0 : Int32) < (2 : Int32))).2.1 ?_
    refine XS.aloadN X0.here hx rfl (hb hby d6_10) rfl rfl ?_
    refine XS.iloadN X0.here hx rfl (hb hby d6_11) rfl ?_
    refine X0.caload hx (j := (0 : Int32)) (v := (.int x0)) (by rw [e0]; exact Ar_z1.1) (State.isArrayOf_alike hZ.alike Ar_z1.2.1) Ar_z1.2.2 hin2 (Has.at H_z1 hin2 rfl) (g := (mkF m 12 #[rv r0, iv 0, rv r2, iv 0, iv 2, iv 0, .unset] [(.int 0), (.ref r0)])) rfl rfl (hb hby d6_12) _ ?_
    refine XS.istore X0.here hx rfl (hb hby d6_13) rfl (l' := #[rv r0, iv 0, rv r2, iv 0, iv 2, iv 0, iv x0]) rfl ?_
    refine XS.iload X0.here hx rfl (hb hby d6_15) rfl ?_
    refine XS.sipush X0.here hx rfl (hb hby d6_17) ?_
    refine XS.icmpYes X0.here hx rfl (pc0 := 20) (pc' := 26) rfl (hb hby d6_20) rfl (flt hle_x0).2.2.2 (by decide) (by decide) ?_
    refine XS.aloadN X0.here hx rfl (hb hby d6_26) rfl rfl ?_
    refine XS.iloadN X0.here hx rfl (hb hby d6_27) rfl ?_
    refine XS.iload X0.here hx rfl (hb hby d6_28) rfl ?_
    refine XS.i2b X0.here hx rfl (hb hby d6_30) rfl ?_
    refine st5 _ ?_
    refine XS.iinc X5.here hx rfl (hb hby d6_32) rfl (l' := #[rv r0, iv ((0 : Int32) + (1 : Int32)), rv r2, iv 0, iv 2, iv 0, iv x0]) rfl ?_
    refine XS.iinc X5.here hx rfl (hb hby d6_35) rfl (l' := #[rv r0, iv ((0 : Int32) + (1 : Int32)), rv r2, iv ((0 : Int32) + (1 : Int32)), iv 2, iv 0, iv x0]) rfl ?_
    refine XS.iinc X5.here hx rfl (hb hby d6_38) rfl (l' := #[rv r0, iv ((0 : Int32) + (1 : Int32)), rv r2, iv ((0 : Int32) + (1 : Int32)), iv 2, iv ((0 : Int32) + (1 : Int32)), iv x0]) rfl ?_
    refine XS.goto X5.here hx rfl (pc0 := 41) (pc' := 3) rfl (hb hby d6_41) (by decide) (by decide) ?_
    refine XS.iload X5.here hx rfl (hb hby d6_3) rfl ?_
    refine XS.iload X5.here hx rfl (hb hby d6_5) rfl ?_
    refine XS.icmpNo X5.here hx rfl (hb hby d6_7) rfl (tlt (by decide : (1 : Int32) < (2 : Int32))).2.1 ?_
    refine XS.aloadN X5.here hx rfl (hb hby d6_10) rfl rfl ?_
    refine XS.iloadN X5.here hx rfl (hb hby d6_11) rfl ?_
    refine X5.caload hx (j := (1 : Int32)) (v := (.int x1)) (by rw [e5]; exact Ar_z7.1) (State.isArrayOf_alike hZ.alike Ar_z7.2.1) Ar_z7.2.2 hin8 (Has.at H_z7 hin8 rfl) (g := (mkF m 12 #[rv r0, iv ((0 : Int32) + (1 : Int32)), rv r2, iv ((0 : Int32) + (1 : Int32)), iv 2, iv ((0 : Int32) + (1 : Int32)), iv x0] [(.int 1), (.ref r0)])) rfl rfl (hb hby d6_12) _ ?_
    refine XS.istore X5.here hx rfl (hb hby d6_13) rfl (l' := #[rv r0, iv ((0 : Int32) + (1 : Int32)), rv r2, iv ((0 : Int32) + (1 : Int32)), iv 2, iv ((0 : Int32) + (1 : Int32)), iv x1]) rfl ?_
    refine XS.iload X5.here hx rfl (hb hby d6_15) rfl ?_
    refine XS.sipush X5.here hx rfl (hb hby d6_17) ?_
    show OwnS p e below T5 (mkF m 20 #[rv r0, iv ((0 : Int32) + (1 : Int32)), rv r2, iv ((0 : Int32) + (1 : Int32)), iv 2, iv ((0 : Int32) + (1 : Int32)), iv x1] [(.int 255), (.int x1)]) _
    refine XS.icmpYes X5.here hx rfl (pc0 := 20) (pc' := 26) rfl (hb hby d6_20) rfl (flt hle_x1).2.2.2 (by decide) (by decide) ?_
    refine XS.aloadN X5.here hx rfl (hb hby d6_26) rfl rfl ?_
    refine XS.iloadN X5.here hx rfl (hb hby d6_27) rfl ?_
    refine XS.iload X5.here hx rfl (hb hby d6_28) rfl ?_
    refine XS.i2b X5.here hx rfl (hb hby d6_30) rfl ?_
    refine st11 _ ?_
    refine XS.iinc X11.here hx rfl (hb hby d6_32) rfl (l' := #[rv r0, iv (((0 : Int32) + (1 : Int32)) + (1 : Int32)), rv r2, iv ((0 : Int32) + (1 : Int32)), iv 2, iv ((0 : Int32) + (1 : Int32)), iv x1]) rfl ?_
    refine XS.iinc X11.here hx rfl (hb hby d6_35) rfl (l' := #[rv r0, iv (((0 : Int32) + (1 : Int32)) + (1 : Int32)), rv r2, iv (((0 : Int32) + (1 : Int32)) + (1 : Int32)), iv 2, iv ((0 : Int32) + (1 : Int32)), iv x1]) rfl ?_
    refine XS.iinc X11.here hx rfl (hb hby d6_38) rfl (l' := #[rv r0, iv (((0 : Int32) + (1 : Int32)) + (1 : Int32)), rv r2, iv (((0 : Int32) + (1 : Int32)) + (1 : Int32)), iv 2, iv (((0 : Int32) + (1 : Int32)) + (1 : Int32)), iv x1]) rfl ?_
    refine XS.goto X11.here hx rfl (pc0 := 41) (pc' := 3) rfl (hb hby d6_41) (by decide) (by decide) ?_
    refine XS.iload X11.here hx rfl (hb hby d6_3) rfl ?_
    refine XS.iload X11.here hx rfl (hb hby d6_5) rfl ?_
    refine XS.icmpYes X11.here hx rfl (pc0 := 7) (pc' := 44) rfl (hb hby d6_7) rfl (flt (by decide : ¬ ((2 : Int32) < (2 : Int32)))).2.1 (by decide) (by decide) ?_
    refine XS.iload X11.here hx rfl (hb hby d6_44) rfl ?_
    exact retI X11 hx Bd.returns (hb hby d6_46) hr
  · show Q_6_2 Z _ _ _ _ _ _ h0 n0 _ T11.heap _
    rw [e11]
    exact ⟨rfl, N11, (((Keep.refl h0 [r2]).wr W5 (Or.inl (List.mem_of_getElem? (i := 0) rfl))).wr W11 (Or.inl (List.mem_of_getElem? (i := 0) rfl))), V11⟩
def Q_5_2 (Z : State) (r0 : Addr) (kC : ClassId) (x0 : Int32) (x1 : Int32) (h0 : Heap) (n0 : Nat) (v : Option Value) (h : Heap) (L : List Loc) : Prop := ∃ ar : Addr, ∃ kk : ClassId, v = some (.ref ar) ∧ Fr n0 L ∧ Keep h0 h [] ∧ h0.size ≤ ar ∧ Arv Z h ar kk .byte (2 : Int32) [(.int ((x0.toInt8.toInt32).toInt8.toInt32)), (.int ((x1.toInt8.toInt32).toInt8.toInt32))] (.int 0) ∧ Exa Z h ar "[B"
set_option maxRecDepth 65536 in
set_option maxHeartbeats 40000000 in
theorem rm5_2 (l : Launch) (Z : State) (a0 : Array Value) (hw : ∀ d ∈ tables_1, d.before a0 Z = true) (ws : List Jvm.Cond) (r0 : Addr) (kC : ClassId) (x0 : Int32) (x1 : Int32) (h0 : Heap) (n0 : Nat) (Z0 : n0 ≤ h0.size) (V_r0 : Arv Z h0 r0 kC .char (2 : Int32) [(.int x0), (.int x1)] (.int 0)) (hle_x0 : ¬ ((255 : Int32) < x0)) (hle_x1 : ¬ ((255 : Int32) < x1)) :
    MetFree l (⟨cS3, "compress", "([CII)[B"⟩ : MethodName) (head1 (Jvm.Cond.code (⟨cS3, "compress", "([CII)[B"⟩ : MethodName) jdk_52_method_16_code 6 (some (.array .byte)) :: ws) ({ frames := 1, cells := 1, slots := 2, locals := 18 } : Room)) (fun a U => a = #[(.ref r0), (.int 0), (.int 2)] ∧ Z.Warmed39 U.vm ∧ U.heap = h0) (fun _ _ _ _ _ => True) (fun _ U o U' => ∃ v L, o = .returned v ∧ Q_5_2 Z r0 kC x0 x1 h0 n0 v U'.heap L ∧ FrameEnd U o U' L ({ frames := 1, cells := 1, slots := 2, locals := 18 } : Room).cells ({ frames := 1, cells := 1, slots := 2, locals := 18 } : Room).slots) := by
  refine MetFree.of_bodySF (plainFor_of_name pn_java_lang_StringUTF16) hisR ?_
  intro p e s m args below meth c s₁ Bd hml0 hP hK
  obtain ⟨rfl, hZ, hh⟩ := hP
  have hx := Bd.exec
  have hby := Bd.bytes
  have hml : c.maxLocals = 6 := hml0
  have hown : s.vm.findClass cS3 = some m.cls := findClass_of_methodNamed Bd.named
  have hnm := (name_of_methodNamed Bd.named Bd.method).1
  have X0 : Stand p l e ({ frames := 1, cells := 1, slots := 2, locals := 18 } : Room) s m #[(.ref r0), (.int 0), (.int 2)] below meth c s₁ [] 0 0 := Stand.of_body Bd
  have e0 : s₁.heap = h0 := by rw [← hh, Bd.state]; rfl
  have N0 := Fr.nil n0
  have k0 : ∀ t, OwnS p e below s₁ (mkF m 0 #[rv r0, iv 0, iv 2, .unset, .unset, .unset] []) t → OwnS p e below s₁ (entryFrame m #[(.ref r0), (.int 0), (.int 2)] 6) t := fun t k => castTop (ef_5 m r0 (0 : Int32) (2 : Int32)) k
  obtain ⟨T1, h1, k1, X1, e1, E1, A1, EA1, st1⟩ := newPE X0 hx hZ (own_at hw 23 rfl) e0 (g := (mkF m 1 #[rv r0, iv 0, iv 2, .unset, .unset, .unset] [(.int 2)])) rfl (hb hby d5_1) rfl (by decide) (cap := 2) (by decide) (by decide) (by decide) (by decide) (ad := "[B") (by decide)
  obtain ⟨b1, g1⟩ : ∃ z, z = h0.size := ⟨_, rfl⟩
  rw [← g1] at A1 EA1 st1
  have g_b1 : n0 ≤ b1 := Nat.le_trans Z0 (Nat.le_of_eq g1.symm)
  have sz_b1 : h0.size ≤ b1 := Nat.le_trans (Keep.refl h0 []).1 (Nat.le_of_eq g1.symm)
  have V_b1 : Arv Z h1 b1 k1 .byte (2 : Int32) [(.int 0), (.int 0)] (.int 0) := (Arv.new A1 (by decide)).pad (pad_rep [] (.int 0) 2)
  have f3 := (V_r0.ext E1)
  obtain ⟨_, _, ⟨T2, L2, j2, i2⟩, -, X2, ⟨Lc2, hQ2, l2, y2, z2⟩, st2⟩ := Jvm.LawKit.callS X1 hx (y := (⟨cS3, "compress", "([CI[BII)I"⟩ : MethodName)) hown (mvT hZ (own_at hw 24 rfl)) (mvT hZ (own_at hw 25 rfl)) (mvT hZ (own_at hw 21 rfl)) (mvT hZ (own_at hw 26 rfl)) (by decide) (backOf (W := 0) (rm6_2 l Z a0 hw [] r0 b1 kC k1 x0 x1 h1 n0 (Nat.le_trans Z0 E1.1) f3 V_b1 EA1 hle_x0 hle_x1 g_b1 (Nat.ne_of_lt (Nat.lt_of_lt_of_le V_r0.lt (Nat.le_of_eq g1.symm)))) hZ (own_at hw 26 rfl) (own_at hw 21 rfl) (by decide) (by decide)) (g := (mkF m 9 #[rv r0, iv 0, iv 2, rv b1, .unset, .unset] [(.int 2), (.int 0), (.ref b1), (.int 0), (.ref r0)])) rfl (by rw [hml]; rfl) (argsL := [(.ref r0), (.int 0), (.ref b1), (.int 0), (.int 2)]) (rest := []) (lenOf pd_0 rfl) rfl (Nat.le_refl _) (hb hby d5_9) (fun _ _ => ⟨rfl, e1, (by decide : 1 + 0 ≤ _), (by decide : 2 + 0 ≤ _)⟩)
  dsimp only [Pt.U, Pt.locs, Pt.cells, Pt.slots] at X2 l2 y2 z2 st2 hQ2
  subst l2 y2 z2
  obtain ⟨rfl, N2q, K2, p2_0⟩ := hQ2
  have pl2 := (allS (P := fun x => ∃ cell : Cell, h1[x]? = some cell ∧ cell.vm.isStatics = false) (own_ns EA1) all0)
  have N2 := Fr.app N0 N2q
  have f4 := (EA1.keep K2)
  obtain ⟨fs, hr, hrun, hended, hW, hsame⟩ := X2.leave (v := some (.ref b1)) (fun h => by rw [Bd.returns] at h; cases h)
  refine ⟨_, _, k0 _ ?_, hrun, hended, _, _, rfl, ?_, ⟨_, rfl⟩, hW, hsame.mono (by decide) (by decide)⟩
  · show OwnS p e below s₁ (mkF m 0 #[rv r0, iv 0, iv 2, .unset, .unset, .unset] []) _
    refine XS.iloadN X0.here hx rfl (hb hby d5_0) rfl ?_
    refine st1 _ ?_
    refine XS.astoreN X1.here hx rfl (hb hby d5_3) rfl rfl (l' := #[rv r0, iv 0, iv 2, rv b1, .unset, .unset]) rfl ?_
    refine XS.aloadN X1.here hx rfl (hb hby d5_4) rfl rfl ?_
    refine XS.iloadN X1.here hx rfl (hb hby d5_5) rfl ?_
    refine XS.aloadN X1.here hx rfl (hb hby d5_6) rfl rfl ?_
    refine XS.iconst X1.here hx rfl (hb hby d5_7) ?_
    refine XS.iloadN X1.here hx rfl (hb hby d5_8) rfl ?_
    refine st2 _ ?_
    refine XS.istore X2.here hx rfl (hb hby d5_12) rfl (l' := #[rv r0, iv 0, iv 2, rv b1, iv 2, .unset]) rfl ?_
    refine XS.iload X2.here hx rfl (hb hby d5_14) rfl ?_
    refine XS.iloadN X2.here hx rfl (hb hby d5_16) rfl ?_
    refine XS.icmpYes X2.here hx rfl (pc0 := 17) (pc' := 57) rfl (hb hby d5_17) rfl (teq (by decide : (2 : Int32) = (2 : Int32))).1 (by decide) (by decide) ?_
    refine XS.aloadN X2.here hx rfl (hb hby d5_57) rfl rfl ?_
    jvm_step X2.here [X2.here.top, hx, (hb hby d5_58), X2.method', Bd.returns, Value.isRef, FieldType.isReference]
    first | (intro acts; rw [hr _ acts rfl rfl rfl]) | rw [hr _ _ rfl rfl rfl]
    exact Steps.refl _
  · show Q_5_2 Z _ _ _ _ h0 n0 _ T2.heap _
    exact ⟨b1, k1, rfl, N2, (((Keep.refl h0 []).ext E1).trans K2 (allS (Or.inr sz_b1) all0)), sz_b1, p2_0, f4⟩
def Q_7_2 (Z : State) (r0 : Addr) (kB : ClassId) (vs : List Value) (h0 : Heap) (n0 : Nat) (v : Option Value) (h : Heap) (L : List Loc) : Prop := v = some (.int 0) ∧ Fr n0 L ∧ h = h0
set_option maxRecDepth 65536 in
set_option maxHeartbeats 40000000 in
theorem rm7_2 (l : Launch) (Z : State) (a0 : Array Value) (hw : ∀ d ∈ tables_1, d.before a0 Z = true) (ws : List Jvm.Cond) (r0 : Addr) (kB : ClassId) (vs : List Value) (h0 : Heap) (n0 : Nat) (Z0 : n0 ≤ h0.size) (V_r0 : Arv Z h0 r0 kB .byte (2 : Int32) vs (.int 0)) :
    MetFree l (⟨cS3, "coderFromArrayLen", "([BI)B"⟩ : MethodName) (head1 (Jvm.Cond.code (⟨cS3, "coderFromArrayLen", "([BI)B"⟩ : MethodName) jdk_52_method_15_code 2 (some .byte) :: ws) ({ frames := 0, cells := 0, slots := 0, locals := 0 } : Room)) (fun a U => a = #[(.ref r0), (.int 2)] ∧ Z.Warmed39 U.vm ∧ U.heap = h0) (fun _ _ _ _ _ => True) (fun _ U o U' => ∃ v L, o = .returned v ∧ Q_7_2 Z r0 kB vs h0 n0 v U'.heap L ∧ FrameEnd U o U' L ({ frames := 0, cells := 0, slots := 0, locals := 0 } : Room).cells ({ frames := 0, cells := 0, slots := 0, locals := 0 } : Room).slots) := by
  refine MetFree.of_bodySF (plainFor_of_name pn_java_lang_StringUTF16) hisR ?_
  intro p e s m args below meth c s₁ Bd hml0 hP hK
  obtain ⟨rfl, hZ, hh⟩ := hP
  have hx := Bd.exec
  have hby := Bd.bytes
  have hml : c.maxLocals = 2 := hml0
  have hown : s.vm.findClass cS3 = some m.cls := findClass_of_methodNamed Bd.named
  have hnm := (name_of_methodNamed Bd.named Bd.method).1
  have X0 : Stand p l e ({ frames := 0, cells := 0, slots := 0, locals := 0 } : Room) s m #[(.ref r0), (.int 2)] below meth c s₁ [] 0 0 := Stand.of_body Bd
  have e0 : s₁.heap = h0 := by rw [← hh, Bd.state]; rfl
  have N0 := Fr.nil n0
  have k0 : ∀ t, OwnS p e below s₁ (mkF m 0 #[rv r0, iv 2] []) t → OwnS p e below s₁ (entryFrame m #[(.ref r0), (.int 2)] 2) t := fun t k => castTop (ef_7 m r0 (2 : Int32)) k
  obtain ⟨cl_z1, Ar_z1, q_z1, S_z1, N_z1, H_z1, G_z1⟩ := id V_r0
  obtain ⟨fs, hr, hrun, hended, hW, hsame⟩ := X0.leave (v := some (.int 0)) (fun h => by rw [Bd.returns] at h; cases h)
  refine ⟨_, _, k0 _ ?_, hrun, hended, _, _, rfl, ?_, ⟨_, rfl⟩, hW, hsame.mono (by decide) (by decide)⟩
  · show OwnS p e below s₁ (mkF m 0 #[rv r0, iv 2] []) _
    refine XS.iloadN X0.here hx rfl (hb hby d7_0) rfl ?_
    refine XS.aloadN X0.here hx rfl (hb hby d7_1) rfl rfl ?_
    refine X0.arraylength hx (by rw [e0]; exact Ar_z1.1) (State.isArrayOf_alike hZ.alike Ar_z1.2.1) (g := (mkF m 2 #[rv r0, iv 2] [(.ref r0), (.int 2)])) rfl rfl (hb hby d7_2) _ ?_
    rw [len_of S_z1 N_z1]
    refine XS.isub X0.here hx rfl (hb hby d7_3) rfl ?_
    refine XS.bipush X0.here hx rfl (hb hby d7_4) ?_
    refine XS.iushr X0.here hx rfl (hb hby d7_6) rfl ?_
    refine XS.i2b X0.here hx rfl (hb hby d7_7) rfl ?_
    exact retN X0 hx (t := .byte) Bd.returns (by simp) (hb hby d7_8) hr
  · show Q_7_2 Z _ _ _ h0 n0 _ s₁.heap _
    rw [e0]
    exact ⟨rfl, N0, rfl⟩
def Q_3_2 (Z : State) (r0 : Addr) (r1 : Addr) (w_CS : Int32) (kC : ClassId) (x0 : Int32) (x1 : Int32) (u_coder_r0 : Value) (u_value_r0 : Value) (h0 : Heap) (n0 : Nat) (v : Option Value) (h : Heap) (L : List Loc) : Prop := ∃ ar : Addr, ∃ kk : ClassId, v = none ∧ Fr n0 L ∧ Keep h0 h [r0] ∧ h0.size ≤ ar ∧ Exa Z h r0 cS1 ∧ Fld Z h r0 cS1 "coder" "B" (.int 0) ∧ Fld Z h r0 cS1 "value" "[B" (.ref ar) ∧ Arv Z h ar kk .byte (2 : Int32) [(.int ((x0.toInt8.toInt32).toInt8.toInt32)), (.int ((x1.toInt8.toInt32).toInt8.toInt32))] (.int 0) ∧ Exa Z h ar "[B"
set_option maxRecDepth 65536 in
set_option maxHeartbeats 40000000 in
theorem rm3_2 (l : Launch) (Z : State) (a0 : Array Value) (hw : ∀ d ∈ tables_1, d.before a0 Z = true) (ws : List Jvm.Cond) (r0 : Addr) (r1 : Addr) (w_CS : Int32) (kC : ClassId) (x0 : Int32) (x1 : Int32) (u_coder_r0 : Value) (u_value_r0 : Value) (h0 : Heap) (n0 : Nat) (Z0 : n0 ≤ h0.size) (S_CS : Sta Z h0 cS1 "COMPACT_STRINGS" "Z" (.int w_CS)) (hcs : ¬ (w_CS = (0 : Int32))) (E_r0 : Exa Z h0 r0 cS1) (V_r1 : Arv Z h0 r1 kC .char (2 : Int32) [(.int x0), (.int x1)] (.int 0)) (hle_x0 : ¬ ((255 : Int32) < x0)) (hle_x1 : ¬ ((255 : Int32) < x1)) (F_coder_r0 : Fld Z h0 r0 cS1 "coder" "B" u_coder_r0) (ge_r0 : n0 ≤ r0) (F_value_r0 : Fld Z h0 r0 cS1 "value" "[B" u_value_r0) :
    MetFree l (⟨cS1, "<init>", "([CIILjava/lang/Void;)V"⟩ : MethodName) (head1 (Jvm.Cond.code (⟨cS1, "<init>", "([CIILjava/lang/Void;)V"⟩ : MethodName) jdk_42_method_149_code 6 none :: ws) ({ frames := 2, cells := 1, slots := 2, locals := 35 } : Room)) (fun a U => a = #[(.ref r0), (.ref r1), (.int 0), (.int 2), .null] ∧ Z.Warmed39 U.vm ∧ U.heap = h0) (fun _ _ _ _ _ => True) (fun _ U o U' => ∃ v L, o = .returned v ∧ Q_3_2 Z r0 r1 w_CS kC x0 x1 u_coder_r0 u_value_r0 h0 n0 v U'.heap L ∧ FrameEnd U o U' L ({ frames := 2, cells := 1, slots := 2, locals := 35 } : Room).cells ({ frames := 2, cells := 1, slots := 2, locals := 35 } : Room).slots) := by
  refine MetFree.of_bodySF (plainFor_of_name pn_java_lang_String) hisR ?_
  intro p e s m args below meth c s₁ Bd hml0 hP hK
  obtain ⟨rfl, hZ, hh⟩ := hP
  have hx := Bd.exec
  have hby := Bd.bytes
  have hml : c.maxLocals = 6 := hml0
  have hown : s.vm.findClass cS1 = some m.cls := findClass_of_methodNamed Bd.named
  have hnm := (name_of_methodNamed Bd.named Bd.method).1
  have X0 : Stand p l e ({ frames := 2, cells := 1, slots := 2, locals := 35 } : Room) s m #[(.ref r0), (.ref r1), (.int 0), (.int 2), .null] below meth c s₁ [] 0 0 := Stand.of_body Bd
  have e0 : s₁.heap = h0 := by rw [← hh, Bd.state]; rfl
  have N0 := Fr.nil n0
  have k0 : ∀ t, OwnS p e below s₁ (mkF m 0 #[rv r0, rv r1, iv 0, iv 2, .val .null, .unset] []) t → OwnS p e below s₁ (entryFrame m #[(.ref r0), (.ref r1), (.int 0), (.int 2), .null] 6) t := fun t k => castTop (ef_3n4 m r0 r1 (0 : Int32) (2 : Int32)) k
  obtain ⟨T1, X1, e1, st1⟩ := initO X0 hx hZ hown (own_at hw 15 rfl) (own_at hw 16 rfl) (own_at hw 17 rfl) e0 (g := (mkF m 1 #[rv r0, rv r1, iv 0, iv 2, .val .null, .unset] [(.ref r0)])) rfl (by rw [hml]; rfl) rfl (hb hby d3_1) (by decide) (W := 0) (Nat.le_refl _) (by decide)
  obtain ⟨T2, X2, e2, st2⟩ := getS2 X1 hx hZ hown (host := "") (Or.inl (own_at hw 18 rfl)) Via.refl e1 S_CS (g := (mkF m 27 #[rv r0, rv r1, iv 0, iv 2, .val .null, .unset] [])) rfl (hb hby d3_27)
  obtain ⟨_, _, ⟨T3, L3, j3, i3⟩, -, X3, ⟨Lc3, hQ3, l3, y3, z3⟩, st3⟩ := Jvm.LawKit.callS X2 hx (y := (⟨cS3, "compress", "([CII)[B"⟩ : MethodName)) hown (mvT hZ (own_at hw 19 rfl)) (mvT hZ (own_at hw 20 rfl)) (mvT hZ (own_at hw 21 rfl)) (mvT hZ (own_at hw 22 rfl)) (by decide) (backOf (W := 0) (rm5_2 l Z a0 hw [] r1 kC x0 x1 h0 n0 Z0 V_r1 hle_x0 hle_x1) hZ (own_at hw 22 rfl) (own_at hw 21 rfl) (by decide) (by decide)) (g := (mkF m 36 #[rv r0, rv r1, iv 0, iv 2, .val .null, .unset] [(.int 2), (.int 0), (.ref r1)])) rfl (by rw [hml]; rfl) (argsL := [(.ref r1), (.int 0), (.int 2)]) (rest := []) (lenOf pd_1 rfl) rfl (Nat.le_refl _) (hb hby d3_36) (fun _ _ => ⟨rfl, e2, (by decide : 0 + 1 ≤ _), (by decide : 0 + 2 ≤ _)⟩)
  dsimp only [Pt.U, Pt.locs, Pt.cells, Pt.slots] at X3 l3 y3 z3 st3 hQ3
  subst l3 y3 z3
  obtain ⟨ar_3, kk_3, rfl, N3q, K3, p3_0, p3_1, p3_2⟩ := hQ3
  have g_ar_3 : n0 ≤ ar_3 := Nat.le_trans Z0 p3_0
  have sz_ar_3 : h0.size ≤ ar_3 := Nat.le_trans (Keep.refl h0 []).1 p3_0
  have N3 := Fr.app N0 N3q
  obtain ⟨_, _, ⟨T4, L4, j4, i4⟩, -, X4, ⟨Lc4, hQ4, l4, y4, z4⟩, st4⟩ := Jvm.LawKit.callS X3 hx (y := (⟨cS3, "coderFromArrayLen", "([BI)B"⟩ : MethodName)) hown (mvT hZ (own_at hw 27 rfl)) (mvT hZ (own_at hw 28 rfl)) (mvT hZ (own_at hw 21 rfl)) (mvT hZ (own_at hw 29 rfl)) (by decide) (backOf (W := 1) (rm7_2 l Z a0 hw [] ar_3 kk_3 [(.int ((x0.toInt8.toInt32).toInt8.toInt32)), (.int ((x1.toInt8.toInt32).toInt8.toInt32))] T3.heap n0 (Nat.le_trans Z0 K3.1) p3_1) hZ (own_at hw 29 rfl) (own_at hw 21 rfl) (by decide) (by decide)) (g := (mkF m 45 #[rv r0, rv r1, iv 0, iv 2, .val .null, rv ar_3] [(.int 2), (.ref ar_3), (.ref r0)])) rfl (by rw [hml]; rfl) (argsL := [(.ref ar_3), (.int 2)]) (rest := [(.ref r0)]) (lenOf pd_2 rfl) rfl (Nat.le_refl _) (hb hby d3_45) (fun _ _ => ⟨rfl, rfl, (by decide : 1 + 0 ≤ _), (by decide : 2 + 0 ≤ _)⟩)
  dsimp only [Pt.U, Pt.locs, Pt.cells, Pt.slots] at X4 l4 y4 z4 st4 hQ4
  subst l4 y4 z4
  obtain ⟨rfl, N4q, e4⟩ := hQ4
  have N4 := Fr.app N3 N4q
  have f5 := (E_r0.keep K3)
  have f6 := (F_coder_r0.keep K3 nin0)
  obtain ⟨T7, h7, X7, e7, W7, st7⟩ := putFN X4 hx hZ hown (own_at hw 30 rfl) Via.refl e4 f6 f5 (Or.inr ⟨(own_at hw 31 rfl), rfl, hnm⟩) (own_at hw 5 rfl) (ty := .byte) (v' := (.int 0)) (by decide) rfl rfl (g := (mkF m 48 #[rv r0, rv r1, iv 0, iv 2, .val .null, rv ar_3] [(.int 0), (.ref r0)])) rfl rfl (hb hby d3_48)
  have Fw7 : Fld Z h7 r0 cS1 "coder" "B" (.int 0) := f6.same W7
  have N7 := Fr.snoc X7 N4 ge_r0
  have f8 := (f5.wr W7)
  have f9 := ((F_value_r0.keep K3 nin0).other W7 (Or.inr (slot_ne (Or.inr (own_at hw 33 rfl)) (Or.inr (own_at hw 31 rfl)) (by decide) (t := (.array .byte)) (t' := .byte) (by decide) (by decide))))
  obtain ⟨T10, h10, X10, e10, W10, st10⟩ := putF X7 hx hZ hown (host := "") (Or.inl (own_at hw 32 rfl)) Via.refl e7 f9 f8 (Or.inr ⟨(own_at hw 33 rfl), rfl, hnm⟩) (own_at hw 5 rfl) (ty := (.array .byte)) (by decide) rfl rfl (g := (mkF m 54 #[rv r0, rv r1, iv 0, iv 2, .val .null, rv ar_3] [(.ref ar_3), (.ref r0)])) rfl rfl (hb hby d3_54)
  have Fw10 : Fld Z h10 r0 cS1 "value" "[B" (.ref ar_3) := f9.same W10
  have N10 := Fr.snoc X10 N7 ge_r0
  have f11 := (f8.wr W10)
  have f12 := (Fw7.other W10 (Or.inr (slot_ne (Or.inr (own_at hw 31 rfl)) (Or.inr (own_at hw 33 rfl)) (by decide) (t := .byte) (t' := (.array .byte)) (by decide) (by decide))))
  have f13 := ((p3_1.other W7 (Ne.symm (Nat.ne_of_lt (Nat.lt_of_lt_of_le E_r0.lt p3_0)))).other W10 (Ne.symm (Nat.ne_of_lt (Nat.lt_of_lt_of_le E_r0.lt p3_0))))
  have f14 := ((p3_2.wr W7).wr W10)
  obtain ⟨fs, hr, hrun, hended, hW, hsame⟩ := X10.leave (v := none) (fun _ => rfl)
  refine ⟨_, _, k0 _ ?_, hrun, hended, _, _, rfl, ?_, ⟨_, rfl⟩, hW, hsame.mono (by decide) (by decide)⟩
  · show OwnS p e below s₁ (mkF m 0 #[rv r0, rv r1, iv 0, iv 2, .val .null, .unset] []) _
    refine XS.aloadN X0.here hx rfl (hb hby d3_0) rfl rfl ?_
    refine st1 _ ?_
    refine XS.iloadN X1.here hx rfl (hb hby d3_4) rfl ?_
    refine XS.ifYes X1.here hx rfl (pc0 := 5) (pc' := 27) rfl (hb hby d3_5) rfl ((if0 _ _).trans (feq (by decide : ¬ ((2 : Int32) = (0 : Int32)))).2) (by decide) (by decide) ?_
    refine st2 _ ?_
    refine XS.ifNo X2.here hx rfl (hb hby d3_30) rfl ((if0 _ _).trans (feq hcs).1) ?_
    refine XS.aloadN X2.here hx rfl (hb hby d3_33) rfl rfl ?_
    refine XS.iloadN X2.here hx rfl (hb hby d3_34) rfl ?_
    refine XS.iloadN X2.here hx rfl (hb hby d3_35) rfl ?_
    refine st3 _ ?_
    refine XS.astore X3.here hx rfl (hb hby d3_39) rfl rfl (l' := #[rv r0, rv r1, iv 0, iv 2, .val .null, rv ar_3]) rfl ?_
    refine XS.aloadN X3.here hx rfl (hb hby d3_41) rfl rfl ?_
    refine XS.aload X3.here hx rfl (hb hby d3_42) rfl rfl ?_
    refine XS.iloadN X3.here hx rfl (hb hby d3_44) rfl ?_
    refine st4 _ ?_
    refine st7 _ ?_
    refine XS.aloadN X7.here hx rfl (hb hby d3_51) rfl rfl ?_
    refine XS.aload X7.here hx rfl (hb hby d3_52) rfl rfl ?_
    refine st10 _ ?_
    exact X10.returnOut hx Bd.returns (hb hby d3_57) hr
  · show Q_3_2 Z _ _ _ _ _ _ _ _ h0 n0 _ T10.heap _
    rw [e10]
    exact ⟨ar_3, kk_3, rfl, N10, ((((Keep.refl h0 [r0]).trans K3 all0).wr W7 (Or.inl (List.mem_of_getElem? (i := 0) rfl))).wr W10 (Or.inl (List.mem_of_getElem? (i := 0) rfl))), sz_ar_3, f11, f12, Fw10, f13, f14⟩
def Q_2_2 (Z : State) (r0 : Addr) (r1 : Addr) (w_CS : Int32) (kC : ClassId) (x0 : Int32) (x1 : Int32) (u_coder_r0 : Value) (u_value_r0 : Value) (h0 : Heap) (n0 : Nat) (v : Option Value) (h : Heap) (L : List Loc) : Prop := ∃ ar : Addr, ∃ kk : ClassId, v = none ∧ Fr n0 L ∧ Keep h0 h [r0] ∧ h0.size ≤ ar ∧ Exa Z h r0 cS1 ∧ Fld Z h r0 cS1 "coder" "B" (.int 0) ∧ Fld Z h r0 cS1 "value" "[B" (.ref ar) ∧ Arv Z h ar kk .byte (2 : Int32) [(.int ((x0.toInt8.toInt32).toInt8.toInt32)), (.int ((x1.toInt8.toInt32).toInt8.toInt32))] (.int 0) ∧ Exa Z h ar "[B"
set_option maxRecDepth 65536 in
set_option maxHeartbeats 40000000 in
theorem rm2_2 (l : Launch) (Z : State) (a0 : Array Value) (hw : ∀ d ∈ tables_1, d.before a0 Z = true) (ws : List Jvm.Cond) (r0 : Addr) (r1 : Addr) (w_CS : Int32) (kC : ClassId) (x0 : Int32) (x1 : Int32) (u_coder_r0 : Value) (u_value_r0 : Value) (h0 : Heap) (n0 : Nat) (Z0 : n0 ≤ h0.size) (S_CS : Sta Z h0 cS1 "COMPACT_STRINGS" "Z" (.int w_CS)) (hcs : ¬ (w_CS = (0 : Int32))) (E_r0 : Exa Z h0 r0 cS1) (V_r1 : Arv Z h0 r1 kC .char (2 : Int32) [(.int x0), (.int x1)] (.int 0)) (hle_x0 : ¬ ((255 : Int32) < x0)) (hle_x1 : ¬ ((255 : Int32) < x1)) (F_coder_r0 : Fld Z h0 r0 cS1 "coder" "B" u_coder_r0) (ge_r0 : n0 ≤ r0) (F_value_r0 : Fld Z h0 r0 cS1 "value" "[B" u_value_r0) :
    MetFree l (⟨cS1, "<init>", "([C)V"⟩ : MethodName) (head1 (Jvm.Cond.code (⟨cS1, "<init>", "([C)V"⟩ : MethodName) jdk_42_method_3_code 2 none :: ws) ({ frames := 3, cells := 1, slots := 2, locals := 52 } : Room)) (fun a U => a = #[(.ref r0), (.ref r1)] ∧ Z.Warmed39 U.vm ∧ U.heap = h0) (fun _ _ _ _ _ => True) (fun _ U o U' => ∃ v L, o = .returned v ∧ Q_2_2 Z r0 r1 w_CS kC x0 x1 u_coder_r0 u_value_r0 h0 n0 v U'.heap L ∧ FrameEnd U o U' L ({ frames := 3, cells := 1, slots := 2, locals := 52 } : Room).cells ({ frames := 3, cells := 1, slots := 2, locals := 52 } : Room).slots) := by
  refine MetFree.of_bodySF (plainFor_of_name pn_java_lang_String) hisR ?_
  intro p e s m args below meth c s₁ Bd hml0 hP hK
  obtain ⟨rfl, hZ, hh⟩ := hP
  have hx := Bd.exec
  have hby := Bd.bytes
  have hml : c.maxLocals = 2 := hml0
  have hown : s.vm.findClass cS1 = some m.cls := findClass_of_methodNamed Bd.named
  have hnm := (name_of_methodNamed Bd.named Bd.method).1
  have X0 : Stand p l e ({ frames := 3, cells := 1, slots := 2, locals := 52 } : Room) s m #[(.ref r0), (.ref r1)] below meth c s₁ [] 0 0 := Stand.of_body Bd
  have e0 : s₁.heap = h0 := by rw [← hh, Bd.state]; rfl
  have N0 := Fr.nil n0
  have k0 : ∀ t, OwnS p e below s₁ (mkF m 0 #[rv r0, rv r1] []) t → OwnS p e below s₁ (entryFrame m #[(.ref r0), (.ref r1)] 2) t := fun t k => castTop (ef_2 m r0 r1) k
  obtain ⟨cl_z1, Ar_z1, q_z1, S_z1, N_z1, H_z1, G_z1⟩ := id V_r1
  obtain ⟨_, _, ⟨T2, L2, j2, i2⟩, -, X2, ⟨Lc2, hQ2, l2, y2, z2⟩, st2⟩ := X0.specialBack hx (y := (⟨cS1, "<init>", "([CIILjava/lang/Void;)V"⟩ : MethodName)) rfl hown (mvT hZ (own_at hw 11 rfl)) (mvT hZ (own_at hw 12 rfl)) (mvT hZ (own_at hw 14 rfl)) (by decide) (backOf (W := 0) (rm3_2 l Z a0 hw [] r0 r1 w_CS kC x0 x1 u_coder_r0 u_value_r0 h0 n0 Z0 S_CS hcs E_r0 V_r1 hle_x0 hle_x1 F_coder_r0 ge_r0 F_value_r0) hZ (own_at hw 14 rfl) (own_at hw 6 rfl) (by decide) (by decide)) (g := (mkF m 6 #[rv r0, rv r1] [.null, (.int 2), (.int 0), (.ref r1), (.ref r0)])) rfl (by rw [hml]; rfl) (Steps.refl _) (a := r0) (argsL := [(.ref r1), (.int 0), (.int 2), .null]) (rest := []) (lenOf pd_3 rfl) rfl (Nat.le_refl _) (hb hby d2_6) (fun _ _ => ⟨rfl, e0, (by decide : 0 + 1 ≤ _), (by decide : 0 + 2 ≤ _)⟩)
  dsimp only [Pt.U, Pt.locs, Pt.cells, Pt.slots] at X2 l2 y2 z2 st2 hQ2
  subst l2 y2 z2
  obtain ⟨ar_2, kk_2, rfl, N2q, K2, p2_0, p2_1, p2_2, p2_3, p2_4, p2_5⟩ := hQ2
  have pl2 := (allS (P := fun x => ∃ cell : Cell, h0[x]? = some cell ∧ cell.vm.isStatics = false) (own_ns E_r0) all0)
  have g_ar_2 : n0 ≤ ar_2 := Nat.le_trans Z0 p2_0
  have sz_ar_2 : h0.size ≤ ar_2 := Nat.le_trans (Keep.refl h0 []).1 p2_0
  have N2 := Fr.app N0 N2q
  obtain ⟨fs, hr, hrun, hended, hW, hsame⟩ := X2.leave (v := none) (fun _ => rfl)
  refine ⟨_, _, k0 _ ?_, hrun, hended, _, _, rfl, ?_, ⟨_, rfl⟩, hW, hsame.mono (by decide) (by decide)⟩
  · show OwnS p e below s₁ (mkF m 0 #[rv r0, rv r1] []) _
    refine XS.aloadN X0.here hx rfl (hb hby d2_0) rfl rfl ?_
    refine XS.aloadN X0.here hx rfl (hb hby d2_1) rfl rfl ?_
    refine XS.iconst X0.here hx rfl (hb hby d2_2) ?_
    refine XS.aloadN X0.here hx rfl (hb hby d2_3) rfl rfl ?_
    refine X0.arraylength hx (by rw [e0]; exact Ar_z1.1) (State.isArrayOf_alike hZ.alike Ar_z1.2.1) (g := (mkF m 4 #[rv r0, rv r1] [(.ref r1), (.int 0), (.ref r1), (.ref r0)])) rfl rfl (hb hby d2_4) _ ?_
    rw [len_of S_z1 N_z1]
    refine XS.aconstNull X0.here hx rfl (hb hby d2_5) ?_
    refine st2.trans ?_
    exact X2.returnOut hx Bd.returns (hb hby d2_9) hr
  · show Q_2_2 Z _ _ _ _ _ _ _ _ h0 n0 _ T2.heap _
    exact ⟨ar_2, kk_2, rfl, N2, ((Keep.refl h0 [r0]).trans K2 (allS (Or.inl (List.mem_of_getElem? (i := 0) rfl)) all0)), sz_ar_2, p2_1, p2_2, p2_3, p2_4, p2_5⟩
def Q_6_3 (Z : State) (r0 : Addr) (r2 : Addr) (kC : ClassId) (kB : ClassId) (x0 : Int32) (x1 : Int32) (x2 : Int32) (h0 : Heap) (n0 : Nat) (v : Option Value) (h : Heap) (L : List Loc) : Prop := v = some (.int 3) ∧ Fr n0 L ∧ Keep h0 h [r2] ∧ Arv Z h r2 kB .byte (3 : Int32) [(.int ((x0.toInt8.toInt32).toInt8.toInt32)), (.int ((x1.toInt8.toInt32).toInt8.toInt32)), (.int ((x2.toInt8.toInt32).toInt8.toInt32))] (.int 0)
set_option maxRecDepth 65536 in
set_option maxHeartbeats 40000000 in
theorem rm6_3 (l : Launch) (Z : State) (a0 : Array Value) (hw : ∀ d ∈ tables_1, d.before a0 Z = true) (ws : List Jvm.Cond) (r0 : Addr) (r2 : Addr) (kC : ClassId) (kB : ClassId) (x0 : Int32) (x1 : Int32) (x2 : Int32) (h0 : Heap) (n0 : Nat) (Z0 : n0 ≤ h0.size) (V_r0 : Arv Z h0 r0 kC .char (3 : Int32) [(.int x0), (.int x1), (.int x2)] (.int 0)) (V_r2 : Arv Z h0 r2 kB .byte (3 : Int32) [(.int 0), (.int 0), (.int 0)] (.int 0)) (E_r2 : Exa Z h0 r2 "[B") (hle_x0 : ¬ ((255 : Int32) < x0)) (hle_x1 : ¬ ((255 : Int32) < x1)) (hle_x2 : ¬ ((255 : Int32) < x2)) (ge_r2 : n0 ≤ r2) (ne_r0_r2 : r0 ≠ r2) :
    MetFree l (⟨cS3, "compress", "([CI[BII)I"⟩ : MethodName) (head1 (Jvm.Cond.code (⟨cS3, "compress", "([CI[BII)I"⟩ : MethodName) jdk_52_method_21_code 7 (some .int) :: ws) ({ frames := 0, cells := 0, slots := 0, locals := 0 } : Room)) (fun a U => a = #[(.ref r0), (.int 0), (.ref r2), (.int 0), (.int 3)] ∧ Z.Warmed39 U.vm ∧ U.heap = h0) (fun _ _ _ _ _ => True) (fun _ U o U' => ∃ v L, o = .returned v ∧ Q_6_3 Z r0 r2 kC kB x0 x1 x2 h0 n0 v U'.heap L ∧ FrameEnd U o U' L ({ frames := 0, cells := 0, slots := 0, locals := 0 } : Room).cells ({ frames := 0, cells := 0, slots := 0, locals := 0 } : Room).slots) := by
  refine MetFree.of_bodySF (plainFor_of_name pn_java_lang_StringUTF16) hisR ?_
  intro p e s m args below meth c s₁ Bd hml0 hP hK
  obtain ⟨rfl, hZ, hh⟩ := hP
  have hx := Bd.exec
  have hby := Bd.bytes
  have hml : c.maxLocals = 7 := hml0
  have hown : s.vm.findClass cS3 = some m.cls := findClass_of_methodNamed Bd.named
  have hnm := (name_of_methodNamed Bd.named Bd.method).1
  have X0 : Stand p l e ({ frames := 0, cells := 0, slots := 0, locals := 0 } : Room) s m #[(.ref r0), (.int 0), (.ref r2), (.int 0), (.int 3)] below meth c s₁ [] 0 0 := Stand.of_body Bd
  have e0 : s₁.heap = h0 := by rw [← hh, Bd.state]; rfl
  have N0 := Fr.nil n0
  have k0 : ∀ t, OwnS p e below s₁ (mkF m 0 #[rv r0, iv 0, rv r2, iv 0, iv 3, .unset, .unset] []) t → OwnS p e below s₁ (entryFrame m #[(.ref r0), (.int 0), (.ref r2), (.int 0), (.int 3)] 7) t := fun t k => castTop (ef_6 m r0 (0 : Int32) r2 (0 : Int32) (3 : Int32)) k
  obtain ⟨cl_z1, Ar_z1, q_z1, S_z1, N_z1, H_z1, G_z1⟩ := id V_r0
  have hin2 : ¬ ((0 : Int32) < 0 ∨ cl_z1.slots.size ≤ ((0 : Int32)).toNatClampNeg) := inb_of S_z1 ⟨by decide, by decide⟩
  obtain ⟨cl_z3, Ar_z3, q_z3, S_z3, N_z3, H_z3, G_z3⟩ := id V_r2
  have hin4 : ¬ ((0 : Int32) < 0 ∨ cl_z3.slots.size ≤ ((0 : Int32)).toNatClampNeg) := inb_of S_z3 ⟨by decide, by decide⟩
  obtain ⟨T5, h5, X5, e5, W5, st5⟩ := stB X0 hx hZ e0 Ar_z3 (j := (0 : Int32)) hin4 (g := (mkF m 31 #[rv r0, iv 0, rv r2, iv 0, iv 3, iv 0, iv x0] [(.int (x0.toInt8.toInt32)), (.int 0), (.ref r2)])) rfl rfl (hb hby d6_31)
  have V5 : Arv Z h5 r2 kB .byte (3 : Int32) [(.int ((x0.toInt8.toInt32).toInt8.toInt32)), (.int 0), (.int 0)] (.int 0) := Arv.set Ar_z3 q_z3 S_z3 N_z3 H_z3 G_z3 (fits_nar_byte _) W5 0 rfl (Nat.le_of_ble_eq_true rfl)
  have N5 := Fr.snoc X5 N0 ge_r2
  have f6 := (V_r0.other W5 ne_r0_r2)
  obtain ⟨cl_z7, Ar_z7, q_z7, S_z7, N_z7, H_z7, G_z7⟩ := id f6
  have hin8 : ¬ ((1 : Int32) < 0 ∨ cl_z7.slots.size ≤ ((1 : Int32)).toNatClampNeg) := inb_of S_z7 ⟨by decide, by decide⟩
  obtain ⟨cl_z9, Ar_z9, q_z9, S_z9, N_z9, H_z9, G_z9⟩ := id V5
  have hin10 : ¬ ((1 : Int32) < 0 ∨ cl_z9.slots.size ≤ ((1 : Int32)).toNatClampNeg) := inb_of S_z9 ⟨by decide, by decide⟩
  obtain ⟨T11, h11, X11, e11, W11, st11⟩ := stB X5 hx hZ e5 Ar_z9 (j := (1 : Int32)) hin10 (g := (mkF m 31 #[rv r0, iv ((0 : Int32) + (1 : Int32)), rv r2, iv ((0 : Int32) + (1 : Int32)), iv 3, iv ((0 : Int32) + (1 : Int32)), iv x1] [(.int (x1.toInt8.toInt32)), (.int 1), (.ref r2)])) rfl rfl (hb hby d6_31)
  have V11 : Arv Z h11 r2 kB .byte (3 : Int32) [(.int ((x0.toInt8.toInt32).toInt8.toInt32)), (.int ((x1.toInt8.toInt32).toInt8.toInt32)), (.int 0)] (.int 0) := Arv.set Ar_z9 q_z9 S_z9 N_z9 H_z9 G_z9 (fits_nar_byte _) W11 1 rfl (Nat.le_of_ble_eq_true rfl)
  have N11 := Fr.snoc X11 N5 ge_r2
  have f12 := (f6.other W11 ne_r0_r2)
  obtain ⟨cl_z13, Ar_z13, q_z13, S_z13, N_z13, H_z13, G_z13⟩ := id f12
  have hin14 : ¬ ((2 : Int32) < 0 ∨ cl_z13.slots.size ≤ ((2 : Int32)).toNatClampNeg) := inb_of S_z13 ⟨by decide, by decide⟩
  obtain ⟨cl_z15, Ar_z15, q_z15, S_z15, N_z15, H_z15, G_z15⟩ := id V11
  have hin16 : ¬ ((2 : Int32) < 0 ∨ cl_z15.slots.size ≤ ((2 : Int32)).toNatClampNeg) := inb_of S_z15 ⟨by decide, by decide⟩
  obtain ⟨T17, h17, X17, e17, W17, st17⟩ := stB X11 hx hZ e11 Ar_z15 (j := (2 : Int32)) hin16 (g := (mkF m 31 #[rv r0, iv (((0 : Int32) + (1 : Int32)) + (1 : Int32)), rv r2, iv (((0 : Int32) + (1 : Int32)) + (1 : Int32)), iv 3, iv (((0 : Int32) + (1 : Int32)) + (1 : Int32)), iv x2] [(.int (x2.toInt8.toInt32)), (.int 2), (.ref r2)])) rfl rfl (hb hby d6_31)
  have V17 : Arv Z h17 r2 kB .byte (3 : Int32) [(.int ((x0.toInt8.toInt32).toInt8.toInt32)), (.int ((x1.toInt8.toInt32).toInt8.toInt32)), (.int ((x2.toInt8.toInt32).toInt8.toInt32))] (.int 0) := Arv.set Ar_z15 q_z15 S_z15 N_z15 H_z15 G_z15 (fits_nar_byte _) W17 2 rfl (Nat.le_of_ble_eq_true rfl)
  have N17 := Fr.snoc X17 N11 ge_r2
  obtain ⟨fs, hr, hrun, hended, hW, hsame⟩ := X17.leave (v := some (.int 3)) (fun h => by rw [Bd.returns] at h; cases h)
  refine ⟨_, _, k0 _ ?_, hrun, hended, _, _, rfl, ?_, ⟨_, rfl⟩, hW, hsame.mono (by decide) (by decide)⟩
  · show OwnS p e below s₁ (mkF m 0 #[rv r0, iv 0, rv r2, iv 0, iv 3, .unset, .unset] []) _
    refine XS.iconst X0.here hx rfl (hb hby d6_0) ?_
    refine XS.istore X0.here hx rfl (hb hby d6_1) rfl (l' := #[rv r0, iv 0, rv r2, iv 0, iv 3, iv 0, .unset]) rfl ?_
    refine XS.iload X0.here hx rfl (hb hby d6_3) rfl ?_
    refine XS.iload X0.here hx rfl (hb hby d6_5) rfl ?_
    refine XS.icmpNo X0.here hx rfl (hb hby d6_7) rfl (tlt (by decide : (0 : Int32) < (3 : Int32))).2.1 ?_
    refine XS.aloadN X0.here hx rfl (hb hby d6_10) rfl rfl ?_
    refine XS.iloadN X0.here hx rfl (hb hby d6_11) rfl ?_
    refine X0.caload hx (j := (0 : Int32)) (v := (.int x0)) (by rw [e0]; exact Ar_z1.1) (State.isArrayOf_alike hZ.alike Ar_z1.2.1) Ar_z1.2.2 hin2 (Has.at H_z1 hin2 rfl) (g := (mkF m 12 #[rv r0, iv 0, rv r2, iv 0, iv 3, iv 0, .unset] [(.int 0), (.ref r0)])) rfl rfl (hb hby d6_12) _ ?_
    refine XS.istore X0.here hx rfl (hb hby d6_13) rfl (l' := #[rv r0, iv 0, rv r2, iv 0, iv 3, iv 0, iv x0]) rfl ?_
    refine XS.iload X0.here hx rfl (hb hby d6_15) rfl ?_
    refine XS.sipush X0.here hx rfl (hb hby d6_17) ?_
    refine XS.icmpYes X0.here hx rfl (pc0 := 20) (pc' := 26) rfl (hb hby d6_20) rfl (flt hle_x0).2.2.2 (by decide) (by decide) ?_
    refine XS.aloadN X0.here hx rfl (hb hby d6_26) rfl rfl ?_
    refine XS.iloadN X0.here hx rfl (hb hby d6_27) rfl ?_
    refine XS.iload X0.here hx rfl (hb hby d6_28) rfl ?_
    refine XS.i2b X0.here hx rfl (hb hby d6_30) rfl ?_
    refine st5 _ ?_
    refine XS.iinc X5.here hx rfl (hb hby d6_32) rfl (l' := #[rv r0, iv ((0 : Int32) + (1 : Int32)), rv r2, iv 0, iv 3, iv 0, iv x0]) rfl ?_
    refine XS.iinc X5.here hx rfl (hb hby d6_35) rfl (l' := #[rv r0, iv ((0 : Int32) + (1 : Int32)), rv r2, iv ((0 : Int32) + (1 : Int32)), iv 3, iv 0, iv x0]) rfl ?_
    refine XS.iinc X5.here hx rfl (hb hby d6_38) rfl (l' := #[rv r0, iv ((0 : Int32) + (1 : Int32)), rv r2, iv ((0 : Int32) + (1 : Int32)), iv 3, iv ((0 : Int32) + (1 : Int32)), iv x0]) rfl ?_
    refine XS.goto X5.here hx rfl (pc0 := 41) (pc' := 3) rfl (hb hby d6_41) (by decide) (by decide) ?_
    refine XS.iload X5.here hx rfl (hb hby d6_3) rfl ?_
    refine XS.iload X5.here hx rfl (hb hby d6_5) rfl ?_
    refine XS.icmpNo X5.here hx rfl (hb hby d6_7) rfl (tlt (by decide : (1 : Int32) < (3 : Int32))).2.1 ?_
    refine XS.aloadN X5.here hx rfl (hb hby d6_10) rfl rfl ?_
    refine XS.iloadN X5.here hx rfl (hb hby d6_11) rfl ?_
    refine X5.caload hx (j := (1 : Int32)) (v := (.int x1)) (by rw [e5]; exact Ar_z7.1) (State.isArrayOf_alike hZ.alike Ar_z7.2.1) Ar_z7.2.2 hin8 (Has.at H_z7 hin8 rfl) (g := (mkF m 12 #[rv r0, iv ((0 : Int32) + (1 : Int32)), rv r2, iv ((0 : Int32) + (1 : Int32)), iv 3, iv ((0 : Int32) + (1 : Int32)), iv x0] [(.int 1), (.ref r0)])) rfl rfl (hb hby d6_12) _ ?_
    refine XS.istore X5.here hx rfl (hb hby d6_13) rfl (l' := #[rv r0, iv ((0 : Int32) + (1 : Int32)), rv r2, iv ((0 : Int32) + (1 : Int32)), iv 3, iv ((0 : Int32) + (1 : Int32)), iv x1]) rfl ?_
    refine XS.iload X5.here hx rfl (hb hby d6_15) rfl ?_
    refine XS.sipush X5.here hx rfl (hb hby d6_17) ?_
    show OwnS p e below T5 (mkF m 20 #[rv r0, iv ((0 : Int32) + (1 : Int32)), rv r2, iv ((0 : Int32) + (1 : Int32)), iv 3, iv ((0 : Int32) + (1 : Int32)), iv x1] [(.int 255), (.int x1)]) _
    refine XS.icmpYes X5.here hx rfl (pc0 := 20) (pc' := 26) rfl (hb hby d6_20) rfl (flt hle_x1).2.2.2 (by decide) (by decide) ?_
    refine XS.aloadN X5.here hx rfl (hb hby d6_26) rfl rfl ?_
    refine XS.iloadN X5.here hx rfl (hb hby d6_27) rfl ?_
    refine XS.iload X5.here hx rfl (hb hby d6_28) rfl ?_
    refine XS.i2b X5.here hx rfl (hb hby d6_30) rfl ?_
    refine st11 _ ?_
    refine XS.iinc X11.here hx rfl (hb hby d6_32) rfl (l' := #[rv r0, iv (((0 : Int32) + (1 : Int32)) + (1 : Int32)), rv r2, iv ((0 : Int32) + (1 : Int32)), iv 3, iv ((0 : Int32) + (1 : Int32)), iv x1]) rfl ?_
    refine XS.iinc X11.here hx rfl (hb hby d6_35) rfl (l' := #[rv r0, iv (((0 : Int32) + (1 : Int32)) + (1 : Int32)), rv r2, iv (((0 : Int32) + (1 : Int32)) + (1 : Int32)), iv 3, iv ((0 : Int32) + (1 : Int32)), iv x1]) rfl ?_
    refine XS.iinc X11.here hx rfl (hb hby d6_38) rfl (l' := #[rv r0, iv (((0 : Int32) + (1 : Int32)) + (1 : Int32)), rv r2, iv (((0 : Int32) + (1 : Int32)) + (1 : Int32)), iv 3, iv (((0 : Int32) + (1 : Int32)) + (1 : Int32)), iv x1]) rfl ?_
    refine XS.goto X11.here hx rfl (pc0 := 41) (pc' := 3) rfl (hb hby d6_41) (by decide) (by decide) ?_
    refine XS.iload X11.here hx rfl (hb hby d6_3) rfl ?_
    refine XS.iload X11.here hx rfl (hb hby d6_5) rfl ?_
    refine XS.icmpNo X11.here hx rfl (hb hby d6_7) rfl (tlt (by decide : (2 : Int32) < (3 : Int32))).2.1 ?_
    refine XS.aloadN X11.here hx rfl (hb hby d6_10) rfl rfl ?_
    refine XS.iloadN X11.here hx rfl (hb hby d6_11) rfl ?_
    refine X11.caload hx (j := (2 : Int32)) (v := (.int x2)) (by rw [e11]; exact Ar_z13.1) (State.isArrayOf_alike hZ.alike Ar_z13.2.1) Ar_z13.2.2 hin14 (Has.at H_z13 hin14 rfl) (g := (mkF m 12 #[rv r0, iv (((0 : Int32) + (1 : Int32)) + (1 : Int32)), rv r2, iv (((0 : Int32) + (1 : Int32)) + (1 : Int32)), iv 3, iv (((0 : Int32) + (1 : Int32)) + (1 : Int32)), iv x1] [(.int 2), (.ref r0)])) rfl rfl (hb hby d6_12) _ ?_
    refine XS.istore X11.here hx rfl (hb hby d6_13) rfl (l' := #[rv r0, iv (((0 : Int32) + (1 : Int32)) + (1 : Int32)), rv r2, iv (((0 : Int32) + (1 : Int32)) + (1 : Int32)), iv 3, iv (((0 : Int32) + (1 : Int32)) + (1 : Int32)), iv x2]) rfl ?_
    refine XS.iload X11.here hx rfl (hb hby d6_15) rfl ?_
    refine XS.sipush X11.here hx rfl (hb hby d6_17) ?_
    refine XS.icmpYes X11.here hx rfl (pc0 := 20) (pc' := 26) rfl (hb hby d6_20) rfl (flt hle_x2).2.2.2 (by decide) (by decide) ?_
    refine XS.aloadN X11.here hx rfl (hb hby d6_26) rfl rfl ?_
    refine XS.iloadN X11.here hx rfl (hb hby d6_27) rfl ?_
    refine XS.iload X11.here hx rfl (hb hby d6_28) rfl ?_
    refine XS.i2b X11.here hx rfl (hb hby d6_30) rfl ?_
    refine st17 _ ?_
    refine XS.iinc X17.here hx rfl (hb hby d6_32) rfl (l' := #[rv r0, iv ((((0 : Int32) + (1 : Int32)) + (1 : Int32)) + (1 : Int32)), rv r2, iv (((0 : Int32) + (1 : Int32)) + (1 : Int32)), iv 3, iv (((0 : Int32) + (1 : Int32)) + (1 : Int32)), iv x2]) rfl ?_
    refine XS.iinc X17.here hx rfl (hb hby d6_35) rfl (l' := #[rv r0, iv ((((0 : Int32) + (1 : Int32)) + (1 : Int32)) + (1 : Int32)), rv r2, iv ((((0 : Int32) + (1 : Int32)) + (1 : Int32)) + (1 : Int32)), iv 3, iv (((0 : Int32) + (1 : Int32)) + (1 : Int32)), iv x2]) rfl ?_
    refine XS.iinc X17.here hx rfl (hb hby d6_38) rfl (l' := #[rv r0, iv ((((0 : Int32) + (1 : Int32)) + (1 : Int32)) + (1 : Int32)), rv r2, iv ((((0 : Int32) + (1 : Int32)) + (1 : Int32)) + (1 : Int32)), iv 3, iv ((((0 : Int32) + (1 : Int32)) + (1 : Int32)) + (1 : Int32)), iv x2]) rfl ?_
    refine XS.goto X17.here hx rfl (pc0 := 41) (pc' := 3) rfl (hb hby d6_41) (by decide) (by decide) ?_
    refine XS.iload X17.here hx rfl (hb hby d6_3) rfl ?_
    show OwnS p e below T17 (mkF m 5 #[rv r0, iv ((((0 : Int32) + (1 : Int32)) + (1 : Int32)) + (1 : Int32)), rv r2, iv ((((0 : Int32) + (1 : Int32)) + (1 : Int32)) + (1 : Int32)), iv 3, iv ((((0 : Int32) + (1 : Int32)) + (1 : Int32)) + (1 : Int32)), iv x2] [(.int 3)]) _
    refine XS.iload X17.here hx rfl (hb hby d6_5) rfl ?_
    refine XS.icmpYes X17.here hx rfl (pc0 := 7) (pc' := 44) rfl (hb hby d6_7) rfl (flt (by decide : ¬ ((3 : Int32) < (3 : Int32)))).2.1 (by decide) (by decide) ?_
    refine XS.iload X17.here hx rfl (hb hby d6_44) rfl ?_
    exact retI X17 hx Bd.returns (hb hby d6_46) hr
  · show Q_6_3 Z _ _ _ _ _ _ _ h0 n0 _ T17.heap _
    rw [e17]
    exact ⟨rfl, N17, ((((Keep.refl h0 [r2]).wr W5 (Or.inl (List.mem_of_getElem? (i := 0) rfl))).wr W11 (Or.inl (List.mem_of_getElem? (i := 0) rfl))).wr W17 (Or.inl (List.mem_of_getElem? (i := 0) rfl))), V17⟩
def Q_5_3 (Z : State) (r0 : Addr) (kC : ClassId) (x0 : Int32) (x1 : Int32) (x2 : Int32) (h0 : Heap) (n0 : Nat) (v : Option Value) (h : Heap) (L : List Loc) : Prop := ∃ ar : Addr, ∃ kk : ClassId, v = some (.ref ar) ∧ Fr n0 L ∧ Keep h0 h [] ∧ h0.size ≤ ar ∧ Arv Z h ar kk .byte (3 : Int32) [(.int ((x0.toInt8.toInt32).toInt8.toInt32)), (.int ((x1.toInt8.toInt32).toInt8.toInt32)), (.int ((x2.toInt8.toInt32).toInt8.toInt32))] (.int 0) ∧ Exa Z h ar "[B"
set_option maxRecDepth 65536 in
set_option maxHeartbeats 40000000 in
theorem rm5_3 (l : Launch) (Z : State) (a0 : Array Value) (hw : ∀ d ∈ tables_1, d.before a0 Z = true) (ws : List Jvm.Cond) (r0 : Addr) (kC : ClassId) (x0 : Int32) (x1 : Int32) (x2 : Int32) (h0 : Heap) (n0 : Nat) (Z0 : n0 ≤ h0.size) (V_r0 : Arv Z h0 r0 kC .char (3 : Int32) [(.int x0), (.int x1), (.int x2)] (.int 0)) (hle_x0 : ¬ ((255 : Int32) < x0)) (hle_x1 : ¬ ((255 : Int32) < x1)) (hle_x2 : ¬ ((255 : Int32) < x2)) :
    MetFree l (⟨cS3, "compress", "([CII)[B"⟩ : MethodName) (head1 (Jvm.Cond.code (⟨cS3, "compress", "([CII)[B"⟩ : MethodName) jdk_52_method_16_code 6 (some (.array .byte)) :: ws) ({ frames := 1, cells := 1, slots := 3, locals := 18 } : Room)) (fun a U => a = #[(.ref r0), (.int 0), (.int 3)] ∧ Z.Warmed39 U.vm ∧ U.heap = h0) (fun _ _ _ _ _ => True) (fun _ U o U' => ∃ v L, o = .returned v ∧ Q_5_3 Z r0 kC x0 x1 x2 h0 n0 v U'.heap L ∧ FrameEnd U o U' L ({ frames := 1, cells := 1, slots := 3, locals := 18 } : Room).cells ({ frames := 1, cells := 1, slots := 3, locals := 18 } : Room).slots) := by
  refine MetFree.of_bodySF (plainFor_of_name pn_java_lang_StringUTF16) hisR ?_
  intro p e s m args below meth c s₁ Bd hml0 hP hK
  obtain ⟨rfl, hZ, hh⟩ := hP
  have hx := Bd.exec
  have hby := Bd.bytes
  have hml : c.maxLocals = 6 := hml0
  have hown : s.vm.findClass cS3 = some m.cls := findClass_of_methodNamed Bd.named
  have hnm := (name_of_methodNamed Bd.named Bd.method).1
  have X0 : Stand p l e ({ frames := 1, cells := 1, slots := 3, locals := 18 } : Room) s m #[(.ref r0), (.int 0), (.int 3)] below meth c s₁ [] 0 0 := Stand.of_body Bd
  have e0 : s₁.heap = h0 := by rw [← hh, Bd.state]; rfl
  have N0 := Fr.nil n0
  have k0 : ∀ t, OwnS p e below s₁ (mkF m 0 #[rv r0, iv 0, iv 3, .unset, .unset, .unset] []) t → OwnS p e below s₁ (entryFrame m #[(.ref r0), (.int 0), (.int 3)] 6) t := fun t k => castTop (ef_5 m r0 (0 : Int32) (3 : Int32)) k
  obtain ⟨T1, h1, k1, X1, e1, E1, A1, EA1, st1⟩ := newPE X0 hx hZ (own_at hw 23 rfl) e0 (g := (mkF m 1 #[rv r0, iv 0, iv 3, .unset, .unset, .unset] [(.int 3)])) rfl (hb hby d5_1) rfl (by decide) (cap := 3) (by decide) (by decide) (by decide) (by decide) (ad := "[B") (by decide)
  obtain ⟨b1, g1⟩ : ∃ z, z = h0.size := ⟨_, rfl⟩
  rw [← g1] at A1 EA1 st1
  have g_b1 : n0 ≤ b1 := Nat.le_trans Z0 (Nat.le_of_eq g1.symm)
  have sz_b1 : h0.size ≤ b1 := Nat.le_trans (Keep.refl h0 []).1 (Nat.le_of_eq g1.symm)
  have V_b1 : Arv Z h1 b1 k1 .byte (3 : Int32) [(.int 0), (.int 0), (.int 0)] (.int 0) := (Arv.new A1 (by decide)).pad (pad_rep [] (.int 0) 3)
  have f3 := (V_r0.ext E1)
  obtain ⟨_, _, ⟨T2, L2, j2, i2⟩, -, X2, ⟨Lc2, hQ2, l2, y2, z2⟩, st2⟩ := Jvm.LawKit.callS X1 hx (y := (⟨cS3, "compress", "([CI[BII)I"⟩ : MethodName)) hown (mvT hZ (own_at hw 24 rfl)) (mvT hZ (own_at hw 25 rfl)) (mvT hZ (own_at hw 21 rfl)) (mvT hZ (own_at hw 26 rfl)) (by decide) (backOf (W := 0) (rm6_3 l Z a0 hw [] r0 b1 kC k1 x0 x1 x2 h1 n0 (Nat.le_trans Z0 E1.1) f3 V_b1 EA1 hle_x0 hle_x1 hle_x2 g_b1 (Nat.ne_of_lt (Nat.lt_of_lt_of_le V_r0.lt (Nat.le_of_eq g1.symm)))) hZ (own_at hw 26 rfl) (own_at hw 21 rfl) (by decide) (by decide)) (g := (mkF m 9 #[rv r0, iv 0, iv 3, rv b1, .unset, .unset] [(.int 3), (.int 0), (.ref b1), (.int 0), (.ref r0)])) rfl (by rw [hml]; rfl) (argsL := [(.ref r0), (.int 0), (.ref b1), (.int 0), (.int 3)]) (rest := []) (lenOf pd_0 rfl) rfl (Nat.le_refl _) (hb hby d5_9) (fun _ _ => ⟨rfl, e1, (by decide : 1 + 0 ≤ _), (by decide : 3 + 0 ≤ _)⟩)
  dsimp only [Pt.U, Pt.locs, Pt.cells, Pt.slots] at X2 l2 y2 z2 st2 hQ2
  subst l2 y2 z2
  obtain ⟨rfl, N2q, K2, p2_0⟩ := hQ2
  have pl2 := (allS (P := fun x => ∃ cell : Cell, h1[x]? = some cell ∧ cell.vm.isStatics = false) (own_ns EA1) all0)
  have N2 := Fr.app N0 N2q
  have f4 := (EA1.keep K2)
  obtain ⟨fs, hr, hrun, hended, hW, hsame⟩ := X2.leave (v := some (.ref b1)) (fun h => by rw [Bd.returns] at h; cases h)
  refine ⟨_, _, k0 _ ?_, hrun, hended, _, _, rfl, ?_, ⟨_, rfl⟩, hW, hsame.mono (by decide) (by decide)⟩
  · show OwnS p e below s₁ (mkF m 0 #[rv r0, iv 0, iv 3, .unset, .unset, .unset] []) _
    refine XS.iloadN X0.here hx rfl (hb hby d5_0) rfl ?_
    refine st1 _ ?_
    refine XS.astoreN X1.here hx rfl (hb hby d5_3) rfl rfl (l' := #[rv r0, iv 0, iv 3, rv b1, .unset, .unset]) rfl ?_
    refine XS.aloadN X1.here hx rfl (hb hby d5_4) rfl rfl ?_
    refine XS.iloadN X1.here hx rfl (hb hby d5_5) rfl ?_
    refine XS.aloadN X1.here hx rfl (hb hby d5_6) rfl rfl ?_
    refine XS.iconst X1.here hx rfl (hb hby d5_7) ?_
    refine XS.iloadN X1.here hx rfl (hb hby d5_8) rfl ?_
    refine st2 _ ?_
    refine XS.istore X2.here hx rfl (hb hby d5_12) rfl (l' := #[rv r0, iv 0, iv 3, rv b1, iv 3, .unset]) rfl ?_
    refine XS.iload X2.here hx rfl (hb hby d5_14) rfl ?_
    refine XS.iloadN X2.here hx rfl (hb hby d5_16) rfl ?_
    refine XS.icmpYes X2.here hx rfl (pc0 := 17) (pc' := 57) rfl (hb hby d5_17) rfl (teq (by decide : (3 : Int32) = (3 : Int32))).1 (by decide) (by decide) ?_
    refine XS.aloadN X2.here hx rfl (hb hby d5_57) rfl rfl ?_
    jvm_step X2.here [X2.here.top, hx, (hb hby d5_58), X2.method', Bd.returns, Value.isRef, FieldType.isReference]
    first | (intro acts; rw [hr _ acts rfl rfl rfl]) | rw [hr _ _ rfl rfl rfl]
    exact Steps.refl _
  · show Q_5_3 Z _ _ _ _ _ h0 n0 _ T2.heap _
    exact ⟨b1, k1, rfl, N2, (((Keep.refl h0 []).ext E1).trans K2 (allS (Or.inr sz_b1) all0)), sz_b1, p2_0, f4⟩
def Q_7_3 (Z : State) (r0 : Addr) (kB : ClassId) (vs : List Value) (h0 : Heap) (n0 : Nat) (v : Option Value) (h : Heap) (L : List Loc) : Prop := v = some (.int 0) ∧ Fr n0 L ∧ h = h0
set_option maxRecDepth 65536 in
set_option maxHeartbeats 40000000 in
theorem rm7_3 (l : Launch) (Z : State) (a0 : Array Value) (hw : ∀ d ∈ tables_1, d.before a0 Z = true) (ws : List Jvm.Cond) (r0 : Addr) (kB : ClassId) (vs : List Value) (h0 : Heap) (n0 : Nat) (Z0 : n0 ≤ h0.size) (V_r0 : Arv Z h0 r0 kB .byte (3 : Int32) vs (.int 0)) :
    MetFree l (⟨cS3, "coderFromArrayLen", "([BI)B"⟩ : MethodName) (head1 (Jvm.Cond.code (⟨cS3, "coderFromArrayLen", "([BI)B"⟩ : MethodName) jdk_52_method_15_code 2 (some .byte) :: ws) ({ frames := 0, cells := 0, slots := 0, locals := 0 } : Room)) (fun a U => a = #[(.ref r0), (.int 3)] ∧ Z.Warmed39 U.vm ∧ U.heap = h0) (fun _ _ _ _ _ => True) (fun _ U o U' => ∃ v L, o = .returned v ∧ Q_7_3 Z r0 kB vs h0 n0 v U'.heap L ∧ FrameEnd U o U' L ({ frames := 0, cells := 0, slots := 0, locals := 0 } : Room).cells ({ frames := 0, cells := 0, slots := 0, locals := 0 } : Room).slots) := by
  refine MetFree.of_bodySF (plainFor_of_name pn_java_lang_StringUTF16) hisR ?_
  intro p e s m args below meth c s₁ Bd hml0 hP hK
  obtain ⟨rfl, hZ, hh⟩ := hP
  have hx := Bd.exec
  have hby := Bd.bytes
  have hml : c.maxLocals = 2 := hml0
  have hown : s.vm.findClass cS3 = some m.cls := findClass_of_methodNamed Bd.named
  have hnm := (name_of_methodNamed Bd.named Bd.method).1
  have X0 : Stand p l e ({ frames := 0, cells := 0, slots := 0, locals := 0 } : Room) s m #[(.ref r0), (.int 3)] below meth c s₁ [] 0 0 := Stand.of_body Bd
  have e0 : s₁.heap = h0 := by rw [← hh, Bd.state]; rfl
  have N0 := Fr.nil n0
  have k0 : ∀ t, OwnS p e below s₁ (mkF m 0 #[rv r0, iv 3] []) t → OwnS p e below s₁ (entryFrame m #[(.ref r0), (.int 3)] 2) t := fun t k => castTop (ef_7 m r0 (3 : Int32)) k
  obtain ⟨cl_z1, Ar_z1, q_z1, S_z1, N_z1, H_z1, G_z1⟩ := id V_r0
  obtain ⟨fs, hr, hrun, hended, hW, hsame⟩ := X0.leave (v := some (.int 0)) (fun h => by rw [Bd.returns] at h; cases h)
  refine ⟨_, _, k0 _ ?_, hrun, hended, _, _, rfl, ?_, ⟨_, rfl⟩, hW, hsame.mono (by decide) (by decide)⟩
  · show OwnS p e below s₁ (mkF m 0 #[rv r0, iv 3] []) _
    refine XS.iloadN X0.here hx rfl (hb hby d7_0) rfl ?_
    refine XS.aloadN X0.here hx rfl (hb hby d7_1) rfl rfl ?_
    refine X0.arraylength hx (by rw [e0]; exact Ar_z1.1) (State.isArrayOf_alike hZ.alike Ar_z1.2.1) (g := (mkF m 2 #[rv r0, iv 3] [(.ref r0), (.int 3)])) rfl rfl (hb hby d7_2) _ ?_
    rw [len_of S_z1 N_z1]
    refine XS.isub X0.here hx rfl (hb hby d7_3) rfl ?_
    refine XS.bipush X0.here hx rfl (hb hby d7_4) ?_
    refine XS.iushr X0.here hx rfl (hb hby d7_6) rfl ?_
    refine XS.i2b X0.here hx rfl (hb hby d7_7) rfl ?_
    exact retN X0 hx (t := .byte) Bd.returns (by simp) (hb hby d7_8) hr
  · show Q_7_3 Z _ _ _ h0 n0 _ s₁.heap _
    rw [e0]
    exact ⟨rfl, N0, rfl⟩
def Q_3_3 (Z : State) (r0 : Addr) (r1 : Addr) (w_CS : Int32) (kC : ClassId) (x0 : Int32) (x1 : Int32) (x2 : Int32) (u_coder_r0 : Value) (u_value_r0 : Value) (h0 : Heap) (n0 : Nat) (v : Option Value) (h : Heap) (L : List Loc) : Prop := ∃ ar : Addr, ∃ kk : ClassId, v = none ∧ Fr n0 L ∧ Keep h0 h [r0] ∧ h0.size ≤ ar ∧ Exa Z h r0 cS1 ∧ Fld Z h r0 cS1 "coder" "B" (.int 0) ∧ Fld Z h r0 cS1 "value" "[B" (.ref ar) ∧ Arv Z h ar kk .byte (3 : Int32) [(.int ((x0.toInt8.toInt32).toInt8.toInt32)), (.int ((x1.toInt8.toInt32).toInt8.toInt32)), (.int ((x2.toInt8.toInt32).toInt8.toInt32))] (.int 0) ∧ Exa Z h ar "[B"
set_option maxRecDepth 65536 in
set_option maxHeartbeats 40000000 in
theorem rm3_3 (l : Launch) (Z : State) (a0 : Array Value) (hw : ∀ d ∈ tables_1, d.before a0 Z = true) (ws : List Jvm.Cond) (r0 : Addr) (r1 : Addr) (w_CS : Int32) (kC : ClassId) (x0 : Int32) (x1 : Int32) (x2 : Int32) (u_coder_r0 : Value) (u_value_r0 : Value) (h0 : Heap) (n0 : Nat) (Z0 : n0 ≤ h0.size) (S_CS : Sta Z h0 cS1 "COMPACT_STRINGS" "Z" (.int w_CS)) (hcs : ¬ (w_CS = (0 : Int32))) (E_r0 : Exa Z h0 r0 cS1) (V_r1 : Arv Z h0 r1 kC .char (3 : Int32) [(.int x0), (.int x1), (.int x2)] (.int 0)) (hle_x0 : ¬ ((255 : Int32) < x0)) (hle_x1 : ¬ ((255 : Int32) < x1)) (hle_x2 : ¬ ((255 : Int32) < x2)) (F_coder_r0 : Fld Z h0 r0 cS1 "coder" "B" u_coder_r0) (ge_r0 : n0 ≤ r0) (F_value_r0 : Fld Z h0 r0 cS1 "value" "[B" u_value_r0) :
    MetFree l (⟨cS1, "<init>", "([CIILjava/lang/Void;)V"⟩ : MethodName) (head1 (Jvm.Cond.code (⟨cS1, "<init>", "([CIILjava/lang/Void;)V"⟩ : MethodName) jdk_42_method_149_code 6 none :: ws) ({ frames := 2, cells := 1, slots := 3, locals := 35 } : Room)) (fun a U => a = #[(.ref r0), (.ref r1), (.int 0), (.int 3), .null] ∧ Z.Warmed39 U.vm ∧ U.heap = h0) (fun _ _ _ _ _ => True) (fun _ U o U' => ∃ v L, o = .returned v ∧ Q_3_3 Z r0 r1 w_CS kC x0 x1 x2 u_coder_r0 u_value_r0 h0 n0 v U'.heap L ∧ FrameEnd U o U' L ({ frames := 2, cells := 1, slots := 3, locals := 35 } : Room).cells ({ frames := 2, cells := 1, slots := 3, locals := 35 } : Room).slots) := by
  refine MetFree.of_bodySF (plainFor_of_name pn_java_lang_String) hisR ?_
  intro p e s m args below meth c s₁ Bd hml0 hP hK
  obtain ⟨rfl, hZ, hh⟩ := hP
  have hx := Bd.exec
  have hby := Bd.bytes
  have hml : c.maxLocals = 6 := hml0
  have hown : s.vm.findClass cS1 = some m.cls := findClass_of_methodNamed Bd.named
  have hnm := (name_of_methodNamed Bd.named Bd.method).1
  have X0 : Stand p l e ({ frames := 2, cells := 1, slots := 3, locals := 35 } : Room) s m #[(.ref r0), (.ref r1), (.int 0), (.int 3), .null] below meth c s₁ [] 0 0 := Stand.of_body Bd
  have e0 : s₁.heap = h0 := by rw [← hh, Bd.state]; rfl
  have N0 := Fr.nil n0
  have k0 : ∀ t, OwnS p e below s₁ (mkF m 0 #[rv r0, rv r1, iv 0, iv 3, .val .null, .unset] []) t → OwnS p e below s₁ (entryFrame m #[(.ref r0), (.ref r1), (.int 0), (.int 3), .null] 6) t := fun t k => castTop (ef_3n4 m r0 r1 (0 : Int32) (3 : Int32)) k
  obtain ⟨T1, X1, e1, st1⟩ := initO X0 hx hZ hown (own_at hw 15 rfl) (own_at hw 16 rfl) (own_at hw 17 rfl) e0 (g := (mkF m 1 #[rv r0, rv r1, iv 0, iv 3, .val .null, .unset] [(.ref r0)])) rfl (by rw [hml]; rfl) rfl (hb hby d3_1) (by decide) (W := 0) (Nat.le_refl _) (by decide)
  obtain ⟨T2, X2, e2, st2⟩ := getS2 X1 hx hZ hown (host := "") (Or.inl (own_at hw 18 rfl)) Via.refl e1 S_CS (g := (mkF m 27 #[rv r0, rv r1, iv 0, iv 3, .val .null, .unset] [])) rfl (hb hby d3_27)
  obtain ⟨_, _, ⟨T3, L3, j3, i3⟩, -, X3, ⟨Lc3, hQ3, l3, y3, z3⟩, st3⟩ := Jvm.LawKit.callS X2 hx (y := (⟨cS3, "compress", "([CII)[B"⟩ : MethodName)) hown (mvT hZ (own_at hw 19 rfl)) (mvT hZ (own_at hw 20 rfl)) (mvT hZ (own_at hw 21 rfl)) (mvT hZ (own_at hw 22 rfl)) (by decide) (backOf (W := 0) (rm5_3 l Z a0 hw [] r1 kC x0 x1 x2 h0 n0 Z0 V_r1 hle_x0 hle_x1 hle_x2) hZ (own_at hw 22 rfl) (own_at hw 21 rfl) (by decide) (by decide)) (g := (mkF m 36 #[rv r0, rv r1, iv 0, iv 3, .val .null, .unset] [(.int 3), (.int 0), (.ref r1)])) rfl (by rw [hml]; rfl) (argsL := [(.ref r1), (.int 0), (.int 3)]) (rest := []) (lenOf pd_1 rfl) rfl (Nat.le_refl _) (hb hby d3_36) (fun _ _ => ⟨rfl, e2, (by decide : 0 + 1 ≤ _), (by decide : 0 + 3 ≤ _)⟩)
  dsimp only [Pt.U, Pt.locs, Pt.cells, Pt.slots] at X3 l3 y3 z3 st3 hQ3
  subst l3 y3 z3
  obtain ⟨ar_3, kk_3, rfl, N3q, K3, p3_0, p3_1, p3_2⟩ := hQ3
  have g_ar_3 : n0 ≤ ar_3 := Nat.le_trans Z0 p3_0
  have sz_ar_3 : h0.size ≤ ar_3 := Nat.le_trans (Keep.refl h0 []).1 p3_0
  have N3 := Fr.app N0 N3q
  obtain ⟨_, _, ⟨T4, L4, j4, i4⟩, -, X4, ⟨Lc4, hQ4, l4, y4, z4⟩, st4⟩ := Jvm.LawKit.callS X3 hx (y := (⟨cS3, "coderFromArrayLen", "([BI)B"⟩ : MethodName)) hown (mvT hZ (own_at hw 27 rfl)) (mvT hZ (own_at hw 28 rfl)) (mvT hZ (own_at hw 21 rfl)) (mvT hZ (own_at hw 29 rfl)) (by decide) (backOf (W := 1) (rm7_3 l Z a0 hw [] ar_3 kk_3 [(.int ((x0.toInt8.toInt32).toInt8.toInt32)), (.int ((x1.toInt8.toInt32).toInt8.toInt32)), (.int ((x2.toInt8.toInt32).toInt8.toInt32))] T3.heap n0 (Nat.le_trans Z0 K3.1) p3_1) hZ (own_at hw 29 rfl) (own_at hw 21 rfl) (by decide) (by decide)) (g := (mkF m 45 #[rv r0, rv r1, iv 0, iv 3, .val .null, rv ar_3] [(.int 3), (.ref ar_3), (.ref r0)])) rfl (by rw [hml]; rfl) (argsL := [(.ref ar_3), (.int 3)]) (rest := [(.ref r0)]) (lenOf pd_2 rfl) rfl (Nat.le_refl _) (hb hby d3_45) (fun _ _ => ⟨rfl, rfl, (by decide : 1 + 0 ≤ _), (by decide : 3 + 0 ≤ _)⟩)
  dsimp only [Pt.U, Pt.locs, Pt.cells, Pt.slots] at X4 l4 y4 z4 st4 hQ4
  subst l4 y4 z4
  obtain ⟨rfl, N4q, e4⟩ := hQ4
  have N4 := Fr.app N3 N4q
  have f5 := (E_r0.keep K3)
  have f6 := (F_coder_r0.keep K3 nin0)
  obtain ⟨T7, h7, X7, e7, W7, st7⟩ := putFN X4 hx hZ hown (own_at hw 30 rfl) Via.refl e4 f6 f5 (Or.inr ⟨(own_at hw 31 rfl), rfl, hnm⟩) (own_at hw 5 rfl) (ty := .byte) (v' := (.int 0)) (by decide) rfl rfl (g := (mkF m 48 #[rv r0, rv r1, iv 0, iv 3, .val .null, rv ar_3] [(.int 0), (.ref r0)])) rfl rfl (hb hby d3_48)
  have Fw7 : Fld Z h7 r0 cS1 "coder" "B" (.int 0) := f6.same W7
  have N7 := Fr.snoc X7 N4 ge_r0
  have f8 := (f5.wr W7)
  have f9 := ((F_value_r0.keep K3 nin0).other W7 (Or.inr (slot_ne (Or.inr (own_at hw 33 rfl)) (Or.inr (own_at hw 31 rfl)) (by decide) (t := (.array .byte)) (t' := .byte) (by decide) (by decide))))
  obtain ⟨T10, h10, X10, e10, W10, st10⟩ := putF X7 hx hZ hown (host := "") (Or.inl (own_at hw 32 rfl)) Via.refl e7 f9 f8 (Or.inr ⟨(own_at hw 33 rfl), rfl, hnm⟩) (own_at hw 5 rfl) (ty := (.array .byte)) (by decide) rfl rfl (g := (mkF m 54 #[rv r0, rv r1, iv 0, iv 3, .val .null, rv ar_3] [(.ref ar_3), (.ref r0)])) rfl rfl (hb hby d3_54)
  have Fw10 : Fld Z h10 r0 cS1 "value" "[B" (.ref ar_3) := f9.same W10
  have N10 := Fr.snoc X10 N7 ge_r0
  have f11 := (f8.wr W10)
  have f12 := (Fw7.other W10 (Or.inr (slot_ne (Or.inr (own_at hw 31 rfl)) (Or.inr (own_at hw 33 rfl)) (by decide) (t := .byte) (t' := (.array .byte)) (by decide) (by decide))))
  have f13 := ((p3_1.other W7 (Ne.symm (Nat.ne_of_lt (Nat.lt_of_lt_of_le E_r0.lt p3_0)))).other W10 (Ne.symm (Nat.ne_of_lt (Nat.lt_of_lt_of_le E_r0.lt p3_0))))
  have f14 := ((p3_2.wr W7).wr W10)
  obtain ⟨fs, hr, hrun, hended, hW, hsame⟩ := X10.leave (v := none) (fun _ => rfl)
  refine ⟨_, _, k0 _ ?_, hrun, hended, _, _, rfl, ?_, ⟨_, rfl⟩, hW, hsame.mono (by decide) (by decide)⟩
  · show OwnS p e below s₁ (mkF m 0 #[rv r0, rv r1, iv 0, iv 3, .val .null, .unset] []) _
    refine XS.aloadN X0.here hx rfl (hb hby d3_0) rfl rfl ?_
    refine st1 _ ?_
    refine XS.iloadN X1.here hx rfl (hb hby d3_4) rfl ?_
    refine XS.ifYes X1.here hx rfl (pc0 := 5) (pc' := 27) rfl (hb hby d3_5) rfl ((if0 _ _).trans (feq (by decide : ¬ ((3 : Int32) = (0 : Int32)))).2) (by decide) (by decide) ?_
    refine st2 _ ?_
    refine XS.ifNo X2.here hx rfl (hb hby d3_30) rfl ((if0 _ _).trans (feq hcs).1) ?_
    refine XS.aloadN X2.here hx rfl (hb hby d3_33) rfl rfl ?_
    refine XS.iloadN X2.here hx rfl (hb hby d3_34) rfl ?_
    refine XS.iloadN X2.here hx rfl (hb hby d3_35) rfl ?_
    refine st3 _ ?_
    refine XS.astore X3.here hx rfl (hb hby d3_39) rfl rfl (l' := #[rv r0, rv r1, iv 0, iv 3, .val .null, rv ar_3]) rfl ?_
    refine XS.aloadN X3.here hx rfl (hb hby d3_41) rfl rfl ?_
    refine XS.aload X3.here hx rfl (hb hby d3_42) rfl rfl ?_
    refine XS.iloadN X3.here hx rfl (hb hby d3_44) rfl ?_
    refine st4 _ ?_
    refine st7 _ ?_
    refine XS.aloadN X7.here hx rfl (hb hby d3_51) rfl rfl ?_
    refine XS.aload X7.here hx rfl (hb hby d3_52) rfl rfl ?_
    refine st10 _ ?_
    exact X10.returnOut hx Bd.returns (hb hby d3_57) hr
  · show Q_3_3 Z _ _ _ _ _ _ _ _ _ h0 n0 _ T10.heap _
    rw [e10]
    exact ⟨ar_3, kk_3, rfl, N10, ((((Keep.refl h0 [r0]).trans K3 all0).wr W7 (Or.inl (List.mem_of_getElem? (i := 0) rfl))).wr W10 (Or.inl (List.mem_of_getElem? (i := 0) rfl))), sz_ar_3, f11, f12, Fw10, f13, f14⟩
def Q_2_3 (Z : State) (r0 : Addr) (r1 : Addr) (w_CS : Int32) (kC : ClassId) (x0 : Int32) (x1 : Int32) (x2 : Int32) (u_coder_r0 : Value) (u_value_r0 : Value) (h0 : Heap) (n0 : Nat) (v : Option Value) (h : Heap) (L : List Loc) : Prop := ∃ ar : Addr, ∃ kk : ClassId, v = none ∧ Fr n0 L ∧ Keep h0 h [r0] ∧ h0.size ≤ ar ∧ Exa Z h r0 cS1 ∧ Fld Z h r0 cS1 "coder" "B" (.int 0) ∧ Fld Z h r0 cS1 "value" "[B" (.ref ar) ∧ Arv Z h ar kk .byte (3 : Int32) [(.int ((x0.toInt8.toInt32).toInt8.toInt32)), (.int ((x1.toInt8.toInt32).toInt8.toInt32)), (.int ((x2.toInt8.toInt32).toInt8.toInt32))] (.int 0) ∧ Exa Z h ar "[B"
set_option maxRecDepth 65536 in
set_option maxHeartbeats 40000000 in
theorem rm2_3 (l : Launch) (Z : State) (a0 : Array Value) (hw : ∀ d ∈ tables_1, d.before a0 Z = true) (ws : List Jvm.Cond) (r0 : Addr) (r1 : Addr) (w_CS : Int32) (kC : ClassId) (x0 : Int32) (x1 : Int32) (x2 : Int32) (u_coder_r0 : Value) (u_value_r0 : Value) (h0 : Heap) (n0 : Nat) (Z0 : n0 ≤ h0.size) (S_CS : Sta Z h0 cS1 "COMPACT_STRINGS" "Z" (.int w_CS)) (hcs : ¬ (w_CS = (0 : Int32))) (E_r0 : Exa Z h0 r0 cS1) (V_r1 : Arv Z h0 r1 kC .char (3 : Int32) [(.int x0), (.int x1), (.int x2)] (.int 0)) (hle_x0 : ¬ ((255 : Int32) < x0)) (hle_x1 : ¬ ((255 : Int32) < x1)) (hle_x2 : ¬ ((255 : Int32) < x2)) (F_coder_r0 : Fld Z h0 r0 cS1 "coder" "B" u_coder_r0) (ge_r0 : n0 ≤ r0) (F_value_r0 : Fld Z h0 r0 cS1 "value" "[B" u_value_r0) :
    MetFree l (⟨cS1, "<init>", "([C)V"⟩ : MethodName) (head1 (Jvm.Cond.code (⟨cS1, "<init>", "([C)V"⟩ : MethodName) jdk_42_method_3_code 2 none :: ws) ({ frames := 3, cells := 1, slots := 3, locals := 52 } : Room)) (fun a U => a = #[(.ref r0), (.ref r1)] ∧ Z.Warmed39 U.vm ∧ U.heap = h0) (fun _ _ _ _ _ => True) (fun _ U o U' => ∃ v L, o = .returned v ∧ Q_2_3 Z r0 r1 w_CS kC x0 x1 x2 u_coder_r0 u_value_r0 h0 n0 v U'.heap L ∧ FrameEnd U o U' L ({ frames := 3, cells := 1, slots := 3, locals := 52 } : Room).cells ({ frames := 3, cells := 1, slots := 3, locals := 52 } : Room).slots) := by
  refine MetFree.of_bodySF (plainFor_of_name pn_java_lang_String) hisR ?_
  intro p e s m args below meth c s₁ Bd hml0 hP hK
  obtain ⟨rfl, hZ, hh⟩ := hP
  have hx := Bd.exec
  have hby := Bd.bytes
  have hml : c.maxLocals = 2 := hml0
  have hown : s.vm.findClass cS1 = some m.cls := findClass_of_methodNamed Bd.named
  have hnm := (name_of_methodNamed Bd.named Bd.method).1
  have X0 : Stand p l e ({ frames := 3, cells := 1, slots := 3, locals := 52 } : Room) s m #[(.ref r0), (.ref r1)] below meth c s₁ [] 0 0 := Stand.of_body Bd
  have e0 : s₁.heap = h0 := by rw [← hh, Bd.state]; rfl
  have N0 := Fr.nil n0
  have k0 : ∀ t, OwnS p e below s₁ (mkF m 0 #[rv r0, rv r1] []) t → OwnS p e below s₁ (entryFrame m #[(.ref r0), (.ref r1)] 2) t := fun t k => castTop (ef_2 m r0 r1) k
  obtain ⟨cl_z1, Ar_z1, q_z1, S_z1, N_z1, H_z1, G_z1⟩ := id V_r1
  obtain ⟨_, _, ⟨T2, L2, j2, i2⟩, -, X2, ⟨Lc2, hQ2, l2, y2, z2⟩, st2⟩ := X0.specialBack hx (y := (⟨cS1, "<init>", "([CIILjava/lang/Void;)V"⟩ : MethodName)) rfl hown (mvT hZ (own_at hw 11 rfl)) (mvT hZ (own_at hw 12 rfl)) (mvT hZ (own_at hw 14 rfl)) (by decide) (backOf (W := 0) (rm3_3 l Z a0 hw [] r0 r1 w_CS kC x0 x1 x2 u_coder_r0 u_value_r0 h0 n0 Z0 S_CS hcs E_r0 V_r1 hle_x0 hle_x1 hle_x2 F_coder_r0 ge_r0 F_value_r0) hZ (own_at hw 14 rfl) (own_at hw 6 rfl) (by decide) (by decide)) (g := (mkF m 6 #[rv r0, rv r1] [.null, (.int 3), (.int 0), (.ref r1), (.ref r0)])) rfl (by rw [hml]; rfl) (Steps.refl _) (a := r0) (argsL := [(.ref r1), (.int 0), (.int 3), .null]) (rest := []) (lenOf pd_3 rfl) rfl (Nat.le_refl _) (hb hby d2_6) (fun _ _ => ⟨rfl, e0, (by decide : 0 + 1 ≤ _), (by decide : 0 + 3 ≤ _)⟩)
  dsimp only [Pt.U, Pt.locs, Pt.cells, Pt.slots] at X2 l2 y2 z2 st2 hQ2
  subst l2 y2 z2
  obtain ⟨ar_2, kk_2, rfl, N2q, K2, p2_0, p2_1, p2_2, p2_3, p2_4, p2_5⟩ := hQ2
  have pl2 := (allS (P := fun x => ∃ cell : Cell, h0[x]? = some cell ∧ cell.vm.isStatics = false) (own_ns E_r0) all0)
  have g_ar_2 : n0 ≤ ar_2 := Nat.le_trans Z0 p2_0
  have sz_ar_2 : h0.size ≤ ar_2 := Nat.le_trans (Keep.refl h0 []).1 p2_0
  have N2 := Fr.app N0 N2q
  obtain ⟨fs, hr, hrun, hended, hW, hsame⟩ := X2.leave (v := none) (fun _ => rfl)
  refine ⟨_, _, k0 _ ?_, hrun, hended, _, _, rfl, ?_, ⟨_, rfl⟩, hW, hsame.mono (by decide) (by decide)⟩
  · show OwnS p e below s₁ (mkF m 0 #[rv r0, rv r1] []) _
    refine XS.aloadN X0.here hx rfl (hb hby d2_0) rfl rfl ?_
    refine XS.aloadN X0.here hx rfl (hb hby d2_1) rfl rfl ?_
    refine XS.iconst X0.here hx rfl (hb hby d2_2) ?_
    refine XS.aloadN X0.here hx rfl (hb hby d2_3) rfl rfl ?_
    refine X0.arraylength hx (by rw [e0]; exact Ar_z1.1) (State.isArrayOf_alike hZ.alike Ar_z1.2.1) (g := (mkF m 4 #[rv r0, rv r1] [(.ref r1), (.int 0), (.ref r1), (.ref r0)])) rfl rfl (hb hby d2_4) _ ?_
    rw [len_of S_z1 N_z1]
    refine XS.aconstNull X0.here hx rfl (hb hby d2_5) ?_
    refine st2.trans ?_
    exact X2.returnOut hx Bd.returns (hb hby d2_9) hr
  · show Q_2_3 Z _ _ _ _ _ _ _ _ _ h0 n0 _ T2.heap _
    exact ⟨ar_2, kk_2, rfl, N2, ((Keep.refl h0 [r0]).trans K2 (allS (Or.inl (List.mem_of_getElem? (i := 0) rfl)) all0)), sz_ar_2, p2_1, p2_2, p2_3, p2_4, p2_5⟩
theorem d3_8 : decode jdk_42_method_149_code 8 = .ok (.aload_n 0, 1) := by decide +kernel
theorem d3_9 : decode jdk_42_method_149_code 9 = .ok (.ldc 7, 2) := by decide +kernel
theorem d3_11 : decode jdk_42_method_149_code 11 = .ok (.getfield 9, 3) := by decide +kernel
theorem d3_14 : decode jdk_42_method_149_code 14 = .ok (.putfield 9, 3) := by decide +kernel
theorem d3_17 : decode jdk_42_method_149_code 17 = .ok (.aload_n 0, 1) := by decide +kernel
theorem d3_18 : decode jdk_42_method_149_code 18 = .ok (.ldc 7, 2) := by decide +kernel
theorem d3_20 : decode jdk_42_method_149_code 20 = .ok (.getfield 15, 3) := by decide +kernel
theorem d3_23 : decode jdk_42_method_149_code 23 = .ok (.putfield 15, 3) := by decide +kernel
theorem d3_26 : decode jdk_42_method_149_code 26 = .ok (.return_, 1) := by decide +kernel
def Q_3_0 (Z : State) (r0 : Addr) (r1 : Addr) (kC : ClassId) (u_coder_r0 : Value) (h0 : Heap) (n0 : Nat) (v : Option Value) (h : Heap) (L : List Loc) : Prop := ∃ ar : Addr, ∃ kk : ClassId, v = none ∧ Fr n0 L ∧ Keep h0 h [r0] ∧ Exa Z h r0 cS1 ∧ Fld Z h r0 cS1 "coder" "B" (.int 0) ∧ Fld Z h r0 cS1 "value" "[B" (.ref ar) ∧ Arv Z h ar kk .byte (0 : Int32) [] (.int 0) ∧ r0 ≠ ar
set_option maxRecDepth 65536 in
set_option maxHeartbeats 40000000 in
theorem rm3_0 (l : Launch) (Z : State) (a0 : Array Value) (hw : ∀ d ∈ tables_1, d.before a0 Z = true) (ws : List Jvm.Cond) (r0 : Addr) (r1 : Addr) (kC : ClassId) (u_coder_r0 : Value) (h0 : Heap) (n0 : Nat) (Z0 : n0 ≤ h0.size) (E_r0 : Exa Z h0 r0 cS1) (F_value_r0 : Fld Z h0 r0 cS1 "value" "[B" .null) (V_r1 : Arv Z h0 r1 kC .char (0 : Int32) [] (.int 0)) (ge_r0 : n0 ≤ r0) (ne_r1_r0 : r1 ≠ r0) (F_coder_r0 : Fld Z h0 r0 cS1 "coder" "B" u_coder_r0) :
    MetFree l (⟨cS1, "<init>", "([CIILjava/lang/Void;)V"⟩ : MethodName) (head1 (Jvm.Cond.code (⟨cS1, "<init>", "([CIILjava/lang/Void;)V"⟩ : MethodName) jdk_42_method_149_code 6 none :: ws) ({ frames := 1, cells := 4, slots := 8, locals := 12 } : Room)) (fun a U => a = #[(.ref r0), (.ref r1), (.int 0), (.int 0), .null] ∧ Z.Warmed39 U.vm ∧ U.heap = h0 ∧ CHv Z own_EL U.vm h0) (fun _ _ _ _ _ => True) (fun _ U o U' => ∃ v L, o = .returned v ∧ Q_3_0 Z r0 r1 kC u_coder_r0 h0 n0 v U'.heap L ∧ CHr Z own_EL U.vm U.heap U'.vm U'.heap ∧ ReturnedEndW U o U' L ({ frames := 1, cells := 4, slots := 8, locals := 12 } : Room).cells ({ frames := 1, cells := 4, slots := 8, locals := 12 } : Room).slots) := by
  refine MetFree.of_bodySF (plainFor_of_name pn_java_lang_String) hisR ?_
  intro p e s m args below meth c s₁ Bd hml0 hP hK
  obtain ⟨rfl, hZ, hh, H0c⟩ := hP
  have hx := Bd.exec
  have hby := Bd.bytes
  have hml : c.maxLocals = 6 := hml0
  have hown : (s.setVm s.vm).vm.findClass cS1 = some m.cls := findClass_of_methodNamed Bd.named
  have hnm := (name_of_methodNamed Bd.named Bd.method).1
  have X0 : Stand p l e ({ frames := 1, cells := 4, slots := 8, locals := 12 } : Room) (s.setVm s.vm) m #[(.ref r0), (.ref r1), (.int 0), (.int 0), .null] below meth c s₁ [] 0 0 := Stand.of_body Bd
  have e0 : s₁.heap = h0 := by rw [← hh, Bd.state]; rfl
  have N0 := Fr.nil n0
  have k0 : ∀ t, OwnS p e below s₁ (mkF m 0 #[rv r0, rv r1, iv 0, iv 0, .val .null, .unset] []) t → OwnS p e below s₁ (entryFrame m #[(.ref r0), (.ref r1), (.int 0), (.int 0), .null] 6) t := fun t k => castTop (ef_3n4 m r0 r1 (0 : Int32) (0 : Int32)) k
  have hZ : Z.Warmed39 (s.setVm s.vm).vm := hZ
  have hS0 : s.Since s.vm h0.size := (State.WarmedH.refl s).since _
  have hk0 : h0.size ≤ h0.size := Nat.le_refl _
  have R0c := CHr.refl H0c
  obtain ⟨T1, X1, e1, st1⟩ := initO X0 hx hZ hown (own_at hw 15 rfl) (own_at hw 16 rfl) (own_at hw 17 rfl) e0 (g := (mkF m 1 #[rv r0, rv r1, iv 0, iv 0, .val .null, .unset] [(.ref r0)])) rfl (by rw [hml]; rfl) rfl (hb hby d3_1) (by decide) (W := 0) (Nat.le_refl _) (by decide)
  have sf3 : Safe Z own_EL s.vm h0 r0 := own_safe_null hZ.alike E_r0 F_value_r0
  have lt_r0 := E_r0.lt
  obtain ⟨a2, T2, h2, k12, bb2, kk2, X2, e2, E2, hS2, hk2, hZ2, hown2, EA2, FC2, FV2, V2, -, -, CR2, LT2, ne2, st2⟩ := ldcCH X1 hx hZ hown (own_at hw 88 rfl) (own_ws hw) e1 hS0 hk0 (own_ew hw) (own_mem0) H0c (vs := []) (z := 0) ⟨by decide, rfl⟩ (by decide) rfl (g := (mkF m 9 #[rv r0, rv r1, iv 0, iv 0, .val .null, .unset] [(.ref r0)])) rfl (hb hby d3_9) (n := 0) (by decide) (by decide) (by decide) (by decide)
  have Hc2 := CR2.1
  have Rc2 := R0c.trans CR2
  have Sf2_r0 := CHr.safe CR2 lt_r0 sf3
  obtain ⟨T4, X4, e4, st4⟩ := getF X2 hx hZ2 hown2 (host := "") (Or.inl (own_at hw 32 rfl)) Via.refl e2 FV2 (g := (mkF m 11 #[rv r0, rv r1, iv 0, iv 0, .val .null, .unset] [(.ref a2), (.ref r0)])) rfl rfl (hb hby d3_11)
  have f5 := (E_r0.ext E2)
  have f6 := (F_value_r0.ext E2)
  obtain ⟨T7, h7, X7, e7, W7, st7⟩ := putF X4 hx hZ2 hown2 (host := "") (Or.inl (own_at hw 32 rfl)) Via.refl e4 f6 f5 (Or.inr ⟨(own_at hw 33 rfl), rfl, hnm⟩) (own_at hw 5 rfl) (ty := (.array .byte)) (by decide) rfl rfl (g := (mkF m 14 #[rv r0, rv r1, iv 0, iv 0, .val .null, .unset] [(.ref bb2), (.ref r0)])) rfl rfl (hb hby d3_14)
  have Hc7 := CHv.wr W7 Sf2_r0 Hc2
  have Rc7 := Rc2.trans (CHr.wr W7 Sf2_r0 Hc2)
  have hk7 := Nat.le_trans hk2 (Keep.of_wr W7).1
  have Sf7_r0 := Safe.wr W7 Sf2_r0 Hc2 Sf2_r0
  have Fw7 : Fld Z h7 r0 cS1 "value" "[B" (.ref bb2) := f6.same W7
  have N7 := Fr.snoc X7 N0 ge_r0
  have f9 := (EA2.wr W7)
  have f10 := (f5.wr W7)
  have f11 := ((V_r1.ext E2).other W7 ne_r1_r0)
  have f12 := (V2.other W7 (Ne.symm (ne2 _ Sf2_r0).2))
  have lt_r0 := f10.lt
  obtain ⟨a8, T8, h8, k18, bb8, kk8, X8, e8, E8, hS8, hk8, hZ8, hown8, EA8, FC8, FV8, V8, -, -, CR8, LT8, ne8, st8⟩ := ldcCH X7 hx hZ2 hown2 (own_at hw 88 rfl) (own_ws hw) e7 hS2 hk7 (own_ew hw) (own_mem0) Hc7 (vs := []) (z := 0) ⟨by decide, rfl⟩ (by decide) rfl (g := (mkF m 18 #[rv r0, rv r1, iv 0, iv 0, .val .null, .unset] [(.ref r0)])) rfl (hb hby d3_18) (n := 0) (by decide) (by decide) (by decide) (by decide)
  have Hc8 := CR8.1
  have Rc8 := Rc7.trans CR8
  have Sf8_r0 := CHr.safe CR8 lt_r0 Sf7_r0
  obtain ⟨T13, X13, e13, st13⟩ := getF X8 hx hZ8 hown8 (host := "") (Or.inl (own_at hw 30 rfl)) Via.refl e8 FC8 (g := (mkF m 20 #[rv r0, rv r1, iv 0, iv 0, .val .null, .unset] [(.ref a8), (.ref r0)])) rfl rfl (hb hby d3_20)
  have f14 := (f10.ext E8)
  have f15 := (((F_coder_r0.ext E2).other W7 (Or.inr (slot_ne (Or.inr (own_at hw 31 rfl)) (Or.inr (own_at hw 33 rfl)) (by decide) (t := .byte) (t' := (.array .byte)) (by decide) (by decide)))).ext E8)
  obtain ⟨T16, h16, X16, e16, W16, st16⟩ := putFN X13 hx hZ8 hown8 (own_at hw 30 rfl) Via.refl e13 f15 f14 (Or.inr ⟨(own_at hw 31 rfl), rfl, hnm⟩) (own_at hw 5 rfl) (ty := .byte) (v' := (.int 0)) (by decide) rfl rfl (g := (mkF m 23 #[rv r0, rv r1, iv 0, iv 0, .val .null, .unset] [(.int 0), (.ref r0)])) rfl rfl (hb hby d3_23)
  have Hc16 := CHv.wr W16 Sf8_r0 Hc8
  have Rc16 := Rc8.trans (CHr.wr W16 Sf8_r0 Hc8)
  have hk16 := Nat.le_trans hk8 (Keep.of_wr W16).1
  have Sf16_r0 := Safe.wr W16 Sf8_r0 Hc8 Sf8_r0
  have Fw16 : Fld Z h16 r0 cS1 "coder" "B" (.int 0) := f15.same W16
  have N16 := Fr.snoc X16 N7 ge_r0
  have f17 := (f14.wr W16)
  have f18 := ((Fw7.ext E8).other W16 (Or.inr (slot_ne (Or.inr (own_at hw 33 rfl)) (Or.inr (own_at hw 31 rfl)) (by decide) (t := (.array .byte)) (t' := .byte) (by decide) (by decide))))
  have f19 := ((f12.ext E8).other W16 (Ne.symm (ne2 _ Sf2_r0).2))
  obtain ⟨fs, hr, hrun, hended, hRW⟩ := X16.leaveW hS8 (by rw [e16]; exact hk16) (v := none) (fun _ => rfl)
  have hCE : CHr Z own_EL s.vm s.heap T16.vm T16.heap := by rw [hh, e16]; exact Rc16.trans (CHv.at X16 hZ8 (own_ew hw) Hc16)
  refine ⟨_, _, k0 _ ?_, hrun, hended, _, _, rfl, ?_, hCE, hRW.1, hRW.2.1, hRW.2.2.1, hRW.2.2.2.mono (by decide) (by decide)⟩
  · show OwnS p e below s₁ (mkF m 0 #[rv r0, rv r1, iv 0, iv 0, .val .null, .unset] []) _
    refine XS.aloadN X0.here hx rfl (hb hby d3_0) rfl rfl ?_
    refine st1 _ ?_
    refine XS.iloadN X1.here hx rfl (hb hby d3_4) rfl ?_
    refine XS.ifNo X1.here hx rfl (hb hby d3_5) rfl ((if0 _ _).trans (teq (by decide : (0 : Int32) = (0 : Int32))).2) ?_
    refine XS.aloadN X1.here hx rfl (hb hby d3_8) rfl rfl ?_
    refine st2 _ ?_
    refine st4 _ ?_
    refine st7 _ ?_
    refine XS.aloadN X7.here hx rfl (hb hby d3_17) rfl rfl ?_
    refine st8 _ ?_
    refine st13 _ ?_
    refine st16 _ ?_
    exact X16.returnOut hx Bd.returns (hb hby d3_26) hr
  · show Q_3_0 Z _ _ _ _ h0 n0 _ T16.heap _
    rw [e16]
    exact ⟨bb2, kk2, rfl, N16, (((((Keep.refl h0 [r0]).ext E2).wr W7 (Or.inl (List.mem_of_getElem? (i := 0) rfl))).ext E8).wr W16 (Or.inl (List.mem_of_getElem? (i := 0) rfl))), f17, Fw16, f18, f19, (ne2 _ Sf2_r0).2⟩
def Q_2_0 (Z : State) (r0 : Addr) (r1 : Addr) (kC : ClassId) (u_coder_r0 : Value) (h0 : Heap) (n0 : Nat) (v : Option Value) (h : Heap) (L : List Loc) : Prop := ∃ ar : Addr, ∃ kk : ClassId, v = none ∧ Fr n0 L ∧ Keep h0 h [r0] ∧ Exa Z h r0 cS1 ∧ Fld Z h r0 cS1 "coder" "B" (.int 0) ∧ Fld Z h r0 cS1 "value" "[B" (.ref ar) ∧ Arv Z h ar kk .byte (0 : Int32) [] (.int 0) ∧ r0 ≠ ar
set_option maxRecDepth 65536 in
set_option maxHeartbeats 40000000 in
theorem rm2_0 (l : Launch) (Z : State) (a0 : Array Value) (hw : ∀ d ∈ tables_1, d.before a0 Z = true) (ws : List Jvm.Cond) (r0 : Addr) (r1 : Addr) (kC : ClassId) (u_coder_r0 : Value) (h0 : Heap) (n0 : Nat) (Z0 : n0 ≤ h0.size) (E_r0 : Exa Z h0 r0 cS1) (F_value_r0 : Fld Z h0 r0 cS1 "value" "[B" .null) (V_r1 : Arv Z h0 r1 kC .char (0 : Int32) [] (.int 0)) (ge_r0 : n0 ≤ r0) (ne_r1_r0 : r1 ≠ r0) (F_coder_r0 : Fld Z h0 r0 cS1 "coder" "B" u_coder_r0) :
    MetFree l (⟨cS1, "<init>", "([C)V"⟩ : MethodName) (head1 (Jvm.Cond.code (⟨cS1, "<init>", "([C)V"⟩ : MethodName) jdk_42_method_3_code 2 none :: ws) ({ frames := 2, cells := 4, slots := 8, locals := 29 } : Room)) (fun a U => a = #[(.ref r0), (.ref r1)] ∧ Z.Warmed39 U.vm ∧ U.heap = h0 ∧ CHv Z own_EL U.vm h0) (fun _ _ _ _ _ => True) (fun _ U o U' => ∃ v L, o = .returned v ∧ Q_2_0 Z r0 r1 kC u_coder_r0 h0 n0 v U'.heap L ∧ CHr Z own_EL U.vm U.heap U'.vm U'.heap ∧ ReturnedEndW U o U' L ({ frames := 2, cells := 4, slots := 8, locals := 29 } : Room).cells ({ frames := 2, cells := 4, slots := 8, locals := 29 } : Room).slots) := by
  refine MetFree.of_bodySF (plainFor_of_name pn_java_lang_String) hisR ?_
  intro p e s m args below meth c s₁ Bd hml0 hP hK
  obtain ⟨rfl, hZ, hh, H0c⟩ := hP
  have hx := Bd.exec
  have hby := Bd.bytes
  have hml : c.maxLocals = 2 := hml0
  have hown : (s.setVm s.vm).vm.findClass cS1 = some m.cls := findClass_of_methodNamed Bd.named
  have hnm := (name_of_methodNamed Bd.named Bd.method).1
  have X0 : Stand p l e ({ frames := 2, cells := 4, slots := 8, locals := 29 } : Room) (s.setVm s.vm) m #[(.ref r0), (.ref r1)] below meth c s₁ [] 0 0 := Stand.of_body Bd
  have e0 : s₁.heap = h0 := by rw [← hh, Bd.state]; rfl
  have N0 := Fr.nil n0
  have k0 : ∀ t, OwnS p e below s₁ (mkF m 0 #[rv r0, rv r1] []) t → OwnS p e below s₁ (entryFrame m #[(.ref r0), (.ref r1)] 2) t := fun t k => castTop (ef_2 m r0 r1) k
  have hZ : Z.Warmed39 (s.setVm s.vm).vm := hZ
  have hS0 : s.Since s.vm h0.size := (State.WarmedH.refl s).since _
  have hk0 : h0.size ≤ h0.size := Nat.le_refl _
  have R0c := CHr.refl H0c
  obtain ⟨cl_z1, Ar_z1, q_z1, S_z1, N_z1, H_z1, G_z1⟩ := id V_r1
  obtain ⟨_, _, ⟨T2, L2, j2, i2⟩, -, X2, hSq2, hgq2, ⟨Lc2, hQ2, l2, y2, z2, CR2⟩, st2⟩ := X0.specialBackS hx (y := (⟨cS1, "<init>", "([CIILjava/lang/Void;)V"⟩ : MethodName)) rfl hown (mvT hZ (own_at hw 11 rfl)) (mvT hZ (own_at hw 12 rfl)) (mvT hZ (own_at hw 14 rfl)) (by decide) (backOfSH (W := 0) (rm3_0 l Z a0 hw [] r0 r1 kC u_coder_r0 h0 n0 Z0 E_r0 F_value_r0 V_r1 ge_r0 ne_r1_r0 F_coder_r0) hZ (own_at hw 14 rfl) (own_at hw 6 rfl) (by decide) (by decide) (own_ew hw) H0c) (g := (mkF m 6 #[rv r0, rv r1] [.null, (.int 0), (.int 0), (.ref r1), (.ref r0)])) rfl (by rw [hml]; rfl) (Steps.refl _) (a := r0) (argsL := [(.ref r1), (.int 0), (.int 0), .null]) (rest := []) (lenOf pd_3 rfl) rfl (Nat.le_refl _) (hb hby d2_6) (fun _ _ => ⟨rfl, e0, (by decide : 0 + 4 ≤ _), (by decide : 0 + 8 ≤ _)⟩)
  dsimp only [Pt.U, Pt.locs, Pt.cells, Pt.slots] at X2 l2 y2 z2 st2 hQ2 CR2 hSq2 hgq2
  subst l2 y2 z2
  obtain ⟨X2, hS2, hZ2, hown2⟩ := rebS hS0 (by rw [e0]; exact hk0) X2 hSq2 hgq2 hZ hown
  have hk2 : T2.heap.size ≤ T2.heap.size := Nat.le_refl _
  obtain ⟨ar_2, kk_2, rfl, N2q, K2, p2_0, p2_1, p2_2, p2_3, p2_4⟩ := hQ2
  have pl2 := (allS (P := fun x => ∃ cell : Cell, h0[x]? = some cell ∧ cell.vm.isStatics = false) (own_ns E_r0) all0)
  have Hc2 := CR2.1
  have Rc2 := R0c.trans CR2
  have N2 := Fr.app N0 N2q
  obtain ⟨fs, hr, hrun, hended, hRW⟩ := X2.leaveW hS2 hk2 (v := none) (fun _ => rfl)
  have hCE : CHr Z own_EL s.vm s.heap T2.vm T2.heap := by rw [hh]; exact Rc2.trans (CHv.at X2 hZ2 (own_ew hw) Hc2)
  refine ⟨_, _, k0 _ ?_, hrun, hended, _, _, rfl, ?_, hCE, hRW.1, hRW.2.1, hRW.2.2.1, hRW.2.2.2.mono (by decide) (by decide)⟩
  · show OwnS p e below s₁ (mkF m 0 #[rv r0, rv r1] []) _
    refine XS.aloadN X0.here hx rfl (hb hby d2_0) rfl rfl ?_
    refine XS.aloadN X0.here hx rfl (hb hby d2_1) rfl rfl ?_
    refine XS.iconst X0.here hx rfl (hb hby d2_2) ?_
    refine XS.aloadN X0.here hx rfl (hb hby d2_3) rfl rfl ?_
    refine X0.arraylength hx (by rw [e0]; exact Ar_z1.1) (State.isArrayOf_alike hZ.alike Ar_z1.2.1) (g := (mkF m 4 #[rv r0, rv r1] [(.ref r1), (.int 0), (.ref r1), (.ref r0)])) rfl rfl (hb hby d2_4) _ ?_
    rw [len_of S_z1 N_z1]
    refine XS.aconstNull X0.here hx rfl (hb hby d2_5) ?_
    refine st2.trans ?_
    exact X2.returnOut hx Bd.returns (hb hby d2_9) hr
  · show Q_2_0 Z _ _ _ _ h0 n0 _ T2.heap _
    exact ⟨ar_2, kk_2, rfl, N2, ((Keep.refl h0 [r0]).trans K2 (allS (Or.inl (List.mem_of_getElem? (i := 0) rfl)) all0)), p2_0, p2_1, p2_2, p2_3, p2_4⟩
theorem pd_4 : parseMethodDescriptor "([C)V" = some ⟨[(.array .char)], none⟩ := by decide +kernel
theorem d1_0 : decode method_2_code 0 = .ok (.iload_n 0, 1) := by decide +kernel
theorem d1_1 : decode method_2_code 1 = .ok (.sipush 255, 3) := by decide +kernel
theorem d1_4 : decode method_2_code 4 = .ok (.iand, 1) := by decide +kernel
theorem d1_5 : decode method_2_code 5 = .ok (.i2c, 1) := by decide +kernel
theorem d1_6 : decode method_2_code 6 = .ok (.istore_n 2, 1) := by decide +kernel
theorem d1_7 : decode method_2_code 7 = .ok (.iload_n 0, 1) := by decide +kernel
theorem d1_8 : decode method_2_code 8 = .ok (.bipush 8, 2) := by decide +kernel
theorem d1_10 : decode method_2_code 10 = .ok (.iushr, 1) := by decide +kernel
theorem d1_11 : decode method_2_code 11 = .ok (.sipush 255, 3) := by decide +kernel
theorem d1_14 : decode method_2_code 14 = .ok (.iand, 1) := by decide +kernel
theorem d1_15 : decode method_2_code 15 = .ok (.i2c, 1) := by decide +kernel
theorem d1_16 : decode method_2_code 16 = .ok (.istore_n 3, 1) := by decide +kernel
theorem d1_17 : decode method_2_code 17 = .ok (.iload_n 0, 1) := by decide +kernel
theorem d1_18 : decode method_2_code 18 = .ok (.bipush 16, 2) := by decide +kernel
theorem d1_20 : decode method_2_code 20 = .ok (.iushr, 1) := by decide +kernel
theorem d1_21 : decode method_2_code 21 = .ok (.sipush 255, 3) := by decide +kernel
theorem d1_24 : decode method_2_code 24 = .ok (.iand, 1) := by decide +kernel
theorem d1_25 : decode method_2_code 25 = .ok (.i2c, 1) := by decide +kernel
theorem d1_26 : decode method_2_code 26 = .ok (.istore 4, 2) := by decide +kernel
theorem d1_28 : decode method_2_code 28 = .ok (.iload_n 1, 1) := by decide +kernel
theorem d1_29 : decode method_2_code 29 = .ok (.iconst 3, 1) := by decide +kernel
theorem d1_30 : decode method_2_code 30 = .ok (.iand, 1) := by decide +kernel
theorem d1_31 : decode method_2_code 31 = .ok (.istore 5, 2) := by decide +kernel
theorem d1_33 : decode method_2_code 33 = .ok (.iload 5, 2) := by decide +kernel
theorem d1_35 : decode method_2_code 35 = .ok (.ifCond .ne 14, 3) := by decide +kernel
theorem d1_38 : decode method_2_code 38 = .ok (.new 7, 3) := by decide +kernel
theorem d1_41 : decode method_2_code 41 = .ok (.dup, 1) := by decide +kernel
theorem d1_42 : decode method_2_code 42 = .ok (.iconst 0, 1) := by decide +kernel
theorem d1_43 : decode method_2_code 43 = .ok (.newarray .char, 2) := by decide +kernel
theorem d1_45 : decode method_2_code 45 = .ok (.invokespecial 9, 3) := by decide +kernel
theorem d1_48 : decode method_2_code 48 = .ok (.areturn, 1) := by decide +kernel
theorem d1_49 : decode method_2_code 49 = .ok (.iload 5, 2) := by decide +kernel
theorem d1_51 : decode method_2_code 51 = .ok (.iconst 1, 1) := by decide +kernel
theorem d1_52 : decode method_2_code 52 = .ok (.if_icmp .ne 18, 3) := by decide +kernel
theorem d1_55 : decode method_2_code 55 = .ok (.new 7, 3) := by decide +kernel
theorem d1_58 : decode method_2_code 58 = .ok (.dup, 1) := by decide +kernel
theorem d1_59 : decode method_2_code 59 = .ok (.iconst 1, 1) := by decide +kernel
theorem d1_60 : decode method_2_code 60 = .ok (.newarray .char, 2) := by decide +kernel
theorem d1_62 : decode method_2_code 62 = .ok (.dup, 1) := by decide +kernel
theorem d1_63 : decode method_2_code 63 = .ok (.iconst 0, 1) := by decide +kernel
theorem d1_64 : decode method_2_code 64 = .ok (.iload_n 2, 1) := by decide +kernel
theorem d1_65 : decode method_2_code 65 = .ok (.castore, 1) := by decide +kernel
theorem d1_66 : decode method_2_code 66 = .ok (.invokespecial 9, 3) := by decide +kernel
theorem d1_69 : decode method_2_code 69 = .ok (.areturn, 1) := by decide +kernel
theorem d1_70 : decode method_2_code 70 = .ok (.iload 5, 2) := by decide +kernel
theorem d1_72 : decode method_2_code 72 = .ok (.iconst 2, 1) := by decide +kernel
theorem d1_73 : decode method_2_code 73 = .ok (.if_icmp .ne 22, 3) := by decide +kernel
theorem d1_76 : decode method_2_code 76 = .ok (.new 7, 3) := by decide +kernel
theorem d1_79 : decode method_2_code 79 = .ok (.dup, 1) := by decide +kernel
theorem d1_80 : decode method_2_code 80 = .ok (.iconst 2, 1) := by decide +kernel
theorem d1_81 : decode method_2_code 81 = .ok (.newarray .char, 2) := by decide +kernel
theorem d1_83 : decode method_2_code 83 = .ok (.dup, 1) := by decide +kernel
theorem d1_84 : decode method_2_code 84 = .ok (.iconst 0, 1) := by decide +kernel
theorem d1_85 : decode method_2_code 85 = .ok (.iload_n 2, 1) := by decide +kernel
theorem d1_86 : decode method_2_code 86 = .ok (.castore, 1) := by decide +kernel
theorem d1_87 : decode method_2_code 87 = .ok (.dup, 1) := by decide +kernel
theorem d1_88 : decode method_2_code 88 = .ok (.iconst 1, 1) := by decide +kernel
theorem d1_89 : decode method_2_code 89 = .ok (.iload_n 3, 1) := by decide +kernel
theorem d1_90 : decode method_2_code 90 = .ok (.castore, 1) := by decide +kernel
theorem d1_91 : decode method_2_code 91 = .ok (.invokespecial 9, 3) := by decide +kernel
theorem d1_94 : decode method_2_code 94 = .ok (.areturn, 1) := by decide +kernel
theorem d1_95 : decode method_2_code 95 = .ok (.new 7, 3) := by decide +kernel
theorem d1_98 : decode method_2_code 98 = .ok (.dup, 1) := by decide +kernel
theorem d1_99 : decode method_2_code 99 = .ok (.iconst 3, 1) := by decide +kernel
theorem d1_100 : decode method_2_code 100 = .ok (.newarray .char, 2) := by decide +kernel
theorem d1_102 : decode method_2_code 102 = .ok (.dup, 1) := by decide +kernel
theorem d1_103 : decode method_2_code 103 = .ok (.iconst 0, 1) := by decide +kernel
theorem d1_104 : decode method_2_code 104 = .ok (.iload_n 2, 1) := by decide +kernel
theorem d1_105 : decode method_2_code 105 = .ok (.castore, 1) := by decide +kernel
theorem d1_106 : decode method_2_code 106 = .ok (.dup, 1) := by decide +kernel
theorem d1_107 : decode method_2_code 107 = .ok (.iconst 1, 1) := by decide +kernel
theorem d1_108 : decode method_2_code 108 = .ok (.iload_n 3, 1) := by decide +kernel
theorem d1_109 : decode method_2_code 109 = .ok (.castore, 1) := by decide +kernel
theorem d1_110 : decode method_2_code 110 = .ok (.dup, 1) := by decide +kernel
theorem d1_111 : decode method_2_code 111 = .ok (.iconst 2, 1) := by decide +kernel
theorem d1_112 : decode method_2_code 112 = .ok (.iload 4, 2) := by decide +kernel
theorem d1_114 : decode method_2_code 114 = .ok (.castore, 1) := by decide +kernel
theorem d1_115 : decode method_2_code 115 = .ok (.invokespecial 9, 3) := by decide +kernel
theorem d1_118 : decode method_2_code 118 = .ok (.areturn, 1) := by decide +kernel
theorem pn_com_example_tablox_tablox_concept_RoleNamedPinLaw : plainName cS7 = true := by first | (simp [plainName, overriddenIn]; done) | decide +kernel
theorem ef_1 (m : MethodId) (x0 : Int32) (x1 : Int32) : entryFrame m #[(.int x0), (.int x1)] 6 = mkF m 0 #[.val (.int x0), .val (.int x1), .unset, .unset, .unset, .unset] [] := by first | (simp [entryFrame, mkF, argsToLocals, Value.category]; done) | rfl
def Q_1 (Z : State) (p0 : Int32) (p1 : Int32) (w_CS : Int32) (h0 : Heap) (n0 : Nat) (v : Option Value) (h : Heap) (L : List Loc) : Prop := ∃ ob : Addr, ∃ ar : Addr, ∃ kk : ClassId, v = some (.ref ob) ∧ Fr n0 L ∧ Keep h0 h [] ∧ h0.size ≤ ob ∧ Exa Z h ob cS1 ∧ Fld Z h ob cS1 "coder" "B" (.int 0) ∧ Fld Z h ob cS1 "value" "[B" (.ref ar) ∧ Arv Z h ar kk .byte (own_n p1) (own_str p0 p1) (.int 0)
set_option maxRecDepth 65536 in
set_option maxHeartbeats 40000000 in
theorem rm1 (l : Launch) (Z : State) (a0 : Array Value) (hw : ∀ d ∈ tables_1, d.before a0 Z = true) (ws : List Jvm.Cond) (p0 : Int32) (p1 : Int32) (w_CS : Int32) (h0 : Heap) (n0 : Nat) (Z0 : n0 ≤ h0.size) (S_CS : Sta Z h0 cS1 "COMPACT_STRINGS" "Z" (.int w_CS)) (hcs : ¬ (w_CS = (0 : Int32))) :
    MetFree l (⟨cS7, "str", "(II)Ljava/lang/String;"⟩ : MethodName) (head1 (Jvm.Cond.code (⟨cS7, "str", "(II)Ljava/lang/String;"⟩ : MethodName) method_2_code 6 (some (.object cS1)) :: ws) ({ frames := 4, cells := 6, slots := 12, locals := 66 } : Room)) (fun a U => a = #[(.int p0), (.int p1)] ∧ Z.Warmed39 U.vm ∧ U.heap = h0 ∧ CHv Z own_EL U.vm h0) (fun _ _ _ _ _ => True) (fun _ U o U' => ∃ v L, o = .returned v ∧ Q_1 Z p0 p1 w_CS h0 n0 v U'.heap L ∧ CHr Z own_EL U.vm U.heap U'.vm U'.heap ∧ ReturnedEndW U o U' L ({ frames := 4, cells := 6, slots := 12, locals := 66 } : Room).cells ({ frames := 4, cells := 6, slots := 12, locals := 66 } : Room).slots) := by
  refine MetFree.of_bodySF (plainFor_of_name pn_com_example_tablox_tablox_concept_RoleNamedPinLaw) hisR ?_
  intro p e s m args below meth c s₁ Bd hml0 hP hK
  obtain ⟨rfl, hZ, hh, H0c⟩ := hP
  have hx := Bd.exec
  have hby := Bd.bytes
  have hml : c.maxLocals = 6 := hml0
  have hown : (s.setVm s.vm).vm.findClass cS7 = some m.cls := findClass_of_methodNamed Bd.named
  have hnm := (name_of_methodNamed Bd.named Bd.method).1
  have X0 : Stand p l e ({ frames := 4, cells := 6, slots := 12, locals := 66 } : Room) (s.setVm s.vm) m #[(.int p0), (.int p1)] below meth c s₁ [] 0 0 := Stand.of_body Bd
  have e0 : s₁.heap = h0 := by rw [← hh, Bd.state]; rfl
  have N0 := Fr.nil n0
  have k0 : ∀ t, OwnS p e below s₁ (mkF m 0 #[iv p0, iv p1, .unset, .unset, .unset, .unset] []) t → OwnS p e below s₁ (entryFrame m #[(.int p0), (.int p1)] 6) t := fun t k => castTop (ef_1 m p0 p1) k
  have hZ : Z.Warmed39 (s.setVm s.vm).vm := hZ
  have hS0 : s.Since s.vm h0.size := (State.WarmedH.refl s).since _
  have hk0 : h0.size ≤ h0.size := Nat.le_refl _
  have R0c := CHr.refl H0c
  have k1 : ∀ t, OwnS p e below s₁ (mkF m 31 #[iv p0, iv p1, iv ((p0 &&& (255 : Int32)).toUInt32.toUInt16.toUInt32.toInt32), iv ((((p0.toUInt32 >>> ((8 : Int32) &&& 31).toUInt32).toInt32) &&& (255 : Int32)).toUInt32.toUInt16.toUInt32.toInt32), iv ((((p0.toUInt32 >>> ((16 : Int32) &&& 31).toUInt32).toInt32) &&& (255 : Int32)).toUInt32.toUInt16.toUInt32.toInt32), .unset] [(.int (p1 &&& (3 : Int32)))]) t → OwnS p e below s₁ (entryFrame m #[(.int p0), (.int p1)] 6) t := fun t q => by
    refine k0 t ?_
    show OwnS p e below s₁ (mkF m 0 #[iv p0, iv p1, .unset, .unset, .unset, .unset] []) _
    refine XS.iloadN X0.here hx rfl (hb hby d1_0) rfl ?_
    refine XS.sipush X0.here hx rfl (hb hby d1_1) ?_
    refine XS.iand X0.here hx rfl (hb hby d1_4) rfl ?_
    refine XS.i2c X0.here hx rfl (hb hby d1_5) rfl ?_
    refine XS.istoreN X0.here hx rfl (hb hby d1_6) rfl (l' := #[iv p0, iv p1, iv ((p0 &&& (255 : Int32)).toUInt32.toUInt16.toUInt32.toInt32), .unset, .unset, .unset]) rfl ?_
    refine XS.iloadN X0.here hx rfl (hb hby d1_7) rfl ?_
    refine XS.bipush X0.here hx rfl (hb hby d1_8) ?_
    refine XS.iushr X0.here hx rfl (hb hby d1_10) rfl ?_
    refine XS.sipush X0.here hx rfl (hb hby d1_11) ?_
    refine XS.iand X0.here hx rfl (hb hby d1_14) rfl ?_
    refine XS.i2c X0.here hx rfl (hb hby d1_15) rfl ?_
    refine XS.istoreN X0.here hx rfl (hb hby d1_16) rfl (l' := #[iv p0, iv p1, iv ((p0 &&& (255 : Int32)).toUInt32.toUInt16.toUInt32.toInt32), iv ((((p0.toUInt32 >>> ((8 : Int32) &&& 31).toUInt32).toInt32) &&& (255 : Int32)).toUInt32.toUInt16.toUInt32.toInt32), .unset, .unset]) rfl ?_
    refine XS.iloadN X0.here hx rfl (hb hby d1_17) rfl ?_
    refine XS.bipush X0.here hx rfl (hb hby d1_18) ?_
    refine XS.iushr X0.here hx rfl (hb hby d1_20) rfl ?_
    refine XS.sipush X0.here hx rfl (hb hby d1_21) ?_
    refine XS.iand X0.here hx rfl (hb hby d1_24) rfl ?_
    refine XS.i2c X0.here hx rfl (hb hby d1_25) rfl ?_
    refine XS.istore X0.here hx rfl (hb hby d1_26) rfl (l' := #[iv p0, iv p1, iv ((p0 &&& (255 : Int32)).toUInt32.toUInt16.toUInt32.toInt32), iv ((((p0.toUInt32 >>> ((8 : Int32) &&& 31).toUInt32).toInt32) &&& (255 : Int32)).toUInt32.toUInt16.toUInt32.toInt32), iv ((((p0.toUInt32 >>> ((16 : Int32) &&& 31).toUInt32).toInt32) &&& (255 : Int32)).toUInt32.toUInt16.toUInt32.toInt32), .unset]) rfl ?_
    refine XS.iloadN X0.here hx rfl (hb hby d1_28) rfl ?_
    refine XS.iconst X0.here hx rfl (hb hby d1_29) ?_
    refine XS.iand X0.here hx rfl (hb hby d1_30) rfl ?_
    exact q
  rcases own_m4 p1 with hk | hk | hk | hk
  · obtain ⟨T2, h2, X2, e2, E2, A2, D2, -, st2⟩ := newO X0 hx hZ hown (own_at hw 4 rfl) (own_at hw 5 rfl) (own_at hw 6 rfl) e0 (g := (mkF m 38 #[iv p0, iv p1, iv ((p0 &&& (255 : Int32)).toUInt32.toUInt16.toUInt32.toInt32), iv ((((p0.toUInt32 >>> ((8 : Int32) &&& 31).toUInt32).toInt32) &&& (255 : Int32)).toUInt32.toUInt16.toUInt32.toInt32), iv ((((p0.toUInt32 >>> ((16 : Int32) &&& 31).toUInt32).toInt32) &&& (255 : Int32)).toUInt32.toUInt16.toUInt32.toInt32), iv 0] [])) rfl (hb hby d1_38) (by decide) (by decide)
    obtain ⟨b2, g2⟩ : ∃ z, z = h0.size := ⟨_, rfl⟩
    rw [← g2] at A2 D2 st2
    have g_b2 : n0 ≤ b2 := Nat.le_trans Z0 (Nat.le_of_eq g2.symm)
    have sz_b2 : h0.size ≤ b2 := Nat.le_trans (Keep.refl h0 []).1 (Nat.le_of_eq g2.symm)
    have Hc2 := CHv.ext E2 H0c
    have Rc2 := R0c.trans (CHr.ext E2 H0c)
    have hk2 := Nat.le_trans hk0 E2.1
    have Sf2_b2 := Safe.ext (EL := own_EL) E2 H0c (Safe.new (Nat.le_of_eq g2.symm))
    have F_coder_b2 : Fld Z h2 b2 cS1 "coder" "B" (.int 0) := D2 (Or.inr (own_at hw 31 rfl)) (ty := .byte) (by decide)
    have F_value_b2 : Fld Z h2 b2 cS1 "value" "[B" .null := D2 (Or.inr (own_at hw 33 rfl)) (ty := (.array .byte)) (by decide)
    obtain ⟨T3, h3, k3, X3, e3, E3, A3, EA3, st3⟩ := newPE X2 hx hZ (own_at hw 7 rfl) e2 (g := (mkF m 43 #[iv p0, iv p1, iv ((p0 &&& (255 : Int32)).toUInt32.toUInt16.toUInt32.toInt32), iv ((((p0.toUInt32 >>> ((8 : Int32) &&& 31).toUInt32).toInt32) &&& (255 : Int32)).toUInt32.toUInt16.toUInt32.toInt32), iv ((((p0.toUInt32 >>> ((16 : Int32) &&& 31).toUInt32).toInt32) &&& (255 : Int32)).toUInt32.toUInt16.toUInt32.toInt32), iv 0] [(.int 0), (.ref b2), (.ref b2)])) rfl (hb hby d1_43) rfl (by decide) (cap := 0) (by decide) (by decide) (by decide) (by decide) (ad := "[C") (by decide)
    obtain ⟨b3, g3⟩ : ∃ z, z = h2.size := ⟨_, rfl⟩
    rw [← g3] at A3 EA3 st3
    have g_b3 : n0 ≤ b3 := Nat.le_trans (Nat.le_trans Z0 E2.1) (Nat.le_of_eq g3.symm)
    have sz_b3 : h0.size ≤ b3 := Nat.le_trans ((Keep.refl h0 []).ext E2).1 (Nat.le_of_eq g3.symm)
    have Hc3 := CHv.ext E3 Hc2
    have Rc3 := Rc2.trans (CHr.ext E3 Hc2)
    have hk3 := Nat.le_trans hk2 E3.1
    have Sf3_b2 := Safe.ext E3 Hc2 Sf2_b2
    have Sf3_b3 := Safe.ext (EL := own_EL) E3 Hc2 (Safe.new (Nat.le_of_eq g3.symm))
    have V_b3 : Arv Z h3 b3 k3 .char (0 : Int32) [] (.int 0) := Arv.new A3 (by decide)
    have f5 := (A2.ext E3)
    have f6 := (F_value_b2.ext E3)
    have f7 := (F_coder_b2.ext E3)
    have lt_b2 := f5.lt
    have lt_b3 := EA3.lt
    obtain ⟨_, _, ⟨T4, L4, j4, i4⟩, -, X4, hSq4, hgq4, ⟨Lc4, hQ4, l4, y4, z4, CR4⟩, st4⟩ := X3.specialBackS hx (y := (⟨cS1, "<init>", "([C)V"⟩ : MethodName)) rfl hown (mvT hZ (own_at hw 8 rfl)) (mvT hZ (own_at hw 9 rfl)) (mvT hZ (own_at hw 10 rfl)) (by decide) (backOfSH (W := 1) (rm2_0 l Z a0 hw [] b2 b3 k3 (.int 0) h3 n0 (Nat.le_trans (Nat.le_trans Z0 E2.1) E3.1) f5 f6 V_b3 g_b2 (Ne.symm (Nat.ne_of_lt (Nat.lt_of_lt_of_le A2.lt (Nat.le_of_eq g3.symm)))) f7) hZ (own_at hw 10 rfl) (own_at hw 6 rfl) (by decide) (by decide) (own_ew hw) Hc3) (g := (mkF m 45 #[iv p0, iv p1, iv ((p0 &&& (255 : Int32)).toUInt32.toUInt16.toUInt32.toInt32), iv ((((p0.toUInt32 >>> ((8 : Int32) &&& 31).toUInt32).toInt32) &&& (255 : Int32)).toUInt32.toUInt16.toUInt32.toInt32), iv ((((p0.toUInt32 >>> ((16 : Int32) &&& 31).toUInt32).toInt32) &&& (255 : Int32)).toUInt32.toUInt16.toUInt32.toInt32), iv 0] [(.ref b3), (.ref b2), (.ref b2)])) rfl (by rw [hml]; rfl) (Steps.refl _) (a := b2) (argsL := [(.ref b3)]) (rest := [(.ref b2)]) (lenOf pd_4 rfl) rfl (Nat.le_refl _) (hb hby d1_45) (fun _ _ => ⟨rfl, e3, (by decide : 2 + 4 ≤ _), (by decide : 4 + 8 ≤ _)⟩)
    dsimp only [Pt.U, Pt.locs, Pt.cells, Pt.slots] at X4 l4 y4 z4 st4 hQ4 CR4 hSq4 hgq4
    subst l4 y4 z4
    obtain ⟨X4, hS4, hZ4, hown4⟩ := rebS hS0 (by rw [e3]; exact hk3) X4 hSq4 hgq4 hZ hown
    have hk4 : T4.heap.size ≤ T4.heap.size := Nat.le_refl _
    obtain ⟨ar_4, kk_4, rfl, N4q, K4, p4_0, p4_1, p4_2, p4_3, p4_4⟩ := hQ4
    have pl4 := (allS (P := fun x => ∃ cell : Cell, h3[x]? = some cell ∧ cell.vm.isStatics = false) (own_ns f5) all0)
    have lt_b2 := f5.lt
    have lt_b3 := EA3.lt
    have Hc4 := CR4.1
    have Rc4 := Rc3.trans CR4
    have Sf4_b2 := CHr.safe CR4 lt_b2 Sf3_b2
    have Sf4_b3 := CHr.safe CR4 lt_b3 Sf3_b3
    have N4 := Fr.app N0 N4q
    have V8 : Arv Z T4.heap ar_4 kk_4 .byte (own_n p1) (own_str p0 p1) (.int 0) := by unfold own_n own_str; rw [hk]; exact p4_3
    obtain ⟨fs, hr, hrun, hended, hRW⟩ := X4.leaveW hS4 hk4 (v := some (.ref b2)) (fun h => by rw [Bd.returns] at h; cases h)
    have hCE : CHr Z own_EL s.vm s.heap T4.vm T4.heap := by rw [hh]; exact Rc4.trans (CHv.at X4 hZ4 (own_ew hw) Hc4)
    refine ⟨_, _, k1 _ ?_, hrun, hended, _, _, rfl, ?_, hCE, hRW.1, hRW.2.1, hRW.2.2.1, hRW.2.2.2.mono (by decide) (by decide)⟩
    · rw [hk]
      refine XS.istore X0.here hx rfl (hb hby d1_31) rfl (l' := #[iv p0, iv p1, iv ((p0 &&& (255 : Int32)).toUInt32.toUInt16.toUInt32.toInt32), iv ((((p0.toUInt32 >>> ((8 : Int32) &&& 31).toUInt32).toInt32) &&& (255 : Int32)).toUInt32.toUInt16.toUInt32.toInt32), iv ((((p0.toUInt32 >>> ((16 : Int32) &&& 31).toUInt32).toInt32) &&& (255 : Int32)).toUInt32.toUInt16.toUInt32.toInt32), iv 0]) rfl ?_
      refine XS.iload X0.here hx rfl (hb hby d1_33) rfl ?_
      refine XS.ifNo X0.here hx rfl (hb hby d1_35) rfl ((if0 _ _).trans (teq (by decide : (0 : Int32) = (0 : Int32))).2) ?_
      refine st2 _ ?_
      refine XS.dup X2.here hx rfl (hb hby d1_41) rfl rfl ?_
      refine XS.iconst X2.here hx rfl (hb hby d1_42) ?_
      refine st3 _ ?_
      refine st4.trans ?_
      jvm_step X4.here [X4.here.top, hx, (hb hby d1_48), X4.method', Bd.returns, Value.isRef, FieldType.isReference]
      first | (intro acts; rw [hr _ acts rfl rfl rfl]) | rw [hr _ _ rfl rfl rfl]
      exact Steps.refl _
    · show Q_1 Z _ _ _ h0 n0 _ T4.heap _
      exact ⟨b2, ar_4, kk_4, rfl, N4, ((((Keep.refl h0 []).ext E2).ext E3).trans K4 (allS (Or.inr sz_b2) all0)), sz_b2, p4_0, p4_1, p4_2, V8⟩
  · obtain ⟨T9, h9, X9, e9, E9, A9, D9, -, st9⟩ := newO X0 hx hZ hown (own_at hw 4 rfl) (own_at hw 5 rfl) (own_at hw 6 rfl) e0 (g := (mkF m 55 #[iv p0, iv p1, iv ((p0 &&& (255 : Int32)).toUInt32.toUInt16.toUInt32.toInt32), iv ((((p0.toUInt32 >>> ((8 : Int32) &&& 31).toUInt32).toInt32) &&& (255 : Int32)).toUInt32.toUInt16.toUInt32.toInt32), iv ((((p0.toUInt32 >>> ((16 : Int32) &&& 31).toUInt32).toInt32) &&& (255 : Int32)).toUInt32.toUInt16.toUInt32.toInt32), iv 1] [])) rfl (hb hby d1_55) (by decide) (by decide)
    obtain ⟨b9, g9⟩ : ∃ z, z = h0.size := ⟨_, rfl⟩
    rw [← g9] at A9 D9 st9
    have g_b9 : n0 ≤ b9 := Nat.le_trans Z0 (Nat.le_of_eq g9.symm)
    have sz_b9 : h0.size ≤ b9 := Nat.le_trans (Keep.refl h0 []).1 (Nat.le_of_eq g9.symm)
    have Hc9 := CHv.ext E9 H0c
    have Rc9 := R0c.trans (CHr.ext E9 H0c)
    have hk9 := Nat.le_trans hk0 E9.1
    have Sf9_b9 := Safe.ext (EL := own_EL) E9 H0c (Safe.new (Nat.le_of_eq g9.symm))
    have F_coder_b9 : Fld Z h9 b9 cS1 "coder" "B" (.int 0) := D9 (Or.inr (own_at hw 31 rfl)) (ty := .byte) (by decide)
    have F_value_b9 : Fld Z h9 b9 cS1 "value" "[B" .null := D9 (Or.inr (own_at hw 33 rfl)) (ty := (.array .byte)) (by decide)
    obtain ⟨T10, h10, k10, X10, e10, E10, A10, EA10, st10⟩ := newPE X9 hx hZ (own_at hw 7 rfl) e9 (g := (mkF m 60 #[iv p0, iv p1, iv ((p0 &&& (255 : Int32)).toUInt32.toUInt16.toUInt32.toInt32), iv ((((p0.toUInt32 >>> ((8 : Int32) &&& 31).toUInt32).toInt32) &&& (255 : Int32)).toUInt32.toUInt16.toUInt32.toInt32), iv ((((p0.toUInt32 >>> ((16 : Int32) &&& 31).toUInt32).toInt32) &&& (255 : Int32)).toUInt32.toUInt16.toUInt32.toInt32), iv 1] [(.int 1), (.ref b9), (.ref b9)])) rfl (hb hby d1_60) rfl (by decide) (cap := 1) (by decide) (by decide) (by decide) (by decide) (ad := "[C") (by decide)
    obtain ⟨b10, g10⟩ : ∃ z, z = h9.size := ⟨_, rfl⟩
    rw [← g10] at A10 EA10 st10
    have g_b10 : n0 ≤ b10 := Nat.le_trans (Nat.le_trans Z0 E9.1) (Nat.le_of_eq g10.symm)
    have sz_b10 : h0.size ≤ b10 := Nat.le_trans ((Keep.refl h0 []).ext E9).1 (Nat.le_of_eq g10.symm)
    have Hc10 := CHv.ext E10 Hc9
    have Rc10 := Rc9.trans (CHr.ext E10 Hc9)
    have hk10 := Nat.le_trans hk9 E10.1
    have Sf10_b9 := Safe.ext E10 Hc9 Sf9_b9
    have Sf10_b10 := Safe.ext (EL := own_EL) E10 Hc9 (Safe.new (Nat.le_of_eq g10.symm))
    have V_b10 : Arv Z h10 b10 k10 .char (1 : Int32) [(.int 0)] (.int 0) := (Arv.new A10 (by decide)).pad (pad_rep [] (.int 0) 1)
    obtain ⟨cl_z11, Ar_z11, q_z11, S_z11, N_z11, H_z11, G_z11⟩ := id V_b10
    have hin12 : ¬ ((0 : Int32) < 0 ∨ cl_z11.slots.size ≤ ((0 : Int32)).toNatClampNeg) := inb_of S_z11 ⟨by decide, by decide⟩
    obtain ⟨T13, h13, X13, e13, W13, st13⟩ := stC X10 hx hZ e10 Ar_z11 (j := (0 : Int32)) hin12 (g := (mkF m 65 #[iv p0, iv p1, iv ((p0 &&& (255 : Int32)).toUInt32.toUInt16.toUInt32.toInt32), iv ((((p0.toUInt32 >>> ((8 : Int32) &&& 31).toUInt32).toInt32) &&& (255 : Int32)).toUInt32.toUInt16.toUInt32.toInt32), iv ((((p0.toUInt32 >>> ((16 : Int32) &&& 31).toUInt32).toInt32) &&& (255 : Int32)).toUInt32.toUInt16.toUInt32.toInt32), iv 1] [(.int ((p0 &&& (255 : Int32)).toUInt32.toUInt16.toUInt32.toInt32)), (.int 0), (.ref b10), (.ref b10), (.ref b9), (.ref b9)])) rfl rfl (hb hby d1_65)
    have Hc13 := CHv.wr W13 Sf10_b10 Hc10
    have Rc13 := Rc10.trans (CHr.wr W13 Sf10_b10 Hc10)
    have hk13 := Nat.le_trans hk10 (Keep.of_wr W13).1
    have Sf13_b9 := Safe.wr W13 Sf10_b10 Hc10 Sf10_b9
    have Sf13_b10 := Safe.wr W13 Sf10_b10 Hc10 Sf10_b10
    have V13 : Arv Z h13 b10 k10 .char (1 : Int32) [(.int (((p0 &&& (255 : Int32)).toUInt32.toUInt16.toUInt32.toInt32).toUInt32.toUInt16.toUInt32.toInt32))] (.int 0) := Arv.set Ar_z11 q_z11 S_z11 N_z11 H_z11 G_z11 (fits_nar_char _) W13 0 rfl (Nat.le_of_ble_eq_true rfl)
    have N13 := Fr.snoc X13 N0 g_b10
    have f15 := (((S_CS.ext E9).ext E10).wr W13)
    have f16 := ((A9.ext E10).wr W13)
    have f17 := ((F_coder_b9.ext E10).other W13 (Or.inl (Nat.ne_of_lt (Nat.lt_of_lt_of_le A9.lt (Nat.le_of_eq g10.symm)))))
    have f18 := ((F_value_b9.ext E10).other W13 (Or.inl (Nat.ne_of_lt (Nat.lt_of_lt_of_le A9.lt (Nat.le_of_eq g10.symm)))))
    obtain ⟨_, _, ⟨T14, L14, j14, i14⟩, -, X14, ⟨Lc14, hQ14, l14, y14, z14⟩, st14⟩ := X13.specialBack hx (y := (⟨cS1, "<init>", "([C)V"⟩ : MethodName)) rfl hown (mvT hZ (own_at hw 8 rfl)) (mvT hZ (own_at hw 9 rfl)) (mvT hZ (own_at hw 10 rfl)) (by decide) (backOf (W := 1) (rm2_1 l Z a0 hw [] b9 b10 w_CS k10 (((p0 &&& (255 : Int32)).toUInt32.toUInt16.toUInt32.toInt32).toUInt32.toUInt16.toUInt32.toInt32) (.int 0) .null h13 n0 (Nat.le_trans (Nat.le_trans (Nat.le_trans Z0 E9.1) E10.1) (Keep.of_wr W13).1) f15 hcs f16 V13 (own_le _) f17 g_b9 f18) hZ (own_at hw 10 rfl) (own_at hw 6 rfl) (by decide) (by decide)) (g := (mkF m 66 #[iv p0, iv p1, iv ((p0 &&& (255 : Int32)).toUInt32.toUInt16.toUInt32.toInt32), iv ((((p0.toUInt32 >>> ((8 : Int32) &&& 31).toUInt32).toInt32) &&& (255 : Int32)).toUInt32.toUInt16.toUInt32.toInt32), iv ((((p0.toUInt32 >>> ((16 : Int32) &&& 31).toUInt32).toInt32) &&& (255 : Int32)).toUInt32.toUInt16.toUInt32.toInt32), iv 1] [(.ref b10), (.ref b9), (.ref b9)])) rfl (by rw [hml]; rfl) (Steps.refl _) (a := b9) (argsL := [(.ref b10)]) (rest := [(.ref b9)]) (lenOf pd_4 rfl) rfl (Nat.le_refl _) (hb hby d1_66) (fun _ _ => ⟨rfl, e13, (by decide : 2 + 1 ≤ _), (by decide : 5 + 1 ≤ _)⟩)
    dsimp only [Pt.U, Pt.locs, Pt.cells, Pt.slots] at X14 l14 y14 z14 st14 hQ14
    subst l14 y14 z14
    have f19 := (EA10.wr W13)
    obtain ⟨ar_14, kk_14, rfl, N14q, K14, p14_0, p14_1, p14_2, p14_3, p14_4, p14_5⟩ := hQ14
    have pl14 := (allS (P := fun x => ∃ cell : Cell, h13[x]? = some cell ∧ cell.vm.isStatics = false) (own_ns f16) all0)
    have Hc14 := CHv.keep K14 (sfS Sf13_b9 sf0) Hc13
    have Rc14 := Rc13.trans (CHr.keep K14 (sfS Sf13_b9 sf0) Hc13)
    have hk14 := Nat.le_trans hk13 K14.1
    have Sf14_b9 := Safe.keep K14 (sfS Sf13_b9 sf0) Hc13 Sf13_b9
    have Sf14_b10 := Safe.keep K14 (sfS Sf13_b9 sf0) Hc13 Sf13_b10
    have g_ar_14 : n0 ≤ ar_14 := Nat.le_trans (Nat.le_trans (Nat.le_trans (Nat.le_trans Z0 E9.1) E10.1) (Keep.of_wr W13).1) p14_0
    have sz_ar_14 : h0.size ≤ ar_14 := Nat.le_trans ((((Keep.refl h0 []).ext E9).ext E10).wr W13 (Or.inr sz_b10)).1 p14_0
    have N14 := Fr.app N13 N14q
    have V20 : Arv Z T14.heap ar_14 kk_14 .byte (own_n p1) (own_str p0 p1) (.int 0) := by unfold own_n own_str; rw [hk]; exact p14_4
    obtain ⟨fs, hr, hrun, hended, hRW⟩ := X14.leaveW hS0 hk14 (v := some (.ref b9)) (fun h => by rw [Bd.returns] at h; cases h)
    have hCE : CHr Z own_EL s.vm s.heap T14.vm T14.heap := by rw [hh]; exact Rc14.trans (CHv.at X14 hZ (own_ew hw) Hc14)
    refine ⟨_, _, k1 _ ?_, hrun, hended, _, _, rfl, ?_, hCE, hRW.1, hRW.2.1, hRW.2.2.1, hRW.2.2.2.mono (by decide) (by decide)⟩
    · rw [hk]
      refine XS.istore X0.here hx rfl (hb hby d1_31) rfl (l' := #[iv p0, iv p1, iv ((p0 &&& (255 : Int32)).toUInt32.toUInt16.toUInt32.toInt32), iv ((((p0.toUInt32 >>> ((8 : Int32) &&& 31).toUInt32).toInt32) &&& (255 : Int32)).toUInt32.toUInt16.toUInt32.toInt32), iv ((((p0.toUInt32 >>> ((16 : Int32) &&& 31).toUInt32).toInt32) &&& (255 : Int32)).toUInt32.toUInt16.toUInt32.toInt32), iv 1]) rfl ?_
      refine XS.iload X0.here hx rfl (hb hby d1_33) rfl ?_
      refine XS.ifYes X0.here hx rfl (pc0 := 35) (pc' := 49) rfl (hb hby d1_35) rfl ((if0 _ _).trans (feq (by decide : ¬ ((1 : Int32) = (0 : Int32)))).2) (by decide) (by decide) ?_
      refine XS.iload X0.here hx rfl (hb hby d1_49) rfl ?_
      refine XS.iconst X0.here hx rfl (hb hby d1_51) ?_
      refine XS.icmpNo X0.here hx rfl (hb hby d1_52) rfl (teq (by decide : (1 : Int32) = (1 : Int32))).2 ?_
      refine st9 _ ?_
      refine XS.dup X9.here hx rfl (hb hby d1_58) rfl rfl ?_
      refine XS.iconst X9.here hx rfl (hb hby d1_59) ?_
      refine st10 _ ?_
      refine XS.dup X10.here hx rfl (hb hby d1_62) rfl rfl ?_
      refine XS.iconst X10.here hx rfl (hb hby d1_63) ?_
      refine XS.iloadN X10.here hx rfl (hb hby d1_64) rfl ?_
      refine st13 _ ?_
      refine st14.trans ?_
      jvm_step X14.here [X14.here.top, hx, (hb hby d1_69), X14.method', Bd.returns, Value.isRef, FieldType.isReference]
      first | (intro acts; rw [hr _ acts rfl rfl rfl]) | rw [hr _ _ rfl rfl rfl]
      exact Steps.refl _
    · show Q_1 Z _ _ _ h0 n0 _ T14.heap _
      exact ⟨b9, ar_14, kk_14, rfl, N14, (((((Keep.refl h0 []).ext E9).ext E10).wr W13 (Or.inr sz_b10)).trans K14 (allS (Or.inr sz_b9) all0)), sz_b9, p14_1, p14_2, p14_3, V20⟩
  · obtain ⟨T21, h21, X21, e21, E21, A21, D21, -, st21⟩ := newO X0 hx hZ hown (own_at hw 4 rfl) (own_at hw 5 rfl) (own_at hw 6 rfl) e0 (g := (mkF m 76 #[iv p0, iv p1, iv ((p0 &&& (255 : Int32)).toUInt32.toUInt16.toUInt32.toInt32), iv ((((p0.toUInt32 >>> ((8 : Int32) &&& 31).toUInt32).toInt32) &&& (255 : Int32)).toUInt32.toUInt16.toUInt32.toInt32), iv ((((p0.toUInt32 >>> ((16 : Int32) &&& 31).toUInt32).toInt32) &&& (255 : Int32)).toUInt32.toUInt16.toUInt32.toInt32), iv 2] [])) rfl (hb hby d1_76) (by decide) (by decide)
    obtain ⟨b21, g21⟩ : ∃ z, z = h0.size := ⟨_, rfl⟩
    rw [← g21] at A21 D21 st21
    have g_b21 : n0 ≤ b21 := Nat.le_trans Z0 (Nat.le_of_eq g21.symm)
    have sz_b21 : h0.size ≤ b21 := Nat.le_trans (Keep.refl h0 []).1 (Nat.le_of_eq g21.symm)
    have Hc21 := CHv.ext E21 H0c
    have Rc21 := R0c.trans (CHr.ext E21 H0c)
    have hk21 := Nat.le_trans hk0 E21.1
    have Sf21_b21 := Safe.ext (EL := own_EL) E21 H0c (Safe.new (Nat.le_of_eq g21.symm))
    have F_coder_b21 : Fld Z h21 b21 cS1 "coder" "B" (.int 0) := D21 (Or.inr (own_at hw 31 rfl)) (ty := .byte) (by decide)
    have F_value_b21 : Fld Z h21 b21 cS1 "value" "[B" .null := D21 (Or.inr (own_at hw 33 rfl)) (ty := (.array .byte)) (by decide)
    obtain ⟨T22, h22, k22, X22, e22, E22, A22, EA22, st22⟩ := newPE X21 hx hZ (own_at hw 7 rfl) e21 (g := (mkF m 81 #[iv p0, iv p1, iv ((p0 &&& (255 : Int32)).toUInt32.toUInt16.toUInt32.toInt32), iv ((((p0.toUInt32 >>> ((8 : Int32) &&& 31).toUInt32).toInt32) &&& (255 : Int32)).toUInt32.toUInt16.toUInt32.toInt32), iv ((((p0.toUInt32 >>> ((16 : Int32) &&& 31).toUInt32).toInt32) &&& (255 : Int32)).toUInt32.toUInt16.toUInt32.toInt32), iv 2] [(.int 2), (.ref b21), (.ref b21)])) rfl (hb hby d1_81) rfl (by decide) (cap := 2) (by decide) (by decide) (by decide) (by decide) (ad := "[C") (by decide)
    obtain ⟨b22, g22⟩ : ∃ z, z = h21.size := ⟨_, rfl⟩
    rw [← g22] at A22 EA22 st22
    have g_b22 : n0 ≤ b22 := Nat.le_trans (Nat.le_trans Z0 E21.1) (Nat.le_of_eq g22.symm)
    have sz_b22 : h0.size ≤ b22 := Nat.le_trans ((Keep.refl h0 []).ext E21).1 (Nat.le_of_eq g22.symm)
    have Hc22 := CHv.ext E22 Hc21
    have Rc22 := Rc21.trans (CHr.ext E22 Hc21)
    have hk22 := Nat.le_trans hk21 E22.1
    have Sf22_b21 := Safe.ext E22 Hc21 Sf21_b21
    have Sf22_b22 := Safe.ext (EL := own_EL) E22 Hc21 (Safe.new (Nat.le_of_eq g22.symm))
    have V_b22 : Arv Z h22 b22 k22 .char (2 : Int32) [(.int 0), (.int 0)] (.int 0) := (Arv.new A22 (by decide)).pad (pad_rep [] (.int 0) 2)
    obtain ⟨cl_z23, Ar_z23, q_z23, S_z23, N_z23, H_z23, G_z23⟩ := id V_b22
    have hin24 : ¬ ((0 : Int32) < 0 ∨ cl_z23.slots.size ≤ ((0 : Int32)).toNatClampNeg) := inb_of S_z23 ⟨by decide, by decide⟩
    obtain ⟨T25, h25, X25, e25, W25, st25⟩ := stC X22 hx hZ e22 Ar_z23 (j := (0 : Int32)) hin24 (g := (mkF m 86 #[iv p0, iv p1, iv ((p0 &&& (255 : Int32)).toUInt32.toUInt16.toUInt32.toInt32), iv ((((p0.toUInt32 >>> ((8 : Int32) &&& 31).toUInt32).toInt32) &&& (255 : Int32)).toUInt32.toUInt16.toUInt32.toInt32), iv ((((p0.toUInt32 >>> ((16 : Int32) &&& 31).toUInt32).toInt32) &&& (255 : Int32)).toUInt32.toUInt16.toUInt32.toInt32), iv 2] [(.int ((p0 &&& (255 : Int32)).toUInt32.toUInt16.toUInt32.toInt32)), (.int 0), (.ref b22), (.ref b22), (.ref b21), (.ref b21)])) rfl rfl (hb hby d1_86)
    have Hc25 := CHv.wr W25 Sf22_b22 Hc22
    have Rc25 := Rc22.trans (CHr.wr W25 Sf22_b22 Hc22)
    have hk25 := Nat.le_trans hk22 (Keep.of_wr W25).1
    have Sf25_b21 := Safe.wr W25 Sf22_b22 Hc22 Sf22_b21
    have Sf25_b22 := Safe.wr W25 Sf22_b22 Hc22 Sf22_b22
    have V25 : Arv Z h25 b22 k22 .char (2 : Int32) [(.int (((p0 &&& (255 : Int32)).toUInt32.toUInt16.toUInt32.toInt32).toUInt32.toUInt16.toUInt32.toInt32)), (.int 0)] (.int 0) := Arv.set Ar_z23 q_z23 S_z23 N_z23 H_z23 G_z23 (fits_nar_char _) W25 0 rfl (Nat.le_of_ble_eq_true rfl)
    have N25 := Fr.snoc X25 N0 g_b22
    obtain ⟨cl_z26, Ar_z26, q_z26, S_z26, N_z26, H_z26, G_z26⟩ := id V25
    have hin27 : ¬ ((1 : Int32) < 0 ∨ cl_z26.slots.size ≤ ((1 : Int32)).toNatClampNeg) := inb_of S_z26 ⟨by decide, by decide⟩
    obtain ⟨T28, h28, X28, e28, W28, st28⟩ := stC X25 hx hZ e25 Ar_z26 (j := (1 : Int32)) hin27 (g := (mkF m 90 #[iv p0, iv p1, iv ((p0 &&& (255 : Int32)).toUInt32.toUInt16.toUInt32.toInt32), iv ((((p0.toUInt32 >>> ((8 : Int32) &&& 31).toUInt32).toInt32) &&& (255 : Int32)).toUInt32.toUInt16.toUInt32.toInt32), iv ((((p0.toUInt32 >>> ((16 : Int32) &&& 31).toUInt32).toInt32) &&& (255 : Int32)).toUInt32.toUInt16.toUInt32.toInt32), iv 2] [(.int ((((p0.toUInt32 >>> ((8 : Int32) &&& 31).toUInt32).toInt32) &&& (255 : Int32)).toUInt32.toUInt16.toUInt32.toInt32)), (.int 1), (.ref b22), (.ref b22), (.ref b21), (.ref b21)])) rfl rfl (hb hby d1_90)
    have Hc28 := CHv.wr W28 Sf25_b22 Hc25
    have Rc28 := Rc25.trans (CHr.wr W28 Sf25_b22 Hc25)
    have hk28 := Nat.le_trans hk25 (Keep.of_wr W28).1
    have Sf28_b21 := Safe.wr W28 Sf25_b22 Hc25 Sf25_b21
    have Sf28_b22 := Safe.wr W28 Sf25_b22 Hc25 Sf25_b22
    have V28 : Arv Z h28 b22 k22 .char (2 : Int32) [(.int (((p0 &&& (255 : Int32)).toUInt32.toUInt16.toUInt32.toInt32).toUInt32.toUInt16.toUInt32.toInt32)), (.int (((((p0.toUInt32 >>> ((8 : Int32) &&& 31).toUInt32).toInt32) &&& (255 : Int32)).toUInt32.toUInt16.toUInt32.toInt32).toUInt32.toUInt16.toUInt32.toInt32))] (.int 0) := Arv.set Ar_z26 q_z26 S_z26 N_z26 H_z26 G_z26 (fits_nar_char _) W28 1 rfl (Nat.le_of_ble_eq_true rfl)
    have N28 := Fr.snoc X28 N25 g_b22
    have f30 := ((((S_CS.ext E21).ext E22).wr W25).wr W28)
    have f31 := (((A21.ext E22).wr W25).wr W28)
    have f32 := (((F_coder_b21.ext E22).other W25 (Or.inl (Nat.ne_of_lt (Nat.lt_of_lt_of_le A21.lt (Nat.le_of_eq g22.symm))))).other W28 (Or.inl (Nat.ne_of_lt (Nat.lt_of_lt_of_le A21.lt (Nat.le_of_eq g22.symm)))))
    have f33 := (((F_value_b21.ext E22).other W25 (Or.inl (Nat.ne_of_lt (Nat.lt_of_lt_of_le A21.lt (Nat.le_of_eq g22.symm))))).other W28 (Or.inl (Nat.ne_of_lt (Nat.lt_of_lt_of_le A21.lt (Nat.le_of_eq g22.symm)))))
    obtain ⟨_, _, ⟨T29, L29, j29, i29⟩, -, X29, ⟨Lc29, hQ29, l29, y29, z29⟩, st29⟩ := X28.specialBack hx (y := (⟨cS1, "<init>", "([C)V"⟩ : MethodName)) rfl hown (mvT hZ (own_at hw 8 rfl)) (mvT hZ (own_at hw 9 rfl)) (mvT hZ (own_at hw 10 rfl)) (by decide) (backOf (W := 1) (rm2_2 l Z a0 hw [] b21 b22 w_CS k22 (((p0 &&& (255 : Int32)).toUInt32.toUInt16.toUInt32.toInt32).toUInt32.toUInt16.toUInt32.toInt32) (((((p0.toUInt32 >>> ((8 : Int32) &&& 31).toUInt32).toInt32) &&& (255 : Int32)).toUInt32.toUInt16.toUInt32.toInt32).toUInt32.toUInt16.toUInt32.toInt32) (.int 0) .null h28 n0 (Nat.le_trans (Nat.le_trans (Nat.le_trans (Nat.le_trans Z0 E21.1) E22.1) (Keep.of_wr W25).1) (Keep.of_wr W28).1) f30 hcs f31 V28 (own_le _) (own_le _) f32 g_b21 f33) hZ (own_at hw 10 rfl) (own_at hw 6 rfl) (by decide) (by decide)) (g := (mkF m 91 #[iv p0, iv p1, iv ((p0 &&& (255 : Int32)).toUInt32.toUInt16.toUInt32.toInt32), iv ((((p0.toUInt32 >>> ((8 : Int32) &&& 31).toUInt32).toInt32) &&& (255 : Int32)).toUInt32.toUInt16.toUInt32.toInt32), iv ((((p0.toUInt32 >>> ((16 : Int32) &&& 31).toUInt32).toInt32) &&& (255 : Int32)).toUInt32.toUInt16.toUInt32.toInt32), iv 2] [(.ref b22), (.ref b21), (.ref b21)])) rfl (by rw [hml]; rfl) (Steps.refl _) (a := b21) (argsL := [(.ref b22)]) (rest := [(.ref b21)]) (lenOf pd_4 rfl) rfl (Nat.le_refl _) (hb hby d1_91) (fun _ _ => ⟨rfl, e28, (by decide : 2 + 1 ≤ _), (by decide : 6 + 2 ≤ _)⟩)
    dsimp only [Pt.U, Pt.locs, Pt.cells, Pt.slots] at X29 l29 y29 z29 st29 hQ29
    subst l29 y29 z29
    have f34 := ((EA22.wr W25).wr W28)
    obtain ⟨ar_29, kk_29, rfl, N29q, K29, p29_0, p29_1, p29_2, p29_3, p29_4, p29_5⟩ := hQ29
    have pl29 := (allS (P := fun x => ∃ cell : Cell, h28[x]? = some cell ∧ cell.vm.isStatics = false) (own_ns f31) all0)
    have Hc29 := CHv.keep K29 (sfS Sf28_b21 sf0) Hc28
    have Rc29 := Rc28.trans (CHr.keep K29 (sfS Sf28_b21 sf0) Hc28)
    have hk29 := Nat.le_trans hk28 K29.1
    have Sf29_b21 := Safe.keep K29 (sfS Sf28_b21 sf0) Hc28 Sf28_b21
    have Sf29_b22 := Safe.keep K29 (sfS Sf28_b21 sf0) Hc28 Sf28_b22
    have g_ar_29 : n0 ≤ ar_29 := Nat.le_trans (Nat.le_trans (Nat.le_trans (Nat.le_trans (Nat.le_trans Z0 E21.1) E22.1) (Keep.of_wr W25).1) (Keep.of_wr W28).1) p29_0
    have sz_ar_29 : h0.size ≤ ar_29 := Nat.le_trans (((((Keep.refl h0 []).ext E21).ext E22).wr W25 (Or.inr sz_b22)).wr W28 (Or.inr sz_b22)).1 p29_0
    have N29 := Fr.app N28 N29q
    have V35 : Arv Z T29.heap ar_29 kk_29 .byte (own_n p1) (own_str p0 p1) (.int 0) := by unfold own_n own_str; rw [hk]; exact p29_4
    obtain ⟨fs, hr, hrun, hended, hRW⟩ := X29.leaveW hS0 hk29 (v := some (.ref b21)) (fun h => by rw [Bd.returns] at h; cases h)
    have hCE : CHr Z own_EL s.vm s.heap T29.vm T29.heap := by rw [hh]; exact Rc29.trans (CHv.at X29 hZ (own_ew hw) Hc29)
    refine ⟨_, _, k1 _ ?_, hrun, hended, _, _, rfl, ?_, hCE, hRW.1, hRW.2.1, hRW.2.2.1, hRW.2.2.2.mono (by decide) (by decide)⟩
    · rw [hk]
      refine XS.istore X0.here hx rfl (hb hby d1_31) rfl (l' := #[iv p0, iv p1, iv ((p0 &&& (255 : Int32)).toUInt32.toUInt16.toUInt32.toInt32), iv ((((p0.toUInt32 >>> ((8 : Int32) &&& 31).toUInt32).toInt32) &&& (255 : Int32)).toUInt32.toUInt16.toUInt32.toInt32), iv ((((p0.toUInt32 >>> ((16 : Int32) &&& 31).toUInt32).toInt32) &&& (255 : Int32)).toUInt32.toUInt16.toUInt32.toInt32), iv 2]) rfl ?_
      refine XS.iload X0.here hx rfl (hb hby d1_33) rfl ?_
      refine XS.ifYes X0.here hx rfl (pc0 := 35) (pc' := 49) rfl (hb hby d1_35) rfl ((if0 _ _).trans (feq (by decide : ¬ ((2 : Int32) = (0 : Int32)))).2) (by decide) (by decide) ?_
      refine XS.iload X0.here hx rfl (hb hby d1_49) rfl ?_
      refine XS.iconst X0.here hx rfl (hb hby d1_51) ?_
      refine XS.icmpYes X0.here hx rfl (pc0 := 52) (pc' := 70) rfl (hb hby d1_52) rfl (feq (by decide : ¬ ((2 : Int32) = (1 : Int32)))).2 (by decide) (by decide) ?_
      refine XS.iload X0.here hx rfl (hb hby d1_70) rfl ?_
      refine XS.iconst X0.here hx rfl (hb hby d1_72) ?_
      refine XS.icmpNo X0.here hx rfl (hb hby d1_73) rfl (teq (by decide : (2 : Int32) = (2 : Int32))).2 ?_
      refine st21 _ ?_
      refine XS.dup X21.here hx rfl (hb hby d1_79) rfl rfl ?_
      refine XS.iconst X21.here hx rfl (hb hby d1_80) ?_
      refine st22 _ ?_
      refine XS.dup X22.here hx rfl (hb hby d1_83) rfl rfl ?_
      refine XS.iconst X22.here hx rfl (hb hby d1_84) ?_
      refine XS.iloadN X22.here hx rfl (hb hby d1_85) rfl ?_
      refine st25 _ ?_
      refine XS.dup X25.here hx rfl (hb hby d1_87) rfl rfl ?_
      refine XS.iconst X25.here hx rfl (hb hby d1_88) ?_
      refine XS.iloadN X25.here hx rfl (hb hby d1_89) rfl ?_
      refine st28 _ ?_
      refine st29.trans ?_
      jvm_step X29.here [X29.here.top, hx, (hb hby d1_94), X29.method', Bd.returns, Value.isRef, FieldType.isReference]
      first | (intro acts; rw [hr _ acts rfl rfl rfl]) | rw [hr _ _ rfl rfl rfl]
      exact Steps.refl _
    · show Q_1 Z _ _ _ h0 n0 _ T29.heap _
      exact ⟨b21, ar_29, kk_29, rfl, N29, ((((((Keep.refl h0 []).ext E21).ext E22).wr W25 (Or.inr sz_b22)).wr W28 (Or.inr sz_b22)).trans K29 (allS (Or.inr sz_b21) all0)), sz_b21, p29_1, p29_2, p29_3, V35⟩
  · obtain ⟨T36, h36, X36, e36, E36, A36, D36, -, st36⟩ := newO X0 hx hZ hown (own_at hw 4 rfl) (own_at hw 5 rfl) (own_at hw 6 rfl) e0 (g := (mkF m 95 #[iv p0, iv p1, iv ((p0 &&& (255 : Int32)).toUInt32.toUInt16.toUInt32.toInt32), iv ((((p0.toUInt32 >>> ((8 : Int32) &&& 31).toUInt32).toInt32) &&& (255 : Int32)).toUInt32.toUInt16.toUInt32.toInt32), iv ((((p0.toUInt32 >>> ((16 : Int32) &&& 31).toUInt32).toInt32) &&& (255 : Int32)).toUInt32.toUInt16.toUInt32.toInt32), iv 3] [])) rfl (hb hby d1_95) (by decide) (by decide)
    obtain ⟨b36, g36⟩ : ∃ z, z = h0.size := ⟨_, rfl⟩
    rw [← g36] at A36 D36 st36
    have g_b36 : n0 ≤ b36 := Nat.le_trans Z0 (Nat.le_of_eq g36.symm)
    have sz_b36 : h0.size ≤ b36 := Nat.le_trans (Keep.refl h0 []).1 (Nat.le_of_eq g36.symm)
    have Hc36 := CHv.ext E36 H0c
    have Rc36 := R0c.trans (CHr.ext E36 H0c)
    have hk36 := Nat.le_trans hk0 E36.1
    have Sf36_b36 := Safe.ext (EL := own_EL) E36 H0c (Safe.new (Nat.le_of_eq g36.symm))
    have F_coder_b36 : Fld Z h36 b36 cS1 "coder" "B" (.int 0) := D36 (Or.inr (own_at hw 31 rfl)) (ty := .byte) (by decide)
    have F_value_b36 : Fld Z h36 b36 cS1 "value" "[B" .null := D36 (Or.inr (own_at hw 33 rfl)) (ty := (.array .byte)) (by decide)
    obtain ⟨T37, h37, k37, X37, e37, E37, A37, EA37, st37⟩ := newPE X36 hx hZ (own_at hw 7 rfl) e36 (g := (mkF m 100 #[iv p0, iv p1, iv ((p0 &&& (255 : Int32)).toUInt32.toUInt16.toUInt32.toInt32), iv ((((p0.toUInt32 >>> ((8 : Int32) &&& 31).toUInt32).toInt32) &&& (255 : Int32)).toUInt32.toUInt16.toUInt32.toInt32), iv ((((p0.toUInt32 >>> ((16 : Int32) &&& 31).toUInt32).toInt32) &&& (255 : Int32)).toUInt32.toUInt16.toUInt32.toInt32), iv 3] [(.int 3), (.ref b36), (.ref b36)])) rfl (hb hby d1_100) rfl (by decide) (cap := 3) (by decide) (by decide) (by decide) (by decide) (ad := "[C") (by decide)
    obtain ⟨b37, g37⟩ : ∃ z, z = h36.size := ⟨_, rfl⟩
    rw [← g37] at A37 EA37 st37
    have g_b37 : n0 ≤ b37 := Nat.le_trans (Nat.le_trans Z0 E36.1) (Nat.le_of_eq g37.symm)
    have sz_b37 : h0.size ≤ b37 := Nat.le_trans ((Keep.refl h0 []).ext E36).1 (Nat.le_of_eq g37.symm)
    have Hc37 := CHv.ext E37 Hc36
    have Rc37 := Rc36.trans (CHr.ext E37 Hc36)
    have hk37 := Nat.le_trans hk36 E37.1
    have Sf37_b36 := Safe.ext E37 Hc36 Sf36_b36
    have Sf37_b37 := Safe.ext (EL := own_EL) E37 Hc36 (Safe.new (Nat.le_of_eq g37.symm))
    have V_b37 : Arv Z h37 b37 k37 .char (3 : Int32) [(.int 0), (.int 0), (.int 0)] (.int 0) := (Arv.new A37 (by decide)).pad (pad_rep [] (.int 0) 3)
    obtain ⟨cl_z38, Ar_z38, q_z38, S_z38, N_z38, H_z38, G_z38⟩ := id V_b37
    have hin39 : ¬ ((0 : Int32) < 0 ∨ cl_z38.slots.size ≤ ((0 : Int32)).toNatClampNeg) := inb_of S_z38 ⟨by decide, by decide⟩
    obtain ⟨T40, h40, X40, e40, W40, st40⟩ := stC X37 hx hZ e37 Ar_z38 (j := (0 : Int32)) hin39 (g := (mkF m 105 #[iv p0, iv p1, iv ((p0 &&& (255 : Int32)).toUInt32.toUInt16.toUInt32.toInt32), iv ((((p0.toUInt32 >>> ((8 : Int32) &&& 31).toUInt32).toInt32) &&& (255 : Int32)).toUInt32.toUInt16.toUInt32.toInt32), iv ((((p0.toUInt32 >>> ((16 : Int32) &&& 31).toUInt32).toInt32) &&& (255 : Int32)).toUInt32.toUInt16.toUInt32.toInt32), iv 3] [(.int ((p0 &&& (255 : Int32)).toUInt32.toUInt16.toUInt32.toInt32)), (.int 0), (.ref b37), (.ref b37), (.ref b36), (.ref b36)])) rfl rfl (hb hby d1_105)
    have Hc40 := CHv.wr W40 Sf37_b37 Hc37
    have Rc40 := Rc37.trans (CHr.wr W40 Sf37_b37 Hc37)
    have hk40 := Nat.le_trans hk37 (Keep.of_wr W40).1
    have Sf40_b36 := Safe.wr W40 Sf37_b37 Hc37 Sf37_b36
    have Sf40_b37 := Safe.wr W40 Sf37_b37 Hc37 Sf37_b37
    have V40 : Arv Z h40 b37 k37 .char (3 : Int32) [(.int (((p0 &&& (255 : Int32)).toUInt32.toUInt16.toUInt32.toInt32).toUInt32.toUInt16.toUInt32.toInt32)), (.int 0), (.int 0)] (.int 0) := Arv.set Ar_z38 q_z38 S_z38 N_z38 H_z38 G_z38 (fits_nar_char _) W40 0 rfl (Nat.le_of_ble_eq_true rfl)
    have N40 := Fr.snoc X40 N0 g_b37
    obtain ⟨cl_z41, Ar_z41, q_z41, S_z41, N_z41, H_z41, G_z41⟩ := id V40
    have hin42 : ¬ ((1 : Int32) < 0 ∨ cl_z41.slots.size ≤ ((1 : Int32)).toNatClampNeg) := inb_of S_z41 ⟨by decide, by decide⟩
    obtain ⟨T43, h43, X43, e43, W43, st43⟩ := stC X40 hx hZ e40 Ar_z41 (j := (1 : Int32)) hin42 (g := (mkF m 109 #[iv p0, iv p1, iv ((p0 &&& (255 : Int32)).toUInt32.toUInt16.toUInt32.toInt32), iv ((((p0.toUInt32 >>> ((8 : Int32) &&& 31).toUInt32).toInt32) &&& (255 : Int32)).toUInt32.toUInt16.toUInt32.toInt32), iv ((((p0.toUInt32 >>> ((16 : Int32) &&& 31).toUInt32).toInt32) &&& (255 : Int32)).toUInt32.toUInt16.toUInt32.toInt32), iv 3] [(.int ((((p0.toUInt32 >>> ((8 : Int32) &&& 31).toUInt32).toInt32) &&& (255 : Int32)).toUInt32.toUInt16.toUInt32.toInt32)), (.int 1), (.ref b37), (.ref b37), (.ref b36), (.ref b36)])) rfl rfl (hb hby d1_109)
    have Hc43 := CHv.wr W43 Sf40_b37 Hc40
    have Rc43 := Rc40.trans (CHr.wr W43 Sf40_b37 Hc40)
    have hk43 := Nat.le_trans hk40 (Keep.of_wr W43).1
    have Sf43_b36 := Safe.wr W43 Sf40_b37 Hc40 Sf40_b36
    have Sf43_b37 := Safe.wr W43 Sf40_b37 Hc40 Sf40_b37
    have V43 : Arv Z h43 b37 k37 .char (3 : Int32) [(.int (((p0 &&& (255 : Int32)).toUInt32.toUInt16.toUInt32.toInt32).toUInt32.toUInt16.toUInt32.toInt32)), (.int (((((p0.toUInt32 >>> ((8 : Int32) &&& 31).toUInt32).toInt32) &&& (255 : Int32)).toUInt32.toUInt16.toUInt32.toInt32).toUInt32.toUInt16.toUInt32.toInt32)), (.int 0)] (.int 0) := Arv.set Ar_z41 q_z41 S_z41 N_z41 H_z41 G_z41 (fits_nar_char _) W43 1 rfl (Nat.le_of_ble_eq_true rfl)
    have N43 := Fr.snoc X43 N40 g_b37
    obtain ⟨cl_z44, Ar_z44, q_z44, S_z44, N_z44, H_z44, G_z44⟩ := id V43
    have hin45 : ¬ ((2 : Int32) < 0 ∨ cl_z44.slots.size ≤ ((2 : Int32)).toNatClampNeg) := inb_of S_z44 ⟨by decide, by decide⟩
    obtain ⟨T46, h46, X46, e46, W46, st46⟩ := stC X43 hx hZ e43 Ar_z44 (j := (2 : Int32)) hin45 (g := (mkF m 114 #[iv p0, iv p1, iv ((p0 &&& (255 : Int32)).toUInt32.toUInt16.toUInt32.toInt32), iv ((((p0.toUInt32 >>> ((8 : Int32) &&& 31).toUInt32).toInt32) &&& (255 : Int32)).toUInt32.toUInt16.toUInt32.toInt32), iv ((((p0.toUInt32 >>> ((16 : Int32) &&& 31).toUInt32).toInt32) &&& (255 : Int32)).toUInt32.toUInt16.toUInt32.toInt32), iv 3] [(.int ((((p0.toUInt32 >>> ((16 : Int32) &&& 31).toUInt32).toInt32) &&& (255 : Int32)).toUInt32.toUInt16.toUInt32.toInt32)), (.int 2), (.ref b37), (.ref b37), (.ref b36), (.ref b36)])) rfl rfl (hb hby d1_114)
    have Hc46 := CHv.wr W46 Sf43_b37 Hc43
    have Rc46 := Rc43.trans (CHr.wr W46 Sf43_b37 Hc43)
    have hk46 := Nat.le_trans hk43 (Keep.of_wr W46).1
    have Sf46_b36 := Safe.wr W46 Sf43_b37 Hc43 Sf43_b36
    have Sf46_b37 := Safe.wr W46 Sf43_b37 Hc43 Sf43_b37
    have V46 : Arv Z h46 b37 k37 .char (3 : Int32) [(.int (((p0 &&& (255 : Int32)).toUInt32.toUInt16.toUInt32.toInt32).toUInt32.toUInt16.toUInt32.toInt32)), (.int (((((p0.toUInt32 >>> ((8 : Int32) &&& 31).toUInt32).toInt32) &&& (255 : Int32)).toUInt32.toUInt16.toUInt32.toInt32).toUInt32.toUInt16.toUInt32.toInt32)), (.int (((((p0.toUInt32 >>> ((16 : Int32) &&& 31).toUInt32).toInt32) &&& (255 : Int32)).toUInt32.toUInt16.toUInt32.toInt32).toUInt32.toUInt16.toUInt32.toInt32))] (.int 0) := Arv.set Ar_z44 q_z44 S_z44 N_z44 H_z44 G_z44 (fits_nar_char _) W46 2 rfl (Nat.le_of_ble_eq_true rfl)
    have N46 := Fr.snoc X46 N43 g_b37
    have f48 := (((((S_CS.ext E36).ext E37).wr W40).wr W43).wr W46)
    have f49 := ((((A36.ext E37).wr W40).wr W43).wr W46)
    have f50 := ((((F_coder_b36.ext E37).other W40 (Or.inl (Nat.ne_of_lt (Nat.lt_of_lt_of_le A36.lt (Nat.le_of_eq g37.symm))))).other W43 (Or.inl (Nat.ne_of_lt (Nat.lt_of_lt_of_le A36.lt (Nat.le_of_eq g37.symm))))).other W46 (Or.inl (Nat.ne_of_lt (Nat.lt_of_lt_of_le A36.lt (Nat.le_of_eq g37.symm)))))
    have f51 := ((((F_value_b36.ext E37).other W40 (Or.inl (Nat.ne_of_lt (Nat.lt_of_lt_of_le A36.lt (Nat.le_of_eq g37.symm))))).other W43 (Or.inl (Nat.ne_of_lt (Nat.lt_of_lt_of_le A36.lt (Nat.le_of_eq g37.symm))))).other W46 (Or.inl (Nat.ne_of_lt (Nat.lt_of_lt_of_le A36.lt (Nat.le_of_eq g37.symm)))))
    obtain ⟨_, _, ⟨T47, L47, j47, i47⟩, -, X47, ⟨Lc47, hQ47, l47, y47, z47⟩, st47⟩ := X46.specialBack hx (y := (⟨cS1, "<init>", "([C)V"⟩ : MethodName)) rfl hown (mvT hZ (own_at hw 8 rfl)) (mvT hZ (own_at hw 9 rfl)) (mvT hZ (own_at hw 10 rfl)) (by decide) (backOf (W := 1) (rm2_3 l Z a0 hw [] b36 b37 w_CS k37 (((p0 &&& (255 : Int32)).toUInt32.toUInt16.toUInt32.toInt32).toUInt32.toUInt16.toUInt32.toInt32) (((((p0.toUInt32 >>> ((8 : Int32) &&& 31).toUInt32).toInt32) &&& (255 : Int32)).toUInt32.toUInt16.toUInt32.toInt32).toUInt32.toUInt16.toUInt32.toInt32) (((((p0.toUInt32 >>> ((16 : Int32) &&& 31).toUInt32).toInt32) &&& (255 : Int32)).toUInt32.toUInt16.toUInt32.toInt32).toUInt32.toUInt16.toUInt32.toInt32) (.int 0) .null h46 n0 (Nat.le_trans (Nat.le_trans (Nat.le_trans (Nat.le_trans (Nat.le_trans Z0 E36.1) E37.1) (Keep.of_wr W40).1) (Keep.of_wr W43).1) (Keep.of_wr W46).1) f48 hcs f49 V46 (own_le _) (own_le _) (own_le _) f50 g_b36 f51) hZ (own_at hw 10 rfl) (own_at hw 6 rfl) (by decide) (by decide)) (g := (mkF m 115 #[iv p0, iv p1, iv ((p0 &&& (255 : Int32)).toUInt32.toUInt16.toUInt32.toInt32), iv ((((p0.toUInt32 >>> ((8 : Int32) &&& 31).toUInt32).toInt32) &&& (255 : Int32)).toUInt32.toUInt16.toUInt32.toInt32), iv ((((p0.toUInt32 >>> ((16 : Int32) &&& 31).toUInt32).toInt32) &&& (255 : Int32)).toUInt32.toUInt16.toUInt32.toInt32), iv 3] [(.ref b37), (.ref b36), (.ref b36)])) rfl (by rw [hml]; rfl) (Steps.refl _) (a := b36) (argsL := [(.ref b37)]) (rest := [(.ref b36)]) (lenOf pd_4 rfl) rfl (Nat.le_refl _) (hb hby d1_115) (fun _ _ => ⟨rfl, e46, (by decide : 2 + 1 ≤ _), (by decide : 7 + 3 ≤ _)⟩)
    dsimp only [Pt.U, Pt.locs, Pt.cells, Pt.slots] at X47 l47 y47 z47 st47 hQ47
    subst l47 y47 z47
    have f52 := (((EA37.wr W40).wr W43).wr W46)
    obtain ⟨ar_47, kk_47, rfl, N47q, K47, p47_0, p47_1, p47_2, p47_3, p47_4, p47_5⟩ := hQ47
    have pl47 := (allS (P := fun x => ∃ cell : Cell, h46[x]? = some cell ∧ cell.vm.isStatics = false) (own_ns f49) all0)
    have Hc47 := CHv.keep K47 (sfS Sf46_b36 sf0) Hc46
    have Rc47 := Rc46.trans (CHr.keep K47 (sfS Sf46_b36 sf0) Hc46)
    have hk47 := Nat.le_trans hk46 K47.1
    have Sf47_b36 := Safe.keep K47 (sfS Sf46_b36 sf0) Hc46 Sf46_b36
    have Sf47_b37 := Safe.keep K47 (sfS Sf46_b36 sf0) Hc46 Sf46_b37
    have g_ar_47 : n0 ≤ ar_47 := Nat.le_trans (Nat.le_trans (Nat.le_trans (Nat.le_trans (Nat.le_trans (Nat.le_trans Z0 E36.1) E37.1) (Keep.of_wr W40).1) (Keep.of_wr W43).1) (Keep.of_wr W46).1) p47_0
    have sz_ar_47 : h0.size ≤ ar_47 := Nat.le_trans ((((((Keep.refl h0 []).ext E36).ext E37).wr W40 (Or.inr sz_b37)).wr W43 (Or.inr sz_b37)).wr W46 (Or.inr sz_b37)).1 p47_0
    have N47 := Fr.app N46 N47q
    have V53 : Arv Z T47.heap ar_47 kk_47 .byte (own_n p1) (own_str p0 p1) (.int 0) := by unfold own_n own_str; rw [hk]; exact p47_4
    obtain ⟨fs, hr, hrun, hended, hRW⟩ := X47.leaveW hS0 hk47 (v := some (.ref b36)) (fun h => by rw [Bd.returns] at h; cases h)
    have hCE : CHr Z own_EL s.vm s.heap T47.vm T47.heap := by rw [hh]; exact Rc47.trans (CHv.at X47 hZ (own_ew hw) Hc47)
    refine ⟨_, _, k1 _ ?_, hrun, hended, _, _, rfl, ?_, hCE, hRW.1, hRW.2.1, hRW.2.2.1, hRW.2.2.2.mono (by decide) (by decide)⟩
    · rw [hk]
      refine XS.istore X0.here hx rfl (hb hby d1_31) rfl (l' := #[iv p0, iv p1, iv ((p0 &&& (255 : Int32)).toUInt32.toUInt16.toUInt32.toInt32), iv ((((p0.toUInt32 >>> ((8 : Int32) &&& 31).toUInt32).toInt32) &&& (255 : Int32)).toUInt32.toUInt16.toUInt32.toInt32), iv ((((p0.toUInt32 >>> ((16 : Int32) &&& 31).toUInt32).toInt32) &&& (255 : Int32)).toUInt32.toUInt16.toUInt32.toInt32), iv 3]) rfl ?_
      refine XS.iload X0.here hx rfl (hb hby d1_33) rfl ?_
      refine XS.ifYes X0.here hx rfl (pc0 := 35) (pc' := 49) rfl (hb hby d1_35) rfl ((if0 _ _).trans (feq (by decide : ¬ ((3 : Int32) = (0 : Int32)))).2) (by decide) (by decide) ?_
      refine XS.iload X0.here hx rfl (hb hby d1_49) rfl ?_
      refine XS.iconst X0.here hx rfl (hb hby d1_51) ?_
      refine XS.icmpYes X0.here hx rfl (pc0 := 52) (pc' := 70) rfl (hb hby d1_52) rfl (feq (by decide : ¬ ((3 : Int32) = (1 : Int32)))).2 (by decide) (by decide) ?_
      refine XS.iload X0.here hx rfl (hb hby d1_70) rfl ?_
      refine XS.iconst X0.here hx rfl (hb hby d1_72) ?_
      refine XS.icmpYes X0.here hx rfl (pc0 := 73) (pc' := 95) rfl (hb hby d1_73) rfl (feq (by decide : ¬ ((3 : Int32) = (2 : Int32)))).2 (by decide) (by decide) ?_
      refine st36 _ ?_
      refine XS.dup X36.here hx rfl (hb hby d1_98) rfl rfl ?_
      refine XS.iconst X36.here hx rfl (hb hby d1_99) ?_
      refine st37 _ ?_
      refine XS.dup X37.here hx rfl (hb hby d1_102) rfl rfl ?_
      refine XS.iconst X37.here hx rfl (hb hby d1_103) ?_
      refine XS.iloadN X37.here hx rfl (hb hby d1_104) rfl ?_
      refine st40 _ ?_
      refine XS.dup X40.here hx rfl (hb hby d1_106) rfl rfl ?_
      refine XS.iconst X40.here hx rfl (hb hby d1_107) ?_
      refine XS.iloadN X40.here hx rfl (hb hby d1_108) rfl ?_
      refine st43 _ ?_
      refine XS.dup X43.here hx rfl (hb hby d1_110) rfl rfl ?_
      refine XS.iconst X43.here hx rfl (hb hby d1_111) ?_
      refine XS.iload X43.here hx rfl (hb hby d1_112) rfl ?_
      refine st46 _ ?_
      refine st47.trans ?_
      jvm_step X47.here [X47.here.top, hx, (hb hby d1_118), X47.method', Bd.returns, Value.isRef, FieldType.isReference]
      first | (intro acts; rw [hr _ acts rfl rfl rfl]) | rw [hr _ _ rfl rfl rfl]
      exact Steps.refl _
    · show Q_1 Z _ _ _ h0 n0 _ T47.heap _
      exact ⟨b36, ar_47, kk_47, rfl, N47, (((((((Keep.refl h0 []).ext E36).ext E37).wr W40 (Or.inr sz_b37)).wr W43 (Or.inr sz_b37)).wr W46 (Or.inr sz_b37)).trans K47 (allS (Or.inr sz_b36) all0)), sz_b36, p47_1, p47_2, p47_3, V53⟩
theorem d15_0 : decode jdk_43_method_13_code 0 = .ok (.aload_n 0, 1) := by decide +kernel
theorem d15_1 : decode jdk_43_method_13_code 1 = .ok (.arraylength, 1) := by decide +kernel
theorem d15_2 : decode jdk_43_method_13_code 2 = .ok (.aload_n 1, 1) := by decide +kernel
theorem d15_3 : decode jdk_43_method_13_code 3 = .ok (.arraylength, 1) := by decide +kernel
theorem d15_4 : decode jdk_43_method_13_code 4 = .ok (.if_icmp .ne 30, 3) := by decide +kernel
theorem d15_7 : decode jdk_43_method_13_code 7 = .ok (.iconst 0, 1) := by decide +kernel
theorem d15_8 : decode jdk_43_method_13_code 8 = .ok (.istore_n 2, 1) := by decide +kernel
theorem d15_9 : decode jdk_43_method_13_code 9 = .ok (.iload_n 2, 1) := by decide +kernel
theorem d15_10 : decode jdk_43_method_13_code 10 = .ok (.aload_n 0, 1) := by decide +kernel
theorem d15_11 : decode jdk_43_method_13_code 11 = .ok (.arraylength, 1) := by decide +kernel
theorem d15_12 : decode jdk_43_method_13_code 12 = .ok (.if_icmp .ge 20, 3) := by decide +kernel
theorem d15_15 : decode jdk_43_method_13_code 15 = .ok (.aload_n 0, 1) := by decide +kernel
theorem d15_16 : decode jdk_43_method_13_code 16 = .ok (.iload_n 2, 1) := by decide +kernel
theorem d15_17 : decode jdk_43_method_13_code 17 = .ok (.baload, 1) := by decide +kernel
theorem d15_18 : decode jdk_43_method_13_code 18 = .ok (.aload_n 1, 1) := by decide +kernel
theorem d15_19 : decode jdk_43_method_13_code 19 = .ok (.iload_n 2, 1) := by decide +kernel
theorem d15_20 : decode jdk_43_method_13_code 20 = .ok (.baload, 1) := by decide +kernel
theorem d15_21 : decode jdk_43_method_13_code 21 = .ok (.if_icmp .eq 5, 3) := by decide +kernel
theorem d15_26 : decode jdk_43_method_13_code 26 = .ok (.iinc 2 1, 3) := by decide +kernel
theorem d15_29 : decode jdk_43_method_13_code 29 = .ok (.goto (-20), 3) := by decide +kernel
theorem d15_32 : decode jdk_43_method_13_code 32 = .ok (.iconst 1, 1) := by decide +kernel
theorem d15_33 : decode jdk_43_method_13_code 33 = .ok (.ireturn, 1) := by decide +kernel
theorem pn_java_lang_StringLatin1 : plainName "java/lang/StringLatin1" = true := by first | (simp [plainName, overriddenIn]; done) | decide +kernel
theorem ef_15 (m : MethodId) (x0 : Addr) (x1 : Addr) : entryFrame m #[(.ref x0), (.ref x1)] 3 = mkF m 0 #[.val (.ref x0), .val (.ref x1), .unset] [] := by first | (simp [entryFrame, mkF, argsToLocals, Value.category]; done) | rfl
def Q_E_eq (Z : State) (r0 : Addr) (r1 : Addr) (kA : ClassId) (kB : ClassId) (z : Int32) (La : List Value) (h0 : Heap) (n0 : Nat) (v : Option Value) (h : Heap) (L : List Loc) : Prop := v = some (.int 1) ∧ Fr n0 L ∧ h = h0
set_option maxRecDepth 65536 in
set_option maxHeartbeats 40000000 in
theorem rmE_eq (l : Launch) (Z : State) (a0 : Array Value) (hw : ∀ d ∈ tables_1, d.before a0 Z = true) (ws : List Jvm.Cond) (r0 : Addr) (r1 : Addr) (kA : ClassId) (kB : ClassId) (z : Int32) (La : List Value) (h0 : Heap) (n0 : Nat) (Z0 : n0 ≤ h0.size) (V_r0 : Arv Z h0 r0 kA .byte z La (.int 0)) (V_r1 : Arv Z h0 r1 kB .byte z La (.int 0)) (h_small : own_small z La) :
    MetFree l (⟨"java/lang/StringLatin1", "equals", "([B[B)Z"⟩ : MethodName) (head1 (Jvm.Cond.code (⟨"java/lang/StringLatin1", "equals", "([B[B)Z"⟩ : MethodName) jdk_43_method_13_code 3 (some .boolean) :: ws) ({ frames := 0, cells := 0, slots := 0, locals := 0 } : Room)) (fun a U => a = #[(.ref r0), (.ref r1)] ∧ Z.Warmed39 U.vm ∧ U.heap = h0) (fun _ _ _ _ _ => True) (fun _ U o U' => ∃ v L, o = .returned v ∧ Q_E_eq Z r0 r1 kA kB z La h0 n0 v U'.heap L ∧ FrameEnd U o U' L ({ frames := 0, cells := 0, slots := 0, locals := 0 } : Room).cells ({ frames := 0, cells := 0, slots := 0, locals := 0 } : Room).slots) := by
  refine MetFree.of_bodySF (plainFor_of_name pn_java_lang_StringLatin1) hisR ?_
  intro p e s m args below meth c s₁ Bd hml0 hP hK
  obtain ⟨rfl, hZ, hh⟩ := hP
  have hx := Bd.exec
  have hby := Bd.bytes
  have hml : c.maxLocals = 3 := hml0
  have hown : s.vm.findClass "java/lang/StringLatin1" = some m.cls := findClass_of_methodNamed Bd.named
  have hnm := (name_of_methodNamed Bd.named Bd.method).1
  have X0 : Stand p l e ({ frames := 0, cells := 0, slots := 0, locals := 0 } : Room) s m #[(.ref r0), (.ref r1)] below meth c s₁ [] 0 0 := Stand.of_body Bd
  have e0 : s₁.heap = h0 := by rw [← hh, Bd.state]; rfl
  have N0 := Fr.nil n0
  have k0 : ∀ t, OwnS p e below s₁ (mkF m 0 #[rv r0, rv r1, .unset] []) t → OwnS p e below s₁ (entryFrame m #[(.ref r0), (.ref r1)] 3) t := fun t k => castTop (ef_15 m r0 r1) k
  rcases h_small with ⟨rfl, rfl⟩ | ⟨x0, rfl, rfl⟩ | ⟨x0, x1, rfl, rfl⟩ | ⟨x0, x1, x2, rfl, rfl⟩
  · skip
    obtain ⟨cl_z1, Ar_z1, q_z1, S_z1, N_z1, H_z1, G_z1⟩ := id V_r0
    obtain ⟨cl_z2, Ar_z2, q_z2, S_z2, N_z2, H_z2, G_z2⟩ := id V_r1
    obtain ⟨fs, hr, hrun, hended, hW, hsame⟩ := X0.leave (v := some (.int 1)) (fun h => by rw [Bd.returns] at h; cases h)
    refine ⟨_, _, k0 _ ?_, hrun, hended, _, _, rfl, ?_, ⟨_, rfl⟩, hW, hsame.mono (by decide) (by decide)⟩
    · show OwnS p e below s₁ (mkF m 0 #[rv r0, rv r1, .unset] []) _
      refine XS.aloadN X0.here hx rfl (hb hby d15_0) rfl rfl ?_
      refine X0.arraylength hx (by rw [e0]; exact Ar_z1.1) (State.isArrayOf_alike hZ.alike Ar_z1.2.1) (g := (mkF m 1 #[rv r0, rv r1, .unset] [(.ref r0)])) rfl rfl (hb hby d15_1) _ ?_
      rw [len_of S_z1 N_z1]
      refine XS.aloadN X0.here hx rfl (hb hby d15_2) rfl rfl ?_
      refine X0.arraylength hx (by rw [e0]; exact Ar_z2.1) (State.isArrayOf_alike hZ.alike Ar_z2.2.1) (g := (mkF m 3 #[rv r0, rv r1, .unset] [(.ref r1), (.int 0)])) rfl rfl (hb hby d15_3) _ ?_
      rw [len_of S_z2 N_z2]
      refine XS.icmpNo X0.here hx rfl (hb hby d15_4) rfl (teq (by decide : (0 : Int32) = (0 : Int32))).2 ?_
      refine XS.iconst X0.here hx rfl (hb hby d15_7) ?_
      refine XS.istoreN X0.here hx rfl (hb hby d15_8) rfl (l' := #[rv r0, rv r1, iv 0]) rfl ?_
      refine XS.iloadN X0.here hx rfl (hb hby d15_9) rfl ?_
      refine XS.aloadN X0.here hx rfl (hb hby d15_10) rfl rfl ?_
      refine X0.arraylength hx (by rw [e0]; exact Ar_z1.1) (State.isArrayOf_alike hZ.alike Ar_z1.2.1) (g := (mkF m 11 #[rv r0, rv r1, iv 0] [(.ref r0), (.int 0)])) rfl rfl (hb hby d15_11) _ ?_
      rw [len_of S_z1 N_z1]
      refine XS.icmpYes X0.here hx rfl (pc0 := 12) (pc' := 32) rfl (hb hby d15_12) rfl (flt (by decide : ¬ ((0 : Int32) < (0 : Int32)))).2.1 (by decide) (by decide) ?_
      refine XS.iconst X0.here hx rfl (hb hby d15_32) ?_
      exact retN X0 hx (t := .boolean) Bd.returns (by simp) (hb hby d15_33) hr
    · show Q_E_eq Z _ _ _ _ _ _ h0 n0 _ s₁.heap _
      rw [e0]
      exact ⟨rfl, N0, rfl⟩
  · skip
    obtain ⟨cl_z3, Ar_z3, q_z3, S_z3, N_z3, H_z3, G_z3⟩ := id V_r0
    obtain ⟨cl_z4, Ar_z4, q_z4, S_z4, N_z4, H_z4, G_z4⟩ := id V_r1
    have hin5 : ¬ ((0 : Int32) < 0 ∨ cl_z3.slots.size ≤ ((0 : Int32)).toNatClampNeg) := inb_of S_z3 ⟨by decide, by decide⟩
    have hin6 : ¬ ((0 : Int32) < 0 ∨ cl_z4.slots.size ≤ ((0 : Int32)).toNatClampNeg) := inb_of S_z4 ⟨by decide, by decide⟩
    obtain ⟨fs, hr, hrun, hended, hW, hsame⟩ := X0.leave (v := some (.int 1)) (fun h => by rw [Bd.returns] at h; cases h)
    refine ⟨_, _, k0 _ ?_, hrun, hended, _, _, rfl, ?_, ⟨_, rfl⟩, hW, hsame.mono (by decide) (by decide)⟩
    · show OwnS p e below s₁ (mkF m 0 #[rv r0, rv r1, .unset] []) _
      refine XS.aloadN X0.here hx rfl (hb hby d15_0) rfl rfl ?_
      refine X0.arraylength hx (by rw [e0]; exact Ar_z3.1) (State.isArrayOf_alike hZ.alike Ar_z3.2.1) (g := (mkF m 1 #[rv r0, rv r1, .unset] [(.ref r0)])) rfl rfl (hb hby d15_1) _ ?_
      rw [len_of S_z3 N_z3]
      refine XS.aloadN X0.here hx rfl (hb hby d15_2) rfl rfl ?_
      refine X0.arraylength hx (by rw [e0]; exact Ar_z4.1) (State.isArrayOf_alike hZ.alike Ar_z4.2.1) (g := (mkF m 3 #[rv r0, rv r1, .unset] [(.ref r1), (.int 1)])) rfl rfl (hb hby d15_3) _ ?_
      rw [len_of S_z4 N_z4]
      refine XS.icmpNo X0.here hx rfl (hb hby d15_4) rfl (teq (by decide : (1 : Int32) = (1 : Int32))).2 ?_
      refine XS.iconst X0.here hx rfl (hb hby d15_7) ?_
      refine XS.istoreN X0.here hx rfl (hb hby d15_8) rfl (l' := #[rv r0, rv r1, iv 0]) rfl ?_
      refine XS.iloadN X0.here hx rfl (hb hby d15_9) rfl ?_
      refine XS.aloadN X0.here hx rfl (hb hby d15_10) rfl rfl ?_
      refine X0.arraylength hx (by rw [e0]; exact Ar_z3.1) (State.isArrayOf_alike hZ.alike Ar_z3.2.1) (g := (mkF m 11 #[rv r0, rv r1, iv 0] [(.ref r0), (.int 0)])) rfl rfl (hb hby d15_11) _ ?_
      rw [len_of S_z3 N_z3]
      refine XS.icmpNo X0.here hx rfl (hb hby d15_12) rfl (tlt (by decide : (0 : Int32) < (1 : Int32))).2.1 ?_
      refine XS.aloadN X0.here hx rfl (hb hby d15_15) rfl rfl ?_
      refine XS.iloadN X0.here hx rfl (hb hby d15_16) rfl ?_
      refine X0.baloadBytes hx (j := (0 : Int32)) (v := (.int x0)) (by rw [e0]; exact Ar_z3.1) (State.isArrayOf_alike hZ.alike Ar_z3.2.1) Ar_z3.2.2 hin5 (Has.at H_z3 hin5 rfl) (g := (mkF m 17 #[rv r0, rv r1, iv 0] [(.int 0), (.ref r0)])) rfl rfl (hb hby d15_17) _ ?_
      refine XS.aloadN X0.here hx rfl (hb hby d15_18) rfl rfl ?_
      refine XS.iloadN X0.here hx rfl (hb hby d15_19) rfl ?_
      refine X0.baloadBytes hx (j := (0 : Int32)) (v := (.int x0)) (by rw [e0]; exact Ar_z4.1) (State.isArrayOf_alike hZ.alike Ar_z4.2.1) Ar_z4.2.2 hin6 (Has.at H_z4 hin6 rfl) (g := (mkF m 20 #[rv r0, rv r1, iv 0] [(.int 0), (.ref r1), (.int x0)])) rfl rfl (hb hby d15_20) _ ?_
      refine XS.icmpYes X0.here hx rfl (pc0 := 21) (pc' := 26) rfl (hb hby d15_21) rfl (teq (rfl : x0 = x0)).1 (by decide) (by decide) ?_
      refine XS.iinc X0.here hx rfl (hb hby d15_26) rfl (l' := #[rv r0, rv r1, iv ((0 : Int32) + (1 : Int32))]) rfl ?_
      refine XS.goto X0.here hx rfl (pc0 := 29) (pc' := 9) rfl (hb hby d15_29) (by decide) (by decide) ?_
      refine XS.iloadN X0.here hx rfl (hb hby d15_9) rfl ?_
      refine XS.aloadN X0.here hx rfl (hb hby d15_10) rfl rfl ?_
      refine X0.arraylength hx (by rw [e0]; exact Ar_z3.1) (State.isArrayOf_alike hZ.alike Ar_z3.2.1) (g := (mkF m 11 #[rv r0, rv r1, iv ((0 : Int32) + (1 : Int32))] [(.ref r0), (.int 1)])) rfl rfl (hb hby d15_11) _ ?_
      rw [len_of S_z3 N_z3]
      refine XS.icmpYes X0.here hx rfl (pc0 := 12) (pc' := 32) rfl (hb hby d15_12) rfl (flt (by decide : ¬ ((1 : Int32) < (1 : Int32)))).2.1 (by decide) (by decide) ?_
      refine XS.iconst X0.here hx rfl (hb hby d15_32) ?_
      exact retN X0 hx (t := .boolean) Bd.returns (by simp) (hb hby d15_33) hr
    · show Q_E_eq Z _ _ _ _ _ _ h0 n0 _ s₁.heap _
      rw [e0]
      exact ⟨rfl, N0, rfl⟩
  · skip
    obtain ⟨cl_z7, Ar_z7, q_z7, S_z7, N_z7, H_z7, G_z7⟩ := id V_r0
    obtain ⟨cl_z8, Ar_z8, q_z8, S_z8, N_z8, H_z8, G_z8⟩ := id V_r1
    have hin9 : ¬ ((0 : Int32) < 0 ∨ cl_z7.slots.size ≤ ((0 : Int32)).toNatClampNeg) := inb_of S_z7 ⟨by decide, by decide⟩
    have hin10 : ¬ ((0 : Int32) < 0 ∨ cl_z8.slots.size ≤ ((0 : Int32)).toNatClampNeg) := inb_of S_z8 ⟨by decide, by decide⟩
    have hin11 : ¬ ((1 : Int32) < 0 ∨ cl_z7.slots.size ≤ ((1 : Int32)).toNatClampNeg) := inb_of S_z7 ⟨by decide, by decide⟩
    have hin12 : ¬ ((1 : Int32) < 0 ∨ cl_z8.slots.size ≤ ((1 : Int32)).toNatClampNeg) := inb_of S_z8 ⟨by decide, by decide⟩
    obtain ⟨fs, hr, hrun, hended, hW, hsame⟩ := X0.leave (v := some (.int 1)) (fun h => by rw [Bd.returns] at h; cases h)
    refine ⟨_, _, k0 _ ?_, hrun, hended, _, _, rfl, ?_, ⟨_, rfl⟩, hW, hsame.mono (by decide) (by decide)⟩
    · show OwnS p e below s₁ (mkF m 0 #[rv r0, rv r1, .unset] []) _
      refine XS.aloadN X0.here hx rfl (hb hby d15_0) rfl rfl ?_
      refine X0.arraylength hx (by rw [e0]; exact Ar_z7.1) (State.isArrayOf_alike hZ.alike Ar_z7.2.1) (g := (mkF m 1 #[rv r0, rv r1, .unset] [(.ref r0)])) rfl rfl (hb hby d15_1) _ ?_
      rw [len_of S_z7 N_z7]
      refine XS.aloadN X0.here hx rfl (hb hby d15_2) rfl rfl ?_
      refine X0.arraylength hx (by rw [e0]; exact Ar_z8.1) (State.isArrayOf_alike hZ.alike Ar_z8.2.1) (g := (mkF m 3 #[rv r0, rv r1, .unset] [(.ref r1), (.int 2)])) rfl rfl (hb hby d15_3) _ ?_
      rw [len_of S_z8 N_z8]
      refine XS.icmpNo X0.here hx rfl (hb hby d15_4) rfl (teq (by decide : (2 : Int32) = (2 : Int32))).2 ?_
      refine XS.iconst X0.here hx rfl (hb hby d15_7) ?_
      refine XS.istoreN X0.here hx rfl (hb hby d15_8) rfl (l' := #[rv r0, rv r1, iv 0]) rfl ?_
      refine XS.iloadN X0.here hx rfl (hb hby d15_9) rfl ?_
      refine XS.aloadN X0.here hx rfl (hb hby d15_10) rfl rfl ?_
      refine X0.arraylength hx (by rw [e0]; exact Ar_z7.1) (State.isArrayOf_alike hZ.alike Ar_z7.2.1) (g := (mkF m 11 #[rv r0, rv r1, iv 0] [(.ref r0), (.int 0)])) rfl rfl (hb hby d15_11) _ ?_
      rw [len_of S_z7 N_z7]
      refine XS.icmpNo X0.here hx rfl (hb hby d15_12) rfl (tlt (by decide : (0 : Int32) < (2 : Int32))).2.1 ?_
      refine XS.aloadN X0.here hx rfl (hb hby d15_15) rfl rfl ?_
      refine XS.iloadN X0.here hx rfl (hb hby d15_16) rfl ?_
      refine X0.baloadBytes hx (j := (0 : Int32)) (v := (.int x0)) (by rw [e0]; exact Ar_z7.1) (State.isArrayOf_alike hZ.alike Ar_z7.2.1) Ar_z7.2.2 hin9 (Has.at H_z7 hin9 rfl) (g := (mkF m 17 #[rv r0, rv r1, iv 0] [(.int 0), (.ref r0)])) rfl rfl (hb hby d15_17) _ ?_
      refine XS.aloadN X0.here hx rfl (hb hby d15_18) rfl rfl ?_
      refine XS.iloadN X0.here hx rfl (hb hby d15_19) rfl ?_
      refine X0.baloadBytes hx (j := (0 : Int32)) (v := (.int x0)) (by rw [e0]; exact Ar_z8.1) (State.isArrayOf_alike hZ.alike Ar_z8.2.1) Ar_z8.2.2 hin10 (Has.at H_z8 hin10 rfl) (g := (mkF m 20 #[rv r0, rv r1, iv 0] [(.int 0), (.ref r1), (.int x0)])) rfl rfl (hb hby d15_20) _ ?_
      refine XS.icmpYes X0.here hx rfl (pc0 := 21) (pc' := 26) rfl (hb hby d15_21) rfl (teq (rfl : x0 = x0)).1 (by decide) (by decide) ?_
      refine XS.iinc X0.here hx rfl (hb hby d15_26) rfl (l' := #[rv r0, rv r1, iv ((0 : Int32) + (1 : Int32))]) rfl ?_
      refine XS.goto X0.here hx rfl (pc0 := 29) (pc' := 9) rfl (hb hby d15_29) (by decide) (by decide) ?_
      refine XS.iloadN X0.here hx rfl (hb hby d15_9) rfl ?_
      refine XS.aloadN X0.here hx rfl (hb hby d15_10) rfl rfl ?_
      refine X0.arraylength hx (by rw [e0]; exact Ar_z7.1) (State.isArrayOf_alike hZ.alike Ar_z7.2.1) (g := (mkF m 11 #[rv r0, rv r1, iv ((0 : Int32) + (1 : Int32))] [(.ref r0), (.int 1)])) rfl rfl (hb hby d15_11) _ ?_
      rw [len_of S_z7 N_z7]
      refine XS.icmpNo X0.here hx rfl (hb hby d15_12) rfl (tlt (by decide : (1 : Int32) < (2 : Int32))).2.1 ?_
      refine XS.aloadN X0.here hx rfl (hb hby d15_15) rfl rfl ?_
      refine XS.iloadN X0.here hx rfl (hb hby d15_16) rfl ?_
      show OwnS p e below s₁ (mkF m 17 #[rv r0, rv r1, iv ((0 : Int32) + (1 : Int32))] [(.int 1), (.ref r0)]) _
      refine X0.baloadBytes hx (j := (1 : Int32)) (v := (.int x1)) (by rw [e0]; exact Ar_z7.1) (State.isArrayOf_alike hZ.alike Ar_z7.2.1) Ar_z7.2.2 hin11 (Has.at H_z7 hin11 rfl) (g := (mkF m 17 #[rv r0, rv r1, iv ((0 : Int32) + (1 : Int32))] [(.int 1), (.ref r0)])) rfl rfl (hb hby d15_17) _ ?_
      refine XS.aloadN X0.here hx rfl (hb hby d15_18) rfl rfl ?_
      refine XS.iloadN X0.here hx rfl (hb hby d15_19) rfl ?_
      refine X0.baloadBytes hx (j := (1 : Int32)) (v := (.int x1)) (by rw [e0]; exact Ar_z8.1) (State.isArrayOf_alike hZ.alike Ar_z8.2.1) Ar_z8.2.2 hin12 (Has.at H_z8 hin12 rfl) (g := (mkF m 20 #[rv r0, rv r1, iv ((0 : Int32) + (1 : Int32))] [(.int 1), (.ref r1), (.int x1)])) rfl rfl (hb hby d15_20) _ ?_
      refine XS.icmpYes X0.here hx rfl (pc0 := 21) (pc' := 26) rfl (hb hby d15_21) rfl (teq (rfl : x1 = x1)).1 (by decide) (by decide) ?_
      refine XS.iinc X0.here hx rfl (hb hby d15_26) rfl (l' := #[rv r0, rv r1, iv (((0 : Int32) + (1 : Int32)) + (1 : Int32))]) rfl ?_
      refine XS.goto X0.here hx rfl (pc0 := 29) (pc' := 9) rfl (hb hby d15_29) (by decide) (by decide) ?_
      refine XS.iloadN X0.here hx rfl (hb hby d15_9) rfl ?_
      refine XS.aloadN X0.here hx rfl (hb hby d15_10) rfl rfl ?_
      refine X0.arraylength hx (by rw [e0]; exact Ar_z7.1) (State.isArrayOf_alike hZ.alike Ar_z7.2.1) (g := (mkF m 11 #[rv r0, rv r1, iv (((0 : Int32) + (1 : Int32)) + (1 : Int32))] [(.ref r0), (.int 2)])) rfl rfl (hb hby d15_11) _ ?_
      rw [len_of S_z7 N_z7]
      refine XS.icmpYes X0.here hx rfl (pc0 := 12) (pc' := 32) rfl (hb hby d15_12) rfl (flt (by decide : ¬ ((2 : Int32) < (2 : Int32)))).2.1 (by decide) (by decide) ?_
      refine XS.iconst X0.here hx rfl (hb hby d15_32) ?_
      exact retN X0 hx (t := .boolean) Bd.returns (by simp) (hb hby d15_33) hr
    · show Q_E_eq Z _ _ _ _ _ _ h0 n0 _ s₁.heap _
      rw [e0]
      exact ⟨rfl, N0, rfl⟩
  · skip
    obtain ⟨cl_z13, Ar_z13, q_z13, S_z13, N_z13, H_z13, G_z13⟩ := id V_r0
    obtain ⟨cl_z14, Ar_z14, q_z14, S_z14, N_z14, H_z14, G_z14⟩ := id V_r1
    have hin15 : ¬ ((0 : Int32) < 0 ∨ cl_z13.slots.size ≤ ((0 : Int32)).toNatClampNeg) := inb_of S_z13 ⟨by decide, by decide⟩
    have hin16 : ¬ ((0 : Int32) < 0 ∨ cl_z14.slots.size ≤ ((0 : Int32)).toNatClampNeg) := inb_of S_z14 ⟨by decide, by decide⟩
    have hin17 : ¬ ((1 : Int32) < 0 ∨ cl_z13.slots.size ≤ ((1 : Int32)).toNatClampNeg) := inb_of S_z13 ⟨by decide, by decide⟩
    have hin18 : ¬ ((1 : Int32) < 0 ∨ cl_z14.slots.size ≤ ((1 : Int32)).toNatClampNeg) := inb_of S_z14 ⟨by decide, by decide⟩
    have hin19 : ¬ ((2 : Int32) < 0 ∨ cl_z13.slots.size ≤ ((2 : Int32)).toNatClampNeg) := inb_of S_z13 ⟨by decide, by decide⟩
    have hin20 : ¬ ((2 : Int32) < 0 ∨ cl_z14.slots.size ≤ ((2 : Int32)).toNatClampNeg) := inb_of S_z14 ⟨by decide, by decide⟩
    obtain ⟨fs, hr, hrun, hended, hW, hsame⟩ := X0.leave (v := some (.int 1)) (fun h => by rw [Bd.returns] at h; cases h)
    refine ⟨_, _, k0 _ ?_, hrun, hended, _, _, rfl, ?_, ⟨_, rfl⟩, hW, hsame.mono (by decide) (by decide)⟩
    · show OwnS p e below s₁ (mkF m 0 #[rv r0, rv r1, .unset] []) _
      refine XS.aloadN X0.here hx rfl (hb hby d15_0) rfl rfl ?_
      refine X0.arraylength hx (by rw [e0]; exact Ar_z13.1) (State.isArrayOf_alike hZ.alike Ar_z13.2.1) (g := (mkF m 1 #[rv r0, rv r1, .unset] [(.ref r0)])) rfl rfl (hb hby d15_1) _ ?_
      rw [len_of S_z13 N_z13]
      refine XS.aloadN X0.here hx rfl (hb hby d15_2) rfl rfl ?_
      refine X0.arraylength hx (by rw [e0]; exact Ar_z14.1) (State.isArrayOf_alike hZ.alike Ar_z14.2.1) (g := (mkF m 3 #[rv r0, rv r1, .unset] [(.ref r1), (.int 3)])) rfl rfl (hb hby d15_3) _ ?_
      rw [len_of S_z14 N_z14]
      refine XS.icmpNo X0.here hx rfl (hb hby d15_4) rfl (teq (by decide : (3 : Int32) = (3 : Int32))).2 ?_
      refine XS.iconst X0.here hx rfl (hb hby d15_7) ?_
      refine XS.istoreN X0.here hx rfl (hb hby d15_8) rfl (l' := #[rv r0, rv r1, iv 0]) rfl ?_
      refine XS.iloadN X0.here hx rfl (hb hby d15_9) rfl ?_
      refine XS.aloadN X0.here hx rfl (hb hby d15_10) rfl rfl ?_
      refine X0.arraylength hx (by rw [e0]; exact Ar_z13.1) (State.isArrayOf_alike hZ.alike Ar_z13.2.1) (g := (mkF m 11 #[rv r0, rv r1, iv 0] [(.ref r0), (.int 0)])) rfl rfl (hb hby d15_11) _ ?_
      rw [len_of S_z13 N_z13]
      refine XS.icmpNo X0.here hx rfl (hb hby d15_12) rfl (tlt (by decide : (0 : Int32) < (3 : Int32))).2.1 ?_
      refine XS.aloadN X0.here hx rfl (hb hby d15_15) rfl rfl ?_
      refine XS.iloadN X0.here hx rfl (hb hby d15_16) rfl ?_
      refine X0.baloadBytes hx (j := (0 : Int32)) (v := (.int x0)) (by rw [e0]; exact Ar_z13.1) (State.isArrayOf_alike hZ.alike Ar_z13.2.1) Ar_z13.2.2 hin15 (Has.at H_z13 hin15 rfl) (g := (mkF m 17 #[rv r0, rv r1, iv 0] [(.int 0), (.ref r0)])) rfl rfl (hb hby d15_17) _ ?_
      refine XS.aloadN X0.here hx rfl (hb hby d15_18) rfl rfl ?_
      refine XS.iloadN X0.here hx rfl (hb hby d15_19) rfl ?_
      refine X0.baloadBytes hx (j := (0 : Int32)) (v := (.int x0)) (by rw [e0]; exact Ar_z14.1) (State.isArrayOf_alike hZ.alike Ar_z14.2.1) Ar_z14.2.2 hin16 (Has.at H_z14 hin16 rfl) (g := (mkF m 20 #[rv r0, rv r1, iv 0] [(.int 0), (.ref r1), (.int x0)])) rfl rfl (hb hby d15_20) _ ?_
      refine XS.icmpYes X0.here hx rfl (pc0 := 21) (pc' := 26) rfl (hb hby d15_21) rfl (teq (rfl : x0 = x0)).1 (by decide) (by decide) ?_
      refine XS.iinc X0.here hx rfl (hb hby d15_26) rfl (l' := #[rv r0, rv r1, iv ((0 : Int32) + (1 : Int32))]) rfl ?_
      refine XS.goto X0.here hx rfl (pc0 := 29) (pc' := 9) rfl (hb hby d15_29) (by decide) (by decide) ?_
      refine XS.iloadN X0.here hx rfl (hb hby d15_9) rfl ?_
      refine XS.aloadN X0.here hx rfl (hb hby d15_10) rfl rfl ?_
      refine X0.arraylength hx (by rw [e0]; exact Ar_z13.1) (State.isArrayOf_alike hZ.alike Ar_z13.2.1) (g := (mkF m 11 #[rv r0, rv r1, iv ((0 : Int32) + (1 : Int32))] [(.ref r0), (.int 1)])) rfl rfl (hb hby d15_11) _ ?_
      rw [len_of S_z13 N_z13]
      refine XS.icmpNo X0.here hx rfl (hb hby d15_12) rfl (tlt (by decide : (1 : Int32) < (3 : Int32))).2.1 ?_
      refine XS.aloadN X0.here hx rfl (hb hby d15_15) rfl rfl ?_
      refine XS.iloadN X0.here hx rfl (hb hby d15_16) rfl ?_
      show OwnS p e below s₁ (mkF m 17 #[rv r0, rv r1, iv ((0 : Int32) + (1 : Int32))] [(.int 1), (.ref r0)]) _
      refine X0.baloadBytes hx (j := (1 : Int32)) (v := (.int x1)) (by rw [e0]; exact Ar_z13.1) (State.isArrayOf_alike hZ.alike Ar_z13.2.1) Ar_z13.2.2 hin17 (Has.at H_z13 hin17 rfl) (g := (mkF m 17 #[rv r0, rv r1, iv ((0 : Int32) + (1 : Int32))] [(.int 1), (.ref r0)])) rfl rfl (hb hby d15_17) _ ?_
      refine XS.aloadN X0.here hx rfl (hb hby d15_18) rfl rfl ?_
      refine XS.iloadN X0.here hx rfl (hb hby d15_19) rfl ?_
      refine X0.baloadBytes hx (j := (1 : Int32)) (v := (.int x1)) (by rw [e0]; exact Ar_z14.1) (State.isArrayOf_alike hZ.alike Ar_z14.2.1) Ar_z14.2.2 hin18 (Has.at H_z14 hin18 rfl) (g := (mkF m 20 #[rv r0, rv r1, iv ((0 : Int32) + (1 : Int32))] [(.int 1), (.ref r1), (.int x1)])) rfl rfl (hb hby d15_20) _ ?_
      refine XS.icmpYes X0.here hx rfl (pc0 := 21) (pc' := 26) rfl (hb hby d15_21) rfl (teq (rfl : x1 = x1)).1 (by decide) (by decide) ?_
      refine XS.iinc X0.here hx rfl (hb hby d15_26) rfl (l' := #[rv r0, rv r1, iv (((0 : Int32) + (1 : Int32)) + (1 : Int32))]) rfl ?_
      refine XS.goto X0.here hx rfl (pc0 := 29) (pc' := 9) rfl (hb hby d15_29) (by decide) (by decide) ?_
      refine XS.iloadN X0.here hx rfl (hb hby d15_9) rfl ?_
      refine XS.aloadN X0.here hx rfl (hb hby d15_10) rfl rfl ?_
      refine X0.arraylength hx (by rw [e0]; exact Ar_z13.1) (State.isArrayOf_alike hZ.alike Ar_z13.2.1) (g := (mkF m 11 #[rv r0, rv r1, iv (((0 : Int32) + (1 : Int32)) + (1 : Int32))] [(.ref r0), (.int 2)])) rfl rfl (hb hby d15_11) _ ?_
      rw [len_of S_z13 N_z13]
      refine XS.icmpNo X0.here hx rfl (hb hby d15_12) rfl (tlt (by decide : (2 : Int32) < (3 : Int32))).2.1 ?_
      refine XS.aloadN X0.here hx rfl (hb hby d15_15) rfl rfl ?_
      refine XS.iloadN X0.here hx rfl (hb hby d15_16) rfl ?_
      refine X0.baloadBytes hx (j := (2 : Int32)) (v := (.int x2)) (by rw [e0]; exact Ar_z13.1) (State.isArrayOf_alike hZ.alike Ar_z13.2.1) Ar_z13.2.2 hin19 (Has.at H_z13 hin19 rfl) (g := (mkF m 17 #[rv r0, rv r1, iv (((0 : Int32) + (1 : Int32)) + (1 : Int32))] [(.int 2), (.ref r0)])) rfl rfl (hb hby d15_17) _ ?_
      refine XS.aloadN X0.here hx rfl (hb hby d15_18) rfl rfl ?_
      refine XS.iloadN X0.here hx rfl (hb hby d15_19) rfl ?_
      refine X0.baloadBytes hx (j := (2 : Int32)) (v := (.int x2)) (by rw [e0]; exact Ar_z14.1) (State.isArrayOf_alike hZ.alike Ar_z14.2.1) Ar_z14.2.2 hin20 (Has.at H_z14 hin20 rfl) (g := (mkF m 20 #[rv r0, rv r1, iv (((0 : Int32) + (1 : Int32)) + (1 : Int32))] [(.int 2), (.ref r1), (.int x2)])) rfl rfl (hb hby d15_20) _ ?_
      refine XS.icmpYes X0.here hx rfl (pc0 := 21) (pc' := 26) rfl (hb hby d15_21) rfl (teq (rfl : x2 = x2)).1 (by decide) (by decide) ?_
      refine XS.iinc X0.here hx rfl (hb hby d15_26) rfl (l' := #[rv r0, rv r1, iv ((((0 : Int32) + (1 : Int32)) + (1 : Int32)) + (1 : Int32))]) rfl ?_
      refine XS.goto X0.here hx rfl (pc0 := 29) (pc' := 9) rfl (hb hby d15_29) (by decide) (by decide) ?_
      refine XS.iloadN X0.here hx rfl (hb hby d15_9) rfl ?_
      refine XS.aloadN X0.here hx rfl (hb hby d15_10) rfl rfl ?_
      refine X0.arraylength hx (by rw [e0]; exact Ar_z13.1) (State.isArrayOf_alike hZ.alike Ar_z13.2.1) (g := (mkF m 11 #[rv r0, rv r1, iv ((((0 : Int32) + (1 : Int32)) + (1 : Int32)) + (1 : Int32))] [(.ref r0), (.int 3)])) rfl rfl (hb hby d15_11) _ ?_
      rw [len_of S_z13 N_z13]
      refine XS.icmpYes X0.here hx rfl (pc0 := 12) (pc' := 32) rfl (hb hby d15_12) rfl (flt (by decide : ¬ ((3 : Int32) < (3 : Int32)))).2.1 (by decide) (by decide) ?_
      refine XS.iconst X0.here hx rfl (hb hby d15_32) ?_
      exact retN X0 hx (t := .boolean) Bd.returns (by simp) (hb hby d15_33) hr
    · show Q_E_eq Z _ _ _ _ _ _ h0 n0 _ s₁.heap _
      rw [e0]
      exact ⟨rfl, N0, rfl⟩
theorem d15_24 : decode jdk_43_method_13_code 24 = .ok (.iconst 0, 1) := by decide +kernel
theorem d15_25 : decode jdk_43_method_13_code 25 = .ok (.ireturn, 1) := by decide +kernel
theorem d15_34 : decode jdk_43_method_13_code 34 = .ok (.iconst 0, 1) := by decide +kernel
theorem d15_35 : decode jdk_43_method_13_code 35 = .ok (.ireturn, 1) := by decide +kernel
def Q_E_ne (Z : State) (r0 : Addr) (r1 : Addr) (kA : ClassId) (kB : ClassId) (z : Int32) (La : List Value) (z2 : Int32) (Lb : List Value) (h0 : Heap) (n0 : Nat) (v : Option Value) (h : Heap) (L : List Loc) : Prop := v = some (.int 0) ∧ Fr n0 L ∧ h = h0
set_option maxRecDepth 65536 in
set_option maxHeartbeats 40000000 in
theorem rmE_ne (l : Launch) (Z : State) (a0 : Array Value) (hw : ∀ d ∈ tables_1, d.before a0 Z = true) (ws : List Jvm.Cond) (r0 : Addr) (r1 : Addr) (kA : ClassId) (kB : ClassId) (z : Int32) (La : List Value) (z2 : Int32) (Lb : List Value) (h0 : Heap) (n0 : Nat) (Z0 : n0 ≤ h0.size) (V_r0 : Arv Z h0 r0 kA .byte z La (.int 0)) (V_r1 : Arv Z h0 r1 kB .byte z2 Lb (.int 0)) (h_small : own_small z La) (h_small2 : own_small z2 Lb) (hne : ¬ (La = Lb)) :
    MetFree l (⟨"java/lang/StringLatin1", "equals", "([B[B)Z"⟩ : MethodName) (head1 (Jvm.Cond.code (⟨"java/lang/StringLatin1", "equals", "([B[B)Z"⟩ : MethodName) jdk_43_method_13_code 3 (some .boolean) :: ws) ({ frames := 0, cells := 0, slots := 0, locals := 0 } : Room)) (fun a U => a = #[(.ref r0), (.ref r1)] ∧ Z.Warmed39 U.vm ∧ U.heap = h0) (fun _ _ _ _ _ => True) (fun _ U o U' => ∃ v L, o = .returned v ∧ Q_E_ne Z r0 r1 kA kB z La z2 Lb h0 n0 v U'.heap L ∧ FrameEnd U o U' L ({ frames := 0, cells := 0, slots := 0, locals := 0 } : Room).cells ({ frames := 0, cells := 0, slots := 0, locals := 0 } : Room).slots) := by
  refine MetFree.of_bodySF (plainFor_of_name pn_java_lang_StringLatin1) hisR ?_
  intro p e s m args below meth c s₁ Bd hml0 hP hK
  obtain ⟨rfl, hZ, hh⟩ := hP
  have hx := Bd.exec
  have hby := Bd.bytes
  have hml : c.maxLocals = 3 := hml0
  have hown : s.vm.findClass "java/lang/StringLatin1" = some m.cls := findClass_of_methodNamed Bd.named
  have hnm := (name_of_methodNamed Bd.named Bd.method).1
  have X0 : Stand p l e ({ frames := 0, cells := 0, slots := 0, locals := 0 } : Room) s m #[(.ref r0), (.ref r1)] below meth c s₁ [] 0 0 := Stand.of_body Bd
  have e0 : s₁.heap = h0 := by rw [← hh, Bd.state]; rfl
  have N0 := Fr.nil n0
  have k0 : ∀ t, OwnS p e below s₁ (mkF m 0 #[rv r0, rv r1, .unset] []) t → OwnS p e below s₁ (entryFrame m #[(.ref r0), (.ref r1)] 3) t := fun t k => castTop (ef_15 m r0 r1) k
  rcases h_small with ⟨rfl, rfl⟩ | ⟨x0, rfl, rfl⟩ | ⟨x0, x1, rfl, rfl⟩ | ⟨x0, x1, x2, rfl, rfl⟩
  · skip
    rcases h_small2 with ⟨rfl, rfl⟩ | ⟨y0, rfl, rfl⟩ | ⟨y0, y1, rfl, rfl⟩ | ⟨y0, y1, y2, rfl, rfl⟩
    · exact absurd rfl hne
    · skip
      obtain ⟨cl_z1, Ar_z1, q_z1, S_z1, N_z1, H_z1, G_z1⟩ := id V_r0
      obtain ⟨cl_z2, Ar_z2, q_z2, S_z2, N_z2, H_z2, G_z2⟩ := id V_r1
      obtain ⟨fs, hr, hrun, hended, hW, hsame⟩ := X0.leave (v := some (.int 0)) (fun h => by rw [Bd.returns] at h; cases h)
      refine ⟨_, _, k0 _ ?_, hrun, hended, _, _, rfl, ?_, ⟨_, rfl⟩, hW, hsame.mono (by decide) (by decide)⟩
      · show OwnS p e below s₁ (mkF m 0 #[rv r0, rv r1, .unset] []) _
        refine XS.aloadN X0.here hx rfl (hb hby d15_0) rfl rfl ?_
        refine X0.arraylength hx (by rw [e0]; exact Ar_z1.1) (State.isArrayOf_alike hZ.alike Ar_z1.2.1) (g := (mkF m 1 #[rv r0, rv r1, .unset] [(.ref r0)])) rfl rfl (hb hby d15_1) _ ?_
        rw [len_of S_z1 N_z1]
        refine XS.aloadN X0.here hx rfl (hb hby d15_2) rfl rfl ?_
        refine X0.arraylength hx (by rw [e0]; exact Ar_z2.1) (State.isArrayOf_alike hZ.alike Ar_z2.2.1) (g := (mkF m 3 #[rv r0, rv r1, .unset] [(.ref r1), (.int 0)])) rfl rfl (hb hby d15_3) _ ?_
        rw [len_of S_z2 N_z2]
        refine XS.icmpYes X0.here hx rfl (pc0 := 4) (pc' := 34) rfl (hb hby d15_4) rfl (feq (by decide : ¬ ((0 : Int32) = (1 : Int32)))).2 (by decide) (by decide) ?_
        refine XS.iconst X0.here hx rfl (hb hby d15_34) ?_
        exact retN X0 hx (t := .boolean) Bd.returns (by simp) (hb hby d15_35) hr
      · show Q_E_ne Z _ _ _ _ _ _ _ _ h0 n0 _ s₁.heap _
        rw [e0]
        exact ⟨rfl, N0, rfl⟩
    · skip
      obtain ⟨cl_z3, Ar_z3, q_z3, S_z3, N_z3, H_z3, G_z3⟩ := id V_r0
      obtain ⟨cl_z4, Ar_z4, q_z4, S_z4, N_z4, H_z4, G_z4⟩ := id V_r1
      obtain ⟨fs, hr, hrun, hended, hW, hsame⟩ := X0.leave (v := some (.int 0)) (fun h => by rw [Bd.returns] at h; cases h)
      refine ⟨_, _, k0 _ ?_, hrun, hended, _, _, rfl, ?_, ⟨_, rfl⟩, hW, hsame.mono (by decide) (by decide)⟩
      · show OwnS p e below s₁ (mkF m 0 #[rv r0, rv r1, .unset] []) _
        refine XS.aloadN X0.here hx rfl (hb hby d15_0) rfl rfl ?_
        refine X0.arraylength hx (by rw [e0]; exact Ar_z3.1) (State.isArrayOf_alike hZ.alike Ar_z3.2.1) (g := (mkF m 1 #[rv r0, rv r1, .unset] [(.ref r0)])) rfl rfl (hb hby d15_1) _ ?_
        rw [len_of S_z3 N_z3]
        refine XS.aloadN X0.here hx rfl (hb hby d15_2) rfl rfl ?_
        refine X0.arraylength hx (by rw [e0]; exact Ar_z4.1) (State.isArrayOf_alike hZ.alike Ar_z4.2.1) (g := (mkF m 3 #[rv r0, rv r1, .unset] [(.ref r1), (.int 0)])) rfl rfl (hb hby d15_3) _ ?_
        rw [len_of S_z4 N_z4]
        refine XS.icmpYes X0.here hx rfl (pc0 := 4) (pc' := 34) rfl (hb hby d15_4) rfl (feq (by decide : ¬ ((0 : Int32) = (2 : Int32)))).2 (by decide) (by decide) ?_
        refine XS.iconst X0.here hx rfl (hb hby d15_34) ?_
        exact retN X0 hx (t := .boolean) Bd.returns (by simp) (hb hby d15_35) hr
      · show Q_E_ne Z _ _ _ _ _ _ _ _ h0 n0 _ s₁.heap _
        rw [e0]
        exact ⟨rfl, N0, rfl⟩
    · skip
      obtain ⟨cl_z5, Ar_z5, q_z5, S_z5, N_z5, H_z5, G_z5⟩ := id V_r0
      obtain ⟨cl_z6, Ar_z6, q_z6, S_z6, N_z6, H_z6, G_z6⟩ := id V_r1
      obtain ⟨fs, hr, hrun, hended, hW, hsame⟩ := X0.leave (v := some (.int 0)) (fun h => by rw [Bd.returns] at h; cases h)
      refine ⟨_, _, k0 _ ?_, hrun, hended, _, _, rfl, ?_, ⟨_, rfl⟩, hW, hsame.mono (by decide) (by decide)⟩
      · show OwnS p e below s₁ (mkF m 0 #[rv r0, rv r1, .unset] []) _
        refine XS.aloadN X0.here hx rfl (hb hby d15_0) rfl rfl ?_
        refine X0.arraylength hx (by rw [e0]; exact Ar_z5.1) (State.isArrayOf_alike hZ.alike Ar_z5.2.1) (g := (mkF m 1 #[rv r0, rv r1, .unset] [(.ref r0)])) rfl rfl (hb hby d15_1) _ ?_
        rw [len_of S_z5 N_z5]
        refine XS.aloadN X0.here hx rfl (hb hby d15_2) rfl rfl ?_
        refine X0.arraylength hx (by rw [e0]; exact Ar_z6.1) (State.isArrayOf_alike hZ.alike Ar_z6.2.1) (g := (mkF m 3 #[rv r0, rv r1, .unset] [(.ref r1), (.int 0)])) rfl rfl (hb hby d15_3) _ ?_
        rw [len_of S_z6 N_z6]
        refine XS.icmpYes X0.here hx rfl (pc0 := 4) (pc' := 34) rfl (hb hby d15_4) rfl (feq (by decide : ¬ ((0 : Int32) = (3 : Int32)))).2 (by decide) (by decide) ?_
        refine XS.iconst X0.here hx rfl (hb hby d15_34) ?_
        exact retN X0 hx (t := .boolean) Bd.returns (by simp) (hb hby d15_35) hr
      · show Q_E_ne Z _ _ _ _ _ _ _ _ h0 n0 _ s₁.heap _
        rw [e0]
        exact ⟨rfl, N0, rfl⟩
  · skip
    rcases h_small2 with ⟨rfl, rfl⟩ | ⟨y0, rfl, rfl⟩ | ⟨y0, y1, rfl, rfl⟩ | ⟨y0, y1, y2, rfl, rfl⟩
    · skip
      obtain ⟨cl_z7, Ar_z7, q_z7, S_z7, N_z7, H_z7, G_z7⟩ := id V_r0
      obtain ⟨cl_z8, Ar_z8, q_z8, S_z8, N_z8, H_z8, G_z8⟩ := id V_r1
      obtain ⟨fs, hr, hrun, hended, hW, hsame⟩ := X0.leave (v := some (.int 0)) (fun h => by rw [Bd.returns] at h; cases h)
      refine ⟨_, _, k0 _ ?_, hrun, hended, _, _, rfl, ?_, ⟨_, rfl⟩, hW, hsame.mono (by decide) (by decide)⟩
      · show OwnS p e below s₁ (mkF m 0 #[rv r0, rv r1, .unset] []) _
        refine XS.aloadN X0.here hx rfl (hb hby d15_0) rfl rfl ?_
        refine X0.arraylength hx (by rw [e0]; exact Ar_z7.1) (State.isArrayOf_alike hZ.alike Ar_z7.2.1) (g := (mkF m 1 #[rv r0, rv r1, .unset] [(.ref r0)])) rfl rfl (hb hby d15_1) _ ?_
        rw [len_of S_z7 N_z7]
        refine XS.aloadN X0.here hx rfl (hb hby d15_2) rfl rfl ?_
        refine X0.arraylength hx (by rw [e0]; exact Ar_z8.1) (State.isArrayOf_alike hZ.alike Ar_z8.2.1) (g := (mkF m 3 #[rv r0, rv r1, .unset] [(.ref r1), (.int 1)])) rfl rfl (hb hby d15_3) _ ?_
        rw [len_of S_z8 N_z8]
        refine XS.icmpYes X0.here hx rfl (pc0 := 4) (pc' := 34) rfl (hb hby d15_4) rfl (feq (by decide : ¬ ((1 : Int32) = (0 : Int32)))).2 (by decide) (by decide) ?_
        refine XS.iconst X0.here hx rfl (hb hby d15_34) ?_
        exact retN X0 hx (t := .boolean) Bd.returns (by simp) (hb hby d15_35) hr
      · show Q_E_ne Z _ _ _ _ _ _ _ _ h0 n0 _ s₁.heap _
        rw [e0]
        exact ⟨rfl, N0, rfl⟩
    · skip
      obtain ⟨cl_z9, Ar_z9, q_z9, S_z9, N_z9, H_z9, G_z9⟩ := id V_r0
      obtain ⟨cl_z10, Ar_z10, q_z10, S_z10, N_z10, H_z10, G_z10⟩ := id V_r1
      have hin11 : ¬ ((0 : Int32) < 0 ∨ cl_z9.slots.size ≤ ((0 : Int32)).toNatClampNeg) := inb_of S_z9 ⟨by decide, by decide⟩
      have hin12 : ¬ ((0 : Int32) < 0 ∨ cl_z10.slots.size ≤ ((0 : Int32)).toNatClampNeg) := inb_of S_z10 ⟨by decide, by decide⟩
      obtain ⟨fs, hr, hrun, hended, hW, hsame⟩ := X0.leave (v := some (.int 0)) (fun h => by rw [Bd.returns] at h; cases h)
      refine ⟨_, _, k0 _ ?_, hrun, hended, _, _, rfl, ?_, ⟨_, rfl⟩, hW, hsame.mono (by decide) (by decide)⟩
      · show OwnS p e below s₁ (mkF m 0 #[rv r0, rv r1, .unset] []) _
        refine XS.aloadN X0.here hx rfl (hb hby d15_0) rfl rfl ?_
        refine X0.arraylength hx (by rw [e0]; exact Ar_z9.1) (State.isArrayOf_alike hZ.alike Ar_z9.2.1) (g := (mkF m 1 #[rv r0, rv r1, .unset] [(.ref r0)])) rfl rfl (hb hby d15_1) _ ?_
        rw [len_of S_z9 N_z9]
        refine XS.aloadN X0.here hx rfl (hb hby d15_2) rfl rfl ?_
        refine X0.arraylength hx (by rw [e0]; exact Ar_z10.1) (State.isArrayOf_alike hZ.alike Ar_z10.2.1) (g := (mkF m 3 #[rv r0, rv r1, .unset] [(.ref r1), (.int 1)])) rfl rfl (hb hby d15_3) _ ?_
        rw [len_of S_z10 N_z10]
        refine XS.icmpNo X0.here hx rfl (hb hby d15_4) rfl (teq (by decide : (1 : Int32) = (1 : Int32))).2 ?_
        refine XS.iconst X0.here hx rfl (hb hby d15_7) ?_
        refine XS.istoreN X0.here hx rfl (hb hby d15_8) rfl (l' := #[rv r0, rv r1, iv 0]) rfl ?_
        refine XS.iloadN X0.here hx rfl (hb hby d15_9) rfl ?_
        refine XS.aloadN X0.here hx rfl (hb hby d15_10) rfl rfl ?_
        refine X0.arraylength hx (by rw [e0]; exact Ar_z9.1) (State.isArrayOf_alike hZ.alike Ar_z9.2.1) (g := (mkF m 11 #[rv r0, rv r1, iv 0] [(.ref r0), (.int 0)])) rfl rfl (hb hby d15_11) _ ?_
        rw [len_of S_z9 N_z9]
        refine XS.icmpNo X0.here hx rfl (hb hby d15_12) rfl (tlt (by decide : (0 : Int32) < (1 : Int32))).2.1 ?_
        refine XS.aloadN X0.here hx rfl (hb hby d15_15) rfl rfl ?_
        refine XS.iloadN X0.here hx rfl (hb hby d15_16) rfl ?_
        refine X0.baloadBytes hx (j := (0 : Int32)) (v := (.int x0)) (by rw [e0]; exact Ar_z9.1) (State.isArrayOf_alike hZ.alike Ar_z9.2.1) Ar_z9.2.2 hin11 (Has.at H_z9 hin11 rfl) (g := (mkF m 17 #[rv r0, rv r1, iv 0] [(.int 0), (.ref r0)])) rfl rfl (hb hby d15_17) _ ?_
        refine XS.aloadN X0.here hx rfl (hb hby d15_18) rfl rfl ?_
        refine XS.iloadN X0.here hx rfl (hb hby d15_19) rfl ?_
        refine X0.baloadBytes hx (j := (0 : Int32)) (v := (.int y0)) (by rw [e0]; exact Ar_z10.1) (State.isArrayOf_alike hZ.alike Ar_z10.2.1) Ar_z10.2.2 hin12 (Has.at H_z10 hin12 rfl) (g := (mkF m 20 #[rv r0, rv r1, iv 0] [(.int 0), (.ref r1), (.int x0)])) rfl rfl (hb hby d15_20) _ ?_
        refine XS.icmpNo X0.here hx rfl (hb hby d15_21) rfl (feq (fun q => hne (by rw [q]))).1 ?_
        refine XS.iconst X0.here hx rfl (hb hby d15_24) ?_
        exact retN X0 hx (t := .boolean) Bd.returns (by simp) (hb hby d15_25) hr
      · show Q_E_ne Z _ _ _ _ _ _ _ _ h0 n0 _ s₁.heap _
        rw [e0]
        exact ⟨rfl, N0, rfl⟩
    · skip
      obtain ⟨cl_z13, Ar_z13, q_z13, S_z13, N_z13, H_z13, G_z13⟩ := id V_r0
      obtain ⟨cl_z14, Ar_z14, q_z14, S_z14, N_z14, H_z14, G_z14⟩ := id V_r1
      obtain ⟨fs, hr, hrun, hended, hW, hsame⟩ := X0.leave (v := some (.int 0)) (fun h => by rw [Bd.returns] at h; cases h)
      refine ⟨_, _, k0 _ ?_, hrun, hended, _, _, rfl, ?_, ⟨_, rfl⟩, hW, hsame.mono (by decide) (by decide)⟩
      · show OwnS p e below s₁ (mkF m 0 #[rv r0, rv r1, .unset] []) _
        refine XS.aloadN X0.here hx rfl (hb hby d15_0) rfl rfl ?_
        refine X0.arraylength hx (by rw [e0]; exact Ar_z13.1) (State.isArrayOf_alike hZ.alike Ar_z13.2.1) (g := (mkF m 1 #[rv r0, rv r1, .unset] [(.ref r0)])) rfl rfl (hb hby d15_1) _ ?_
        rw [len_of S_z13 N_z13]
        refine XS.aloadN X0.here hx rfl (hb hby d15_2) rfl rfl ?_
        refine X0.arraylength hx (by rw [e0]; exact Ar_z14.1) (State.isArrayOf_alike hZ.alike Ar_z14.2.1) (g := (mkF m 3 #[rv r0, rv r1, .unset] [(.ref r1), (.int 1)])) rfl rfl (hb hby d15_3) _ ?_
        rw [len_of S_z14 N_z14]
        refine XS.icmpYes X0.here hx rfl (pc0 := 4) (pc' := 34) rfl (hb hby d15_4) rfl (feq (by decide : ¬ ((1 : Int32) = (2 : Int32)))).2 (by decide) (by decide) ?_
        refine XS.iconst X0.here hx rfl (hb hby d15_34) ?_
        exact retN X0 hx (t := .boolean) Bd.returns (by simp) (hb hby d15_35) hr
      · show Q_E_ne Z _ _ _ _ _ _ _ _ h0 n0 _ s₁.heap _
        rw [e0]
        exact ⟨rfl, N0, rfl⟩
    · skip
      obtain ⟨cl_z15, Ar_z15, q_z15, S_z15, N_z15, H_z15, G_z15⟩ := id V_r0
      obtain ⟨cl_z16, Ar_z16, q_z16, S_z16, N_z16, H_z16, G_z16⟩ := id V_r1
      obtain ⟨fs, hr, hrun, hended, hW, hsame⟩ := X0.leave (v := some (.int 0)) (fun h => by rw [Bd.returns] at h; cases h)
      refine ⟨_, _, k0 _ ?_, hrun, hended, _, _, rfl, ?_, ⟨_, rfl⟩, hW, hsame.mono (by decide) (by decide)⟩
      · show OwnS p e below s₁ (mkF m 0 #[rv r0, rv r1, .unset] []) _
        refine XS.aloadN X0.here hx rfl (hb hby d15_0) rfl rfl ?_
        refine X0.arraylength hx (by rw [e0]; exact Ar_z15.1) (State.isArrayOf_alike hZ.alike Ar_z15.2.1) (g := (mkF m 1 #[rv r0, rv r1, .unset] [(.ref r0)])) rfl rfl (hb hby d15_1) _ ?_
        rw [len_of S_z15 N_z15]
        refine XS.aloadN X0.here hx rfl (hb hby d15_2) rfl rfl ?_
        refine X0.arraylength hx (by rw [e0]; exact Ar_z16.1) (State.isArrayOf_alike hZ.alike Ar_z16.2.1) (g := (mkF m 3 #[rv r0, rv r1, .unset] [(.ref r1), (.int 1)])) rfl rfl (hb hby d15_3) _ ?_
        rw [len_of S_z16 N_z16]
        refine XS.icmpYes X0.here hx rfl (pc0 := 4) (pc' := 34) rfl (hb hby d15_4) rfl (feq (by decide : ¬ ((1 : Int32) = (3 : Int32)))).2 (by decide) (by decide) ?_
        refine XS.iconst X0.here hx rfl (hb hby d15_34) ?_
        exact retN X0 hx (t := .boolean) Bd.returns (by simp) (hb hby d15_35) hr
      · show Q_E_ne Z _ _ _ _ _ _ _ _ h0 n0 _ s₁.heap _
        rw [e0]
        exact ⟨rfl, N0, rfl⟩
  · skip
    rcases h_small2 with ⟨rfl, rfl⟩ | ⟨y0, rfl, rfl⟩ | ⟨y0, y1, rfl, rfl⟩ | ⟨y0, y1, y2, rfl, rfl⟩
    · skip
      obtain ⟨cl_z17, Ar_z17, q_z17, S_z17, N_z17, H_z17, G_z17⟩ := id V_r0
      obtain ⟨cl_z18, Ar_z18, q_z18, S_z18, N_z18, H_z18, G_z18⟩ := id V_r1
      obtain ⟨fs, hr, hrun, hended, hW, hsame⟩ := X0.leave (v := some (.int 0)) (fun h => by rw [Bd.returns] at h; cases h)
      refine ⟨_, _, k0 _ ?_, hrun, hended, _, _, rfl, ?_, ⟨_, rfl⟩, hW, hsame.mono (by decide) (by decide)⟩
      · show OwnS p e below s₁ (mkF m 0 #[rv r0, rv r1, .unset] []) _
        refine XS.aloadN X0.here hx rfl (hb hby d15_0) rfl rfl ?_
        refine X0.arraylength hx (by rw [e0]; exact Ar_z17.1) (State.isArrayOf_alike hZ.alike Ar_z17.2.1) (g := (mkF m 1 #[rv r0, rv r1, .unset] [(.ref r0)])) rfl rfl (hb hby d15_1) _ ?_
        rw [len_of S_z17 N_z17]
        refine XS.aloadN X0.here hx rfl (hb hby d15_2) rfl rfl ?_
        refine X0.arraylength hx (by rw [e0]; exact Ar_z18.1) (State.isArrayOf_alike hZ.alike Ar_z18.2.1) (g := (mkF m 3 #[rv r0, rv r1, .unset] [(.ref r1), (.int 2)])) rfl rfl (hb hby d15_3) _ ?_
        rw [len_of S_z18 N_z18]
        refine XS.icmpYes X0.here hx rfl (pc0 := 4) (pc' := 34) rfl (hb hby d15_4) rfl (feq (by decide : ¬ ((2 : Int32) = (0 : Int32)))).2 (by decide) (by decide) ?_
        refine XS.iconst X0.here hx rfl (hb hby d15_34) ?_
        exact retN X0 hx (t := .boolean) Bd.returns (by simp) (hb hby d15_35) hr
      · show Q_E_ne Z _ _ _ _ _ _ _ _ h0 n0 _ s₁.heap _
        rw [e0]
        exact ⟨rfl, N0, rfl⟩
    · skip
      obtain ⟨cl_z19, Ar_z19, q_z19, S_z19, N_z19, H_z19, G_z19⟩ := id V_r0
      obtain ⟨cl_z20, Ar_z20, q_z20, S_z20, N_z20, H_z20, G_z20⟩ := id V_r1
      obtain ⟨fs, hr, hrun, hended, hW, hsame⟩ := X0.leave (v := some (.int 0)) (fun h => by rw [Bd.returns] at h; cases h)
      refine ⟨_, _, k0 _ ?_, hrun, hended, _, _, rfl, ?_, ⟨_, rfl⟩, hW, hsame.mono (by decide) (by decide)⟩
      · show OwnS p e below s₁ (mkF m 0 #[rv r0, rv r1, .unset] []) _
        refine XS.aloadN X0.here hx rfl (hb hby d15_0) rfl rfl ?_
        refine X0.arraylength hx (by rw [e0]; exact Ar_z19.1) (State.isArrayOf_alike hZ.alike Ar_z19.2.1) (g := (mkF m 1 #[rv r0, rv r1, .unset] [(.ref r0)])) rfl rfl (hb hby d15_1) _ ?_
        rw [len_of S_z19 N_z19]
        refine XS.aloadN X0.here hx rfl (hb hby d15_2) rfl rfl ?_
        refine X0.arraylength hx (by rw [e0]; exact Ar_z20.1) (State.isArrayOf_alike hZ.alike Ar_z20.2.1) (g := (mkF m 3 #[rv r0, rv r1, .unset] [(.ref r1), (.int 2)])) rfl rfl (hb hby d15_3) _ ?_
        rw [len_of S_z20 N_z20]
        refine XS.icmpYes X0.here hx rfl (pc0 := 4) (pc' := 34) rfl (hb hby d15_4) rfl (feq (by decide : ¬ ((2 : Int32) = (1 : Int32)))).2 (by decide) (by decide) ?_
        refine XS.iconst X0.here hx rfl (hb hby d15_34) ?_
        exact retN X0 hx (t := .boolean) Bd.returns (by simp) (hb hby d15_35) hr
      · show Q_E_ne Z _ _ _ _ _ _ _ _ h0 n0 _ s₁.heap _
        rw [e0]
        exact ⟨rfl, N0, rfl⟩
    · skip
      obtain ⟨cl_z21, Ar_z21, q_z21, S_z21, N_z21, H_z21, G_z21⟩ := id V_r0
      obtain ⟨cl_z22, Ar_z22, q_z22, S_z22, N_z22, H_z22, G_z22⟩ := id V_r1
      have hin23 : ¬ ((0 : Int32) < 0 ∨ cl_z21.slots.size ≤ ((0 : Int32)).toNatClampNeg) := inb_of S_z21 ⟨by decide, by decide⟩
      have hin24 : ¬ ((0 : Int32) < 0 ∨ cl_z22.slots.size ≤ ((0 : Int32)).toNatClampNeg) := inb_of S_z22 ⟨by decide, by decide⟩
      have k26 : ∀ t, OwnS p e below s₁ (mkF m 21 #[rv r0, rv r1, iv 0] [(.int y0), (.int x0)]) t → OwnS p e below s₁ (entryFrame m #[(.ref r0), (.ref r1)] 3) t := fun t q => by
        refine k0 t ?_
        show OwnS p e below s₁ (mkF m 0 #[rv r0, rv r1, .unset] []) _
        refine XS.aloadN X0.here hx rfl (hb hby d15_0) rfl rfl ?_
        refine X0.arraylength hx (by rw [e0]; exact Ar_z21.1) (State.isArrayOf_alike hZ.alike Ar_z21.2.1) (g := (mkF m 1 #[rv r0, rv r1, .unset] [(.ref r0)])) rfl rfl (hb hby d15_1) _ ?_
        rw [len_of S_z21 N_z21]
        refine XS.aloadN X0.here hx rfl (hb hby d15_2) rfl rfl ?_
        refine X0.arraylength hx (by rw [e0]; exact Ar_z22.1) (State.isArrayOf_alike hZ.alike Ar_z22.2.1) (g := (mkF m 3 #[rv r0, rv r1, .unset] [(.ref r1), (.int 2)])) rfl rfl (hb hby d15_3) _ ?_
        rw [len_of S_z22 N_z22]
        refine XS.icmpNo X0.here hx rfl (hb hby d15_4) rfl (teq (by decide : (2 : Int32) = (2 : Int32))).2 ?_
        refine XS.iconst X0.here hx rfl (hb hby d15_7) ?_
        refine XS.istoreN X0.here hx rfl (hb hby d15_8) rfl (l' := #[rv r0, rv r1, iv 0]) rfl ?_
        refine XS.iloadN X0.here hx rfl (hb hby d15_9) rfl ?_
        refine XS.aloadN X0.here hx rfl (hb hby d15_10) rfl rfl ?_
        refine X0.arraylength hx (by rw [e0]; exact Ar_z21.1) (State.isArrayOf_alike hZ.alike Ar_z21.2.1) (g := (mkF m 11 #[rv r0, rv r1, iv 0] [(.ref r0), (.int 0)])) rfl rfl (hb hby d15_11) _ ?_
        rw [len_of S_z21 N_z21]
        refine XS.icmpNo X0.here hx rfl (hb hby d15_12) rfl (tlt (by decide : (0 : Int32) < (2 : Int32))).2.1 ?_
        refine XS.aloadN X0.here hx rfl (hb hby d15_15) rfl rfl ?_
        refine XS.iloadN X0.here hx rfl (hb hby d15_16) rfl ?_
        refine X0.baloadBytes hx (j := (0 : Int32)) (v := (.int x0)) (by rw [e0]; exact Ar_z21.1) (State.isArrayOf_alike hZ.alike Ar_z21.2.1) Ar_z21.2.2 hin23 (Has.at H_z21 hin23 rfl) (g := (mkF m 17 #[rv r0, rv r1, iv 0] [(.int 0), (.ref r0)])) rfl rfl (hb hby d15_17) _ ?_
        refine XS.aloadN X0.here hx rfl (hb hby d15_18) rfl rfl ?_
        refine XS.iloadN X0.here hx rfl (hb hby d15_19) rfl ?_
        refine X0.baloadBytes hx (j := (0 : Int32)) (v := (.int y0)) (by rw [e0]; exact Ar_z22.1) (State.isArrayOf_alike hZ.alike Ar_z22.2.1) Ar_z22.2.2 hin24 (Has.at H_z22 hin24 rfl) (g := (mkF m 20 #[rv r0, rv r1, iv 0] [(.int 0), (.ref r1), (.int x0)])) rfl rfl (hb hby d15_20) _ ?_
        exact q
      by_cases hc21_25 : x0 = y0
      · have hin27 : ¬ ((1 : Int32) < 0 ∨ cl_z21.slots.size ≤ ((1 : Int32)).toNatClampNeg) := inb_of S_z21 ⟨by decide, by decide⟩
        have hin28 : ¬ ((1 : Int32) < 0 ∨ cl_z22.slots.size ≤ ((1 : Int32)).toNatClampNeg) := inb_of S_z22 ⟨by decide, by decide⟩
        obtain ⟨fs, hr, hrun, hended, hW, hsame⟩ := X0.leave (v := some (.int 0)) (fun h => by rw [Bd.returns] at h; cases h)
        refine ⟨_, _, k26 _ ?_, hrun, hended, _, _, rfl, ?_, ⟨_, rfl⟩, hW, hsame.mono (by decide) (by decide)⟩
        · refine XS.icmpYes X0.here hx rfl (pc0 := 21) (pc' := 26) rfl (hb hby d15_21) rfl (teq hc21_25).1 (by decide) (by decide) ?_
          refine XS.iinc X0.here hx rfl (hb hby d15_26) rfl (l' := #[rv r0, rv r1, iv ((0 : Int32) + (1 : Int32))]) rfl ?_
          refine XS.goto X0.here hx rfl (pc0 := 29) (pc' := 9) rfl (hb hby d15_29) (by decide) (by decide) ?_
          refine XS.iloadN X0.here hx rfl (hb hby d15_9) rfl ?_
          refine XS.aloadN X0.here hx rfl (hb hby d15_10) rfl rfl ?_
          refine X0.arraylength hx (by rw [e0]; exact Ar_z21.1) (State.isArrayOf_alike hZ.alike Ar_z21.2.1) (g := (mkF m 11 #[rv r0, rv r1, iv ((0 : Int32) + (1 : Int32))] [(.ref r0), (.int 1)])) rfl rfl (hb hby d15_11) _ ?_
          rw [len_of S_z21 N_z21]
          refine XS.icmpNo X0.here hx rfl (hb hby d15_12) rfl (tlt (by decide : (1 : Int32) < (2 : Int32))).2.1 ?_
          refine XS.aloadN X0.here hx rfl (hb hby d15_15) rfl rfl ?_
          refine XS.iloadN X0.here hx rfl (hb hby d15_16) rfl ?_
          refine X0.baloadBytes hx (j := (1 : Int32)) (v := (.int x1)) (by rw [e0]; exact Ar_z21.1) (State.isArrayOf_alike hZ.alike Ar_z21.2.1) Ar_z21.2.2 hin27 (Has.at H_z21 hin27 rfl) (g := (mkF m 17 #[rv r0, rv r1, iv ((0 : Int32) + (1 : Int32))] [(.int 1), (.ref r0)])) rfl rfl (hb hby d15_17) _ ?_
          refine XS.aloadN X0.here hx rfl (hb hby d15_18) rfl rfl ?_
          refine XS.iloadN X0.here hx rfl (hb hby d15_19) rfl ?_
          refine X0.baloadBytes hx (j := (1 : Int32)) (v := (.int y1)) (by rw [e0]; exact Ar_z22.1) (State.isArrayOf_alike hZ.alike Ar_z22.2.1) Ar_z22.2.2 hin28 (Has.at H_z22 hin28 rfl) (g := (mkF m 20 #[rv r0, rv r1, iv ((0 : Int32) + (1 : Int32))] [(.int 1), (.ref r1), (.int x1)])) rfl rfl (hb hby d15_20) _ ?_
          refine XS.icmpNo X0.here hx rfl (hb hby d15_21) rfl (feq (fun q => hne (by rw [hc21_25, q]))).1 ?_
          refine XS.iconst X0.here hx rfl (hb hby d15_24) ?_
          exact retN X0 hx (t := .boolean) Bd.returns (by simp) (hb hby d15_25) hr
        · show Q_E_ne Z _ _ _ _ _ _ _ _ h0 n0 _ s₁.heap _
          rw [e0]
          exact ⟨rfl, N0, rfl⟩
      · obtain ⟨fs, hr, hrun, hended, hW, hsame⟩ := X0.leave (v := some (.int 0)) (fun h => by rw [Bd.returns] at h; cases h)
        refine ⟨_, _, k26 _ ?_, hrun, hended, _, _, rfl, ?_, ⟨_, rfl⟩, hW, hsame.mono (by decide) (by decide)⟩
        · refine XS.icmpNo X0.here hx rfl (hb hby d15_21) rfl (feq hc21_25).1 ?_
          refine XS.iconst X0.here hx rfl (hb hby d15_24) ?_
          exact retN X0 hx (t := .boolean) Bd.returns (by simp) (hb hby d15_25) hr
        · show Q_E_ne Z _ _ _ _ _ _ _ _ h0 n0 _ s₁.heap _
          rw [e0]
          exact ⟨rfl, N0, rfl⟩
    · skip
      obtain ⟨cl_z29, Ar_z29, q_z29, S_z29, N_z29, H_z29, G_z29⟩ := id V_r0
      obtain ⟨cl_z30, Ar_z30, q_z30, S_z30, N_z30, H_z30, G_z30⟩ := id V_r1
      obtain ⟨fs, hr, hrun, hended, hW, hsame⟩ := X0.leave (v := some (.int 0)) (fun h => by rw [Bd.returns] at h; cases h)
      refine ⟨_, _, k0 _ ?_, hrun, hended, _, _, rfl, ?_, ⟨_, rfl⟩, hW, hsame.mono (by decide) (by decide)⟩
      · show OwnS p e below s₁ (mkF m 0 #[rv r0, rv r1, .unset] []) _
        refine XS.aloadN X0.here hx rfl (hb hby d15_0) rfl rfl ?_
        refine X0.arraylength hx (by rw [e0]; exact Ar_z29.1) (State.isArrayOf_alike hZ.alike Ar_z29.2.1) (g := (mkF m 1 #[rv r0, rv r1, .unset] [(.ref r0)])) rfl rfl (hb hby d15_1) _ ?_
        rw [len_of S_z29 N_z29]
        refine XS.aloadN X0.here hx rfl (hb hby d15_2) rfl rfl ?_
        refine X0.arraylength hx (by rw [e0]; exact Ar_z30.1) (State.isArrayOf_alike hZ.alike Ar_z30.2.1) (g := (mkF m 3 #[rv r0, rv r1, .unset] [(.ref r1), (.int 2)])) rfl rfl (hb hby d15_3) _ ?_
        rw [len_of S_z30 N_z30]
        refine XS.icmpYes X0.here hx rfl (pc0 := 4) (pc' := 34) rfl (hb hby d15_4) rfl (feq (by decide : ¬ ((2 : Int32) = (3 : Int32)))).2 (by decide) (by decide) ?_
        refine XS.iconst X0.here hx rfl (hb hby d15_34) ?_
        exact retN X0 hx (t := .boolean) Bd.returns (by simp) (hb hby d15_35) hr
      · show Q_E_ne Z _ _ _ _ _ _ _ _ h0 n0 _ s₁.heap _
        rw [e0]
        exact ⟨rfl, N0, rfl⟩
  · skip
    rcases h_small2 with ⟨rfl, rfl⟩ | ⟨y0, rfl, rfl⟩ | ⟨y0, y1, rfl, rfl⟩ | ⟨y0, y1, y2, rfl, rfl⟩
    · skip
      obtain ⟨cl_z31, Ar_z31, q_z31, S_z31, N_z31, H_z31, G_z31⟩ := id V_r0
      obtain ⟨cl_z32, Ar_z32, q_z32, S_z32, N_z32, H_z32, G_z32⟩ := id V_r1
      obtain ⟨fs, hr, hrun, hended, hW, hsame⟩ := X0.leave (v := some (.int 0)) (fun h => by rw [Bd.returns] at h; cases h)
      refine ⟨_, _, k0 _ ?_, hrun, hended, _, _, rfl, ?_, ⟨_, rfl⟩, hW, hsame.mono (by decide) (by decide)⟩
      · show OwnS p e below s₁ (mkF m 0 #[rv r0, rv r1, .unset] []) _
        refine XS.aloadN X0.here hx rfl (hb hby d15_0) rfl rfl ?_
        refine X0.arraylength hx (by rw [e0]; exact Ar_z31.1) (State.isArrayOf_alike hZ.alike Ar_z31.2.1) (g := (mkF m 1 #[rv r0, rv r1, .unset] [(.ref r0)])) rfl rfl (hb hby d15_1) _ ?_
        rw [len_of S_z31 N_z31]
        refine XS.aloadN X0.here hx rfl (hb hby d15_2) rfl rfl ?_
        refine X0.arraylength hx (by rw [e0]; exact Ar_z32.1) (State.isArrayOf_alike hZ.alike Ar_z32.2.1) (g := (mkF m 3 #[rv r0, rv r1, .unset] [(.ref r1), (.int 3)])) rfl rfl (hb hby d15_3) _ ?_
        rw [len_of S_z32 N_z32]
        refine XS.icmpYes X0.here hx rfl (pc0 := 4) (pc' := 34) rfl (hb hby d15_4) rfl (feq (by decide : ¬ ((3 : Int32) = (0 : Int32)))).2 (by decide) (by decide) ?_
        refine XS.iconst X0.here hx rfl (hb hby d15_34) ?_
        exact retN X0 hx (t := .boolean) Bd.returns (by simp) (hb hby d15_35) hr
      · show Q_E_ne Z _ _ _ _ _ _ _ _ h0 n0 _ s₁.heap _
        rw [e0]
        exact ⟨rfl, N0, rfl⟩
    · skip
      obtain ⟨cl_z33, Ar_z33, q_z33, S_z33, N_z33, H_z33, G_z33⟩ := id V_r0
      obtain ⟨cl_z34, Ar_z34, q_z34, S_z34, N_z34, H_z34, G_z34⟩ := id V_r1
      obtain ⟨fs, hr, hrun, hended, hW, hsame⟩ := X0.leave (v := some (.int 0)) (fun h => by rw [Bd.returns] at h; cases h)
      refine ⟨_, _, k0 _ ?_, hrun, hended, _, _, rfl, ?_, ⟨_, rfl⟩, hW, hsame.mono (by decide) (by decide)⟩
      · show OwnS p e below s₁ (mkF m 0 #[rv r0, rv r1, .unset] []) _
        refine XS.aloadN X0.here hx rfl (hb hby d15_0) rfl rfl ?_
        refine X0.arraylength hx (by rw [e0]; exact Ar_z33.1) (State.isArrayOf_alike hZ.alike Ar_z33.2.1) (g := (mkF m 1 #[rv r0, rv r1, .unset] [(.ref r0)])) rfl rfl (hb hby d15_1) _ ?_
        rw [len_of S_z33 N_z33]
        refine XS.aloadN X0.here hx rfl (hb hby d15_2) rfl rfl ?_
        refine X0.arraylength hx (by rw [e0]; exact Ar_z34.1) (State.isArrayOf_alike hZ.alike Ar_z34.2.1) (g := (mkF m 3 #[rv r0, rv r1, .unset] [(.ref r1), (.int 3)])) rfl rfl (hb hby d15_3) _ ?_
        rw [len_of S_z34 N_z34]
        refine XS.icmpYes X0.here hx rfl (pc0 := 4) (pc' := 34) rfl (hb hby d15_4) rfl (feq (by decide : ¬ ((3 : Int32) = (1 : Int32)))).2 (by decide) (by decide) ?_
        refine XS.iconst X0.here hx rfl (hb hby d15_34) ?_
        exact retN X0 hx (t := .boolean) Bd.returns (by simp) (hb hby d15_35) hr
      · show Q_E_ne Z _ _ _ _ _ _ _ _ h0 n0 _ s₁.heap _
        rw [e0]
        exact ⟨rfl, N0, rfl⟩
    · skip
      obtain ⟨cl_z35, Ar_z35, q_z35, S_z35, N_z35, H_z35, G_z35⟩ := id V_r0
      obtain ⟨cl_z36, Ar_z36, q_z36, S_z36, N_z36, H_z36, G_z36⟩ := id V_r1
      obtain ⟨fs, hr, hrun, hended, hW, hsame⟩ := X0.leave (v := some (.int 0)) (fun h => by rw [Bd.returns] at h; cases h)
      refine ⟨_, _, k0 _ ?_, hrun, hended, _, _, rfl, ?_, ⟨_, rfl⟩, hW, hsame.mono (by decide) (by decide)⟩
      · show OwnS p e below s₁ (mkF m 0 #[rv r0, rv r1, .unset] []) _
        refine XS.aloadN X0.here hx rfl (hb hby d15_0) rfl rfl ?_
        refine X0.arraylength hx (by rw [e0]; exact Ar_z35.1) (State.isArrayOf_alike hZ.alike Ar_z35.2.1) (g := (mkF m 1 #[rv r0, rv r1, .unset] [(.ref r0)])) rfl rfl (hb hby d15_1) _ ?_
        rw [len_of S_z35 N_z35]
        refine XS.aloadN X0.here hx rfl (hb hby d15_2) rfl rfl ?_
        refine X0.arraylength hx (by rw [e0]; exact Ar_z36.1) (State.isArrayOf_alike hZ.alike Ar_z36.2.1) (g := (mkF m 3 #[rv r0, rv r1, .unset] [(.ref r1), (.int 3)])) rfl rfl (hb hby d15_3) _ ?_
        rw [len_of S_z36 N_z36]
        refine XS.icmpYes X0.here hx rfl (pc0 := 4) (pc' := 34) rfl (hb hby d15_4) rfl (feq (by decide : ¬ ((3 : Int32) = (2 : Int32)))).2 (by decide) (by decide) ?_
        refine XS.iconst X0.here hx rfl (hb hby d15_34) ?_
        exact retN X0 hx (t := .boolean) Bd.returns (by simp) (hb hby d15_35) hr
      · show Q_E_ne Z _ _ _ _ _ _ _ _ h0 n0 _ s₁.heap _
        rw [e0]
        exact ⟨rfl, N0, rfl⟩
    · skip
      obtain ⟨cl_z37, Ar_z37, q_z37, S_z37, N_z37, H_z37, G_z37⟩ := id V_r0
      obtain ⟨cl_z38, Ar_z38, q_z38, S_z38, N_z38, H_z38, G_z38⟩ := id V_r1
      have hin39 : ¬ ((0 : Int32) < 0 ∨ cl_z37.slots.size ≤ ((0 : Int32)).toNatClampNeg) := inb_of S_z37 ⟨by decide, by decide⟩
      have hin40 : ¬ ((0 : Int32) < 0 ∨ cl_z38.slots.size ≤ ((0 : Int32)).toNatClampNeg) := inb_of S_z38 ⟨by decide, by decide⟩
      have k42 : ∀ t, OwnS p e below s₁ (mkF m 21 #[rv r0, rv r1, iv 0] [(.int y0), (.int x0)]) t → OwnS p e below s₁ (entryFrame m #[(.ref r0), (.ref r1)] 3) t := fun t q => by
        refine k0 t ?_
        show OwnS p e below s₁ (mkF m 0 #[rv r0, rv r1, .unset] []) _
        refine XS.aloadN X0.here hx rfl (hb hby d15_0) rfl rfl ?_
        refine X0.arraylength hx (by rw [e0]; exact Ar_z37.1) (State.isArrayOf_alike hZ.alike Ar_z37.2.1) (g := (mkF m 1 #[rv r0, rv r1, .unset] [(.ref r0)])) rfl rfl (hb hby d15_1) _ ?_
        rw [len_of S_z37 N_z37]
        refine XS.aloadN X0.here hx rfl (hb hby d15_2) rfl rfl ?_
        refine X0.arraylength hx (by rw [e0]; exact Ar_z38.1) (State.isArrayOf_alike hZ.alike Ar_z38.2.1) (g := (mkF m 3 #[rv r0, rv r1, .unset] [(.ref r1), (.int 3)])) rfl rfl (hb hby d15_3) _ ?_
        rw [len_of S_z38 N_z38]
        refine XS.icmpNo X0.here hx rfl (hb hby d15_4) rfl (teq (by decide : (3 : Int32) = (3 : Int32))).2 ?_
        refine XS.iconst X0.here hx rfl (hb hby d15_7) ?_
        refine XS.istoreN X0.here hx rfl (hb hby d15_8) rfl (l' := #[rv r0, rv r1, iv 0]) rfl ?_
        refine XS.iloadN X0.here hx rfl (hb hby d15_9) rfl ?_
        refine XS.aloadN X0.here hx rfl (hb hby d15_10) rfl rfl ?_
        refine X0.arraylength hx (by rw [e0]; exact Ar_z37.1) (State.isArrayOf_alike hZ.alike Ar_z37.2.1) (g := (mkF m 11 #[rv r0, rv r1, iv 0] [(.ref r0), (.int 0)])) rfl rfl (hb hby d15_11) _ ?_
        rw [len_of S_z37 N_z37]
        refine XS.icmpNo X0.here hx rfl (hb hby d15_12) rfl (tlt (by decide : (0 : Int32) < (3 : Int32))).2.1 ?_
        refine XS.aloadN X0.here hx rfl (hb hby d15_15) rfl rfl ?_
        refine XS.iloadN X0.here hx rfl (hb hby d15_16) rfl ?_
        refine X0.baloadBytes hx (j := (0 : Int32)) (v := (.int x0)) (by rw [e0]; exact Ar_z37.1) (State.isArrayOf_alike hZ.alike Ar_z37.2.1) Ar_z37.2.2 hin39 (Has.at H_z37 hin39 rfl) (g := (mkF m 17 #[rv r0, rv r1, iv 0] [(.int 0), (.ref r0)])) rfl rfl (hb hby d15_17) _ ?_
        refine XS.aloadN X0.here hx rfl (hb hby d15_18) rfl rfl ?_
        refine XS.iloadN X0.here hx rfl (hb hby d15_19) rfl ?_
        refine X0.baloadBytes hx (j := (0 : Int32)) (v := (.int y0)) (by rw [e0]; exact Ar_z38.1) (State.isArrayOf_alike hZ.alike Ar_z38.2.1) Ar_z38.2.2 hin40 (Has.at H_z38 hin40 rfl) (g := (mkF m 20 #[rv r0, rv r1, iv 0] [(.int 0), (.ref r1), (.int x0)])) rfl rfl (hb hby d15_20) _ ?_
        exact q
      by_cases hc21_41 : x0 = y0
      · have hin43 : ¬ ((1 : Int32) < 0 ∨ cl_z37.slots.size ≤ ((1 : Int32)).toNatClampNeg) := inb_of S_z37 ⟨by decide, by decide⟩
        have hin44 : ¬ ((1 : Int32) < 0 ∨ cl_z38.slots.size ≤ ((1 : Int32)).toNatClampNeg) := inb_of S_z38 ⟨by decide, by decide⟩
        have k46 : ∀ t, OwnS p e below s₁ (mkF m 21 #[rv r0, rv r1, iv ((0 : Int32) + (1 : Int32))] [(.int y1), (.int x1)]) t → OwnS p e below s₁ (entryFrame m #[(.ref r0), (.ref r1)] 3) t := fun t q => by
          refine k42 t ?_
          refine XS.icmpYes X0.here hx rfl (pc0 := 21) (pc' := 26) rfl (hb hby d15_21) rfl (teq hc21_41).1 (by decide) (by decide) ?_
          refine XS.iinc X0.here hx rfl (hb hby d15_26) rfl (l' := #[rv r0, rv r1, iv ((0 : Int32) + (1 : Int32))]) rfl ?_
          refine XS.goto X0.here hx rfl (pc0 := 29) (pc' := 9) rfl (hb hby d15_29) (by decide) (by decide) ?_
          refine XS.iloadN X0.here hx rfl (hb hby d15_9) rfl ?_
          refine XS.aloadN X0.here hx rfl (hb hby d15_10) rfl rfl ?_
          refine X0.arraylength hx (by rw [e0]; exact Ar_z37.1) (State.isArrayOf_alike hZ.alike Ar_z37.2.1) (g := (mkF m 11 #[rv r0, rv r1, iv ((0 : Int32) + (1 : Int32))] [(.ref r0), (.int 1)])) rfl rfl (hb hby d15_11) _ ?_
          rw [len_of S_z37 N_z37]
          refine XS.icmpNo X0.here hx rfl (hb hby d15_12) rfl (tlt (by decide : (1 : Int32) < (3 : Int32))).2.1 ?_
          refine XS.aloadN X0.here hx rfl (hb hby d15_15) rfl rfl ?_
          refine XS.iloadN X0.here hx rfl (hb hby d15_16) rfl ?_
          refine X0.baloadBytes hx (j := (1 : Int32)) (v := (.int x1)) (by rw [e0]; exact Ar_z37.1) (State.isArrayOf_alike hZ.alike Ar_z37.2.1) Ar_z37.2.2 hin43 (Has.at H_z37 hin43 rfl) (g := (mkF m 17 #[rv r0, rv r1, iv ((0 : Int32) + (1 : Int32))] [(.int 1), (.ref r0)])) rfl rfl (hb hby d15_17) _ ?_
          refine XS.aloadN X0.here hx rfl (hb hby d15_18) rfl rfl ?_
          refine XS.iloadN X0.here hx rfl (hb hby d15_19) rfl ?_
          refine X0.baloadBytes hx (j := (1 : Int32)) (v := (.int y1)) (by rw [e0]; exact Ar_z38.1) (State.isArrayOf_alike hZ.alike Ar_z38.2.1) Ar_z38.2.2 hin44 (Has.at H_z38 hin44 rfl) (g := (mkF m 20 #[rv r0, rv r1, iv ((0 : Int32) + (1 : Int32))] [(.int 1), (.ref r1), (.int x1)])) rfl rfl (hb hby d15_20) _ ?_
          exact q
        by_cases hc21_45 : x1 = y1
        · have hin47 : ¬ ((2 : Int32) < 0 ∨ cl_z37.slots.size ≤ ((2 : Int32)).toNatClampNeg) := inb_of S_z37 ⟨by decide, by decide⟩
          have hin48 : ¬ ((2 : Int32) < 0 ∨ cl_z38.slots.size ≤ ((2 : Int32)).toNatClampNeg) := inb_of S_z38 ⟨by decide, by decide⟩
          obtain ⟨fs, hr, hrun, hended, hW, hsame⟩ := X0.leave (v := some (.int 0)) (fun h => by rw [Bd.returns] at h; cases h)
          refine ⟨_, _, k46 _ ?_, hrun, hended, _, _, rfl, ?_, ⟨_, rfl⟩, hW, hsame.mono (by decide) (by decide)⟩
          · refine XS.icmpYes X0.here hx rfl (pc0 := 21) (pc' := 26) rfl (hb hby d15_21) rfl (teq hc21_45).1 (by decide) (by decide) ?_
            refine XS.iinc X0.here hx rfl (hb hby d15_26) rfl (l' := #[rv r0, rv r1, iv (((0 : Int32) + (1 : Int32)) + (1 : Int32))]) rfl ?_
            refine XS.goto X0.here hx rfl (pc0 := 29) (pc' := 9) rfl (hb hby d15_29) (by decide) (by decide) ?_
            refine XS.iloadN X0.here hx rfl (hb hby d15_9) rfl ?_
            refine XS.aloadN X0.here hx rfl (hb hby d15_10) rfl rfl ?_
            refine X0.arraylength hx (by rw [e0]; exact Ar_z37.1) (State.isArrayOf_alike hZ.alike Ar_z37.2.1) (g := (mkF m 11 #[rv r0, rv r1, iv (((0 : Int32) + (1 : Int32)) + (1 : Int32))] [(.ref r0), (.int 2)])) rfl rfl (hb hby d15_11) _ ?_
            rw [len_of S_z37 N_z37]
            refine XS.icmpNo X0.here hx rfl (hb hby d15_12) rfl (tlt (by decide : (2 : Int32) < (3 : Int32))).2.1 ?_
            refine XS.aloadN X0.here hx rfl (hb hby d15_15) rfl rfl ?_
            refine XS.iloadN X0.here hx rfl (hb hby d15_16) rfl ?_
            refine X0.baloadBytes hx (j := (2 : Int32)) (v := (.int x2)) (by rw [e0]; exact Ar_z37.1) (State.isArrayOf_alike hZ.alike Ar_z37.2.1) Ar_z37.2.2 hin47 (Has.at H_z37 hin47 rfl) (g := (mkF m 17 #[rv r0, rv r1, iv (((0 : Int32) + (1 : Int32)) + (1 : Int32))] [(.int 2), (.ref r0)])) rfl rfl (hb hby d15_17) _ ?_
            refine XS.aloadN X0.here hx rfl (hb hby d15_18) rfl rfl ?_
            refine XS.iloadN X0.here hx rfl (hb hby d15_19) rfl ?_
            refine X0.baloadBytes hx (j := (2 : Int32)) (v := (.int y2)) (by rw [e0]; exact Ar_z38.1) (State.isArrayOf_alike hZ.alike Ar_z38.2.1) Ar_z38.2.2 hin48 (Has.at H_z38 hin48 rfl) (g := (mkF m 20 #[rv r0, rv r1, iv (((0 : Int32) + (1 : Int32)) + (1 : Int32))] [(.int 2), (.ref r1), (.int x2)])) rfl rfl (hb hby d15_20) _ ?_
            refine XS.icmpNo X0.here hx rfl (hb hby d15_21) rfl (feq (fun q => hne (by rw [hc21_41, hc21_45, q]))).1 ?_
            refine XS.iconst X0.here hx rfl (hb hby d15_24) ?_
            exact retN X0 hx (t := .boolean) Bd.returns (by simp) (hb hby d15_25) hr
          · show Q_E_ne Z _ _ _ _ _ _ _ _ h0 n0 _ s₁.heap _
            rw [e0]
            exact ⟨rfl, N0, rfl⟩
        · obtain ⟨fs, hr, hrun, hended, hW, hsame⟩ := X0.leave (v := some (.int 0)) (fun h => by rw [Bd.returns] at h; cases h)
          refine ⟨_, _, k46 _ ?_, hrun, hended, _, _, rfl, ?_, ⟨_, rfl⟩, hW, hsame.mono (by decide) (by decide)⟩
          · refine XS.icmpNo X0.here hx rfl (hb hby d15_21) rfl (feq hc21_45).1 ?_
            refine XS.iconst X0.here hx rfl (hb hby d15_24) ?_
            exact retN X0 hx (t := .boolean) Bd.returns (by simp) (hb hby d15_25) hr
          · show Q_E_ne Z _ _ _ _ _ _ _ _ h0 n0 _ s₁.heap _
            rw [e0]
            exact ⟨rfl, N0, rfl⟩
      · obtain ⟨fs, hr, hrun, hended, hW, hsame⟩ := X0.leave (v := some (.int 0)) (fun h => by rw [Bd.returns] at h; cases h)
        refine ⟨_, _, k42 _ ?_, hrun, hended, _, _, rfl, ?_, ⟨_, rfl⟩, hW, hsame.mono (by decide) (by decide)⟩
        · refine XS.icmpNo X0.here hx rfl (hb hby d15_21) rfl (feq hc21_41).1 ?_
          refine XS.iconst X0.here hx rfl (hb hby d15_24) ?_
          exact retN X0 hx (t := .boolean) Bd.returns (by simp) (hb hby d15_25) hr
        · show Q_E_ne Z _ _ _ _ _ _ _ _ h0 n0 _ s₁.heap _
          rw [e0]
          exact ⟨rfl, N0, rfl⟩
theorem d12_0 : decode jdk_42_method_66_code 0 = .ok (.aload_n 0, 1) := by decide +kernel
theorem d12_1 : decode jdk_42_method_66_code 1 = .ok (.aload_n 1, 1) := by decide +kernel
theorem d12_2 : decode jdk_42_method_66_code 2 = .ok (.if_acmp .ne 5, 3) := by decide +kernel
theorem d12_5 : decode jdk_42_method_66_code 5 = .ok (.iconst 1, 1) := by decide +kernel
theorem d12_6 : decode jdk_42_method_66_code 6 = .ok (.ireturn, 1) := by decide +kernel
theorem ef_12 (m : MethodId) (x0 : Addr) (x1 : Addr) : entryFrame m #[(.ref x0), (.ref x1)] 3 = mkF m 0 #[.val (.ref x0), .val (.ref x1), .unset] [] := by first | (simp [entryFrame, mkF, argsToLocals, Value.category]; done) | rfl
def Q_S_same (Z : State) (r0 : Addr) (h0 : Heap) (n0 : Nat) (v : Option Value) (h : Heap) (L : List Loc) : Prop := v = some (.int 1) ∧ Fr n0 L ∧ h = h0
set_option maxRecDepth 65536 in
set_option maxHeartbeats 40000000 in
theorem rmS_same (l : Launch) (Z : State) (a0 : Array Value) (hw : ∀ d ∈ tables_1, d.before a0 Z = true) (ws : List Jvm.Cond) (r0 : Addr) (h0 : Heap) (n0 : Nat) (Z0 : n0 ≤ h0.size) :
    MetFree l (⟨cS1, "equals", cS2⟩ : MethodName) (head1 (Jvm.Cond.code (⟨cS1, "equals", cS2⟩ : MethodName) jdk_42_method_66_code 3 (some .boolean) :: ws) ({ frames := 0, cells := 0, slots := 0, locals := 0 } : Room)) (fun a U => a = #[(.ref r0), (.ref r0)] ∧ Z.Warmed39 U.vm ∧ U.heap = h0) (fun _ _ _ _ _ => True) (fun _ U o U' => ∃ v L, o = .returned v ∧ Q_S_same Z r0 h0 n0 v U'.heap L ∧ FrameEnd U o U' L ({ frames := 0, cells := 0, slots := 0, locals := 0 } : Room).cells ({ frames := 0, cells := 0, slots := 0, locals := 0 } : Room).slots) := by
  refine MetFree.of_bodySF (plainFor_of_name pn_java_lang_String) hisR ?_
  intro p e s m args below meth c s₁ Bd hml0 hP hK
  obtain ⟨rfl, hZ, hh⟩ := hP
  have hx := Bd.exec
  have hby := Bd.bytes
  have hml : c.maxLocals = 3 := hml0
  have hown : s.vm.findClass cS1 = some m.cls := findClass_of_methodNamed Bd.named
  have hnm := (name_of_methodNamed Bd.named Bd.method).1
  have X0 : Stand p l e ({ frames := 0, cells := 0, slots := 0, locals := 0 } : Room) s m #[(.ref r0), (.ref r0)] below meth c s₁ [] 0 0 := Stand.of_body Bd
  have e0 : s₁.heap = h0 := by rw [← hh, Bd.state]; rfl
  have N0 := Fr.nil n0
  have k0 : ∀ t, OwnS p e below s₁ (mkF m 0 #[rv r0, rv r0, .unset] []) t → OwnS p e below s₁ (entryFrame m #[(.ref r0), (.ref r0)] 3) t := fun t k => castTop (ef_12 m r0 r0) k
  obtain ⟨fs, hr, hrun, hended, hW, hsame⟩ := X0.leave (v := some (.int 1)) (fun h => by rw [Bd.returns] at h; cases h)
  refine ⟨_, _, k0 _ ?_, hrun, hended, _, _, rfl, ?_, ⟨_, rfl⟩, hW, hsame.mono (by decide) (by decide)⟩
  · show OwnS p e below s₁ (mkF m 0 #[rv r0, rv r0, .unset] []) _
    refine XS.aloadN X0.here hx rfl (hb hby d12_0) rfl rfl ?_
    refine XS.aloadN X0.here hx rfl (hb hby d12_1) rfl rfl ?_
    refine Jvm.RoadKit.acmp (g := (mkF m 2 #[rv r0, rv r0, .unset] [(.ref r0), (.ref r0)])) X0 hx rfl rfl rfl (pc0 := 2) (pc' := 5) (same := true) rfl (hb hby d12_2) rfl (decide_eq_true rfl) (by decide) (by decide) ?_
    refine XS.iconst X0.here hx rfl (hb hby d12_5) ?_
    exact retN X0 hx (t := .boolean) Bd.returns (by simp) (hb hby d12_6) hr
  · show Q_S_same Z _ h0 n0 _ s₁.heap _
    rw [e0]
    exact ⟨rfl, N0, rfl⟩
theorem pd_5 : parseMethodDescriptor "([B[B)Z" = some ⟨[(.array .byte), (.array .byte)], some .boolean⟩ := by decide +kernel
theorem d12_7 : decode jdk_42_method_66_code 7 = .ok (.aload_n 1, 1) := by decide +kernel
theorem d12_8 : decode jdk_42_method_66_code 8 = .ok (.instanceof 10, 3) := by decide +kernel
theorem d12_11 : decode jdk_42_method_66_code 11 = .ok (.ifCond .eq 43, 3) := by decide +kernel
theorem d12_14 : decode jdk_42_method_66_code 14 = .ok (.aload_n 1, 1) := by decide +kernel
theorem d12_15 : decode jdk_42_method_66_code 15 = .ok (.checkcast 10, 3) := by decide +kernel
theorem d12_18 : decode jdk_42_method_66_code 18 = .ok (.astore_n 2, 1) := by decide +kernel
theorem d12_19 : decode jdk_42_method_66_code 19 = .ok (.getstatic 38, 3) := by decide +kernel
theorem d12_22 : decode jdk_42_method_66_code 22 = .ok (.ifCond .eq 14, 3) := by decide +kernel
theorem d12_25 : decode jdk_42_method_66_code 25 = .ok (.aload_n 0, 1) := by decide +kernel
theorem d12_26 : decode jdk_42_method_66_code 26 = .ok (.getfield 15, 3) := by decide +kernel
theorem d12_29 : decode jdk_42_method_66_code 29 = .ok (.aload_n 2, 1) := by decide +kernel
theorem d12_30 : decode jdk_42_method_66_code 30 = .ok (.getfield 15, 3) := by decide +kernel
theorem d12_33 : decode jdk_42_method_66_code 33 = .ok (.if_icmp .ne 21, 3) := by decide +kernel
theorem d12_36 : decode jdk_42_method_66_code 36 = .ok (.aload_n 0, 1) := by decide +kernel
theorem d12_37 : decode jdk_42_method_66_code 37 = .ok (.getfield 9, 3) := by decide +kernel
theorem d12_40 : decode jdk_42_method_66_code 40 = .ok (.aload_n 2, 1) := by decide +kernel
theorem d12_41 : decode jdk_42_method_66_code 41 = .ok (.getfield 9, 3) := by decide +kernel
theorem d12_44 : decode jdk_42_method_66_code 44 = .ok (.invokestatic 541, 3) := by decide +kernel
theorem d12_47 : decode jdk_42_method_66_code 47 = .ok (.ifCond .eq 7, 3) := by decide +kernel
theorem d12_50 : decode jdk_42_method_66_code 50 = .ok (.iconst 1, 1) := by decide +kernel
theorem d12_51 : decode jdk_42_method_66_code 51 = .ok (.goto 4, 3) := by decide +kernel
theorem d12_55 : decode jdk_42_method_66_code 55 = .ok (.ireturn, 1) := by decide +kernel
def Q_S_eq (Z : State) (r0 : Addr) (r1 : Addr) (w_CS : Int32) (va : Addr) (kA : ClassId) (vb : Addr) (kB : ClassId) (z : Int32) (La : List Value) (h0 : Heap) (n0 : Nat) (v : Option Value) (h : Heap) (L : List Loc) : Prop := v = some (.int 1) ∧ Fr n0 L ∧ h = h0
set_option maxRecDepth 65536 in
set_option maxHeartbeats 40000000 in
theorem rmS_eq (l : Launch) (Z : State) (a0 : Array Value) (hw : ∀ d ∈ tables_1, d.before a0 Z = true) (ws : List Jvm.Cond) (r0 : Addr) (r1 : Addr) (w_CS : Int32) (va : Addr) (kA : ClassId) (vb : Addr) (kB : ClassId) (z : Int32) (La : List Value) (h0 : Heap) (n0 : Nat) (Z0 : n0 ≤ h0.size) (S_CS : Sta Z h0 cS1 "COMPACT_STRINGS" "Z" (.int w_CS)) (hcs : ¬ (w_CS = (0 : Int32))) (E_r0 : Exa Z h0 r0 cS1) (F_coder_r0 : Fld Z h0 r0 cS1 "coder" "B" (.int 0)) (F_value_r0 : Fld Z h0 r0 cS1 "value" "[B" (.ref va)) (V_va : Arv Z h0 va kA .byte z La (.int 0)) (E_r1 : Exa Z h0 r1 cS1) (F_coder_r1 : Fld Z h0 r1 cS1 "coder" "B" (.int 0)) (F_value_r1 : Fld Z h0 r1 cS1 "value" "[B" (.ref vb)) (V_vb : Arv Z h0 vb kB .byte z La (.int 0)) (hrne : ¬ (r0 = r1)) (h_small : own_small z La) :
    MetFree l (⟨cS1, "equals", cS2⟩ : MethodName) (head1 (Jvm.Cond.code (⟨cS1, "equals", cS2⟩ : MethodName) jdk_42_method_66_code 3 (some .boolean) :: ws) ({ frames := 1, cells := 0, slots := 0, locals := 14 } : Room)) (fun a U => a = #[(.ref r0), (.ref r1)] ∧ Z.Warmed39 U.vm ∧ U.heap = h0) (fun _ _ _ _ _ => True) (fun _ U o U' => ∃ v L, o = .returned v ∧ Q_S_eq Z r0 r1 w_CS va kA vb kB z La h0 n0 v U'.heap L ∧ FrameEnd U o U' L ({ frames := 1, cells := 0, slots := 0, locals := 14 } : Room).cells ({ frames := 1, cells := 0, slots := 0, locals := 14 } : Room).slots) := by
  refine MetFree.of_bodySF (plainFor_of_name pn_java_lang_String) hisR ?_
  intro p e s m args below meth c s₁ Bd hml0 hP hK
  obtain ⟨rfl, hZ, hh⟩ := hP
  have hx := Bd.exec
  have hby := Bd.bytes
  have hml : c.maxLocals = 3 := hml0
  have hown : s.vm.findClass cS1 = some m.cls := findClass_of_methodNamed Bd.named
  have hnm := (name_of_methodNamed Bd.named Bd.method).1
  have X0 : Stand p l e ({ frames := 1, cells := 0, slots := 0, locals := 14 } : Room) s m #[(.ref r0), (.ref r1)] below meth c s₁ [] 0 0 := Stand.of_body Bd
  have e0 : s₁.heap = h0 := by rw [← hh, Bd.state]; rfl
  have N0 := Fr.nil n0
  have k0 : ∀ t, OwnS p e below s₁ (mkF m 0 #[rv r0, rv r1, .unset] []) t → OwnS p e below s₁ (entryFrame m #[(.ref r0), (.ref r1)] 3) t := fun t k => castTop (ef_12 m r0 r1) k
  obtain ⟨T1, X1, e1, st1⟩ := instY X0 hx hZ hown (own_at hw 78 rfl) e0 (Ins.self E_r1) (g := (mkF m 8 #[rv r0, rv r1, .unset] [(.ref r1)])) rfl rfl (hb hby d12_8)
  obtain ⟨T2, X2, e2, st2⟩ := castY X1 hx hZ hown (own_at hw 78 rfl) e1 (Ins.self E_r1) (g := (mkF m 15 #[rv r0, rv r1, .unset] [(.ref r1)])) rfl rfl (hb hby d12_15)
  obtain ⟨T3, X3, e3, st3⟩ := getS2 X2 hx hZ hown (host := "") (Or.inl (own_at hw 18 rfl)) Via.refl e2 S_CS (g := (mkF m 19 #[rv r0, rv r1, rv r1] [])) rfl (hb hby d12_19)
  obtain ⟨T4, X4, e4, st4⟩ := getF X3 hx hZ hown (host := "") (Or.inl (own_at hw 30 rfl)) Via.refl e3 F_coder_r0 (g := (mkF m 26 #[rv r0, rv r1, rv r1] [(.ref r0)])) rfl rfl (hb hby d12_26)
  obtain ⟨T5, X5, e5, st5⟩ := getF X4 hx hZ hown (host := "") (Or.inl (own_at hw 30 rfl)) Via.refl e4 F_coder_r1 (g := (mkF m 30 #[rv r0, rv r1, rv r1] [(.ref r1), (.int 0)])) rfl rfl (hb hby d12_30)
  obtain ⟨T6, X6, e6, st6⟩ := getF X5 hx hZ hown (host := "") (Or.inl (own_at hw 32 rfl)) Via.refl e5 F_value_r0 (g := (mkF m 37 #[rv r0, rv r1, rv r1] [(.ref r0)])) rfl rfl (hb hby d12_37)
  obtain ⟨T7, X7, e7, st7⟩ := getF X6 hx hZ hown (host := "") (Or.inl (own_at hw 32 rfl)) Via.refl e6 F_value_r1 (g := (mkF m 41 #[rv r0, rv r1, rv r1] [(.ref r1), (.ref va)])) rfl rfl (hb hby d12_41)
  obtain ⟨_, _, ⟨T8, L8, j8, i8⟩, -, X8, ⟨Lc8, hQ8, l8, y8, z8⟩, st8⟩ := Jvm.LawKit.callS X7 hx (y := (⟨"java/lang/StringLatin1", "equals", "([B[B)Z"⟩ : MethodName)) hown (mvT hZ (own_at hw 79 rfl)) (mvT hZ (own_at hw 80 rfl)) (mvT hZ (own_at hw 81 rfl)) (mvT hZ (own_at hw 82 rfl)) (by decide) (backOf (W := 0) (rmE_eq l Z a0 hw [] va vb kA kB z La h0 n0 Z0 V_va V_vb h_small) hZ (own_at hw 82 rfl) (own_at hw 81 rfl) (by decide) (by decide)) (g := (mkF m 44 #[rv r0, rv r1, rv r1] [(.ref vb), (.ref va)])) rfl (by rw [hml]; rfl) (argsL := [(.ref va), (.ref vb)]) (rest := []) (lenOf pd_5 rfl) rfl (Nat.le_refl _) (hb hby d12_44) (fun _ _ => ⟨rfl, e7, (by decide : 0 + 0 ≤ _), (by decide : 0 + 0 ≤ _)⟩)
  dsimp only [Pt.U, Pt.locs, Pt.cells, Pt.slots] at X8 l8 y8 z8 st8 hQ8
  subst l8 y8 z8
  obtain ⟨rfl, N8q, e8⟩ := hQ8
  have N8 := Fr.app N0 N8q
  obtain ⟨fs, hr, hrun, hended, hW, hsame⟩ := X8.leave (v := some (.int 1)) (fun h => by rw [Bd.returns] at h; cases h)
  refine ⟨_, _, k0 _ ?_, hrun, hended, _, _, rfl, ?_, ⟨_, rfl⟩, hW, hsame.mono (by decide) (by decide)⟩
  · show OwnS p e below s₁ (mkF m 0 #[rv r0, rv r1, .unset] []) _
    refine XS.aloadN X0.here hx rfl (hb hby d12_0) rfl rfl ?_
    refine XS.aloadN X0.here hx rfl (hb hby d12_1) rfl rfl ?_
    refine Jvm.RoadKit.acmp (g := (mkF m 2 #[rv r0, rv r1, .unset] [(.ref r1), (.ref r0)])) X0 hx rfl rfl rfl (pc0 := 2) (pc' := 7) (same := false) rfl (hb hby d12_2) rfl (decide_eq_false fun q => hrne (Value.ref.inj q)) (by decide) (by decide) ?_
    refine XS.aloadN X0.here hx rfl (hb hby d12_7) rfl rfl ?_
    refine st1 _ ?_
    refine XS.ifNo X1.here hx rfl (hb hby d12_11) rfl ((if0 _ _).trans (feq (by decide : ¬ ((1 : Int32) = (0 : Int32)))).1) ?_
    refine XS.aloadN X1.here hx rfl (hb hby d12_14) rfl rfl ?_
    refine st2 _ ?_
    refine XS.astoreN X2.here hx rfl (hb hby d12_18) rfl rfl (l' := #[rv r0, rv r1, rv r1]) rfl ?_
    refine st3 _ ?_
    refine XS.ifNo X3.here hx rfl (hb hby d12_22) rfl ((if0 _ _).trans (feq hcs).1) ?_
    refine XS.aloadN X3.here hx rfl (hb hby d12_25) rfl rfl ?_
    refine st4 _ ?_
    refine XS.aloadN X4.here hx rfl (hb hby d12_29) rfl rfl ?_
    refine st5 _ ?_
    refine XS.icmpNo X5.here hx rfl (hb hby d12_33) rfl (teq (by decide : (0 : Int32) = (0 : Int32))).2 ?_
    refine XS.aloadN X5.here hx rfl (hb hby d12_36) rfl rfl ?_
    refine st6 _ ?_
    refine XS.aloadN X6.here hx rfl (hb hby d12_40) rfl rfl ?_
    refine st7 _ ?_
    refine st8 _ ?_
    refine XS.ifNo X8.here hx rfl (hb hby d12_47) rfl ((if0 _ _).trans (feq (by decide : ¬ ((1 : Int32) = (0 : Int32)))).1) ?_
    refine XS.iconst X8.here hx rfl (hb hby d12_50) ?_
    refine XS.goto X8.here hx rfl (pc0 := 51) (pc' := 55) rfl (hb hby d12_51) (by decide) (by decide) ?_
    exact retN X8 hx (t := .boolean) Bd.returns (by simp) (hb hby d12_55) hr
  · show Q_S_eq Z _ _ _ _ _ _ _ _ _ h0 n0 _ T8.heap _
    rw [e8]
    exact ⟨rfl, N8, rfl⟩
theorem d12_54 : decode jdk_42_method_66_code 54 = .ok (.iconst 0, 1) := by decide +kernel
def Q_S_ne (Z : State) (r0 : Addr) (r1 : Addr) (w_CS : Int32) (va : Addr) (kA : ClassId) (vb : Addr) (kB : ClassId) (z : Int32) (La : List Value) (z2 : Int32) (Lb : List Value) (h0 : Heap) (n0 : Nat) (v : Option Value) (h : Heap) (L : List Loc) : Prop := v = some (.int 0) ∧ Fr n0 L ∧ h = h0
set_option maxRecDepth 65536 in
set_option maxHeartbeats 40000000 in
theorem rmS_ne (l : Launch) (Z : State) (a0 : Array Value) (hw : ∀ d ∈ tables_1, d.before a0 Z = true) (ws : List Jvm.Cond) (r0 : Addr) (r1 : Addr) (w_CS : Int32) (va : Addr) (kA : ClassId) (vb : Addr) (kB : ClassId) (z : Int32) (La : List Value) (z2 : Int32) (Lb : List Value) (h0 : Heap) (n0 : Nat) (Z0 : n0 ≤ h0.size) (S_CS : Sta Z h0 cS1 "COMPACT_STRINGS" "Z" (.int w_CS)) (hcs : ¬ (w_CS = (0 : Int32))) (E_r0 : Exa Z h0 r0 cS1) (F_coder_r0 : Fld Z h0 r0 cS1 "coder" "B" (.int 0)) (F_value_r0 : Fld Z h0 r0 cS1 "value" "[B" (.ref va)) (V_va : Arv Z h0 va kA .byte z La (.int 0)) (E_r1 : Exa Z h0 r1 cS1) (F_coder_r1 : Fld Z h0 r1 cS1 "coder" "B" (.int 0)) (F_value_r1 : Fld Z h0 r1 cS1 "value" "[B" (.ref vb)) (V_vb : Arv Z h0 vb kB .byte z2 Lb (.int 0)) (hrne : ¬ (r0 = r1)) (h_small : own_small z La) (h_small2 : own_small z2 Lb) (hne : ¬ (La = Lb)) :
    MetFree l (⟨cS1, "equals", cS2⟩ : MethodName) (head1 (Jvm.Cond.code (⟨cS1, "equals", cS2⟩ : MethodName) jdk_42_method_66_code 3 (some .boolean) :: ws) ({ frames := 1, cells := 0, slots := 0, locals := 14 } : Room)) (fun a U => a = #[(.ref r0), (.ref r1)] ∧ Z.Warmed39 U.vm ∧ U.heap = h0) (fun _ _ _ _ _ => True) (fun _ U o U' => ∃ v L, o = .returned v ∧ Q_S_ne Z r0 r1 w_CS va kA vb kB z La z2 Lb h0 n0 v U'.heap L ∧ FrameEnd U o U' L ({ frames := 1, cells := 0, slots := 0, locals := 14 } : Room).cells ({ frames := 1, cells := 0, slots := 0, locals := 14 } : Room).slots) := by
  refine MetFree.of_bodySF (plainFor_of_name pn_java_lang_String) hisR ?_
  intro p e s m args below meth c s₁ Bd hml0 hP hK
  obtain ⟨rfl, hZ, hh⟩ := hP
  have hx := Bd.exec
  have hby := Bd.bytes
  have hml : c.maxLocals = 3 := hml0
  have hown : s.vm.findClass cS1 = some m.cls := findClass_of_methodNamed Bd.named
  have hnm := (name_of_methodNamed Bd.named Bd.method).1
  have X0 : Stand p l e ({ frames := 1, cells := 0, slots := 0, locals := 14 } : Room) s m #[(.ref r0), (.ref r1)] below meth c s₁ [] 0 0 := Stand.of_body Bd
  have e0 : s₁.heap = h0 := by rw [← hh, Bd.state]; rfl
  have N0 := Fr.nil n0
  have k0 : ∀ t, OwnS p e below s₁ (mkF m 0 #[rv r0, rv r1, .unset] []) t → OwnS p e below s₁ (entryFrame m #[(.ref r0), (.ref r1)] 3) t := fun t k => castTop (ef_12 m r0 r1) k
  obtain ⟨T1, X1, e1, st1⟩ := instY X0 hx hZ hown (own_at hw 78 rfl) e0 (Ins.self E_r1) (g := (mkF m 8 #[rv r0, rv r1, .unset] [(.ref r1)])) rfl rfl (hb hby d12_8)
  obtain ⟨T2, X2, e2, st2⟩ := castY X1 hx hZ hown (own_at hw 78 rfl) e1 (Ins.self E_r1) (g := (mkF m 15 #[rv r0, rv r1, .unset] [(.ref r1)])) rfl rfl (hb hby d12_15)
  obtain ⟨T3, X3, e3, st3⟩ := getS2 X2 hx hZ hown (host := "") (Or.inl (own_at hw 18 rfl)) Via.refl e2 S_CS (g := (mkF m 19 #[rv r0, rv r1, rv r1] [])) rfl (hb hby d12_19)
  obtain ⟨T4, X4, e4, st4⟩ := getF X3 hx hZ hown (host := "") (Or.inl (own_at hw 30 rfl)) Via.refl e3 F_coder_r0 (g := (mkF m 26 #[rv r0, rv r1, rv r1] [(.ref r0)])) rfl rfl (hb hby d12_26)
  obtain ⟨T5, X5, e5, st5⟩ := getF X4 hx hZ hown (host := "") (Or.inl (own_at hw 30 rfl)) Via.refl e4 F_coder_r1 (g := (mkF m 30 #[rv r0, rv r1, rv r1] [(.ref r1), (.int 0)])) rfl rfl (hb hby d12_30)
  obtain ⟨T6, X6, e6, st6⟩ := getF X5 hx hZ hown (host := "") (Or.inl (own_at hw 32 rfl)) Via.refl e5 F_value_r0 (g := (mkF m 37 #[rv r0, rv r1, rv r1] [(.ref r0)])) rfl rfl (hb hby d12_37)
  obtain ⟨T7, X7, e7, st7⟩ := getF X6 hx hZ hown (host := "") (Or.inl (own_at hw 32 rfl)) Via.refl e6 F_value_r1 (g := (mkF m 41 #[rv r0, rv r1, rv r1] [(.ref r1), (.ref va)])) rfl rfl (hb hby d12_41)
  obtain ⟨_, _, ⟨T8, L8, j8, i8⟩, -, X8, ⟨Lc8, hQ8, l8, y8, z8⟩, st8⟩ := Jvm.LawKit.callS X7 hx (y := (⟨"java/lang/StringLatin1", "equals", "([B[B)Z"⟩ : MethodName)) hown (mvT hZ (own_at hw 79 rfl)) (mvT hZ (own_at hw 80 rfl)) (mvT hZ (own_at hw 81 rfl)) (mvT hZ (own_at hw 82 rfl)) (by decide) (backOf (W := 0) (rmE_ne l Z a0 hw [] va vb kA kB z La z2 Lb h0 n0 Z0 V_va V_vb h_small h_small2 hne) hZ (own_at hw 82 rfl) (own_at hw 81 rfl) (by decide) (by decide)) (g := (mkF m 44 #[rv r0, rv r1, rv r1] [(.ref vb), (.ref va)])) rfl (by rw [hml]; rfl) (argsL := [(.ref va), (.ref vb)]) (rest := []) (lenOf pd_5 rfl) rfl (Nat.le_refl _) (hb hby d12_44) (fun _ _ => ⟨rfl, e7, (by decide : 0 + 0 ≤ _), (by decide : 0 + 0 ≤ _)⟩)
  dsimp only [Pt.U, Pt.locs, Pt.cells, Pt.slots] at X8 l8 y8 z8 st8 hQ8
  subst l8 y8 z8
  obtain ⟨rfl, N8q, e8⟩ := hQ8
  have N8 := Fr.app N0 N8q
  obtain ⟨fs, hr, hrun, hended, hW, hsame⟩ := X8.leave (v := some (.int 0)) (fun h => by rw [Bd.returns] at h; cases h)
  refine ⟨_, _, k0 _ ?_, hrun, hended, _, _, rfl, ?_, ⟨_, rfl⟩, hW, hsame.mono (by decide) (by decide)⟩
  · show OwnS p e below s₁ (mkF m 0 #[rv r0, rv r1, .unset] []) _
    refine XS.aloadN X0.here hx rfl (hb hby d12_0) rfl rfl ?_
    refine XS.aloadN X0.here hx rfl (hb hby d12_1) rfl rfl ?_
    refine Jvm.RoadKit.acmp (g := (mkF m 2 #[rv r0, rv r1, .unset] [(.ref r1), (.ref r0)])) X0 hx rfl rfl rfl (pc0 := 2) (pc' := 7) (same := false) rfl (hb hby d12_2) rfl (decide_eq_false fun q => hrne (Value.ref.inj q)) (by decide) (by decide) ?_
    refine XS.aloadN X0.here hx rfl (hb hby d12_7) rfl rfl ?_
    refine st1 _ ?_
    refine XS.ifNo X1.here hx rfl (hb hby d12_11) rfl ((if0 _ _).trans (feq (by decide : ¬ ((1 : Int32) = (0 : Int32)))).1) ?_
    refine XS.aloadN X1.here hx rfl (hb hby d12_14) rfl rfl ?_
    refine st2 _ ?_
    refine XS.astoreN X2.here hx rfl (hb hby d12_18) rfl rfl (l' := #[rv r0, rv r1, rv r1]) rfl ?_
    refine st3 _ ?_
    refine XS.ifNo X3.here hx rfl (hb hby d12_22) rfl ((if0 _ _).trans (feq hcs).1) ?_
    refine XS.aloadN X3.here hx rfl (hb hby d12_25) rfl rfl ?_
    refine st4 _ ?_
    refine XS.aloadN X4.here hx rfl (hb hby d12_29) rfl rfl ?_
    refine st5 _ ?_
    refine XS.icmpNo X5.here hx rfl (hb hby d12_33) rfl (teq (by decide : (0 : Int32) = (0 : Int32))).2 ?_
    refine XS.aloadN X5.here hx rfl (hb hby d12_36) rfl rfl ?_
    refine st6 _ ?_
    refine XS.aloadN X6.here hx rfl (hb hby d12_40) rfl rfl ?_
    refine st7 _ ?_
    refine st8 _ ?_
    refine XS.ifYes X8.here hx rfl (pc0 := 47) (pc' := 54) rfl (hb hby d12_47) rfl ((if0 _ _).trans (teq (by decide : (0 : Int32) = (0 : Int32))).1) (by decide) (by decide) ?_
    refine XS.iconst X8.here hx rfl (hb hby d12_54) ?_
    exact retN X8 hx (t := .boolean) Bd.returns (by simp) (hb hby d12_55) hr
  · show Q_S_ne Z _ _ _ _ _ _ _ _ _ _ _ h0 n0 _ T8.heap _
    rw [e8]
    exact ⟨rfl, N8, rfl⟩
theorem d10_0 : decode prog_8_method_1_code 0 = .ok (.aload_n 0, 1) := by decide +kernel
theorem d10_1 : decode prog_8_method_1_code 1 = .ok (.invokespecial 1, 3) := by decide +kernel
theorem d10_4 : decode prog_8_method_1_code 4 = .ok (.aload_n 0, 1) := by decide +kernel
theorem d10_5 : decode prog_8_method_1_code 5 = .ok (.aload_n 1, 1) := by decide +kernel
theorem d10_6 : decode prog_8_method_1_code 6 = .ok (.putfield 7, 3) := by decide +kernel
theorem d10_9 : decode prog_8_method_1_code 9 = .ok (.aload_n 0, 1) := by decide +kernel
theorem d10_10 : decode prog_8_method_1_code 10 = .ok (.iload_n 2, 1) := by decide +kernel
theorem d10_11 : decode prog_8_method_1_code 11 = .ok (.putfield 13, 3) := by decide +kernel
theorem d10_14 : decode prog_8_method_1_code 14 = .ok (.return_, 1) := by decide +kernel
theorem pn_com_example_tablox_tablox_concept_Role : plainName cS0 = true := by first | (simp [plainName, overriddenIn]; done) | decide +kernel
theorem ef_10 (m : MethodId) (x0 : Addr) (x1 : Addr) (x2 : Int32) : entryFrame m #[(.ref x0), (.ref x1), (.int x2)] 3 = mkF m 0 #[.val (.ref x0), .val (.ref x1), .val (.int x2)] [] := by first | (simp [entryFrame, mkF, argsToLocals, Value.category]; done) | rfl
def Q_I_0 (Z : State) (r0 : Addr) (r1 : Addr) (u_name_r0 : Value) (u_inverse_r0 : Value) (h0 : Heap) (n0 : Nat) (v : Option Value) (h : Heap) (L : List Loc) : Prop := v = none ∧ Fr n0 L ∧ Keep h0 h [r0] ∧ Exa Z h r0 cS0 ∧ Fld Z h r0 cS0 "name" cS6 (.ref r1) ∧ Fld Z h r0 cS0 "inverse" "Z" (.int 0)
set_option maxRecDepth 65536 in
set_option maxHeartbeats 40000000 in
theorem rmI_0 (l : Launch) (Z : State) (a0 : Array Value) (hw : ∀ d ∈ tables_1, d.before a0 Z = true) (ws : List Jvm.Cond) (r0 : Addr) (r1 : Addr) (u_name_r0 : Value) (u_inverse_r0 : Value) (h0 : Heap) (n0 : Nat) (Z0 : n0 ≤ h0.size) (E_r0 : Exa Z h0 r0 cS0) (F_name_r0 : Fld Z h0 r0 cS0 "name" cS6 u_name_r0) (ge_r0 : n0 ≤ r0) (F_inverse_r0 : Fld Z h0 r0 cS0 "inverse" "Z" u_inverse_r0) :
    MetFree l (⟨cS0, "<init>", "(Ljava/lang/String;Z)V"⟩ : MethodName) (head1 (Jvm.Cond.code (⟨cS0, "<init>", "(Ljava/lang/String;Z)V"⟩ : MethodName) prog_8_method_1_code 3 none :: ws) ({ frames := 1, cells := 0, slots := 0, locals := 12 } : Room)) (fun a U => a = #[(.ref r0), (.ref r1), (.int 0)] ∧ Z.Warmed39 U.vm ∧ U.heap = h0) (fun _ _ _ _ _ => True) (fun _ U o U' => ∃ v L, o = .returned v ∧ Q_I_0 Z r0 r1 u_name_r0 u_inverse_r0 h0 n0 v U'.heap L ∧ FrameEnd U o U' L ({ frames := 1, cells := 0, slots := 0, locals := 12 } : Room).cells ({ frames := 1, cells := 0, slots := 0, locals := 12 } : Room).slots) := by
  refine MetFree.of_bodySF (plainFor_of_name pn_com_example_tablox_tablox_concept_Role) hisR ?_
  intro p e s m args below meth c s₁ Bd hml0 hP hK
  obtain ⟨rfl, hZ, hh⟩ := hP
  have hx := Bd.exec
  have hby := Bd.bytes
  have hml : c.maxLocals = 3 := hml0
  have hown : s.vm.findClass cS0 = some m.cls := findClass_of_methodNamed Bd.named
  have hnm := (name_of_methodNamed Bd.named Bd.method).1
  have X0 : Stand p l e ({ frames := 1, cells := 0, slots := 0, locals := 12 } : Room) s m #[(.ref r0), (.ref r1), (.int 0)] below meth c s₁ [] 0 0 := Stand.of_body Bd
  have e0 : s₁.heap = h0 := by rw [← hh, Bd.state]; rfl
  have N0 := Fr.nil n0
  have k0 : ∀ t, OwnS p e below s₁ (mkF m 0 #[rv r0, rv r1, iv 0] []) t → OwnS p e below s₁ (entryFrame m #[(.ref r0), (.ref r1), (.int 0)] 3) t := fun t k => castTop (ef_10 m r0 r1 (0 : Int32)) k
  obtain ⟨T1, X1, e1, st1⟩ := initO X0 hx hZ hown (own_at hw 51 rfl) (own_at hw 16 rfl) (own_at hw 17 rfl) e0 (g := (mkF m 1 #[rv r0, rv r1, iv 0] [(.ref r0)])) rfl (by rw [hml]; rfl) rfl (hb hby d10_1) (by decide) (W := 0) (Nat.le_refl _) (by decide)
  obtain ⟨T2, h2, X2, e2, W2, st2⟩ := putF X1 hx hZ hown (host := "") (Or.inl (own_at hw 52 rfl)) Via.refl e1 F_name_r0 E_r0 (Or.inr ⟨(own_at hw 53 rfl), rfl, hnm⟩) (own_at hw 39 rfl) (ty := (.object cS1)) (by decide) rfl rfl (g := (mkF m 6 #[rv r0, rv r1, iv 0] [(.ref r1), (.ref r0)])) rfl rfl (hb hby d10_6)
  have Fw2 : Fld Z h2 r0 cS0 "name" cS6 (.ref r1) := F_name_r0.same W2
  have N2 := Fr.snoc X2 N0 ge_r0
  have f3 := (E_r0.wr W2)
  have f4 := (F_inverse_r0.other W2 (Or.inr (slot_ne (Or.inr (own_at hw 55 rfl)) (Or.inr (own_at hw 53 rfl)) (by decide) (t := .boolean) (t' := (.object cS1)) (by decide) (by decide))))
  obtain ⟨T5, h5, X5, e5, W5, st5⟩ := putFN X2 hx hZ hown (own_at hw 54 rfl) Via.refl e2 f4 f3 (Or.inr ⟨(own_at hw 55 rfl), rfl, hnm⟩) (own_at hw 39 rfl) (ty := .boolean) (v' := (.int 0)) (by decide) rfl rfl (g := (mkF m 11 #[rv r0, rv r1, iv 0] [(.int 0), (.ref r0)])) rfl rfl (hb hby d10_11)
  have Fw5 : Fld Z h5 r0 cS0 "inverse" "Z" (.int 0) := f4.same W5
  have N5 := Fr.snoc X5 N2 ge_r0
  have f6 := (f3.wr W5)
  have f7 := (Fw2.other W5 (Or.inr (slot_ne (Or.inr (own_at hw 53 rfl)) (Or.inr (own_at hw 55 rfl)) (by decide) (t := (.object cS1)) (t' := .boolean) (by decide) (by decide))))
  obtain ⟨fs, hr, hrun, hended, hW, hsame⟩ := X5.leave (v := none) (fun _ => rfl)
  refine ⟨_, _, k0 _ ?_, hrun, hended, _, _, rfl, ?_, ⟨_, rfl⟩, hW, hsame.mono (by decide) (by decide)⟩
  · show OwnS p e below s₁ (mkF m 0 #[rv r0, rv r1, iv 0] []) _
    refine XS.aloadN X0.here hx rfl (hb hby d10_0) rfl rfl ?_
    refine st1 _ ?_
    refine XS.aloadN X1.here hx rfl (hb hby d10_4) rfl rfl ?_
    refine XS.aloadN X1.here hx rfl (hb hby d10_5) rfl rfl ?_
    refine st2 _ ?_
    refine XS.aloadN X2.here hx rfl (hb hby d10_9) rfl rfl ?_
    refine XS.iloadN X2.here hx rfl (hb hby d10_10) rfl ?_
    refine st5 _ ?_
    exact X5.returnOut hx Bd.returns (hb hby d10_14) hr
  · show Q_I_0 Z _ _ _ _ h0 n0 _ T5.heap _
    rw [e5]
    exact ⟨rfl, N5, (((Keep.refl h0 [r0]).wr W2 (Or.inl (List.mem_of_getElem? (i := 0) rfl))).wr W5 (Or.inl (List.mem_of_getElem? (i := 0) rfl))), f6, f7, Fw5⟩
def Q_I_1 (Z : State) (r0 : Addr) (r1 : Addr) (u_name_r0 : Value) (u_inverse_r0 : Value) (h0 : Heap) (n0 : Nat) (v : Option Value) (h : Heap) (L : List Loc) : Prop := v = none ∧ Fr n0 L ∧ Keep h0 h [r0] ∧ Exa Z h r0 cS0 ∧ Fld Z h r0 cS0 "name" cS6 (.ref r1) ∧ Fld Z h r0 cS0 "inverse" "Z" (.int 1)
set_option maxRecDepth 65536 in
set_option maxHeartbeats 40000000 in
theorem rmI_1 (l : Launch) (Z : State) (a0 : Array Value) (hw : ∀ d ∈ tables_1, d.before a0 Z = true) (ws : List Jvm.Cond) (r0 : Addr) (r1 : Addr) (u_name_r0 : Value) (u_inverse_r0 : Value) (h0 : Heap) (n0 : Nat) (Z0 : n0 ≤ h0.size) (E_r0 : Exa Z h0 r0 cS0) (F_name_r0 : Fld Z h0 r0 cS0 "name" cS6 u_name_r0) (ge_r0 : n0 ≤ r0) (F_inverse_r0 : Fld Z h0 r0 cS0 "inverse" "Z" u_inverse_r0) :
    MetFree l (⟨cS0, "<init>", "(Ljava/lang/String;Z)V"⟩ : MethodName) (head1 (Jvm.Cond.code (⟨cS0, "<init>", "(Ljava/lang/String;Z)V"⟩ : MethodName) prog_8_method_1_code 3 none :: ws) ({ frames := 1, cells := 0, slots := 0, locals := 12 } : Room)) (fun a U => a = #[(.ref r0), (.ref r1), (.int 1)] ∧ Z.Warmed39 U.vm ∧ U.heap = h0) (fun _ _ _ _ _ => True) (fun _ U o U' => ∃ v L, o = .returned v ∧ Q_I_1 Z r0 r1 u_name_r0 u_inverse_r0 h0 n0 v U'.heap L ∧ FrameEnd U o U' L ({ frames := 1, cells := 0, slots := 0, locals := 12 } : Room).cells ({ frames := 1, cells := 0, slots := 0, locals := 12 } : Room).slots) := by
  refine MetFree.of_bodySF (plainFor_of_name pn_com_example_tablox_tablox_concept_Role) hisR ?_
  intro p e s m args below meth c s₁ Bd hml0 hP hK
  obtain ⟨rfl, hZ, hh⟩ := hP
  have hx := Bd.exec
  have hby := Bd.bytes
  have hml : c.maxLocals = 3 := hml0
  have hown : s.vm.findClass cS0 = some m.cls := findClass_of_methodNamed Bd.named
  have hnm := (name_of_methodNamed Bd.named Bd.method).1
  have X0 : Stand p l e ({ frames := 1, cells := 0, slots := 0, locals := 12 } : Room) s m #[(.ref r0), (.ref r1), (.int 1)] below meth c s₁ [] 0 0 := Stand.of_body Bd
  have e0 : s₁.heap = h0 := by rw [← hh, Bd.state]; rfl
  have N0 := Fr.nil n0
  have k0 : ∀ t, OwnS p e below s₁ (mkF m 0 #[rv r0, rv r1, iv 1] []) t → OwnS p e below s₁ (entryFrame m #[(.ref r0), (.ref r1), (.int 1)] 3) t := fun t k => castTop (ef_10 m r0 r1 (1 : Int32)) k
  obtain ⟨T1, X1, e1, st1⟩ := initO X0 hx hZ hown (own_at hw 51 rfl) (own_at hw 16 rfl) (own_at hw 17 rfl) e0 (g := (mkF m 1 #[rv r0, rv r1, iv 1] [(.ref r0)])) rfl (by rw [hml]; rfl) rfl (hb hby d10_1) (by decide) (W := 0) (Nat.le_refl _) (by decide)
  obtain ⟨T2, h2, X2, e2, W2, st2⟩ := putF X1 hx hZ hown (host := "") (Or.inl (own_at hw 52 rfl)) Via.refl e1 F_name_r0 E_r0 (Or.inr ⟨(own_at hw 53 rfl), rfl, hnm⟩) (own_at hw 39 rfl) (ty := (.object cS1)) (by decide) rfl rfl (g := (mkF m 6 #[rv r0, rv r1, iv 1] [(.ref r1), (.ref r0)])) rfl rfl (hb hby d10_6)
  have Fw2 : Fld Z h2 r0 cS0 "name" cS6 (.ref r1) := F_name_r0.same W2
  have N2 := Fr.snoc X2 N0 ge_r0
  have f3 := (E_r0.wr W2)
  have f4 := (F_inverse_r0.other W2 (Or.inr (slot_ne (Or.inr (own_at hw 55 rfl)) (Or.inr (own_at hw 53 rfl)) (by decide) (t := .boolean) (t' := (.object cS1)) (by decide) (by decide))))
  obtain ⟨T5, h5, X5, e5, W5, st5⟩ := putFN X2 hx hZ hown (own_at hw 54 rfl) Via.refl e2 f4 f3 (Or.inr ⟨(own_at hw 55 rfl), rfl, hnm⟩) (own_at hw 39 rfl) (ty := .boolean) (v' := (.int 1)) (by decide) rfl rfl (g := (mkF m 11 #[rv r0, rv r1, iv 1] [(.int 1), (.ref r0)])) rfl rfl (hb hby d10_11)
  have Fw5 : Fld Z h5 r0 cS0 "inverse" "Z" (.int 1) := f4.same W5
  have N5 := Fr.snoc X5 N2 ge_r0
  have f6 := (f3.wr W5)
  have f7 := (Fw2.other W5 (Or.inr (slot_ne (Or.inr (own_at hw 53 rfl)) (Or.inr (own_at hw 55 rfl)) (by decide) (t := (.object cS1)) (t' := .boolean) (by decide) (by decide))))
  obtain ⟨fs, hr, hrun, hended, hW, hsame⟩ := X5.leave (v := none) (fun _ => rfl)
  refine ⟨_, _, k0 _ ?_, hrun, hended, _, _, rfl, ?_, ⟨_, rfl⟩, hW, hsame.mono (by decide) (by decide)⟩
  · show OwnS p e below s₁ (mkF m 0 #[rv r0, rv r1, iv 1] []) _
    refine XS.aloadN X0.here hx rfl (hb hby d10_0) rfl rfl ?_
    refine st1 _ ?_
    refine XS.aloadN X1.here hx rfl (hb hby d10_4) rfl rfl ?_
    refine XS.aloadN X1.here hx rfl (hb hby d10_5) rfl rfl ?_
    refine st2 _ ?_
    refine XS.aloadN X2.here hx rfl (hb hby d10_9) rfl rfl ?_
    refine XS.iloadN X2.here hx rfl (hb hby d10_10) rfl ?_
    refine st5 _ ?_
    exact X5.returnOut hx Bd.returns (hb hby d10_14) hr
  · show Q_I_1 Z _ _ _ _ h0 n0 _ T5.heap _
    rw [e5]
    exact ⟨rfl, N5, (((Keep.refl h0 [r0]).wr W2 (Or.inl (List.mem_of_getElem? (i := 0) rfl))).wr W5 (Or.inl (List.mem_of_getElem? (i := 0) rfl))), f6, f7, Fw5⟩
theorem d9_0 : decode jdk_31_method_11_code 0 = .ok (.aload_n 0, 1) := by decide +kernel
theorem d9_1 : decode jdk_31_method_11_code 1 = .ok (.ifnonnull 12, 3) := by decide +kernel
theorem d9_13 : decode jdk_31_method_11_code 13 = .ok (.aload_n 0, 1) := by decide +kernel
theorem d9_14 : decode jdk_31_method_11_code 14 = .ok (.areturn, 1) := by decide +kernel
theorem pn_java_util_Objects : plainName "java/util/Objects" = true := by first | (simp [plainName, overriddenIn]; done) | decide +kernel
theorem ef_9 (m : MethodId) (x0 : Addr) (x1 : Addr) : entryFrame m #[(.ref x0), (.ref x1)] 2 = mkF m 0 #[.val (.ref x0), .val (.ref x1)] [] := by first | (simp [entryFrame, mkF, argsToLocals, Value.category]; done) | rfl
def Q_R (Z : State) (r0 : Addr) (r1 : Addr) (h0 : Heap) (n0 : Nat) (v : Option Value) (h : Heap) (L : List Loc) : Prop := v = some (.ref r0) ∧ Fr n0 L ∧ h = h0
set_option maxRecDepth 65536 in
set_option maxHeartbeats 40000000 in
theorem rmR (l : Launch) (Z : State) (a0 : Array Value) (hw : ∀ d ∈ tables_1, d.before a0 Z = true) (ws : List Jvm.Cond) (r0 : Addr) (r1 : Addr) (h0 : Heap) (n0 : Nat) (Z0 : n0 ≤ h0.size) :
    MetFree l (⟨"java/util/Objects", "requireNonNull", "(Ljava/lang/Object;Ljava/lang/String;)Ljava/lang/Object;"⟩ : MethodName) (head1 (Jvm.Cond.code (⟨"java/util/Objects", "requireNonNull", "(Ljava/lang/Object;Ljava/lang/String;)Ljava/lang/Object;"⟩ : MethodName) jdk_31_method_11_code 2 (some (.object "java/lang/Object")) :: ws) ({ frames := 0, cells := 0, slots := 0, locals := 0 } : Room)) (fun a U => a = #[(.ref r0), (.ref r1)] ∧ Z.Warmed39 U.vm ∧ U.heap = h0) (fun _ _ _ _ _ => True) (fun _ U o U' => ∃ v L, o = .returned v ∧ Q_R Z r0 r1 h0 n0 v U'.heap L ∧ FrameEnd U o U' L ({ frames := 0, cells := 0, slots := 0, locals := 0 } : Room).cells ({ frames := 0, cells := 0, slots := 0, locals := 0 } : Room).slots) := by
  refine MetFree.of_bodySF (plainFor_of_name pn_java_util_Objects) hisR ?_
  intro p e s m args below meth c s₁ Bd hml0 hP hK
  obtain ⟨rfl, hZ, hh⟩ := hP
  have hx := Bd.exec
  have hby := Bd.bytes
  have hml : c.maxLocals = 2 := hml0
  have hown : s.vm.findClass "java/util/Objects" = some m.cls := findClass_of_methodNamed Bd.named
  have hnm := (name_of_methodNamed Bd.named Bd.method).1
  have X0 : Stand p l e ({ frames := 0, cells := 0, slots := 0, locals := 0 } : Room) s m #[(.ref r0), (.ref r1)] below meth c s₁ [] 0 0 := Stand.of_body Bd
  have e0 : s₁.heap = h0 := by rw [← hh, Bd.state]; rfl
  have N0 := Fr.nil n0
  have k0 : ∀ t, OwnS p e below s₁ (mkF m 0 #[rv r0, rv r1] []) t → OwnS p e below s₁ (entryFrame m #[(.ref r0), (.ref r1)] 2) t := fun t k => castTop (ef_9 m r0 r1) k
  obtain ⟨fs, hr, hrun, hended, hW, hsame⟩ := X0.leave (v := some (.ref r0)) (fun h => by rw [Bd.returns] at h; cases h)
  refine ⟨_, _, k0 _ ?_, hrun, hended, _, _, rfl, ?_, ⟨_, rfl⟩, hW, hsame.mono (by decide) (by decide)⟩
  · show OwnS p e below s₁ (mkF m 0 #[rv r0, rv r1] []) _
    refine XS.aloadN X0.here hx rfl (hb hby d9_0) rfl rfl ?_
    refine XS.ifnonnullYes X0.here hx rfl (pc0 := 1) (pc' := 13) rfl (hb hby d9_1) rfl (by decide) (by decide) ?_
    refine XS.aloadN X0.here hx rfl (hb hby d9_13) rfl rfl ?_
    jvm_step X0.here [X0.here.top, hx, (hb hby d9_14), X0.method', Bd.returns, Value.isRef, FieldType.isReference]
    first | (intro acts; rw [hr _ acts rfl rfl rfl]) | rw [hr _ _ rfl rfl rfl]
    exact Steps.refl _
  · show Q_R Z _ _ h0 n0 _ s₁.heap _
    rw [e0]
    exact ⟨rfl, N0, rfl⟩
theorem pd_6 : parseMethodDescriptor "(Ljava/lang/Object;Ljava/lang/String;)Ljava/lang/Object;" = some ⟨[(.object "java/lang/Object"), (.object cS1)], some (.object "java/lang/Object")⟩ := by decide +kernel
theorem pd_7 : parseMethodDescriptor "(Ljava/lang/String;Z)V" = some ⟨[(.object cS1), .boolean], none⟩ := by decide +kernel
theorem d8_0 : decode prog_8_method_2_code 0 = .ok (.new 8, 3) := by decide +kernel
theorem d8_3 : decode prog_8_method_2_code 3 = .ok (.dup, 1) := by decide +kernel
theorem d8_4 : decode prog_8_method_2_code 4 = .ok (.aload_n 0, 1) := by decide +kernel
theorem d8_5 : decode prog_8_method_2_code 5 = .ok (.ldc 17, 2) := by decide +kernel
theorem d8_7 : decode prog_8_method_2_code 7 = .ok (.invokestatic 19, 3) := by decide +kernel
theorem d8_10 : decode prog_8_method_2_code 10 = .ok (.checkcast 25, 3) := by decide +kernel
theorem d8_13 : decode prog_8_method_2_code 13 = .ok (.iconst 0, 1) := by decide +kernel
theorem d8_14 : decode prog_8_method_2_code 14 = .ok (.invokespecial 27, 3) := by decide +kernel
theorem d8_17 : decode prog_8_method_2_code 17 = .ok (.areturn, 1) := by decide +kernel
theorem ef_8 (m : MethodId) (x0 : Addr) : entryFrame m #[(.ref x0)] 1 = mkF m 0 #[.val (.ref x0)] [] := by first | (simp [entryFrame, mkF, argsToLocals, Value.category]; done) | rfl
def Q_N (Z : State) (r0 : Addr) (h0 : Heap) (n0 : Nat) (v : Option Value) (h : Heap) (L : List Loc) : Prop := ∃ ob : Addr, v = some (.ref ob) ∧ Fr n0 L ∧ Keep h0 h [] ∧ h0.size ≤ ob ∧ Exa Z h ob cS0 ∧ Fld Z h ob cS0 "name" cS6 (.ref r0) ∧ Fld Z h ob cS0 "inverse" "Z" (.int 0)
set_option maxRecDepth 65536 in
set_option maxHeartbeats 40000000 in
theorem rmN (l : Launch) (Z : State) (a0 : Array Value) (hw : ∀ d ∈ tables_1, d.before a0 Z = true) (ws : List Jvm.Cond) (r0 : Addr) (h0 : Heap) (n0 : Nat) (Z0 : n0 ≤ h0.size) (E_r0 : Exa Z h0 r0 cS1) :
    MetFree l (⟨cS0, "named", cS5⟩ : MethodName) (head1 (Jvm.Cond.code (⟨cS0, "named", cS5⟩ : MethodName) prog_8_method_2_code 1 (some (.object cS0)) :: ws) ({ frames := 2, cells := 3, slots := 18, locals := 27 } : Room)) (fun a U => a = #[(.ref r0)] ∧ Z.Warmed39 U.vm ∧ U.heap = h0 ∧ CHv Z own_EL U.vm h0) (fun _ _ _ _ _ => True) (fun _ U o U' => ∃ v L, o = .returned v ∧ Q_N Z r0 h0 n0 v U'.heap L ∧ CHr Z own_EL U.vm U.heap U'.vm U'.heap ∧ ReturnedEndW U o U' L ({ frames := 2, cells := 3, slots := 18, locals := 27 } : Room).cells ({ frames := 2, cells := 3, slots := 18, locals := 27 } : Room).slots) := by
  refine MetFree.of_bodySF (plainFor_of_name pn_com_example_tablox_tablox_concept_Role) hisR ?_
  intro p e s m args below meth c s₁ Bd hml0 hP hK
  obtain ⟨rfl, hZ, hh, H0c⟩ := hP
  have hx := Bd.exec
  have hby := Bd.bytes
  have hml : c.maxLocals = 1 := hml0
  have hown : (s.setVm s.vm).vm.findClass cS0 = some m.cls := findClass_of_methodNamed Bd.named
  have hnm := (name_of_methodNamed Bd.named Bd.method).1
  have X0 : Stand p l e ({ frames := 2, cells := 3, slots := 18, locals := 27 } : Room) (s.setVm s.vm) m #[(.ref r0)] below meth c s₁ [] 0 0 := Stand.of_body Bd
  have e0 : s₁.heap = h0 := by rw [← hh, Bd.state]; rfl
  have N0 := Fr.nil n0
  have k0 : ∀ t, OwnS p e below s₁ (mkF m 0 #[rv r0] []) t → OwnS p e below s₁ (entryFrame m #[(.ref r0)] 1) t := fun t k => castTop (ef_8 m r0) k
  have hZ : Z.Warmed39 (s.setVm s.vm).vm := hZ
  have hS0 : s.Since s.vm h0.size := (State.WarmedH.refl s).since _
  have hk0 : h0.size ≤ h0.size := Nat.le_refl _
  have R0c := CHr.refl H0c
  obtain ⟨T1, h1, X1, e1, E1, A1, D1, -, st1⟩ := newO X0 hx hZ hown (own_at hw 38 rfl) (own_at hw 39 rfl) (own_at hw 36 rfl) e0 (g := (mkF m 0 #[rv r0] [])) rfl (hb hby d8_0) (by decide) (by decide)
  obtain ⟨b1, g1⟩ : ∃ z, z = h0.size := ⟨_, rfl⟩
  rw [← g1] at A1 D1 st1
  have g_b1 : n0 ≤ b1 := Nat.le_trans Z0 (Nat.le_of_eq g1.symm)
  have sz_b1 : h0.size ≤ b1 := Nat.le_trans (Keep.refl h0 []).1 (Nat.le_of_eq g1.symm)
  have Hc1 := CHv.ext E1 H0c
  have Rc1 := R0c.trans (CHr.ext E1 H0c)
  have hk1 := Nat.le_trans hk0 E1.1
  have Sf1_b1 := Safe.ext (EL := own_EL) E1 H0c (Safe.new (Nat.le_of_eq g1.symm))
  have F_name_b1 : Fld Z h1 b1 cS0 "name" cS6 .null := D1 (Or.inr (own_at hw 53 rfl)) (ty := (.object cS1)) (by decide)
  have F_inverse_b1 : Fld Z h1 b1 cS0 "inverse" "Z" (.int 0) := D1 (Or.inr (own_at hw 55 rfl)) (ty := .boolean) (by decide)
  have f3 := (E_r0.ext E1)
  have lt_b1 := A1.lt
  obtain ⟨a2, T2, h2, k12, X2, e2, E2, hS2, hk2, hZ2, hown2, CR2, LT2, st2⟩ := ldcOH X1 hx hZ hown (own_at hw 40 rfl) (own_ws hw) e1 hS0 hk1 (own_ew hw) Hc1 (g := (mkF m 5 #[rv r0] [(.ref r0), (.ref b1), (.ref b1)])) rfl (hb hby d8_5) (n := 12) (by decide) (by decide) (by decide) (by decide)
  have Hc2 := CR2.1
  have Rc2 := Rc1.trans CR2
  have Sf2_b1 := CHr.safe CR2 lt_b1 Sf1_b1
  obtain ⟨_, _, ⟨T4, L4, j4, i4⟩, -, X4, ⟨Lc4, hQ4, l4, y4, z4⟩, st4⟩ := Jvm.LawKit.callS X2 hx (y := (⟨"java/util/Objects", "requireNonNull", "(Ljava/lang/Object;Ljava/lang/String;)Ljava/lang/Object;"⟩ : MethodName)) hown2 (mvT hZ2 (own_at hw 43 rfl)) (mvT hZ2 (own_at hw 44 rfl)) (mvT hZ2 (own_at hw 45 rfl)) (mvT hZ2 (own_at hw 46 rfl)) (by decide) (backOf (W := 2) (rmR l Z a0 hw [] r0 a2 h2 n0 (Nat.le_trans (Nat.le_trans Z0 E1.1) E2.1) ) hZ2 (own_at hw 46 rfl) (own_at hw 45 rfl) (by decide) (by decide)) (g := (mkF m 7 #[rv r0] [(.ref a2), (.ref r0), (.ref b1), (.ref b1)])) rfl (by rw [hml]; rfl) (argsL := [(.ref r0), (.ref a2)]) (rest := [(.ref b1), (.ref b1)]) (lenOf pd_6 rfl) rfl (Nat.le_refl _) (hb hby d8_7) (fun _ _ => ⟨rfl, e2, (by decide : 3 + 0 ≤ _), (by decide : 18 + 0 ≤ _)⟩)
  dsimp only [Pt.U, Pt.locs, Pt.cells, Pt.slots] at X4 l4 y4 z4 st4 hQ4
  subst l4 y4 z4
  obtain ⟨rfl, N4q, e4⟩ := hQ4
  have N4 := Fr.app N0 N4q
  have f5 := (f3.ext E2)
  obtain ⟨T6, X6, e6, st6⟩ := castY X4 hx hZ2 hown2 (own_at hw 47 rfl) e4 (Ins.self f5) (g := (mkF m 10 #[rv r0] [(.ref r0), (.ref b1), (.ref b1)])) rfl rfl (hb hby d8_10)
  have f8 := (A1.ext E2)
  have f9 := (F_name_b1.ext E2)
  have f10 := (F_inverse_b1.ext E2)
  obtain ⟨_, _, ⟨T7, L7, j7, i7⟩, -, X7, ⟨Lc7, hQ7, l7, y7, z7⟩, st7⟩ := X6.specialBack hx (y := (⟨cS0, "<init>", "(Ljava/lang/String;Z)V"⟩ : MethodName)) rfl hown2 (mvT hZ2 (own_at hw 48 rfl)) (mvT hZ2 (own_at hw 49 rfl)) (mvT hZ2 (own_at hw 50 rfl)) (by decide) (backOf (W := 1) (rmI_0 l Z a0 hw [] b1 r0 .null (.int 0) h2 n0 (Nat.le_trans (Nat.le_trans Z0 E1.1) E2.1) f8 f9 g_b1 f10) hZ2 (own_at hw 50 rfl) (own_at hw 36 rfl) (by decide) (by decide)) (g := (mkF m 14 #[rv r0] [(.int 0), (.ref r0), (.ref b1), (.ref b1)])) rfl (by rw [hml]; rfl) (Steps.refl _) (a := b1) (argsL := [(.ref r0), (.int 0)]) (rest := [(.ref b1)]) (lenOf pd_7 rfl) rfl (Nat.le_refl _) (hb hby d8_14) (fun _ _ => ⟨rfl, e6, (by decide : 3 + 0 ≤ _), (by decide : 18 + 0 ≤ _)⟩)
  dsimp only [Pt.U, Pt.locs, Pt.cells, Pt.slots] at X7 l7 y7 z7 st7 hQ7
  subst l7 y7 z7
  obtain ⟨rfl, N7q, K7, p7_0, p7_1, p7_2⟩ := hQ7
  have pl7 := (allS (P := fun x => ∃ cell : Cell, h2[x]? = some cell ∧ cell.vm.isStatics = false) (own_ns f8) all0)
  have Hc7 := CHv.keep K7 (sfS Sf2_b1 sf0) Hc2
  have Rc7 := Rc2.trans (CHr.keep K7 (sfS Sf2_b1 sf0) Hc2)
  have hk7 := Nat.le_trans hk2 K7.1
  have Sf7_b1 := Safe.keep K7 (sfS Sf2_b1 sf0) Hc2 Sf2_b1
  have N7 := Fr.app N4 N7q
  obtain ⟨fs, hr, hrun, hended, hRW⟩ := X7.leaveW hS2 hk7 (v := some (.ref b1)) (fun h => by rw [Bd.returns] at h; cases h)
  have hCE : CHr Z own_EL s.vm s.heap T7.vm T7.heap := by rw [hh]; exact Rc7.trans (CHv.at X7 hZ2 (own_ew hw) Hc7)
  refine ⟨_, _, k0 _ ?_, hrun, hended, _, _, rfl, ?_, hCE, hRW.1, hRW.2.1, hRW.2.2.1, hRW.2.2.2.mono (by decide) (by decide)⟩
  · show OwnS p e below s₁ (mkF m 0 #[rv r0] []) _
    refine st1 _ ?_
    refine XS.dup X1.here hx rfl (hb hby d8_3) rfl rfl ?_
    refine XS.aloadN X1.here hx rfl (hb hby d8_4) rfl rfl ?_
    refine st2 _ ?_
    refine st4 _ ?_
    refine st6 _ ?_
    refine XS.iconst X6.here hx rfl (hb hby d8_13) ?_
    refine st7.trans ?_
    jvm_step X7.here [X7.here.top, hx, (hb hby d8_17), X7.method', Bd.returns, Value.isRef, FieldType.isReference]
    first | (intro acts; rw [hr _ acts rfl rfl rfl]) | rw [hr _ _ rfl rfl rfl]
    exact Steps.refl _
  · show Q_N Z _ h0 n0 _ T7.heap _
    exact ⟨b1, rfl, N7, ((((Keep.refl h0 []).ext E1).ext E2).trans K7 (allS (Or.inr sz_b1) all0)), sz_b1, p7_0, p7_1, p7_2⟩
theorem d11_0 : decode prog_8_method_4_code 0 = .ok (.aload_n 0, 1) := by decide +kernel
theorem d11_1 : decode prog_8_method_4_code 1 = .ok (.getfield 7, 3) := by decide +kernel
theorem d11_4 : decode prog_8_method_4_code 4 = .ok (.areturn, 1) := by decide +kernel
theorem ef_11 (m : MethodId) (x0 : Addr) : entryFrame m #[(.ref x0)] 1 = mkF m 0 #[.val (.ref x0)] [] := by first | (simp [entryFrame, mkF, argsToLocals, Value.category]; done) | rfl
def Q_A (Z : State) (r0 : Addr) (u_name_r0 : Addr) (h0 : Heap) (n0 : Nat) (v : Option Value) (h : Heap) (L : List Loc) : Prop := v = some (.ref u_name_r0) ∧ Fr n0 L ∧ h = h0
set_option maxRecDepth 65536 in
set_option maxHeartbeats 40000000 in
theorem rmA (l : Launch) (Z : State) (a0 : Array Value) (hw : ∀ d ∈ tables_1, d.before a0 Z = true) (ws : List Jvm.Cond) (r0 : Addr) (u_name_r0 : Addr) (h0 : Heap) (n0 : Nat) (Z0 : n0 ≤ h0.size) (F_name_r0 : Fld Z h0 r0 cS0 "name" cS6 (.ref u_name_r0)) :
    MetFree l (⟨cS0, "name", "()Ljava/lang/String;"⟩ : MethodName) (head1 (Jvm.Cond.code (⟨cS0, "name", "()Ljava/lang/String;"⟩ : MethodName) prog_8_method_4_code 1 (some (.object cS1)) :: ws) ({ frames := 0, cells := 0, slots := 0, locals := 0 } : Room)) (fun a U => a = #[(.ref r0)] ∧ Z.Warmed39 U.vm ∧ U.heap = h0) (fun _ _ _ _ _ => True) (fun _ U o U' => ∃ v L, o = .returned v ∧ Q_A Z r0 u_name_r0 h0 n0 v U'.heap L ∧ FrameEnd U o U' L ({ frames := 0, cells := 0, slots := 0, locals := 0 } : Room).cells ({ frames := 0, cells := 0, slots := 0, locals := 0 } : Room).slots) := by
  refine MetFree.of_bodySF (plainFor_of_name pn_com_example_tablox_tablox_concept_Role) hisR ?_
  intro p e s m args below meth c s₁ Bd hml0 hP hK
  obtain ⟨rfl, hZ, hh⟩ := hP
  have hx := Bd.exec
  have hby := Bd.bytes
  have hml : c.maxLocals = 1 := hml0
  have hown : s.vm.findClass cS0 = some m.cls := findClass_of_methodNamed Bd.named
  have hnm := (name_of_methodNamed Bd.named Bd.method).1
  have X0 : Stand p l e ({ frames := 0, cells := 0, slots := 0, locals := 0 } : Room) s m #[(.ref r0)] below meth c s₁ [] 0 0 := Stand.of_body Bd
  have e0 : s₁.heap = h0 := by rw [← hh, Bd.state]; rfl
  have N0 := Fr.nil n0
  have k0 : ∀ t, OwnS p e below s₁ (mkF m 0 #[rv r0] []) t → OwnS p e below s₁ (entryFrame m #[(.ref r0)] 1) t := fun t k => castTop (ef_11 m r0) k
  obtain ⟨T1, X1, e1, st1⟩ := getF X0 hx hZ hown (host := "") (Or.inl (own_at hw 52 rfl)) Via.refl e0 F_name_r0 (g := (mkF m 1 #[rv r0] [(.ref r0)])) rfl rfl (hb hby d11_1)
  obtain ⟨fs, hr, hrun, hended, hW, hsame⟩ := X1.leave (v := some (.ref u_name_r0)) (fun h => by rw [Bd.returns] at h; cases h)
  refine ⟨_, _, k0 _ ?_, hrun, hended, _, _, rfl, ?_, ⟨_, rfl⟩, hW, hsame.mono (by decide) (by decide)⟩
  · show OwnS p e below s₁ (mkF m 0 #[rv r0] []) _
    refine XS.aloadN X0.here hx rfl (hb hby d11_0) rfl rfl ?_
    refine st1 _ ?_
    jvm_step X1.here [X1.here.top, hx, (hb hby d11_4), X1.method', Bd.returns, Value.isRef, FieldType.isReference]
    first | (intro acts; rw [hr _ acts rfl rfl rfl]) | rw [hr _ _ rfl rfl rfl]
    exact Steps.refl _
  · show Q_A Z _ _ h0 n0 _ T1.heap _
    rw [e1]
    exact ⟨rfl, N0, rfl⟩
theorem d13_0 : decode prog_8_method_5_code 0 = .ok (.aload_n 0, 1) := by decide +kernel
theorem d13_1 : decode prog_8_method_5_code 1 = .ok (.getfield 13, 3) := by decide +kernel
theorem d13_4 : decode prog_8_method_5_code 4 = .ok (.ireturn, 1) := by decide +kernel
theorem ef_13 (m : MethodId) (x0 : Addr) : entryFrame m #[(.ref x0)] 1 = mkF m 0 #[.val (.ref x0)] [] := by first | (simp [entryFrame, mkF, argsToLocals, Value.category]; done) | rfl
def Q_V (Z : State) (r0 : Addr) (h0 : Heap) (n0 : Nat) (v : Option Value) (h : Heap) (L : List Loc) : Prop := v = some (.int 0) ∧ Fr n0 L ∧ h = h0
set_option maxRecDepth 65536 in
set_option maxHeartbeats 40000000 in
theorem rmV (l : Launch) (Z : State) (a0 : Array Value) (hw : ∀ d ∈ tables_1, d.before a0 Z = true) (ws : List Jvm.Cond) (r0 : Addr) (h0 : Heap) (n0 : Nat) (Z0 : n0 ≤ h0.size) (F_inverse_r0 : Fld Z h0 r0 cS0 "inverse" "Z" (.int 0)) :
    MetFree l (⟨cS0, "isInverse", "()Z"⟩ : MethodName) (head1 (Jvm.Cond.code (⟨cS0, "isInverse", "()Z"⟩ : MethodName) prog_8_method_5_code 1 (some .boolean) :: ws) ({ frames := 0, cells := 0, slots := 0, locals := 0 } : Room)) (fun a U => a = #[(.ref r0)] ∧ Z.Warmed39 U.vm ∧ U.heap = h0) (fun _ _ _ _ _ => True) (fun _ U o U' => ∃ v L, o = .returned v ∧ Q_V Z r0 h0 n0 v U'.heap L ∧ FrameEnd U o U' L ({ frames := 0, cells := 0, slots := 0, locals := 0 } : Room).cells ({ frames := 0, cells := 0, slots := 0, locals := 0 } : Room).slots) := by
  refine MetFree.of_bodySF (plainFor_of_name pn_com_example_tablox_tablox_concept_Role) hisR ?_
  intro p e s m args below meth c s₁ Bd hml0 hP hK
  obtain ⟨rfl, hZ, hh⟩ := hP
  have hx := Bd.exec
  have hby := Bd.bytes
  have hml : c.maxLocals = 1 := hml0
  have hown : s.vm.findClass cS0 = some m.cls := findClass_of_methodNamed Bd.named
  have hnm := (name_of_methodNamed Bd.named Bd.method).1
  have X0 : Stand p l e ({ frames := 0, cells := 0, slots := 0, locals := 0 } : Room) s m #[(.ref r0)] below meth c s₁ [] 0 0 := Stand.of_body Bd
  have e0 : s₁.heap = h0 := by rw [← hh, Bd.state]; rfl
  have N0 := Fr.nil n0
  have k0 : ∀ t, OwnS p e below s₁ (mkF m 0 #[rv r0] []) t → OwnS p e below s₁ (entryFrame m #[(.ref r0)] 1) t := fun t k => castTop (ef_13 m r0) k
  obtain ⟨T1, X1, e1, st1⟩ := getF X0 hx hZ hown (host := "") (Or.inl (own_at hw 54 rfl)) Via.refl e0 F_inverse_r0 (g := (mkF m 1 #[rv r0] [(.ref r0)])) rfl rfl (hb hby d13_1)
  obtain ⟨fs, hr, hrun, hended, hW, hsame⟩ := X1.leave (v := some (.int 0)) (fun h => by rw [Bd.returns] at h; cases h)
  refine ⟨_, _, k0 _ ?_, hrun, hended, _, _, rfl, ?_, ⟨_, rfl⟩, hW, hsame.mono (by decide) (by decide)⟩
  · show OwnS p e below s₁ (mkF m 0 #[rv r0] []) _
    refine XS.aloadN X0.here hx rfl (hb hby d13_0) rfl rfl ?_
    refine st1 _ ?_
    exact retN X1 hx (t := .boolean) Bd.returns (by simp) (hb hby d13_4) hr
  · show Q_V Z _ h0 n0 _ T1.heap _
    rw [e1]
    exact ⟨rfl, N0, rfl⟩
theorem d16_0 : decode prog_8_method_3_code 0 = .ok (.new 8, 3) := by decide +kernel
theorem d16_3 : decode prog_8_method_3_code 3 = .ok (.dup, 1) := by decide +kernel
theorem d16_4 : decode prog_8_method_3_code 4 = .ok (.aload_n 0, 1) := by decide +kernel
theorem d16_5 : decode prog_8_method_3_code 5 = .ok (.getfield 7, 3) := by decide +kernel
theorem d16_8 : decode prog_8_method_3_code 8 = .ok (.aload_n 0, 1) := by decide +kernel
theorem d16_9 : decode prog_8_method_3_code 9 = .ok (.getfield 13, 3) := by decide +kernel
theorem d16_12 : decode prog_8_method_3_code 12 = .ok (.ifCond .ne 7, 3) := by decide +kernel
theorem d16_15 : decode prog_8_method_3_code 15 = .ok (.iconst 1, 1) := by decide +kernel
theorem d16_16 : decode prog_8_method_3_code 16 = .ok (.goto 4, 3) := by decide +kernel
theorem d16_20 : decode prog_8_method_3_code 20 = .ok (.invokespecial 27, 3) := by decide +kernel
theorem d16_23 : decode prog_8_method_3_code 23 = .ok (.areturn, 1) := by decide +kernel
theorem ef_16 (m : MethodId) (x0 : Addr) : entryFrame m #[(.ref x0)] 1 = mkF m 0 #[.val (.ref x0)] [] := by first | (simp [entryFrame, mkF, argsToLocals, Value.category]; done) | rfl
def Q_X_0 (Z : State) (r0 : Addr) (nm : Addr) (h0 : Heap) (n0 : Nat) (v : Option Value) (h : Heap) (L : List Loc) : Prop := ∃ ob : Addr, v = some (.ref ob) ∧ Fr n0 L ∧ Keep h0 h [] ∧ h0.size ≤ ob ∧ Exa Z h ob cS0 ∧ Fld Z h ob cS0 "name" cS6 (.ref nm) ∧ Fld Z h ob cS0 "inverse" "Z" (.int 1)
set_option maxRecDepth 65536 in
set_option maxHeartbeats 40000000 in
theorem rmX_0 (l : Launch) (Z : State) (a0 : Array Value) (hw : ∀ d ∈ tables_1, d.before a0 Z = true) (ws : List Jvm.Cond) (r0 : Addr) (nm : Addr) (h0 : Heap) (n0 : Nat) (Z0 : n0 ≤ h0.size) (E_r0 : Exa Z h0 r0 cS0) (F_name_r0 : Fld Z h0 r0 cS0 "name" cS6 (.ref nm)) (F_inverse_r0 : Fld Z h0 r0 cS0 "inverse" "Z" (.int 0)) :
    MetFree l (⟨cS0, "inverse", cS4⟩ : MethodName) (head1 (Jvm.Cond.code (⟨cS0, "inverse", cS4⟩ : MethodName) prog_8_method_3_code 1 (some (.object cS0)) :: ws) ({ frames := 2, cells := 1, slots := 2, locals := 27 } : Room)) (fun a U => a = #[(.ref r0)] ∧ Z.Warmed39 U.vm ∧ U.heap = h0) (fun _ _ _ _ _ => True) (fun _ U o U' => ∃ v L, o = .returned v ∧ Q_X_0 Z r0 nm h0 n0 v U'.heap L ∧ FrameEnd U o U' L ({ frames := 2, cells := 1, slots := 2, locals := 27 } : Room).cells ({ frames := 2, cells := 1, slots := 2, locals := 27 } : Room).slots) := by
  refine MetFree.of_bodySF (plainFor_of_name pn_com_example_tablox_tablox_concept_Role) hisR ?_
  intro p e s m args below meth c s₁ Bd hml0 hP hK
  obtain ⟨rfl, hZ, hh⟩ := hP
  have hx := Bd.exec
  have hby := Bd.bytes
  have hml : c.maxLocals = 1 := hml0
  have hown : s.vm.findClass cS0 = some m.cls := findClass_of_methodNamed Bd.named
  have hnm := (name_of_methodNamed Bd.named Bd.method).1
  have X0 : Stand p l e ({ frames := 2, cells := 1, slots := 2, locals := 27 } : Room) s m #[(.ref r0)] below meth c s₁ [] 0 0 := Stand.of_body Bd
  have e0 : s₁.heap = h0 := by rw [← hh, Bd.state]; rfl
  have N0 := Fr.nil n0
  have k0 : ∀ t, OwnS p e below s₁ (mkF m 0 #[rv r0] []) t → OwnS p e below s₁ (entryFrame m #[(.ref r0)] 1) t := fun t k => castTop (ef_16 m r0) k
  obtain ⟨T1, h1, X1, e1, E1, A1, D1, -, st1⟩ := newO X0 hx hZ hown (own_at hw 38 rfl) (own_at hw 39 rfl) (own_at hw 36 rfl) e0 (g := (mkF m 0 #[rv r0] [])) rfl (hb hby d16_0) (by decide) (by decide)
  obtain ⟨b1, g1⟩ : ∃ z, z = h0.size := ⟨_, rfl⟩
  rw [← g1] at A1 D1 st1
  have g_b1 : n0 ≤ b1 := Nat.le_trans Z0 (Nat.le_of_eq g1.symm)
  have sz_b1 : h0.size ≤ b1 := Nat.le_trans (Keep.refl h0 []).1 (Nat.le_of_eq g1.symm)
  have F_name_b1 : Fld Z h1 b1 cS0 "name" cS6 .null := D1 (Or.inr (own_at hw 53 rfl)) (ty := (.object cS1)) (by decide)
  have F_inverse_b1 : Fld Z h1 b1 cS0 "inverse" "Z" (.int 0) := D1 (Or.inr (own_at hw 55 rfl)) (ty := .boolean) (by decide)
  have f2 := (F_name_r0.ext E1)
  obtain ⟨T3, X3, e3, st3⟩ := getF X1 hx hZ hown (host := "") (Or.inl (own_at hw 52 rfl)) Via.refl e1 f2 (g := (mkF m 5 #[rv r0] [(.ref r0), (.ref b1), (.ref b1)])) rfl rfl (hb hby d16_5)
  have f4 := (F_inverse_r0.ext E1)
  obtain ⟨T5, X5, e5, st5⟩ := getF X3 hx hZ hown (host := "") (Or.inl (own_at hw 54 rfl)) Via.refl e3 f4 (g := (mkF m 9 #[rv r0] [(.ref r0), (.ref nm), (.ref b1), (.ref b1)])) rfl rfl (hb hby d16_9)
  obtain ⟨_, _, ⟨T6, L6, j6, i6⟩, -, X6, ⟨Lc6, hQ6, l6, y6, z6⟩, st6⟩ := X5.specialBack hx (y := (⟨cS0, "<init>", "(Ljava/lang/String;Z)V"⟩ : MethodName)) rfl hown (mvT hZ (own_at hw 48 rfl)) (mvT hZ (own_at hw 49 rfl)) (mvT hZ (own_at hw 50 rfl)) (by decide) (backOf (W := 1) (rmI_1 l Z a0 hw [] b1 nm .null (.int 0) h1 n0 (Nat.le_trans Z0 E1.1) A1 F_name_b1 g_b1 F_inverse_b1) hZ (own_at hw 50 rfl) (own_at hw 36 rfl) (by decide) (by decide)) (g := (mkF m 20 #[rv r0] [(.int 1), (.ref nm), (.ref b1), (.ref b1)])) rfl (by rw [hml]; rfl) (Steps.refl _) (a := b1) (argsL := [(.ref nm), (.int 1)]) (rest := [(.ref b1)]) (lenOf pd_7 rfl) rfl (Nat.le_refl _) (hb hby d16_20) (fun _ _ => ⟨rfl, e5, (by decide : 1 + 0 ≤ _), (by decide : 2 + 0 ≤ _)⟩)
  dsimp only [Pt.U, Pt.locs, Pt.cells, Pt.slots] at X6 l6 y6 z6 st6 hQ6
  subst l6 y6 z6
  have f7 := (E_r0.ext E1)
  obtain ⟨rfl, N6q, K6, p6_0, p6_1, p6_2⟩ := hQ6
  have pl6 := (allS (P := fun x => ∃ cell : Cell, h1[x]? = some cell ∧ cell.vm.isStatics = false) (own_ns A1) all0)
  have N6 := Fr.app N0 N6q
  obtain ⟨fs, hr, hrun, hended, hW, hsame⟩ := X6.leave (v := some (.ref b1)) (fun h => by rw [Bd.returns] at h; cases h)
  refine ⟨_, _, k0 _ ?_, hrun, hended, _, _, rfl, ?_, ⟨_, rfl⟩, hW, hsame.mono (by decide) (by decide)⟩
  · show OwnS p e below s₁ (mkF m 0 #[rv r0] []) _
    refine st1 _ ?_
    refine XS.dup X1.here hx rfl (hb hby d16_3) rfl rfl ?_
    refine XS.aloadN X1.here hx rfl (hb hby d16_4) rfl rfl ?_
    refine st3 _ ?_
    refine XS.aloadN X3.here hx rfl (hb hby d16_8) rfl rfl ?_
    refine st5 _ ?_
    refine XS.ifNo X5.here hx rfl (hb hby d16_12) rfl ((if0 _ _).trans (teq (by decide : (0 : Int32) = (0 : Int32))).2) ?_
    refine XS.iconst X5.here hx rfl (hb hby d16_15) ?_
    refine XS.goto X5.here hx rfl (pc0 := 16) (pc' := 20) rfl (hb hby d16_16) (by decide) (by decide) ?_
    refine st6.trans ?_
    jvm_step X6.here [X6.here.top, hx, (hb hby d16_23), X6.method', Bd.returns, Value.isRef, FieldType.isReference]
    first | (intro acts; rw [hr _ acts rfl rfl rfl]) | rw [hr _ _ rfl rfl rfl]
    exact Steps.refl _
  · show Q_X_0 Z _ _ h0 n0 _ T6.heap _
    exact ⟨b1, rfl, N6, (((Keep.refl h0 []).ext E1).trans K6 (allS (Or.inr sz_b1) all0)), sz_b1, p6_0, p6_1, p6_2⟩
theorem d16_19 : decode prog_8_method_3_code 19 = .ok (.iconst 0, 1) := by decide +kernel
def Q_X_1 (Z : State) (r0 : Addr) (nm : Addr) (h0 : Heap) (n0 : Nat) (v : Option Value) (h : Heap) (L : List Loc) : Prop := ∃ ob : Addr, v = some (.ref ob) ∧ Fr n0 L ∧ Keep h0 h [] ∧ h0.size ≤ ob ∧ Exa Z h ob cS0 ∧ Fld Z h ob cS0 "name" cS6 (.ref nm) ∧ Fld Z h ob cS0 "inverse" "Z" (.int 0)
set_option maxRecDepth 65536 in
set_option maxHeartbeats 40000000 in
theorem rmX_1 (l : Launch) (Z : State) (a0 : Array Value) (hw : ∀ d ∈ tables_1, d.before a0 Z = true) (ws : List Jvm.Cond) (r0 : Addr) (nm : Addr) (h0 : Heap) (n0 : Nat) (Z0 : n0 ≤ h0.size) (E_r0 : Exa Z h0 r0 cS0) (F_name_r0 : Fld Z h0 r0 cS0 "name" cS6 (.ref nm)) (F_inverse_r0 : Fld Z h0 r0 cS0 "inverse" "Z" (.int 1)) :
    MetFree l (⟨cS0, "inverse", cS4⟩ : MethodName) (head1 (Jvm.Cond.code (⟨cS0, "inverse", cS4⟩ : MethodName) prog_8_method_3_code 1 (some (.object cS0)) :: ws) ({ frames := 2, cells := 1, slots := 2, locals := 27 } : Room)) (fun a U => a = #[(.ref r0)] ∧ Z.Warmed39 U.vm ∧ U.heap = h0) (fun _ _ _ _ _ => True) (fun _ U o U' => ∃ v L, o = .returned v ∧ Q_X_1 Z r0 nm h0 n0 v U'.heap L ∧ FrameEnd U o U' L ({ frames := 2, cells := 1, slots := 2, locals := 27 } : Room).cells ({ frames := 2, cells := 1, slots := 2, locals := 27 } : Room).slots) := by
  refine MetFree.of_bodySF (plainFor_of_name pn_com_example_tablox_tablox_concept_Role) hisR ?_
  intro p e s m args below meth c s₁ Bd hml0 hP hK
  obtain ⟨rfl, hZ, hh⟩ := hP
  have hx := Bd.exec
  have hby := Bd.bytes
  have hml : c.maxLocals = 1 := hml0
  have hown : s.vm.findClass cS0 = some m.cls := findClass_of_methodNamed Bd.named
  have hnm := (name_of_methodNamed Bd.named Bd.method).1
  have X0 : Stand p l e ({ frames := 2, cells := 1, slots := 2, locals := 27 } : Room) s m #[(.ref r0)] below meth c s₁ [] 0 0 := Stand.of_body Bd
  have e0 : s₁.heap = h0 := by rw [← hh, Bd.state]; rfl
  have N0 := Fr.nil n0
  have k0 : ∀ t, OwnS p e below s₁ (mkF m 0 #[rv r0] []) t → OwnS p e below s₁ (entryFrame m #[(.ref r0)] 1) t := fun t k => castTop (ef_16 m r0) k
  obtain ⟨T1, h1, X1, e1, E1, A1, D1, -, st1⟩ := newO X0 hx hZ hown (own_at hw 38 rfl) (own_at hw 39 rfl) (own_at hw 36 rfl) e0 (g := (mkF m 0 #[rv r0] [])) rfl (hb hby d16_0) (by decide) (by decide)
  obtain ⟨b1, g1⟩ : ∃ z, z = h0.size := ⟨_, rfl⟩
  rw [← g1] at A1 D1 st1
  have g_b1 : n0 ≤ b1 := Nat.le_trans Z0 (Nat.le_of_eq g1.symm)
  have sz_b1 : h0.size ≤ b1 := Nat.le_trans (Keep.refl h0 []).1 (Nat.le_of_eq g1.symm)
  have F_name_b1 : Fld Z h1 b1 cS0 "name" cS6 .null := D1 (Or.inr (own_at hw 53 rfl)) (ty := (.object cS1)) (by decide)
  have F_inverse_b1 : Fld Z h1 b1 cS0 "inverse" "Z" (.int 0) := D1 (Or.inr (own_at hw 55 rfl)) (ty := .boolean) (by decide)
  have f2 := (F_name_r0.ext E1)
  obtain ⟨T3, X3, e3, st3⟩ := getF X1 hx hZ hown (host := "") (Or.inl (own_at hw 52 rfl)) Via.refl e1 f2 (g := (mkF m 5 #[rv r0] [(.ref r0), (.ref b1), (.ref b1)])) rfl rfl (hb hby d16_5)
  have f4 := (F_inverse_r0.ext E1)
  obtain ⟨T5, X5, e5, st5⟩ := getF X3 hx hZ hown (host := "") (Or.inl (own_at hw 54 rfl)) Via.refl e3 f4 (g := (mkF m 9 #[rv r0] [(.ref r0), (.ref nm), (.ref b1), (.ref b1)])) rfl rfl (hb hby d16_9)
  obtain ⟨_, _, ⟨T6, L6, j6, i6⟩, -, X6, ⟨Lc6, hQ6, l6, y6, z6⟩, st6⟩ := X5.specialBack hx (y := (⟨cS0, "<init>", "(Ljava/lang/String;Z)V"⟩ : MethodName)) rfl hown (mvT hZ (own_at hw 48 rfl)) (mvT hZ (own_at hw 49 rfl)) (mvT hZ (own_at hw 50 rfl)) (by decide) (backOf (W := 1) (rmI_0 l Z a0 hw [] b1 nm .null (.int 0) h1 n0 (Nat.le_trans Z0 E1.1) A1 F_name_b1 g_b1 F_inverse_b1) hZ (own_at hw 50 rfl) (own_at hw 36 rfl) (by decide) (by decide)) (g := (mkF m 20 #[rv r0] [(.int 0), (.ref nm), (.ref b1), (.ref b1)])) rfl (by rw [hml]; rfl) (Steps.refl _) (a := b1) (argsL := [(.ref nm), (.int 0)]) (rest := [(.ref b1)]) (lenOf pd_7 rfl) rfl (Nat.le_refl _) (hb hby d16_20) (fun _ _ => ⟨rfl, e5, (by decide : 1 + 0 ≤ _), (by decide : 2 + 0 ≤ _)⟩)
  dsimp only [Pt.U, Pt.locs, Pt.cells, Pt.slots] at X6 l6 y6 z6 st6 hQ6
  subst l6 y6 z6
  have f7 := (E_r0.ext E1)
  obtain ⟨rfl, N6q, K6, p6_0, p6_1, p6_2⟩ := hQ6
  have pl6 := (allS (P := fun x => ∃ cell : Cell, h1[x]? = some cell ∧ cell.vm.isStatics = false) (own_ns A1) all0)
  have N6 := Fr.app N0 N6q
  obtain ⟨fs, hr, hrun, hended, hW, hsame⟩ := X6.leave (v := some (.ref b1)) (fun h => by rw [Bd.returns] at h; cases h)
  refine ⟨_, _, k0 _ ?_, hrun, hended, _, _, rfl, ?_, ⟨_, rfl⟩, hW, hsame.mono (by decide) (by decide)⟩
  · show OwnS p e below s₁ (mkF m 0 #[rv r0] []) _
    refine st1 _ ?_
    refine XS.dup X1.here hx rfl (hb hby d16_3) rfl rfl ?_
    refine XS.aloadN X1.here hx rfl (hb hby d16_4) rfl rfl ?_
    refine st3 _ ?_
    refine XS.aloadN X3.here hx rfl (hb hby d16_8) rfl rfl ?_
    refine st5 _ ?_
    refine XS.ifYes X5.here hx rfl (pc0 := 12) (pc' := 19) rfl (hb hby d16_12) rfl ((if0 _ _).trans (feq (by decide : ¬ ((1 : Int32) = (0 : Int32)))).2) (by decide) (by decide) ?_
    refine XS.iconst X5.here hx rfl (hb hby d16_19) ?_
    refine st6.trans ?_
    jvm_step X6.here [X6.here.top, hx, (hb hby d16_23), X6.method', Bd.returns, Value.isRef, FieldType.isReference]
    first | (intro acts; rw [hr _ acts rfl rfl rfl]) | rw [hr _ _ rfl rfl rfl]
    exact Steps.refl _
  · show Q_X_1 Z _ _ h0 n0 _ T6.heap _
    exact ⟨b1, rfl, N6, (((Keep.refl h0 []).ext E1).trans K6 (allS (Or.inr sz_b1) all0)), sz_b1, p6_0, p6_1, p6_2⟩
theorem d14_0 : decode prog_8_method_6_code 0 = .ok (.aload_n 1, 1) := by decide +kernel
theorem d14_1 : decode prog_8_method_6_code 1 = .ok (.instanceof 8, 3) := by decide +kernel
theorem d14_4 : decode prog_8_method_6_code 4 = .ok (.ifCond .eq 37, 3) := by decide +kernel
theorem d14_7 : decode prog_8_method_6_code 7 = .ok (.aload_n 1, 1) := by decide +kernel
theorem d14_8 : decode prog_8_method_6_code 8 = .ok (.checkcast 8, 3) := by decide +kernel
theorem d14_11 : decode prog_8_method_6_code 11 = .ok (.astore_n 2, 1) := by decide +kernel
theorem d14_12 : decode prog_8_method_6_code 12 = .ok (.aload_n 0, 1) := by decide +kernel
theorem d14_13 : decode prog_8_method_6_code 13 = .ok (.getfield 13, 3) := by decide +kernel
theorem d14_16 : decode prog_8_method_6_code 16 = .ok (.aload_n 2, 1) := by decide +kernel
theorem d14_17 : decode prog_8_method_6_code 17 = .ok (.getfield 13, 3) := by decide +kernel
theorem d14_20 : decode prog_8_method_6_code 20 = .ok (.if_icmp .ne 21, 3) := by decide +kernel
theorem d14_41 : decode prog_8_method_6_code 41 = .ok (.iconst 0, 1) := by decide +kernel
theorem d14_42 : decode prog_8_method_6_code 42 = .ok (.ireturn, 1) := by decide +kernel
theorem ef_14 (m : MethodId) (x0 : Addr) (x1 : Addr) : entryFrame m #[(.ref x0), (.ref x1)] 3 = mkF m 0 #[.val (.ref x0), .val (.ref x1), .unset] [] := by first | (simp [entryFrame, mkF, argsToLocals, Value.category]; done) | rfl
def Q_Q_d (Z : State) (r0 : Addr) (r1 : Addr) (nm : Addr) (nm2 : Addr) (h0 : Heap) (n0 : Nat) (v : Option Value) (h : Heap) (L : List Loc) : Prop := v = some (.int 0) ∧ Fr n0 L ∧ h = h0
set_option maxRecDepth 65536 in
set_option maxHeartbeats 40000000 in
theorem rmQ_d (l : Launch) (Z : State) (a0 : Array Value) (hw : ∀ d ∈ tables_1, d.before a0 Z = true) (ws : List Jvm.Cond) (r0 : Addr) (r1 : Addr) (nm : Addr) (nm2 : Addr) (h0 : Heap) (n0 : Nat) (Z0 : n0 ≤ h0.size) (E_r0 : Exa Z h0 r0 cS0) (F_name_r0 : Fld Z h0 r0 cS0 "name" cS6 (.ref nm)) (F_inverse_r0 : Fld Z h0 r0 cS0 "inverse" "Z" (.int 1)) (E_r1 : Exa Z h0 r1 cS0) (F_name_r1 : Fld Z h0 r1 cS0 "name" cS6 (.ref nm2)) (F_inverse_r1 : Fld Z h0 r1 cS0 "inverse" "Z" (.int 0)) :
    MetFree l (⟨cS0, "equals", cS2⟩ : MethodName) (head1 (Jvm.Cond.code (⟨cS0, "equals", cS2⟩ : MethodName) prog_8_method_6_code 3 (some .boolean) :: ws) ({ frames := 0, cells := 0, slots := 0, locals := 0 } : Room)) (fun a U => a = #[(.ref r0), (.ref r1)] ∧ Z.Warmed39 U.vm ∧ U.heap = h0) (fun _ _ _ _ _ => True) (fun _ U o U' => ∃ v L, o = .returned v ∧ Q_Q_d Z r0 r1 nm nm2 h0 n0 v U'.heap L ∧ FrameEnd U o U' L ({ frames := 0, cells := 0, slots := 0, locals := 0 } : Room).cells ({ frames := 0, cells := 0, slots := 0, locals := 0 } : Room).slots) := by
  refine MetFree.of_bodySF (plainFor_of_name pn_com_example_tablox_tablox_concept_Role) hisR ?_
  intro p e s m args below meth c s₁ Bd hml0 hP hK
  obtain ⟨rfl, hZ, hh⟩ := hP
  have hx := Bd.exec
  have hby := Bd.bytes
  have hml : c.maxLocals = 3 := hml0
  have hown : s.vm.findClass cS0 = some m.cls := findClass_of_methodNamed Bd.named
  have hnm := (name_of_methodNamed Bd.named Bd.method).1
  have X0 : Stand p l e ({ frames := 0, cells := 0, slots := 0, locals := 0 } : Room) s m #[(.ref r0), (.ref r1)] below meth c s₁ [] 0 0 := Stand.of_body Bd
  have e0 : s₁.heap = h0 := by rw [← hh, Bd.state]; rfl
  have N0 := Fr.nil n0
  have k0 : ∀ t, OwnS p e below s₁ (mkF m 0 #[rv r0, rv r1, .unset] []) t → OwnS p e below s₁ (entryFrame m #[(.ref r0), (.ref r1)] 3) t := fun t k => castTop (ef_14 m r0 r1) k
  obtain ⟨T1, X1, e1, st1⟩ := instY X0 hx hZ hown (own_at hw 38 rfl) e0 (Ins.self E_r1) (g := (mkF m 1 #[rv r0, rv r1, .unset] [(.ref r1)])) rfl rfl (hb hby d14_1)
  obtain ⟨T2, X2, e2, st2⟩ := castY X1 hx hZ hown (own_at hw 38 rfl) e1 (Ins.self E_r1) (g := (mkF m 8 #[rv r0, rv r1, .unset] [(.ref r1)])) rfl rfl (hb hby d14_8)
  obtain ⟨T3, X3, e3, st3⟩ := getF X2 hx hZ hown (host := "") (Or.inl (own_at hw 54 rfl)) Via.refl e2 F_inverse_r0 (g := (mkF m 13 #[rv r0, rv r1, rv r1] [(.ref r0)])) rfl rfl (hb hby d14_13)
  obtain ⟨T4, X4, e4, st4⟩ := getF X3 hx hZ hown (host := "") (Or.inl (own_at hw 54 rfl)) Via.refl e3 F_inverse_r1 (g := (mkF m 17 #[rv r0, rv r1, rv r1] [(.ref r1), (.int 1)])) rfl rfl (hb hby d14_17)
  obtain ⟨fs, hr, hrun, hended, hW, hsame⟩ := X4.leave (v := some (.int 0)) (fun h => by rw [Bd.returns] at h; cases h)
  refine ⟨_, _, k0 _ ?_, hrun, hended, _, _, rfl, ?_, ⟨_, rfl⟩, hW, hsame.mono (by decide) (by decide)⟩
  · show OwnS p e below s₁ (mkF m 0 #[rv r0, rv r1, .unset] []) _
    refine XS.aloadN X0.here hx rfl (hb hby d14_0) rfl rfl ?_
    refine st1 _ ?_
    refine XS.ifNo X1.here hx rfl (hb hby d14_4) rfl ((if0 _ _).trans (feq (by decide : ¬ ((1 : Int32) = (0 : Int32)))).1) ?_
    refine XS.aloadN X1.here hx rfl (hb hby d14_7) rfl rfl ?_
    refine st2 _ ?_
    refine XS.astoreN X2.here hx rfl (hb hby d14_11) rfl rfl (l' := #[rv r0, rv r1, rv r1]) rfl ?_
    refine XS.aloadN X2.here hx rfl (hb hby d14_12) rfl rfl ?_
    refine st3 _ ?_
    refine XS.aloadN X3.here hx rfl (hb hby d14_16) rfl rfl ?_
    refine st4 _ ?_
    refine XS.icmpYes X4.here hx rfl (pc0 := 20) (pc' := 41) rfl (hb hby d14_20) rfl (feq (by decide : ¬ ((1 : Int32) = (0 : Int32)))).2 (by decide) (by decide) ?_
    refine XS.iconst X4.here hx rfl (hb hby d14_41) ?_
    exact retN X4 hx (t := .boolean) Bd.returns (by simp) (hb hby d14_42) hr
  · show Q_Q_d Z _ _ _ _ h0 n0 _ T4.heap _
    rw [e4]
    exact ⟨rfl, N0, rfl⟩
theorem pd_8 : parseMethodDescriptor cS2 = some ⟨[(.object "java/lang/Object")], some .boolean⟩ := by decide +kernel
theorem d14_23 : decode prog_8_method_6_code 23 = .ok (.aload_n 0, 1) := by decide +kernel
theorem d14_24 : decode prog_8_method_6_code 24 = .ok (.getfield 7, 3) := by decide +kernel
theorem d14_27 : decode prog_8_method_6_code 27 = .ok (.aload_n 2, 1) := by decide +kernel
theorem d14_28 : decode prog_8_method_6_code 28 = .ok (.getfield 7, 3) := by decide +kernel
theorem d14_31 : decode prog_8_method_6_code 31 = .ok (.invokevirtual 30, 3) := by decide +kernel
theorem d14_34 : decode prog_8_method_6_code 34 = .ok (.ifCond .eq 7, 3) := by decide +kernel
theorem d14_37 : decode prog_8_method_6_code 37 = .ok (.iconst 1, 1) := by decide +kernel
theorem d14_38 : decode prog_8_method_6_code 38 = .ok (.goto 4, 3) := by decide +kernel
def Q_Q_s (Z : State) (r0 : Addr) (r1 : Addr) (nm : Addr) (h0 : Heap) (n0 : Nat) (v : Option Value) (h : Heap) (L : List Loc) : Prop := v = some (.int 1) ∧ Fr n0 L ∧ h = h0
set_option maxRecDepth 65536 in
set_option maxHeartbeats 40000000 in
theorem rmQ_s (l : Launch) (Z : State) (a0 : Array Value) (hw : ∀ d ∈ tables_1, d.before a0 Z = true) (ws : List Jvm.Cond) (r0 : Addr) (r1 : Addr) (nm : Addr) (h0 : Heap) (n0 : Nat) (Z0 : n0 ≤ h0.size) (E_r0 : Exa Z h0 r0 cS0) (F_name_r0 : Fld Z h0 r0 cS0 "name" cS6 (.ref nm)) (F_inverse_r0 : Fld Z h0 r0 cS0 "inverse" "Z" (.int 0)) (E_r1 : Exa Z h0 r1 cS0) (F_name_r1 : Fld Z h0 r1 cS0 "name" cS6 (.ref nm)) (F_inverse_r1 : Fld Z h0 r1 cS0 "inverse" "Z" (.int 0)) (E_nm : Exa Z h0 nm cS1) :
    MetFree l (⟨cS0, "equals", cS2⟩ : MethodName) (head1 (Jvm.Cond.code (⟨cS0, "equals", cS2⟩ : MethodName) prog_8_method_6_code 3 (some .boolean) :: ws) ({ frames := 1, cells := 0, slots := 0, locals := 14 } : Room)) (fun a U => a = #[(.ref r0), (.ref r1)] ∧ Z.Warmed39 U.vm ∧ U.heap = h0) (fun _ _ _ _ _ => True) (fun _ U o U' => ∃ v L, o = .returned v ∧ Q_Q_s Z r0 r1 nm h0 n0 v U'.heap L ∧ FrameEnd U o U' L ({ frames := 1, cells := 0, slots := 0, locals := 14 } : Room).cells ({ frames := 1, cells := 0, slots := 0, locals := 14 } : Room).slots) := by
  refine MetFree.of_bodySF (plainFor_of_name pn_com_example_tablox_tablox_concept_Role) hisR ?_
  intro p e s m args below meth c s₁ Bd hml0 hP hK
  obtain ⟨rfl, hZ, hh⟩ := hP
  have hx := Bd.exec
  have hby := Bd.bytes
  have hml : c.maxLocals = 3 := hml0
  have hown : s.vm.findClass cS0 = some m.cls := findClass_of_methodNamed Bd.named
  have hnm := (name_of_methodNamed Bd.named Bd.method).1
  have X0 : Stand p l e ({ frames := 1, cells := 0, slots := 0, locals := 14 } : Room) s m #[(.ref r0), (.ref r1)] below meth c s₁ [] 0 0 := Stand.of_body Bd
  have e0 : s₁.heap = h0 := by rw [← hh, Bd.state]; rfl
  have N0 := Fr.nil n0
  have k0 : ∀ t, OwnS p e below s₁ (mkF m 0 #[rv r0, rv r1, .unset] []) t → OwnS p e below s₁ (entryFrame m #[(.ref r0), (.ref r1)] 3) t := fun t k => castTop (ef_14 m r0 r1) k
  obtain ⟨T1, X1, e1, st1⟩ := instY X0 hx hZ hown (own_at hw 38 rfl) e0 (Ins.self E_r1) (g := (mkF m 1 #[rv r0, rv r1, .unset] [(.ref r1)])) rfl rfl (hb hby d14_1)
  obtain ⟨T2, X2, e2, st2⟩ := castY X1 hx hZ hown (own_at hw 38 rfl) e1 (Ins.self E_r1) (g := (mkF m 8 #[rv r0, rv r1, .unset] [(.ref r1)])) rfl rfl (hb hby d14_8)
  obtain ⟨T3, X3, e3, st3⟩ := getF X2 hx hZ hown (host := "") (Or.inl (own_at hw 54 rfl)) Via.refl e2 F_inverse_r0 (g := (mkF m 13 #[rv r0, rv r1, rv r1] [(.ref r0)])) rfl rfl (hb hby d14_13)
  obtain ⟨T4, X4, e4, st4⟩ := getF X3 hx hZ hown (host := "") (Or.inl (own_at hw 54 rfl)) Via.refl e3 F_inverse_r1 (g := (mkF m 17 #[rv r0, rv r1, rv r1] [(.ref r1), (.int 0)])) rfl rfl (hb hby d14_17)
  obtain ⟨T5, X5, e5, st5⟩ := getF X4 hx hZ hown (host := "") (Or.inl (own_at hw 52 rfl)) Via.refl e4 F_name_r0 (g := (mkF m 24 #[rv r0, rv r1, rv r1] [(.ref r0)])) rfl rfl (hb hby d14_24)
  obtain ⟨T6, X6, e6, st6⟩ := getF X5 hx hZ hown (host := "") (Or.inl (own_at hw 52 rfl)) Via.refl e5 F_name_r1 (g := (mkF m 28 #[rv r0, rv r1, rv r1] [(.ref r1), (.ref nm)])) rfl rfl (hb hby d14_28)
  obtain ⟨cq7, kq7, q7a, q7b, q7c⟩ := isOf hZ e6 E_nm
  obtain ⟨_, _, ⟨T7, L7, j7, i7⟩, -, X7, ⟨Lc7, hQ7, l7, y7, z7⟩, st7⟩ := X6.virtualBack hx (y := (⟨cS1, "equals", cS2⟩ : MethodName)) (z := (⟨cS1, "equals", cS2⟩ : MethodName)) hown (mvT hZ (own_at hw 77 rfl)) (mvT hZ (own_at hw 62 rfl)) (notFace_of_selects (args := #[]) (mvT hZ (own_at hw 64 rfl))) (mvT hZ (own_at hw 64 rfl)) (mvT hZ (own_at hw 63 rfl)) (by decide) (backOf (W := 0) (rmS_same l Z a0 hw [] nm h0 n0 Z0 ) hZ (own_at hw 65 rfl) (own_at hw 6 rfl) (by decide) (by decide)) q7a q7c (g := (mkF m 31 #[rv r0, rv r1, rv r1] [(.ref nm), (.ref nm)])) rfl (by rw [hml]; rfl) (Steps.refl _) (argsL := [(.ref nm)]) (rest := []) (lenOf pd_8 rfl) rfl (Nat.le_refl _) (hb hby d14_31) (fun _ _ => ⟨rfl, e6, (by decide : 0 + 0 ≤ _), (by decide : 0 + 0 ≤ _)⟩)
  dsimp only [Pt.U, Pt.locs, Pt.cells, Pt.slots] at X7 l7 y7 z7 st7 hQ7
  subst l7 y7 z7
  obtain ⟨rfl, N7q, e7⟩ := hQ7
  have N7 := Fr.app N0 N7q
  obtain ⟨fs, hr, hrun, hended, hW, hsame⟩ := X7.leave (v := some (.int 1)) (fun h => by rw [Bd.returns] at h; cases h)
  refine ⟨_, _, k0 _ ?_, hrun, hended, _, _, rfl, ?_, ⟨_, rfl⟩, hW, hsame.mono (by decide) (by decide)⟩
  · show OwnS p e below s₁ (mkF m 0 #[rv r0, rv r1, .unset] []) _
    refine XS.aloadN X0.here hx rfl (hb hby d14_0) rfl rfl ?_
    refine st1 _ ?_
    refine XS.ifNo X1.here hx rfl (hb hby d14_4) rfl ((if0 _ _).trans (feq (by decide : ¬ ((1 : Int32) = (0 : Int32)))).1) ?_
    refine XS.aloadN X1.here hx rfl (hb hby d14_7) rfl rfl ?_
    refine st2 _ ?_
    refine XS.astoreN X2.here hx rfl (hb hby d14_11) rfl rfl (l' := #[rv r0, rv r1, rv r1]) rfl ?_
    refine XS.aloadN X2.here hx rfl (hb hby d14_12) rfl rfl ?_
    refine st3 _ ?_
    refine XS.aloadN X3.here hx rfl (hb hby d14_16) rfl rfl ?_
    refine st4 _ ?_
    refine XS.icmpNo X4.here hx rfl (hb hby d14_20) rfl (teq (by decide : (0 : Int32) = (0 : Int32))).2 ?_
    refine XS.aloadN X4.here hx rfl (hb hby d14_23) rfl rfl ?_
    refine st5 _ ?_
    refine XS.aloadN X5.here hx rfl (hb hby d14_27) rfl rfl ?_
    refine st6 _ ?_
    refine st7.trans ?_
    refine XS.ifNo X7.here hx rfl (hb hby d14_34) rfl ((if0 _ _).trans (feq (by decide : ¬ ((1 : Int32) = (0 : Int32)))).1) ?_
    refine XS.iconst X7.here hx rfl (hb hby d14_37) ?_
    refine XS.goto X7.here hx rfl (pc0 := 38) (pc' := 42) rfl (hb hby d14_38) (by decide) (by decide) ?_
    exact retN X7 hx (t := .boolean) Bd.returns (by simp) (hb hby d14_42) hr
  · show Q_Q_s Z _ _ _ h0 n0 _ T7.heap _
    rw [e7]
    exact ⟨rfl, N7, rfl⟩
def Q_Q_eq (Z : State) (r0 : Addr) (r1 : Addr) (nm : Addr) (nm2 : Addr) (w_CS : Int32) (va : Addr) (kA : ClassId) (vb : Addr) (kB : ClassId) (z : Int32) (La : List Value) (h0 : Heap) (n0 : Nat) (v : Option Value) (h : Heap) (L : List Loc) : Prop := v = some (.int 1) ∧ Fr n0 L ∧ h = h0
set_option maxRecDepth 65536 in
set_option maxHeartbeats 40000000 in
theorem rmQ_eq (l : Launch) (Z : State) (a0 : Array Value) (hw : ∀ d ∈ tables_1, d.before a0 Z = true) (ws : List Jvm.Cond) (r0 : Addr) (r1 : Addr) (nm : Addr) (nm2 : Addr) (w_CS : Int32) (va : Addr) (kA : ClassId) (vb : Addr) (kB : ClassId) (z : Int32) (La : List Value) (h0 : Heap) (n0 : Nat) (Z0 : n0 ≤ h0.size) (E_r0 : Exa Z h0 r0 cS0) (F_name_r0 : Fld Z h0 r0 cS0 "name" cS6 (.ref nm)) (F_inverse_r0 : Fld Z h0 r0 cS0 "inverse" "Z" (.int 0)) (E_r1 : Exa Z h0 r1 cS0) (F_name_r1 : Fld Z h0 r1 cS0 "name" cS6 (.ref nm2)) (F_inverse_r1 : Fld Z h0 r1 cS0 "inverse" "Z" (.int 0)) (S_CS : Sta Z h0 cS1 "COMPACT_STRINGS" "Z" (.int w_CS)) (hcs : ¬ (w_CS = (0 : Int32))) (E_nm : Exa Z h0 nm cS1) (F_coder_nm : Fld Z h0 nm cS1 "coder" "B" (.int 0)) (F_value_nm : Fld Z h0 nm cS1 "value" "[B" (.ref va)) (V_va : Arv Z h0 va kA .byte z La (.int 0)) (E_nm2 : Exa Z h0 nm2 cS1) (F_coder_nm2 : Fld Z h0 nm2 cS1 "coder" "B" (.int 0)) (F_value_nm2 : Fld Z h0 nm2 cS1 "value" "[B" (.ref vb)) (V_vb : Arv Z h0 vb kB .byte z La (.int 0)) (hrne : ¬ (nm = nm2)) (h_small : own_small z La) :
    MetFree l (⟨cS0, "equals", cS2⟩ : MethodName) (head1 (Jvm.Cond.code (⟨cS0, "equals", cS2⟩ : MethodName) prog_8_method_6_code 3 (some .boolean) :: ws) ({ frames := 2, cells := 0, slots := 0, locals := 28 } : Room)) (fun a U => a = #[(.ref r0), (.ref r1)] ∧ Z.Warmed39 U.vm ∧ U.heap = h0) (fun _ _ _ _ _ => True) (fun _ U o U' => ∃ v L, o = .returned v ∧ Q_Q_eq Z r0 r1 nm nm2 w_CS va kA vb kB z La h0 n0 v U'.heap L ∧ FrameEnd U o U' L ({ frames := 2, cells := 0, slots := 0, locals := 28 } : Room).cells ({ frames := 2, cells := 0, slots := 0, locals := 28 } : Room).slots) := by
  refine MetFree.of_bodySF (plainFor_of_name pn_com_example_tablox_tablox_concept_Role) hisR ?_
  intro p e s m args below meth c s₁ Bd hml0 hP hK
  obtain ⟨rfl, hZ, hh⟩ := hP
  have hx := Bd.exec
  have hby := Bd.bytes
  have hml : c.maxLocals = 3 := hml0
  have hown : s.vm.findClass cS0 = some m.cls := findClass_of_methodNamed Bd.named
  have hnm := (name_of_methodNamed Bd.named Bd.method).1
  have X0 : Stand p l e ({ frames := 2, cells := 0, slots := 0, locals := 28 } : Room) s m #[(.ref r0), (.ref r1)] below meth c s₁ [] 0 0 := Stand.of_body Bd
  have e0 : s₁.heap = h0 := by rw [← hh, Bd.state]; rfl
  have N0 := Fr.nil n0
  have k0 : ∀ t, OwnS p e below s₁ (mkF m 0 #[rv r0, rv r1, .unset] []) t → OwnS p e below s₁ (entryFrame m #[(.ref r0), (.ref r1)] 3) t := fun t k => castTop (ef_14 m r0 r1) k
  obtain ⟨T1, X1, e1, st1⟩ := instY X0 hx hZ hown (own_at hw 38 rfl) e0 (Ins.self E_r1) (g := (mkF m 1 #[rv r0, rv r1, .unset] [(.ref r1)])) rfl rfl (hb hby d14_1)
  obtain ⟨T2, X2, e2, st2⟩ := castY X1 hx hZ hown (own_at hw 38 rfl) e1 (Ins.self E_r1) (g := (mkF m 8 #[rv r0, rv r1, .unset] [(.ref r1)])) rfl rfl (hb hby d14_8)
  obtain ⟨T3, X3, e3, st3⟩ := getF X2 hx hZ hown (host := "") (Or.inl (own_at hw 54 rfl)) Via.refl e2 F_inverse_r0 (g := (mkF m 13 #[rv r0, rv r1, rv r1] [(.ref r0)])) rfl rfl (hb hby d14_13)
  obtain ⟨T4, X4, e4, st4⟩ := getF X3 hx hZ hown (host := "") (Or.inl (own_at hw 54 rfl)) Via.refl e3 F_inverse_r1 (g := (mkF m 17 #[rv r0, rv r1, rv r1] [(.ref r1), (.int 0)])) rfl rfl (hb hby d14_17)
  obtain ⟨T5, X5, e5, st5⟩ := getF X4 hx hZ hown (host := "") (Or.inl (own_at hw 52 rfl)) Via.refl e4 F_name_r0 (g := (mkF m 24 #[rv r0, rv r1, rv r1] [(.ref r0)])) rfl rfl (hb hby d14_24)
  obtain ⟨T6, X6, e6, st6⟩ := getF X5 hx hZ hown (host := "") (Or.inl (own_at hw 52 rfl)) Via.refl e5 F_name_r1 (g := (mkF m 28 #[rv r0, rv r1, rv r1] [(.ref r1), (.ref nm)])) rfl rfl (hb hby d14_28)
  obtain ⟨cq7, kq7, q7a, q7b, q7c⟩ := isOf hZ e6 E_nm
  obtain ⟨_, _, ⟨T7, L7, j7, i7⟩, -, X7, ⟨Lc7, hQ7, l7, y7, z7⟩, st7⟩ := X6.virtualBack hx (y := (⟨cS1, "equals", cS2⟩ : MethodName)) (z := (⟨cS1, "equals", cS2⟩ : MethodName)) hown (mvT hZ (own_at hw 77 rfl)) (mvT hZ (own_at hw 62 rfl)) (notFace_of_selects (args := #[]) (mvT hZ (own_at hw 64 rfl))) (mvT hZ (own_at hw 64 rfl)) (mvT hZ (own_at hw 63 rfl)) (by decide) (backOf (W := 0) (rmS_eq l Z a0 hw [] nm nm2 w_CS va kA vb kB z La h0 n0 Z0 S_CS hcs E_nm F_coder_nm F_value_nm V_va E_nm2 F_coder_nm2 F_value_nm2 V_vb hrne h_small) hZ (own_at hw 65 rfl) (own_at hw 6 rfl) (by decide) (by decide)) q7a q7c (g := (mkF m 31 #[rv r0, rv r1, rv r1] [(.ref nm2), (.ref nm)])) rfl (by rw [hml]; rfl) (Steps.refl _) (argsL := [(.ref nm2)]) (rest := []) (lenOf pd_8 rfl) rfl (Nat.le_refl _) (hb hby d14_31) (fun _ _ => ⟨rfl, e6, (by decide : 0 + 0 ≤ _), (by decide : 0 + 0 ≤ _)⟩)
  dsimp only [Pt.U, Pt.locs, Pt.cells, Pt.slots] at X7 l7 y7 z7 st7 hQ7
  subst l7 y7 z7
  obtain ⟨rfl, N7q, e7⟩ := hQ7
  have N7 := Fr.app N0 N7q
  obtain ⟨fs, hr, hrun, hended, hW, hsame⟩ := X7.leave (v := some (.int 1)) (fun h => by rw [Bd.returns] at h; cases h)
  refine ⟨_, _, k0 _ ?_, hrun, hended, _, _, rfl, ?_, ⟨_, rfl⟩, hW, hsame.mono (by decide) (by decide)⟩
  · show OwnS p e below s₁ (mkF m 0 #[rv r0, rv r1, .unset] []) _
    refine XS.aloadN X0.here hx rfl (hb hby d14_0) rfl rfl ?_
    refine st1 _ ?_
    refine XS.ifNo X1.here hx rfl (hb hby d14_4) rfl ((if0 _ _).trans (feq (by decide : ¬ ((1 : Int32) = (0 : Int32)))).1) ?_
    refine XS.aloadN X1.here hx rfl (hb hby d14_7) rfl rfl ?_
    refine st2 _ ?_
    refine XS.astoreN X2.here hx rfl (hb hby d14_11) rfl rfl (l' := #[rv r0, rv r1, rv r1]) rfl ?_
    refine XS.aloadN X2.here hx rfl (hb hby d14_12) rfl rfl ?_
    refine st3 _ ?_
    refine XS.aloadN X3.here hx rfl (hb hby d14_16) rfl rfl ?_
    refine st4 _ ?_
    refine XS.icmpNo X4.here hx rfl (hb hby d14_20) rfl (teq (by decide : (0 : Int32) = (0 : Int32))).2 ?_
    refine XS.aloadN X4.here hx rfl (hb hby d14_23) rfl rfl ?_
    refine st5 _ ?_
    refine XS.aloadN X5.here hx rfl (hb hby d14_27) rfl rfl ?_
    refine st6 _ ?_
    refine st7.trans ?_
    refine XS.ifNo X7.here hx rfl (hb hby d14_34) rfl ((if0 _ _).trans (feq (by decide : ¬ ((1 : Int32) = (0 : Int32)))).1) ?_
    refine XS.iconst X7.here hx rfl (hb hby d14_37) ?_
    refine XS.goto X7.here hx rfl (pc0 := 38) (pc' := 42) rfl (hb hby d14_38) (by decide) (by decide) ?_
    exact retN X7 hx (t := .boolean) Bd.returns (by simp) (hb hby d14_42) hr
  · show Q_Q_eq Z _ _ _ _ _ _ _ _ _ _ _ h0 n0 _ T7.heap _
    rw [e7]
    exact ⟨rfl, N7, rfl⟩
def Q_Q_ne (Z : State) (r0 : Addr) (r1 : Addr) (nm : Addr) (nm2 : Addr) (w_CS : Int32) (va : Addr) (kA : ClassId) (vb : Addr) (kB : ClassId) (z : Int32) (La : List Value) (z2 : Int32) (Lb : List Value) (h0 : Heap) (n0 : Nat) (v : Option Value) (h : Heap) (L : List Loc) : Prop := v = some (.int 0) ∧ Fr n0 L ∧ h = h0
set_option maxRecDepth 65536 in
set_option maxHeartbeats 40000000 in
theorem rmQ_ne (l : Launch) (Z : State) (a0 : Array Value) (hw : ∀ d ∈ tables_1, d.before a0 Z = true) (ws : List Jvm.Cond) (r0 : Addr) (r1 : Addr) (nm : Addr) (nm2 : Addr) (w_CS : Int32) (va : Addr) (kA : ClassId) (vb : Addr) (kB : ClassId) (z : Int32) (La : List Value) (z2 : Int32) (Lb : List Value) (h0 : Heap) (n0 : Nat) (Z0 : n0 ≤ h0.size) (E_r0 : Exa Z h0 r0 cS0) (F_name_r0 : Fld Z h0 r0 cS0 "name" cS6 (.ref nm)) (F_inverse_r0 : Fld Z h0 r0 cS0 "inverse" "Z" (.int 0)) (E_r1 : Exa Z h0 r1 cS0) (F_name_r1 : Fld Z h0 r1 cS0 "name" cS6 (.ref nm2)) (F_inverse_r1 : Fld Z h0 r1 cS0 "inverse" "Z" (.int 0)) (S_CS : Sta Z h0 cS1 "COMPACT_STRINGS" "Z" (.int w_CS)) (hcs : ¬ (w_CS = (0 : Int32))) (E_nm : Exa Z h0 nm cS1) (F_coder_nm : Fld Z h0 nm cS1 "coder" "B" (.int 0)) (F_value_nm : Fld Z h0 nm cS1 "value" "[B" (.ref va)) (V_va : Arv Z h0 va kA .byte z La (.int 0)) (E_nm2 : Exa Z h0 nm2 cS1) (F_coder_nm2 : Fld Z h0 nm2 cS1 "coder" "B" (.int 0)) (F_value_nm2 : Fld Z h0 nm2 cS1 "value" "[B" (.ref vb)) (V_vb : Arv Z h0 vb kB .byte z2 Lb (.int 0)) (hrne : ¬ (nm = nm2)) (h_small : own_small z La) (h_small2 : own_small z2 Lb) (hne : ¬ (La = Lb)) :
    MetFree l (⟨cS0, "equals", cS2⟩ : MethodName) (head1 (Jvm.Cond.code (⟨cS0, "equals", cS2⟩ : MethodName) prog_8_method_6_code 3 (some .boolean) :: ws) ({ frames := 2, cells := 0, slots := 0, locals := 28 } : Room)) (fun a U => a = #[(.ref r0), (.ref r1)] ∧ Z.Warmed39 U.vm ∧ U.heap = h0) (fun _ _ _ _ _ => True) (fun _ U o U' => ∃ v L, o = .returned v ∧ Q_Q_ne Z r0 r1 nm nm2 w_CS va kA vb kB z La z2 Lb h0 n0 v U'.heap L ∧ FrameEnd U o U' L ({ frames := 2, cells := 0, slots := 0, locals := 28 } : Room).cells ({ frames := 2, cells := 0, slots := 0, locals := 28 } : Room).slots) := by
  refine MetFree.of_bodySF (plainFor_of_name pn_com_example_tablox_tablox_concept_Role) hisR ?_
  intro p e s m args below meth c s₁ Bd hml0 hP hK
  obtain ⟨rfl, hZ, hh⟩ := hP
  have hx := Bd.exec
  have hby := Bd.bytes
  have hml : c.maxLocals = 3 := hml0
  have hown : s.vm.findClass cS0 = some m.cls := findClass_of_methodNamed Bd.named
  have hnm := (name_of_methodNamed Bd.named Bd.method).1
  have X0 : Stand p l e ({ frames := 2, cells := 0, slots := 0, locals := 28 } : Room) s m #[(.ref r0), (.ref r1)] below meth c s₁ [] 0 0 := Stand.of_body Bd
  have e0 : s₁.heap = h0 := by rw [← hh, Bd.state]; rfl
  have N0 := Fr.nil n0
  have k0 : ∀ t, OwnS p e below s₁ (mkF m 0 #[rv r0, rv r1, .unset] []) t → OwnS p e below s₁ (entryFrame m #[(.ref r0), (.ref r1)] 3) t := fun t k => castTop (ef_14 m r0 r1) k
  obtain ⟨T1, X1, e1, st1⟩ := instY X0 hx hZ hown (own_at hw 38 rfl) e0 (Ins.self E_r1) (g := (mkF m 1 #[rv r0, rv r1, .unset] [(.ref r1)])) rfl rfl (hb hby d14_1)
  obtain ⟨T2, X2, e2, st2⟩ := castY X1 hx hZ hown (own_at hw 38 rfl) e1 (Ins.self E_r1) (g := (mkF m 8 #[rv r0, rv r1, .unset] [(.ref r1)])) rfl rfl (hb hby d14_8)
  obtain ⟨T3, X3, e3, st3⟩ := getF X2 hx hZ hown (host := "") (Or.inl (own_at hw 54 rfl)) Via.refl e2 F_inverse_r0 (g := (mkF m 13 #[rv r0, rv r1, rv r1] [(.ref r0)])) rfl rfl (hb hby d14_13)
  obtain ⟨T4, X4, e4, st4⟩ := getF X3 hx hZ hown (host := "") (Or.inl (own_at hw 54 rfl)) Via.refl e3 F_inverse_r1 (g := (mkF m 17 #[rv r0, rv r1, rv r1] [(.ref r1), (.int 0)])) rfl rfl (hb hby d14_17)
  obtain ⟨T5, X5, e5, st5⟩ := getF X4 hx hZ hown (host := "") (Or.inl (own_at hw 52 rfl)) Via.refl e4 F_name_r0 (g := (mkF m 24 #[rv r0, rv r1, rv r1] [(.ref r0)])) rfl rfl (hb hby d14_24)
  obtain ⟨T6, X6, e6, st6⟩ := getF X5 hx hZ hown (host := "") (Or.inl (own_at hw 52 rfl)) Via.refl e5 F_name_r1 (g := (mkF m 28 #[rv r0, rv r1, rv r1] [(.ref r1), (.ref nm)])) rfl rfl (hb hby d14_28)
  obtain ⟨cq7, kq7, q7a, q7b, q7c⟩ := isOf hZ e6 E_nm
  obtain ⟨_, _, ⟨T7, L7, j7, i7⟩, -, X7, ⟨Lc7, hQ7, l7, y7, z7⟩, st7⟩ := X6.virtualBack hx (y := (⟨cS1, "equals", cS2⟩ : MethodName)) (z := (⟨cS1, "equals", cS2⟩ : MethodName)) hown (mvT hZ (own_at hw 77 rfl)) (mvT hZ (own_at hw 62 rfl)) (notFace_of_selects (args := #[]) (mvT hZ (own_at hw 64 rfl))) (mvT hZ (own_at hw 64 rfl)) (mvT hZ (own_at hw 63 rfl)) (by decide) (backOf (W := 0) (rmS_ne l Z a0 hw [] nm nm2 w_CS va kA vb kB z La z2 Lb h0 n0 Z0 S_CS hcs E_nm F_coder_nm F_value_nm V_va E_nm2 F_coder_nm2 F_value_nm2 V_vb hrne h_small h_small2 hne) hZ (own_at hw 65 rfl) (own_at hw 6 rfl) (by decide) (by decide)) q7a q7c (g := (mkF m 31 #[rv r0, rv r1, rv r1] [(.ref nm2), (.ref nm)])) rfl (by rw [hml]; rfl) (Steps.refl _) (argsL := [(.ref nm2)]) (rest := []) (lenOf pd_8 rfl) rfl (Nat.le_refl _) (hb hby d14_31) (fun _ _ => ⟨rfl, e6, (by decide : 0 + 0 ≤ _), (by decide : 0 + 0 ≤ _)⟩)
  dsimp only [Pt.U, Pt.locs, Pt.cells, Pt.slots] at X7 l7 y7 z7 st7 hQ7
  subst l7 y7 z7
  obtain ⟨rfl, N7q, e7⟩ := hQ7
  have N7 := Fr.app N0 N7q
  obtain ⟨fs, hr, hrun, hended, hW, hsame⟩ := X7.leave (v := some (.int 0)) (fun h => by rw [Bd.returns] at h; cases h)
  refine ⟨_, _, k0 _ ?_, hrun, hended, _, _, rfl, ?_, ⟨_, rfl⟩, hW, hsame.mono (by decide) (by decide)⟩
  · show OwnS p e below s₁ (mkF m 0 #[rv r0, rv r1, .unset] []) _
    refine XS.aloadN X0.here hx rfl (hb hby d14_0) rfl rfl ?_
    refine st1 _ ?_
    refine XS.ifNo X1.here hx rfl (hb hby d14_4) rfl ((if0 _ _).trans (feq (by decide : ¬ ((1 : Int32) = (0 : Int32)))).1) ?_
    refine XS.aloadN X1.here hx rfl (hb hby d14_7) rfl rfl ?_
    refine st2 _ ?_
    refine XS.astoreN X2.here hx rfl (hb hby d14_11) rfl rfl (l' := #[rv r0, rv r1, rv r1]) rfl ?_
    refine XS.aloadN X2.here hx rfl (hb hby d14_12) rfl rfl ?_
    refine st3 _ ?_
    refine XS.aloadN X3.here hx rfl (hb hby d14_16) rfl rfl ?_
    refine st4 _ ?_
    refine XS.icmpNo X4.here hx rfl (hb hby d14_20) rfl (teq (by decide : (0 : Int32) = (0 : Int32))).2 ?_
    refine XS.aloadN X4.here hx rfl (hb hby d14_23) rfl rfl ?_
    refine st5 _ ?_
    refine XS.aloadN X5.here hx rfl (hb hby d14_27) rfl rfl ?_
    refine st6 _ ?_
    refine st7.trans ?_
    refine XS.ifYes X7.here hx rfl (pc0 := 34) (pc' := 41) rfl (hb hby d14_34) rfl ((if0 _ _).trans (teq (by decide : (0 : Int32) = (0 : Int32))).1) (by decide) (by decide) ?_
    refine XS.iconst X7.here hx rfl (hb hby d14_41) ?_
    exact retN X7 hx (t := .boolean) Bd.returns (by simp) (hb hby d14_42) hr
  · show Q_Q_ne Z _ _ _ _ _ _ _ _ _ _ _ _ _ h0 n0 _ T7.heap _
    rw [e7]
    exact ⟨rfl, N7, rfl⟩
theorem pd_9 : parseMethodDescriptor "(II)Ljava/lang/String;" = some ⟨[.int, .int], some (.object cS1)⟩ := by decide +kernel
theorem pd_10 : parseMethodDescriptor cS5 = some ⟨[(.object cS1)], some (.object cS0)⟩ := by decide +kernel
theorem pd_11 : parseMethodDescriptor "()Ljava/lang/String;" = some ⟨[], some (.object cS1)⟩ := by decide +kernel
theorem pd_12 : parseMethodDescriptor "()Z" = some ⟨[], some .boolean⟩ := by decide +kernel
theorem pd_13 : parseMethodDescriptor cS4 = some ⟨[], some (.object cS0)⟩ := by decide +kernel
theorem ef_0 (m : MethodId) (x0 : Int32) (x1 : Int32) (x2 : Int32) (x3 : Int32) (x4 : Int32) : entryFrame m #[(.int x0), (.int x1), (.int x2), (.int x3), (.int x4)] maxLocals = mkF m 0 #[.val (.int x0), .val (.int x1), .val (.int x2), .val (.int x3), .val (.int x4), .unset, .unset, .unset, .unset, .unset, .unset, .unset] [] := by first | (simp [entryFrame, mkF, argsToLocals, Value.category, maxLocals]; done) | rfl
def Q_0 (Z : State) (p0 : Int32) (p1 : Int32) (p2 : Int32) (p3 : Int32) (p4 : Int32) (w_CS : Int32) (h0 : Heap) (n0 : Nat) (v : Option Value) (h : Heap) (L : List Loc) : Prop := v = some (.int 1) ∧ Fr n0 L ∧ True
set_option maxRecDepth 65536 in
set_option maxHeartbeats 40000000 in
theorem rm0 (l : Launch) (Z : State) (a0 : Array Value) (hw : ∀ d ∈ tables_1, d.before a0 Z = true) (ws : List Jvm.Cond) (p0 : Int32) (p1 : Int32) (p2 : Int32) (p3 : Int32) (p4 : Int32) (w_CS : Int32) (h0 : Heap) (n0 : Nat) (Z0 : n0 ≤ h0.size) (S_CS : Sta Z h0 cS1 "COMPACT_STRINGS" "Z" (.int w_CS)) (hcs : ¬ (w_CS = (0 : Int32))) :
    MetFree l x (head1 (Jvm.Cond.code x code maxLocals ret :: ws) room_1) (fun a U => a = #[(.int p0), (.int p1), (.int p2), (.int p3), (.int p4)] ∧ Z.Warmed39 U.vm ∧ U.heap = h0 ∧ CHv Z own_EL U.vm h0) (fun _ _ _ _ _ => True) (fun _ U o U' => ∃ v L, o = .returned v ∧ Q_0 Z p0 p1 p2 p3 p4 w_CS h0 n0 v U'.heap L ∧ CHr Z own_EL U.vm U.heap U'.vm U'.heap ∧ ReturnedEndW U o U' L room_1.cells room_1.slots) := by
  refine MetFree.of_bodySF (plainFor_of_name pn_com_example_tablox_tablox_concept_RoleNamedPinLaw) hisR ?_
  intro p e s m args below meth c s₁ Bd hml0 hP hK
  obtain ⟨rfl, hZ, hh, H0c⟩ := hP
  have hx := Bd.exec
  have hby := Bd.bytes
  have hml : c.maxLocals = 12 := hml0
  have hown : (s.setVm s.vm).vm.findClass cS7 = some m.cls := findClass_of_methodNamed Bd.named
  have hnm := (name_of_methodNamed Bd.named Bd.method).1
  have X0 : Stand p l e room_1 (s.setVm s.vm) m #[(.int p0), (.int p1), (.int p2), (.int p3), (.int p4)] below meth c s₁ [] 0 0 := Stand.of_body Bd
  have e0 : s₁.heap = h0 := by rw [← hh, Bd.state]; rfl
  have N0 := Fr.nil n0
  have k0 : ∀ t, OwnS p e below s₁ (mkF m 0 #[iv p0, iv p1, iv p2, iv p3, iv p4, .unset, .unset, .unset, .unset, .unset, .unset, .unset] []) t → OwnS p e below s₁ (entryFrame m #[(.int p0), (.int p1), (.int p2), (.int p3), (.int p4)] maxLocals) t := fun t k => castTop (ef_0 m p0 p1 p2 p3 p4) k
  have hZ : Z.Warmed39 (s.setVm s.vm).vm := hZ
  have hS0 : s.Since s.vm h0.size := (State.WarmedH.refl s).since _
  have hk0 : h0.size ≤ h0.size := Nat.le_refl _
  have R0c := CHr.refl H0c
  have k2 : ∀ t, OwnS p e below s₁ (mkF m 4 #[iv p0, iv p1, iv p2, iv p3, iv p4, .unset, .unset, .unset, .unset, .unset, .unset, .unset] [(.int (p4 &&& (1 : Int32)))]) t → OwnS p e below s₁ (entryFrame m #[(.int p0), (.int p1), (.int p2), (.int p3), (.int p4)] maxLocals) t := fun t q => by
    refine k0 t ?_
    show OwnS p e below s₁ (mkF m 0 #[iv p0, iv p1, iv p2, iv p3, iv p4, .unset, .unset, .unset, .unset, .unset, .unset, .unset] []) _
    refine XS.iload X0.here hx rfl (hb hby at_0) rfl ?_
    refine XS.iconst X0.here hx rfl (hb hby at_2) ?_
    refine XS.iand X0.here hx rfl (hb hby at_3) rfl ?_
    exact q
  by_cases hc4_1 : (p4 &&& (1 : Int32)) = (0 : Int32)
  · obtain ⟨_, _, ⟨T3, L3, j3, i3⟩, -, X3, hSq3, hgq3, ⟨Lc3, hQ3, l3, y3, z3, CR3⟩, st3⟩ := Jvm.RoadKit.callSS X0 hx (y := (⟨cS7, "str", "(II)Ljava/lang/String;"⟩ : MethodName)) hown (mvT hZ (own_at hw 0 rfl)) (mvT hZ (own_at hw 1 rfl)) (mvT hZ (own_at hw 2 rfl)) (mvT hZ (own_at hw 3 rfl)) (by decide) (backOfSH (W := 0) (rm1 l Z a0 hw [] p0 p1 w_CS h0 n0 Z0 S_CS hcs) hZ (own_at hw 3 rfl) (own_at hw 2 rfl) (by decide) (by decide) (own_ew hw) H0c) (g := (mkF m 16 #[iv p0, iv p1, iv p2, iv p3, iv p4, iv 0, .unset, .unset, .unset, .unset, .unset, .unset] [(.int p1), (.int p0)])) rfl (by rw [hml]; rfl) (argsL := [(.int p0), (.int p1)]) (rest := []) (lenOf pd_9 rfl) rfl (Nat.le_refl _) (hb hby at_16) (fun _ _ => ⟨rfl, e0, (by decide : 0 + 6 ≤ _), (by decide : 0 + 12 ≤ _)⟩)
    dsimp only [Pt.U, Pt.locs, Pt.cells, Pt.slots] at X3 l3 y3 z3 st3 hQ3 CR3 hSq3 hgq3
    subst l3 y3 z3
    obtain ⟨X3, hS3, hZ3, hown3⟩ := rebS hS0 (by rw [e0]; exact hk0) X3 hSq3 hgq3 hZ hown
    have hk3 : T3.heap.size ≤ T3.heap.size := Nat.le_refl _
    obtain ⟨ob_3, ar_3, kk_3, rfl, N3q, K3, p3_0, p3_1, p3_2, p3_3, p3_4⟩ := hQ3
    have Hc3 := CR3.1
    have Rc3 := R0c.trans CR3
    have g_ob_3 : n0 ≤ ob_3 := Nat.le_trans Z0 p3_0
    have sz_ob_3 : h0.size ≤ ob_3 := Nat.le_trans (Keep.refl h0 []).1 p3_0
    have N3 := Fr.app N0 N3q
    have f5 := (own_sta_keep S_CS K3 all0)
    obtain ⟨_, _, ⟨T4, L4, j4, i4⟩, -, X4, hSq4, hgq4, ⟨Lc4, hQ4, l4, y4, z4, CR4⟩, st4⟩ := Jvm.RoadKit.callSS X3 hx (y := (⟨cS7, "str", "(II)Ljava/lang/String;"⟩ : MethodName)) hown3 (mvT hZ3 (own_at hw 0 rfl)) (mvT hZ3 (own_at hw 1 rfl)) (mvT hZ3 (own_at hw 2 rfl)) (mvT hZ3 (own_at hw 3 rfl)) (by decide) (backOfSH (W := 0) (rm1 l Z a0 hw [] p2 p3 w_CS T3.heap n0 (Nat.le_trans Z0 K3.1) f5 hcs) hZ3 (own_at hw 3 rfl) (own_at hw 2 rfl) (by decide) (by decide) (own_ew hw) Hc3) (g := (mkF m 36 #[iv p0, iv p1, iv p2, iv p3, iv p4, iv 0, rv ob_3, .unset, .unset, .unset, .unset, .unset] [(.int p3), (.int p2)])) rfl (by rw [hml]; rfl) (argsL := [(.int p2), (.int p3)]) (rest := []) (lenOf pd_9 rfl) rfl (Nat.le_refl _) (hb hby at_36) (fun _ _ => ⟨rfl, rfl, (by decide : 6 + 6 ≤ _), (by decide : 12 + 12 ≤ _)⟩)
    dsimp only [Pt.U, Pt.locs, Pt.cells, Pt.slots] at X4 l4 y4 z4 st4 hQ4 CR4 hSq4 hgq4
    subst l4 y4 z4
    obtain ⟨X4, hS4, hZ4, hown4⟩ := rebS hS3 hk3 X4 hSq4 hgq4 hZ3 hown3
    have hk4 : T4.heap.size ≤ T4.heap.size := Nat.le_refl _
    obtain ⟨ob_4, ar_4, kk_4, rfl, N4q, K4, p4_0, p4_1, p4_2, p4_3, p4_4⟩ := hQ4
    have Hc4 := CR4.1
    have Rc4 := Rc3.trans CR4
    have g_ob_4 : n0 ≤ ob_4 := Nat.le_trans (Nat.le_trans Z0 K3.1) p4_0
    have sz_ob_4 : h0.size ≤ ob_4 := Nat.le_trans ((Keep.refl h0 []).trans K3 all0).1 p4_0
    have N4 := Fr.app N3 N4q
    have k6 : ∀ t, OwnS p e below T4 (mkF m 39 #[iv p0, iv p1, iv p2, iv p3, iv p4, iv 0, rv ob_3, .unset, .unset, .unset, .unset, .unset] [(.ref ob_4)]) t → OwnS p e below s₁ (entryFrame m #[(.int p0), (.int p1), (.int p2), (.int p3), (.int p4)] maxLocals) t := fun t q => by
      refine k2 t ?_
      refine XS.ifYes X0.here hx rfl (pc0 := 4) (pc' := 11) rfl (hb hby at_4) rfl ((if0 _ _).trans (teq hc4_1).1) (by decide) (by decide) ?_
      refine XS.iconst X0.here hx rfl (hb hby at_11) ?_
      refine XS.istore X0.here hx rfl (hb hby at_12) rfl (l' := #[iv p0, iv p1, iv p2, iv p3, iv p4, iv 0, .unset, .unset, .unset, .unset, .unset, .unset]) rfl ?_
      refine XS.iloadN X0.here hx rfl (hb hby at_14) rfl ?_
      refine XS.iloadN X0.here hx rfl (hb hby at_15) rfl ?_
      refine st3.trans ?_
      refine XS.astore X3.here hx rfl (hb hby at_19) rfl rfl (l' := #[iv p0, iv p1, iv p2, iv p3, iv p4, iv 0, rv ob_3, .unset, .unset, .unset, .unset, .unset]) rfl ?_
      refine XS.iload X3.here hx rfl (hb hby at_21) rfl ?_
      refine XS.ifYes X3.here hx rfl (pc0 := 23) (pc' := 34) rfl (hb hby at_23) rfl ((if0 _ _).trans (teq (by decide : (0 : Int32) = (0 : Int32))).1) (by decide) (by decide) ?_
      refine XS.iloadN X3.here hx rfl (hb hby at_34) rfl ?_
      refine XS.iloadN X3.here hx rfl (hb hby at_35) rfl ?_
      refine st4.trans ?_
      exact q
    by_cases hEQ : own_str p0 p1 = own_str p2 p3
    · have V7 : Arv Z T4.heap ar_4 kk_4 .byte (own_n p1) (own_str p0 p1) (.int 0) := by rw [hEQ, own_eqn hEQ]; exact p4_4
      have f9 := (p3_1.keep K4)
      have f10 := (p3_4.keep K4 nin0)
      obtain ⟨_, _, ⟨T8, L8, j8, i8⟩, -, X8, hSq8, hgq8, ⟨Lc8, hQ8, l8, y8, z8, CR8⟩, st8⟩ := Jvm.RoadKit.callSS X4 hx (y := (⟨cS0, "named", cS5⟩ : MethodName)) hown4 (mvT hZ4 (own_at hw 34 rfl)) (mvT hZ4 (own_at hw 35 rfl)) (mvT hZ4 (own_at hw 36 rfl)) (mvT hZ4 (own_at hw 37 rfl)) (by decide) (backOfSH (W := 0) (rmN l Z a0 hw [] ob_3 T4.heap n0 (Nat.le_trans (Nat.le_trans Z0 K3.1) K4.1) f9) hZ4 (own_at hw 37 rfl) (own_at hw 36 rfl) (by decide) (by decide) (own_ew hw) Hc4) (g := (mkF m 43 #[iv p0, iv p1, iv p2, iv p3, iv p4, iv 0, rv ob_3, rv ob_4, .unset, .unset, .unset, .unset] [(.ref ob_3)])) rfl (by rw [hml]; rfl) (argsL := [(.ref ob_3)]) (rest := []) (lenOf pd_10 rfl) rfl (Nat.le_refl _) (hb hby at_43) (fun _ _ => ⟨rfl, rfl, (by decide : 12 + 3 ≤ _), (by decide : 24 + 18 ≤ _)⟩)
      dsimp only [Pt.U, Pt.locs, Pt.cells, Pt.slots] at X8 l8 y8 z8 st8 hQ8 CR8 hSq8 hgq8
      subst l8 y8 z8
      obtain ⟨X8, hS8, hZ8, hown8⟩ := rebS hS4 hk4 X8 hSq8 hgq8 hZ4 hown4
      have hk8 : T8.heap.size ≤ T8.heap.size := Nat.le_refl _
      obtain ⟨ob_8, rfl, N8q, K8, p8_0, p8_1, p8_2, p8_3⟩ := hQ8
      have Hc8 := CR8.1
      have Rc8 := Rc4.trans CR8
      have g_ob_8 : n0 ≤ ob_8 := Nat.le_trans (Nat.le_trans (Nat.le_trans Z0 K3.1) K4.1) p8_0
      have sz_ob_8 : h0.size ≤ ob_8 := Nat.le_trans (((Keep.refl h0 []).trans K3 all0).trans K4 all0).1 p8_0
      have N8 := Fr.app N4 N8q
      have f12 := (p4_1.keep K8)
      have f13 := (f9.keep K8)
      have f14 := (f10.keep K8 nin0)
      have f15 := (V7.keep K8 nin0)
      obtain ⟨_, _, ⟨T11, L11, j11, i11⟩, -, X11, hSq11, hgq11, ⟨Lc11, hQ11, l11, y11, z11, CR11⟩, st11⟩ := Jvm.RoadKit.callSS X8 hx (y := (⟨cS0, "named", cS5⟩ : MethodName)) hown8 (mvT hZ8 (own_at hw 34 rfl)) (mvT hZ8 (own_at hw 35 rfl)) (mvT hZ8 (own_at hw 36 rfl)) (mvT hZ8 (own_at hw 37 rfl)) (by decide) (backOfSH (W := 0) (rmN l Z a0 hw [] ob_4 T8.heap n0 (Nat.le_trans (Nat.le_trans (Nat.le_trans Z0 K3.1) K4.1) K8.1) f12) hZ8 (own_at hw 37 rfl) (own_at hw 36 rfl) (by decide) (by decide) (own_ew hw) Hc8) (g := (mkF m 50 #[iv p0, iv p1, iv p2, iv p3, iv p4, iv 0, rv ob_3, rv ob_4, rv ob_8, .unset, .unset, .unset] [(.ref ob_4)])) rfl (by rw [hml]; rfl) (argsL := [(.ref ob_4)]) (rest := []) (lenOf pd_10 rfl) rfl (Nat.le_refl _) (hb hby at_50) (fun _ _ => ⟨rfl, rfl, (by decide : 15 + 3 ≤ _), (by decide : 42 + 18 ≤ _)⟩)
      dsimp only [Pt.U, Pt.locs, Pt.cells, Pt.slots] at X11 l11 y11 z11 st11 hQ11 CR11 hSq11 hgq11
      subst l11 y11 z11
      obtain ⟨X11, hS11, hZ11, hown11⟩ := rebS hS8 hk8 X11 hSq11 hgq11 hZ8 hown8
      have hk11 : T11.heap.size ≤ T11.heap.size := Nat.le_refl _
      obtain ⟨ob_11, rfl, N11q, K11, p11_0, p11_1, p11_2, p11_3⟩ := hQ11
      have Hc11 := CR11.1
      have Rc11 := Rc8.trans CR11
      have g_ob_11 : n0 ≤ ob_11 := Nat.le_trans (Nat.le_trans (Nat.le_trans (Nat.le_trans Z0 K3.1) K4.1) K8.1) p11_0
      have sz_ob_11 : h0.size ≤ ob_11 := Nat.le_trans ((((Keep.refl h0 []).trans K3 all0).trans K4 all0).trans K8 all0).1 p11_0
      have N11 := Fr.app N8 N11q
      have f17 := (p8_2.keep K11 nin0)
      have f18 := (p8_1.keep K11)
      obtain ⟨cq16, kq16, q16a, q16b, q16c⟩ := isOf hZ11 rfl f18
      obtain ⟨_, _, ⟨T16, L16, j16, i16⟩, -, X16, ⟨Lc16, hQ16, l16, y16, z16⟩, st16⟩ := X11.virtualBack hx (y := (⟨cS0, "name", "()Ljava/lang/String;"⟩ : MethodName)) (z := (⟨cS0, "name", "()Ljava/lang/String;"⟩ : MethodName)) hown11 (mvT hZ11 (own_at hw 56 rfl)) (mvT hZ11 (own_at hw 57 rfl)) (notFace_of_selects (args := #[]) (mvT hZ11 (own_at hw 59 rfl))) (mvT hZ11 (own_at hw 59 rfl)) (mvT hZ11 (own_at hw 58 rfl)) (by decide) (backOf (W := 0) (rmA l Z a0 hw [] ob_8 ob_3 T11.heap n0 (Nat.le_trans (Nat.le_trans (Nat.le_trans (Nat.le_trans Z0 K3.1) K4.1) K8.1) K11.1) f17) hZ11 (own_at hw 60 rfl) (own_at hw 36 rfl) (by decide) (by decide)) q16a q16c (g := (mkF m 57 #[iv p0, iv p1, iv p2, iv p3, iv p4, iv 0, rv ob_3, rv ob_4, rv ob_8, rv ob_11, .unset, .unset] [(.ref ob_8)])) rfl (by rw [hml]; rfl) (Steps.refl _) (argsL := []) (rest := []) (lenOf pd_11 rfl) rfl (Nat.le_refl _) (hb hby at_57) (fun _ _ => ⟨rfl, rfl, (by decide : 18 + 0 ≤ _), (by decide : 60 + 0 ≤ _)⟩)
      dsimp only [Pt.U, Pt.locs, Pt.cells, Pt.slots] at X16 l16 y16 z16 st16 hQ16
      subst l16 y16 z16
      obtain ⟨rfl, N16q, e16⟩ := hQ16
      have N16 := Fr.app N11 N16q
      have f20 := (f13.keep K11)
      obtain ⟨cq19, kq19, q19a, q19b, q19c⟩ := isOf hZ11 e16 f20
      obtain ⟨_, _, ⟨T19, L19, j19, i19⟩, -, X19, ⟨Lc19, hQ19, l19, y19, z19⟩, st19⟩ := X16.virtualBack hx (y := (⟨cS1, "equals", cS2⟩ : MethodName)) (z := (⟨cS1, "equals", cS2⟩ : MethodName)) hown11 (mvT hZ11 (own_at hw 61 rfl)) (mvT hZ11 (own_at hw 62 rfl)) (notFace_of_selects (args := #[]) (mvT hZ11 (own_at hw 64 rfl))) (mvT hZ11 (own_at hw 64 rfl)) (mvT hZ11 (own_at hw 63 rfl)) (by decide) (backOf (W := 0) (rmS_same l Z a0 hw [] ob_3 T11.heap n0 (Nat.le_trans (Nat.le_trans (Nat.le_trans (Nat.le_trans Z0 K3.1) K4.1) K8.1) K11.1) ) hZ11 (own_at hw 65 rfl) (own_at hw 6 rfl) (by decide) (by decide)) q19a q19c (g := (mkF m 62 #[iv p0, iv p1, iv p2, iv p3, iv p4, iv 0, rv ob_3, rv ob_4, rv ob_8, rv ob_11, .unset, .unset] [(.ref ob_3), (.ref ob_3)])) rfl (by rw [hml]; rfl) (Steps.refl _) (argsL := [(.ref ob_3)]) (rest := []) (lenOf pd_8 rfl) rfl (Nat.le_refl _) (hb hby at_62) (fun _ _ => ⟨rfl, e16, (by decide : 18 + 0 ≤ _), (by decide : 60 + 0 ≤ _)⟩)
      dsimp only [Pt.U, Pt.locs, Pt.cells, Pt.slots] at X19 l19 y19 z19 st19 hQ19
      subst l19 y19 z19
      obtain ⟨rfl, N19q, e19⟩ := hQ19
      have N19 := Fr.app N16 N19q
      have f22 := (p8_3.keep K11 nin0)
      obtain ⟨cq21, kq21, q21a, q21b, q21c⟩ := isOf hZ11 e19 f18
      obtain ⟨_, _, ⟨T21, L21, j21, i21⟩, -, X21, ⟨Lc21, hQ21, l21, y21, z21⟩, st21⟩ := X19.virtualBack hx (y := (⟨cS0, "isInverse", "()Z"⟩ : MethodName)) (z := (⟨cS0, "isInverse", "()Z"⟩ : MethodName)) hown11 (mvT hZ11 (own_at hw 66 rfl)) (mvT hZ11 (own_at hw 67 rfl)) (notFace_of_selects (args := #[]) (mvT hZ11 (own_at hw 69 rfl))) (mvT hZ11 (own_at hw 69 rfl)) (mvT hZ11 (own_at hw 68 rfl)) (by decide) (backOf (W := 0) (rmV l Z a0 hw [] ob_8 T11.heap n0 (Nat.le_trans (Nat.le_trans (Nat.le_trans (Nat.le_trans Z0 K3.1) K4.1) K8.1) K11.1) f22) hZ11 (own_at hw 70 rfl) (own_at hw 36 rfl) (by decide) (by decide)) q21a q21c (g := (mkF m 74 #[iv p0, iv p1, iv p2, iv p3, iv p4, iv 0, rv ob_3, rv ob_4, rv ob_8, rv ob_11, iv 1, .unset] [(.ref ob_8)])) rfl (by rw [hml]; rfl) (Steps.refl _) (argsL := []) (rest := []) (lenOf pd_12 rfl) rfl (Nat.le_refl _) (hb hby at_74) (fun _ _ => ⟨rfl, e19, (by decide : 18 + 0 ≤ _), (by decide : 60 + 0 ≤ _)⟩)
      dsimp only [Pt.U, Pt.locs, Pt.cells, Pt.slots] at X21 l21 y21 z21 st21 hQ21
      subst l21 y21 z21
      obtain ⟨rfl, N21q, e21⟩ := hQ21
      have N21 := Fr.app N19 N21q
      have f24 := (own_sta_keep (own_sta_keep (own_sta_keep f5 K4 all0) K8 all0) K11 all0)
      have f25 := (((p3_2.keep K4 nin0).keep K8 nin0).keep K11 nin0)
      have f26 := (((p3_3.keep K4 nin0).keep K8 nin0).keep K11 nin0)
      have f27 := (f14.keep K11 nin0)
      have f28 := (f12.keep K11)
      have f29 := ((p4_2.keep K8 nin0).keep K11 nin0)
      have f30 := ((p4_3.keep K8 nin0).keep K11 nin0)
      have f31 := (f15.keep K11 nin0)
      obtain ⟨cq23, kq23, q23a, q23b, q23c⟩ := isOf hZ11 e21 f18
      obtain ⟨_, _, ⟨T23, L23, j23, i23⟩, -, X23, ⟨Lc23, hQ23, l23, y23, z23⟩, st23⟩ := X21.virtualBack hx (y := (⟨cS0, "equals", cS2⟩ : MethodName)) (z := (⟨cS0, "equals", cS2⟩ : MethodName)) hown11 (mvT hZ11 (own_at hw 71 rfl)) (mvT hZ11 (own_at hw 72 rfl)) (notFace_of_selects (args := #[]) (mvT hZ11 (own_at hw 74 rfl))) (mvT hZ11 (own_at hw 74 rfl)) (mvT hZ11 (own_at hw 73 rfl)) (by decide) (backOf (W := 0) (rmQ_eq l Z a0 hw [] ob_8 ob_11 ob_3 ob_4 w_CS ar_3 kk_3 ar_4 kk_4 (own_n p1) (own_str p0 p1) T11.heap n0 (Nat.le_trans (Nat.le_trans (Nat.le_trans (Nat.le_trans Z0 K3.1) K4.1) K8.1) K11.1) f18 f17 f22 p11_1 p11_2 p11_3 f24 hcs f20 f25 f26 f27 f28 f29 f30 f31 (Nat.ne_of_lt (Nat.lt_of_lt_of_le p3_1.lt p4_0)) (own_sm p0 p1)) hZ11 (own_at hw 75 rfl) (own_at hw 36 rfl) (by decide) (by decide)) q23a q23c (g := (mkF m 96 #[iv p0, iv p1, iv p2, iv p3, iv p4, iv 0, rv ob_3, rv ob_4, rv ob_8, rv ob_11, iv 1, .unset] [(.ref ob_11), (.ref ob_8)])) rfl (by rw [hml]; rfl) (Steps.refl _) (argsL := [(.ref ob_11)]) (rest := []) (lenOf pd_8 rfl) rfl (Nat.le_refl _) (hb hby at_96) (fun _ _ => ⟨rfl, e21, (by decide : 18 + 0 ≤ _), (by decide : 60 + 0 ≤ _)⟩)
      dsimp only [Pt.U, Pt.locs, Pt.cells, Pt.slots] at X23 l23 y23 z23 st23 hQ23
      subst l23 y23 z23
      obtain ⟨rfl, N23q, e23⟩ := hQ23
      have N23 := Fr.app N21 N23q
      obtain ⟨cq32, kq32, q32a, q32b, q32c⟩ := isOf hZ11 e23 f20
      obtain ⟨_, _, ⟨T32, L32, j32, i32⟩, -, X32, ⟨Lc32, hQ32, l32, y32, z32⟩, st32⟩ := X23.virtualBack hx (y := (⟨cS1, "equals", cS2⟩ : MethodName)) (z := (⟨cS1, "equals", cS2⟩ : MethodName)) hown11 (mvT hZ11 (own_at hw 61 rfl)) (mvT hZ11 (own_at hw 62 rfl)) (notFace_of_selects (args := #[]) (mvT hZ11 (own_at hw 64 rfl))) (mvT hZ11 (own_at hw 64 rfl)) (mvT hZ11 (own_at hw 63 rfl)) (by decide) (backOf (W := 1) (rmS_eq l Z a0 hw [] ob_3 ob_4 w_CS ar_3 kk_3 ar_4 kk_4 (own_n p1) (own_str p0 p1) T11.heap n0 (Nat.le_trans (Nat.le_trans (Nat.le_trans (Nat.le_trans Z0 K3.1) K4.1) K8.1) K11.1) f24 hcs f20 f25 f26 f27 f28 f29 f30 f31 (Nat.ne_of_lt (Nat.lt_of_lt_of_le p3_1.lt p4_0)) (own_sm p0 p1)) hZ11 (own_at hw 65 rfl) (own_at hw 6 rfl) (by decide) (by decide)) q32a q32c (g := (mkF m 103 #[iv p0, iv p1, iv p2, iv p3, iv p4, iv 0, rv ob_3, rv ob_4, rv ob_8, rv ob_11, iv 1, .unset] [(.ref ob_4), (.ref ob_3), (.int 1)])) rfl (by rw [hml]; rfl) (Steps.refl _) (argsL := [(.ref ob_4)]) (rest := [(.int 1)]) (lenOf pd_8 rfl) rfl (Nat.le_refl _) (hb hby at_103) (fun _ _ => ⟨rfl, e23, (by decide : 18 + 0 ≤ _), (by decide : 60 + 0 ≤ _)⟩)
      dsimp only [Pt.U, Pt.locs, Pt.cells, Pt.slots] at X32 l32 y32 z32 st32 hQ32
      subst l32 y32 z32
      obtain ⟨rfl, N32q, e32⟩ := hQ32
      have N32 := Fr.app N23 N32q
      obtain ⟨cq33, kq33, q33a, q33b, q33c⟩ := isOf hZ11 e32 f18
      obtain ⟨_, _, ⟨T33, L33, j33, i33⟩, -, X33, ⟨Lc33, hQ33, l33, y33, z33⟩, st33⟩ := X32.virtualBack hx (y := (⟨cS0, "inverse", cS4⟩ : MethodName)) (z := (⟨cS0, "inverse", cS4⟩ : MethodName)) hown11 (mvT hZ11 (own_at hw 83 rfl)) (mvT hZ11 (own_at hw 84 rfl)) (notFace_of_selects (args := #[]) (mvT hZ11 (own_at hw 86 rfl))) (mvT hZ11 (own_at hw 86 rfl)) (mvT hZ11 (own_at hw 85 rfl)) (by decide) (backOf (W := 0) (rmX_0 l Z a0 hw [] ob_8 ob_3 T11.heap n0 (Nat.le_trans (Nat.le_trans (Nat.le_trans (Nat.le_trans Z0 K3.1) K4.1) K8.1) K11.1) f18 f17 f22) hZ11 (own_at hw 87 rfl) (own_at hw 36 rfl) (by decide) (by decide)) q33a q33c (g := (mkF m 118 #[iv p0, iv p1, iv p2, iv p3, iv p4, iv 0, rv ob_3, rv ob_4, rv ob_8, rv ob_11, iv 1, .unset] [(.ref ob_8)])) rfl (by rw [hml]; rfl) (Steps.refl _) (argsL := []) (rest := []) (lenOf pd_13 rfl) rfl (Nat.le_refl _) (hb hby at_118) (fun _ _ => ⟨rfl, e32, (by decide : 18 + 1 ≤ _), (by decide : 60 + 2 ≤ _)⟩)
      dsimp only [Pt.U, Pt.locs, Pt.cells, Pt.slots] at X33 l33 y33 z33 st33 hQ33
      subst l33 y33 z33
      obtain ⟨ob_33, rfl, N33q, K33, p33_0, p33_1, p33_2, p33_3⟩ := hQ33
      have Hc33 := CHv.keep K33 sf0 Hc11
      have Rc33 := Rc11.trans (CHr.keep K33 sf0 Hc11)
      have hk33 := Nat.le_trans hk11 K33.1
      have g_ob_33 : n0 ≤ ob_33 := Nat.le_trans (Nat.le_trans (Nat.le_trans (Nat.le_trans (Nat.le_trans Z0 K3.1) K4.1) K8.1) K11.1) p33_0
      have sz_ob_33 : h0.size ≤ ob_33 := Nat.le_trans (((((Keep.refl h0 []).trans K3 all0).trans K4 all0).trans K8 all0).trans K11 all0).1 p33_0
      have N33 := Fr.app N32 N33q
      have f35 := (f18.keep K33)
      have f36 := (f17.keep K33 nin0)
      have f37 := (f22.keep K33 nin0)
      obtain ⟨cq34, kq34, q34a, q34b, q34c⟩ := isOf hZ11 rfl p33_1
      obtain ⟨_, _, ⟨T34, L34, j34, i34⟩, -, X34, ⟨Lc34, hQ34, l34, y34, z34⟩, st34⟩ := X33.virtualBack hx (y := (⟨cS0, "equals", cS2⟩ : MethodName)) (z := (⟨cS0, "equals", cS2⟩ : MethodName)) hown11 (mvT hZ11 (own_at hw 71 rfl)) (mvT hZ11 (own_at hw 72 rfl)) (notFace_of_selects (args := #[]) (mvT hZ11 (own_at hw 74 rfl))) (mvT hZ11 (own_at hw 74 rfl)) (mvT hZ11 (own_at hw 73 rfl)) (by decide) (backOf (W := 0) (rmQ_d l Z a0 hw [] ob_33 ob_8 ob_3 ob_3 T33.heap n0 (Nat.le_trans (Nat.le_trans (Nat.le_trans (Nat.le_trans (Nat.le_trans Z0 K3.1) K4.1) K8.1) K11.1) K33.1) p33_1 p33_2 p33_3 f35 f36 f37) hZ11 (own_at hw 75 rfl) (own_at hw 36 rfl) (by decide) (by decide)) q34a q34c (g := (mkF m 132 #[iv p0, iv p1, iv p2, iv p3, iv p4, iv 0, rv ob_3, rv ob_4, rv ob_8, rv ob_11, iv 1, rv ob_33] [(.ref ob_8), (.ref ob_33)])) rfl (by rw [hml]; rfl) (Steps.refl _) (argsL := [(.ref ob_8)]) (rest := []) (lenOf pd_8 rfl) rfl (Nat.le_refl _) (hb hby at_132) (fun _ _ => ⟨rfl, rfl, (by decide : 19 + 0 ≤ _), (by decide : 62 + 0 ≤ _)⟩)
      dsimp only [Pt.U, Pt.locs, Pt.cells, Pt.slots] at X34 l34 y34 z34 st34 hQ34
      subst l34 y34 z34
      obtain ⟨rfl, N34q, e34⟩ := hQ34
      have N34 := Fr.app N33 N34q
      obtain ⟨cq38, kq38, q38a, q38b, q38c⟩ := isOf hZ11 e34 p33_1
      obtain ⟨_, _, ⟨T38, L38, j38, i38⟩, -, X38, ⟨Lc38, hQ38, l38, y38, z38⟩, st38⟩ := X34.virtualBack hx (y := (⟨cS0, "inverse", cS4⟩ : MethodName)) (z := (⟨cS0, "inverse", cS4⟩ : MethodName)) hown11 (mvT hZ11 (own_at hw 83 rfl)) (mvT hZ11 (own_at hw 84 rfl)) (notFace_of_selects (args := #[]) (mvT hZ11 (own_at hw 86 rfl))) (mvT hZ11 (own_at hw 86 rfl)) (mvT hZ11 (own_at hw 85 rfl)) (by decide) (backOf (W := 0) (rmX_1 l Z a0 hw [] ob_33 ob_3 T33.heap n0 (Nat.le_trans (Nat.le_trans (Nat.le_trans (Nat.le_trans (Nat.le_trans Z0 K3.1) K4.1) K8.1) K11.1) K33.1) p33_1 p33_2 p33_3) hZ11 (own_at hw 87 rfl) (own_at hw 36 rfl) (by decide) (by decide)) q38a q38c (g := (mkF m 152 #[iv p0, iv p1, iv p2, iv p3, iv p4, iv 0, rv ob_3, rv ob_4, rv ob_8, rv ob_11, iv 1, rv ob_33] [(.ref ob_33)])) rfl (by rw [hml]; rfl) (Steps.refl _) (argsL := []) (rest := []) (lenOf pd_13 rfl) rfl (Nat.le_refl _) (hb hby at_152) (fun _ _ => ⟨rfl, e34, (by decide : 19 + 1 ≤ _), (by decide : 62 + 2 ≤ _)⟩)
      dsimp only [Pt.U, Pt.locs, Pt.cells, Pt.slots] at X38 l38 y38 z38 st38 hQ38
      subst l38 y38 z38
      have f39 := (f20.keep K33)
      have f40 := (f27.keep K33 nin0)
      have f41 := (f28.keep K33)
      have f42 := (f31.keep K33 nin0)
      have f43 := (p11_1.keep K33)
      obtain ⟨ob_38, rfl, N38q, K38, p38_0, p38_1, p38_2, p38_3⟩ := hQ38
      have Hc38 := CHv.keep K38 sf0 Hc33
      have Rc38 := Rc33.trans (CHr.keep K38 sf0 Hc33)
      have hk38 := Nat.le_trans hk33 K38.1
      have g_ob_38 : n0 ≤ ob_38 := Nat.le_trans (Nat.le_trans (Nat.le_trans (Nat.le_trans (Nat.le_trans (Nat.le_trans Z0 K3.1) K4.1) K8.1) K11.1) K33.1) p38_0
      have sz_ob_38 : h0.size ≤ ob_38 := Nat.le_trans ((((((Keep.refl h0 []).trans K3 all0).trans K4 all0).trans K8 all0).trans K11 all0).trans K33 all0).1 p38_0
      have N38 := Fr.app N34 N38q
      have f45 := (f35.keep K38)
      have f46 := (f36.keep K38 nin0)
      have f47 := (f37.keep K38 nin0)
      have f48 := (f39.keep K38)
      obtain ⟨cq44, kq44, q44a, q44b, q44c⟩ := isOf hZ11 rfl p38_1
      obtain ⟨_, _, ⟨T44, L44, j44, i44⟩, -, X44, ⟨Lc44, hQ44, l44, y44, z44⟩, st44⟩ := X38.virtualBack hx (y := (⟨cS0, "equals", cS2⟩ : MethodName)) (z := (⟨cS0, "equals", cS2⟩ : MethodName)) hown11 (mvT hZ11 (own_at hw 71 rfl)) (mvT hZ11 (own_at hw 72 rfl)) (notFace_of_selects (args := #[]) (mvT hZ11 (own_at hw 74 rfl))) (mvT hZ11 (own_at hw 74 rfl)) (mvT hZ11 (own_at hw 73 rfl)) (by decide) (backOf (W := 0) (rmQ_s l Z a0 hw [] ob_38 ob_8 ob_3 T38.heap n0 (Nat.le_trans (Nat.le_trans (Nat.le_trans (Nat.le_trans (Nat.le_trans (Nat.le_trans Z0 K3.1) K4.1) K8.1) K11.1) K33.1) K38.1) p38_1 p38_2 p38_3 f45 f46 f47 f48) hZ11 (own_at hw 75 rfl) (own_at hw 36 rfl) (by decide) (by decide)) q44a q44c (g := (mkF m 157 #[iv p0, iv p1, iv p2, iv p3, iv p4, iv 0, rv ob_3, rv ob_4, rv ob_8, rv ob_11, iv 1, rv ob_33] [(.ref ob_8), (.ref ob_38)])) rfl (by rw [hml]; rfl) (Steps.refl _) (argsL := [(.ref ob_8)]) (rest := []) (lenOf pd_8 rfl) rfl (Nat.le_refl _) (hb hby at_157) (fun _ _ => ⟨rfl, rfl, (by decide : 20 + 0 ≤ _), (by decide : 64 + 0 ≤ _)⟩)
      dsimp only [Pt.U, Pt.locs, Pt.cells, Pt.slots] at X44 l44 y44 z44 st44 hQ44
      subst l44 y44 z44
      obtain ⟨rfl, N44q, e44⟩ := hQ44
      have N44 := Fr.app N38 N44q
      obtain ⟨fs, hr, hrun, hended, hRW⟩ := X44.leaveW hS11 (by rw [e44]; exact hk38) (v := some (.int 1)) (fun h => by rw [Bd.returns] at h; cases h)
      have hCE : CHr Z own_EL s.vm s.heap T44.vm T44.heap := by rw [hh, e44]; exact Rc38.trans (CHv.at X44 hZ11 (own_ew hw) Hc38)
      refine ⟨_, _, k6 _ ?_, hrun, hended, _, _, rfl, ?_, hCE, hRW.1, hRW.2.1, hRW.2.2.1, hRW.2.2.2.mono (by decide) (by decide)⟩
      · show OwnS p e below T4 (mkF m 39 #[iv p0, iv p1, iv p2, iv p3, iv p4, iv 0, rv ob_3, .unset, .unset, .unset, .unset, .unset] [(.ref ob_4)]) _
        refine XS.astore X4.here hx rfl (hb hby at_39) rfl rfl (l' := #[iv p0, iv p1, iv p2, iv p3, iv p4, iv 0, rv ob_3, rv ob_4, .unset, .unset, .unset, .unset]) rfl ?_
        refine XS.aload X4.here hx rfl (hb hby at_41) rfl rfl ?_
        refine st8.trans ?_
        refine XS.astore X8.here hx rfl (hb hby at_46) rfl rfl (l' := #[iv p0, iv p1, iv p2, iv p3, iv p4, iv 0, rv ob_3, rv ob_4, rv ob_8, .unset, .unset, .unset]) rfl ?_
        refine XS.aload X8.here hx rfl (hb hby at_48) rfl rfl ?_
        refine st11.trans ?_
        refine XS.astore X11.here hx rfl (hb hby at_53) rfl rfl (l' := #[iv p0, iv p1, iv p2, iv p3, iv p4, iv 0, rv ob_3, rv ob_4, rv ob_8, rv ob_11, .unset, .unset]) rfl ?_
        refine XS.aload X11.here hx rfl (hb hby at_55) rfl rfl ?_
        refine st16.trans ?_
        refine XS.aload X16.here hx rfl (hb hby at_60) rfl rfl ?_
        refine st19.trans ?_
        refine XS.istore X19.here hx rfl (hb hby at_65) rfl (l' := #[iv p0, iv p1, iv p2, iv p3, iv p4, iv 0, rv ob_3, rv ob_4, rv ob_8, rv ob_11, iv 1, .unset]) rfl ?_
        refine XS.iload X19.here hx rfl (hb hby at_67) rfl ?_
        refine XS.ifNo X19.here hx rfl (hb hby at_69) rfl ((if0 _ _).trans (feq (by decide : ¬ ((1 : Int32) = (0 : Int32)))).1) ?_
        refine XS.aload X19.here hx rfl (hb hby at_72) rfl rfl ?_
        refine st21.trans ?_
        refine XS.ifNo X21.here hx rfl (hb hby at_77) rfl ((if0 _ _).trans (teq (by decide : (0 : Int32) = (0 : Int32))).2) ?_
        refine XS.iconst X21.here hx rfl (hb hby at_80) ?_
        refine XS.goto X21.here hx rfl (pc0 := 81) (pc' := 85) rfl (hb hby at_81) (by decide) (by decide) ?_
        refine XS.istore X21.here hx rfl (hb hby at_85) rfl (l' := #[iv p0, iv p1, iv p2, iv p3, iv p4, iv 0, rv ob_3, rv ob_4, rv ob_8, rv ob_11, iv 1, .unset]) rfl ?_
        refine XS.iload X21.here hx rfl (hb hby at_87) rfl ?_
        refine XS.ifNo X21.here hx rfl (hb hby at_89) rfl ((if0 _ _).trans (feq (by decide : ¬ ((1 : Int32) = (0 : Int32)))).1) ?_
        refine XS.aload X21.here hx rfl (hb hby at_92) rfl rfl ?_
        refine XS.aload X21.here hx rfl (hb hby at_94) rfl rfl ?_
        refine st23.trans ?_
        refine XS.aload X23.here hx rfl (hb hby at_99) rfl rfl ?_
        refine XS.aload X23.here hx rfl (hb hby at_101) rfl rfl ?_
        refine st32.trans ?_
        refine XS.icmpNo X32.here hx rfl (hb hby at_106) rfl (teq (by decide : (1 : Int32) = (1 : Int32))).2 ?_
        refine XS.iconst X32.here hx rfl (hb hby at_109) ?_
        show OwnS p e below T32 (mkF m 110 #[iv p0, iv p1, iv p2, iv p3, iv p4, iv 0, rv ob_3, rv ob_4, rv ob_8, rv ob_11, iv 1, .unset] [(.int 1)]) _
        refine XS.goto X32.here hx rfl (pc0 := 110) (pc' := 114) rfl (hb hby at_110) (by decide) (by decide) ?_
        refine XS.istore X32.here hx rfl (hb hby at_114) rfl (l' := #[iv p0, iv p1, iv p2, iv p3, iv p4, iv 0, rv ob_3, rv ob_4, rv ob_8, rv ob_11, iv 1, .unset]) rfl ?_
        refine XS.aload X32.here hx rfl (hb hby at_116) rfl rfl ?_
        refine st33.trans ?_
        refine XS.astore X33.here hx rfl (hb hby at_121) rfl rfl (l' := #[iv p0, iv p1, iv p2, iv p3, iv p4, iv 0, rv ob_3, rv ob_4, rv ob_8, rv ob_11, iv 1, rv ob_33]) rfl ?_
        refine XS.iload X33.here hx rfl (hb hby at_123) rfl ?_
        refine XS.ifNo X33.here hx rfl (hb hby at_125) rfl ((if0 _ _).trans (feq (by decide : ¬ ((1 : Int32) = (0 : Int32)))).1) ?_
        refine XS.aload X33.here hx rfl (hb hby at_128) rfl rfl ?_
        refine XS.aload X33.here hx rfl (hb hby at_130) rfl rfl ?_
        refine st34.trans ?_
        refine XS.ifNo X34.here hx rfl (hb hby at_135) rfl ((if0 _ _).trans (teq (by decide : (0 : Int32) = (0 : Int32))).2) ?_
        refine XS.iconst X34.here hx rfl (hb hby at_138) ?_
        refine XS.goto X34.here hx rfl (pc0 := 139) (pc' := 143) rfl (hb hby at_139) (by decide) (by decide) ?_
        refine XS.istore X34.here hx rfl (hb hby at_143) rfl (l' := #[iv p0, iv p1, iv p2, iv p3, iv p4, iv 0, rv ob_3, rv ob_4, rv ob_8, rv ob_11, iv 1, rv ob_33]) rfl ?_
        refine XS.iload X34.here hx rfl (hb hby at_145) rfl ?_
        refine XS.ifNo X34.here hx rfl (hb hby at_147) rfl ((if0 _ _).trans (feq (by decide : ¬ ((1 : Int32) = (0 : Int32)))).1) ?_
        refine XS.aload X34.here hx rfl (hb hby at_150) rfl rfl ?_
        refine st38.trans ?_
        refine XS.aload X38.here hx rfl (hb hby at_155) rfl rfl ?_
        refine st44.trans ?_
        refine XS.ifNo X44.here hx rfl (hb hby at_160) rfl ((if0 _ _).trans (feq (by decide : ¬ ((1 : Int32) = (0 : Int32)))).1) ?_
        refine XS.iconst X44.here hx rfl (hb hby at_163) ?_
        refine XS.goto X44.here hx rfl (pc0 := 164) (pc' := 168) rfl (hb hby at_164) (by decide) (by decide) ?_
        refine XS.istore X44.here hx rfl (hb hby at_168) rfl (l' := #[iv p0, iv p1, iv p2, iv p3, iv p4, iv 0, rv ob_3, rv ob_4, rv ob_8, rv ob_11, iv 1, rv ob_33]) rfl ?_
        refine XS.iload X44.here hx rfl (hb hby at_170) rfl ?_
        exact retN X44 hx (t := .boolean) Bd.returns (by simp) (hb hby at_172) hr
      · show Q_0 Z _ _ _ _ _ _ h0 n0 _ T44.heap _
        rw [e44]
        exact ⟨rfl, N44, trivial⟩
    · skip
      have f50 := (p3_1.keep K4)
      have f51 := (p3_4.keep K4 nin0)
      obtain ⟨_, _, ⟨T49, L49, j49, i49⟩, -, X49, hSq49, hgq49, ⟨Lc49, hQ49, l49, y49, z49, CR49⟩, st49⟩ := Jvm.RoadKit.callSS X4 hx (y := (⟨cS0, "named", cS5⟩ : MethodName)) hown4 (mvT hZ4 (own_at hw 34 rfl)) (mvT hZ4 (own_at hw 35 rfl)) (mvT hZ4 (own_at hw 36 rfl)) (mvT hZ4 (own_at hw 37 rfl)) (by decide) (backOfSH (W := 0) (rmN l Z a0 hw [] ob_3 T4.heap n0 (Nat.le_trans (Nat.le_trans Z0 K3.1) K4.1) f50) hZ4 (own_at hw 37 rfl) (own_at hw 36 rfl) (by decide) (by decide) (own_ew hw) Hc4) (g := (mkF m 43 #[iv p0, iv p1, iv p2, iv p3, iv p4, iv 0, rv ob_3, rv ob_4, .unset, .unset, .unset, .unset] [(.ref ob_3)])) rfl (by rw [hml]; rfl) (argsL := [(.ref ob_3)]) (rest := []) (lenOf pd_10 rfl) rfl (Nat.le_refl _) (hb hby at_43) (fun _ _ => ⟨rfl, rfl, (by decide : 12 + 3 ≤ _), (by decide : 24 + 18 ≤ _)⟩)
      dsimp only [Pt.U, Pt.locs, Pt.cells, Pt.slots] at X49 l49 y49 z49 st49 hQ49 CR49 hSq49 hgq49
      subst l49 y49 z49
      obtain ⟨X49, hS49, hZ49, hown49⟩ := rebS hS4 hk4 X49 hSq49 hgq49 hZ4 hown4
      have hk49 : T49.heap.size ≤ T49.heap.size := Nat.le_refl _
      obtain ⟨ob_49, rfl, N49q, K49, p49_0, p49_1, p49_2, p49_3⟩ := hQ49
      have Hc49 := CR49.1
      have Rc49 := Rc4.trans CR49
      have g_ob_49 : n0 ≤ ob_49 := Nat.le_trans (Nat.le_trans (Nat.le_trans Z0 K3.1) K4.1) p49_0
      have sz_ob_49 : h0.size ≤ ob_49 := Nat.le_trans (((Keep.refl h0 []).trans K3 all0).trans K4 all0).1 p49_0
      have N49 := Fr.app N4 N49q
      have f53 := (p4_1.keep K49)
      have f54 := (f50.keep K49)
      have f55 := (f51.keep K49 nin0)
      have f56 := (p4_4.keep K49 nin0)
      obtain ⟨_, _, ⟨T52, L52, j52, i52⟩, -, X52, hSq52, hgq52, ⟨Lc52, hQ52, l52, y52, z52, CR52⟩, st52⟩ := Jvm.RoadKit.callSS X49 hx (y := (⟨cS0, "named", cS5⟩ : MethodName)) hown49 (mvT hZ49 (own_at hw 34 rfl)) (mvT hZ49 (own_at hw 35 rfl)) (mvT hZ49 (own_at hw 36 rfl)) (mvT hZ49 (own_at hw 37 rfl)) (by decide) (backOfSH (W := 0) (rmN l Z a0 hw [] ob_4 T49.heap n0 (Nat.le_trans (Nat.le_trans (Nat.le_trans Z0 K3.1) K4.1) K49.1) f53) hZ49 (own_at hw 37 rfl) (own_at hw 36 rfl) (by decide) (by decide) (own_ew hw) Hc49) (g := (mkF m 50 #[iv p0, iv p1, iv p2, iv p3, iv p4, iv 0, rv ob_3, rv ob_4, rv ob_49, .unset, .unset, .unset] [(.ref ob_4)])) rfl (by rw [hml]; rfl) (argsL := [(.ref ob_4)]) (rest := []) (lenOf pd_10 rfl) rfl (Nat.le_refl _) (hb hby at_50) (fun _ _ => ⟨rfl, rfl, (by decide : 15 + 3 ≤ _), (by decide : 42 + 18 ≤ _)⟩)
      dsimp only [Pt.U, Pt.locs, Pt.cells, Pt.slots] at X52 l52 y52 z52 st52 hQ52 CR52 hSq52 hgq52
      subst l52 y52 z52
      obtain ⟨X52, hS52, hZ52, hown52⟩ := rebS hS49 hk49 X52 hSq52 hgq52 hZ49 hown49
      have hk52 : T52.heap.size ≤ T52.heap.size := Nat.le_refl _
      obtain ⟨ob_52, rfl, N52q, K52, p52_0, p52_1, p52_2, p52_3⟩ := hQ52
      have Hc52 := CR52.1
      have Rc52 := Rc49.trans CR52
      have g_ob_52 : n0 ≤ ob_52 := Nat.le_trans (Nat.le_trans (Nat.le_trans (Nat.le_trans Z0 K3.1) K4.1) K49.1) p52_0
      have sz_ob_52 : h0.size ≤ ob_52 := Nat.le_trans ((((Keep.refl h0 []).trans K3 all0).trans K4 all0).trans K49 all0).1 p52_0
      have N52 := Fr.app N49 N52q
      have f58 := (p49_2.keep K52 nin0)
      have f59 := (p49_1.keep K52)
      obtain ⟨cq57, kq57, q57a, q57b, q57c⟩ := isOf hZ52 rfl f59
      obtain ⟨_, _, ⟨T57, L57, j57, i57⟩, -, X57, ⟨Lc57, hQ57, l57, y57, z57⟩, st57⟩ := X52.virtualBack hx (y := (⟨cS0, "name", "()Ljava/lang/String;"⟩ : MethodName)) (z := (⟨cS0, "name", "()Ljava/lang/String;"⟩ : MethodName)) hown52 (mvT hZ52 (own_at hw 56 rfl)) (mvT hZ52 (own_at hw 57 rfl)) (notFace_of_selects (args := #[]) (mvT hZ52 (own_at hw 59 rfl))) (mvT hZ52 (own_at hw 59 rfl)) (mvT hZ52 (own_at hw 58 rfl)) (by decide) (backOf (W := 0) (rmA l Z a0 hw [] ob_49 ob_3 T52.heap n0 (Nat.le_trans (Nat.le_trans (Nat.le_trans (Nat.le_trans Z0 K3.1) K4.1) K49.1) K52.1) f58) hZ52 (own_at hw 60 rfl) (own_at hw 36 rfl) (by decide) (by decide)) q57a q57c (g := (mkF m 57 #[iv p0, iv p1, iv p2, iv p3, iv p4, iv 0, rv ob_3, rv ob_4, rv ob_49, rv ob_52, .unset, .unset] [(.ref ob_49)])) rfl (by rw [hml]; rfl) (Steps.refl _) (argsL := []) (rest := []) (lenOf pd_11 rfl) rfl (Nat.le_refl _) (hb hby at_57) (fun _ _ => ⟨rfl, rfl, (by decide : 18 + 0 ≤ _), (by decide : 60 + 0 ≤ _)⟩)
      dsimp only [Pt.U, Pt.locs, Pt.cells, Pt.slots] at X57 l57 y57 z57 st57 hQ57
      subst l57 y57 z57
      obtain ⟨rfl, N57q, e57⟩ := hQ57
      have N57 := Fr.app N52 N57q
      have f61 := (f54.keep K52)
      obtain ⟨cq60, kq60, q60a, q60b, q60c⟩ := isOf hZ52 e57 f61
      obtain ⟨_, _, ⟨T60, L60, j60, i60⟩, -, X60, ⟨Lc60, hQ60, l60, y60, z60⟩, st60⟩ := X57.virtualBack hx (y := (⟨cS1, "equals", cS2⟩ : MethodName)) (z := (⟨cS1, "equals", cS2⟩ : MethodName)) hown52 (mvT hZ52 (own_at hw 61 rfl)) (mvT hZ52 (own_at hw 62 rfl)) (notFace_of_selects (args := #[]) (mvT hZ52 (own_at hw 64 rfl))) (mvT hZ52 (own_at hw 64 rfl)) (mvT hZ52 (own_at hw 63 rfl)) (by decide) (backOf (W := 0) (rmS_same l Z a0 hw [] ob_3 T52.heap n0 (Nat.le_trans (Nat.le_trans (Nat.le_trans (Nat.le_trans Z0 K3.1) K4.1) K49.1) K52.1) ) hZ52 (own_at hw 65 rfl) (own_at hw 6 rfl) (by decide) (by decide)) q60a q60c (g := (mkF m 62 #[iv p0, iv p1, iv p2, iv p3, iv p4, iv 0, rv ob_3, rv ob_4, rv ob_49, rv ob_52, .unset, .unset] [(.ref ob_3), (.ref ob_3)])) rfl (by rw [hml]; rfl) (Steps.refl _) (argsL := [(.ref ob_3)]) (rest := []) (lenOf pd_8 rfl) rfl (Nat.le_refl _) (hb hby at_62) (fun _ _ => ⟨rfl, e57, (by decide : 18 + 0 ≤ _), (by decide : 60 + 0 ≤ _)⟩)
      dsimp only [Pt.U, Pt.locs, Pt.cells, Pt.slots] at X60 l60 y60 z60 st60 hQ60
      subst l60 y60 z60
      obtain ⟨rfl, N60q, e60⟩ := hQ60
      have N60 := Fr.app N57 N60q
      have f63 := (p49_3.keep K52 nin0)
      obtain ⟨cq62, kq62, q62a, q62b, q62c⟩ := isOf hZ52 e60 f59
      obtain ⟨_, _, ⟨T62, L62, j62, i62⟩, -, X62, ⟨Lc62, hQ62, l62, y62, z62⟩, st62⟩ := X60.virtualBack hx (y := (⟨cS0, "isInverse", "()Z"⟩ : MethodName)) (z := (⟨cS0, "isInverse", "()Z"⟩ : MethodName)) hown52 (mvT hZ52 (own_at hw 66 rfl)) (mvT hZ52 (own_at hw 67 rfl)) (notFace_of_selects (args := #[]) (mvT hZ52 (own_at hw 69 rfl))) (mvT hZ52 (own_at hw 69 rfl)) (mvT hZ52 (own_at hw 68 rfl)) (by decide) (backOf (W := 0) (rmV l Z a0 hw [] ob_49 T52.heap n0 (Nat.le_trans (Nat.le_trans (Nat.le_trans (Nat.le_trans Z0 K3.1) K4.1) K49.1) K52.1) f63) hZ52 (own_at hw 70 rfl) (own_at hw 36 rfl) (by decide) (by decide)) q62a q62c (g := (mkF m 74 #[iv p0, iv p1, iv p2, iv p3, iv p4, iv 0, rv ob_3, rv ob_4, rv ob_49, rv ob_52, iv 1, .unset] [(.ref ob_49)])) rfl (by rw [hml]; rfl) (Steps.refl _) (argsL := []) (rest := []) (lenOf pd_12 rfl) rfl (Nat.le_refl _) (hb hby at_74) (fun _ _ => ⟨rfl, e60, (by decide : 18 + 0 ≤ _), (by decide : 60 + 0 ≤ _)⟩)
      dsimp only [Pt.U, Pt.locs, Pt.cells, Pt.slots] at X62 l62 y62 z62 st62 hQ62
      subst l62 y62 z62
      obtain ⟨rfl, N62q, e62⟩ := hQ62
      have N62 := Fr.app N60 N62q
      have f65 := (own_sta_keep (own_sta_keep (own_sta_keep f5 K4 all0) K49 all0) K52 all0)
      have f66 := (((p3_2.keep K4 nin0).keep K49 nin0).keep K52 nin0)
      have f67 := (((p3_3.keep K4 nin0).keep K49 nin0).keep K52 nin0)
      have f68 := (f55.keep K52 nin0)
      have f69 := (f53.keep K52)
      have f70 := ((p4_2.keep K49 nin0).keep K52 nin0)
      have f71 := ((p4_3.keep K49 nin0).keep K52 nin0)
      have f72 := (f56.keep K52 nin0)
      obtain ⟨cq64, kq64, q64a, q64b, q64c⟩ := isOf hZ52 e62 f59
      obtain ⟨_, _, ⟨T64, L64, j64, i64⟩, -, X64, ⟨Lc64, hQ64, l64, y64, z64⟩, st64⟩ := X62.virtualBack hx (y := (⟨cS0, "equals", cS2⟩ : MethodName)) (z := (⟨cS0, "equals", cS2⟩ : MethodName)) hown52 (mvT hZ52 (own_at hw 71 rfl)) (mvT hZ52 (own_at hw 72 rfl)) (notFace_of_selects (args := #[]) (mvT hZ52 (own_at hw 74 rfl))) (mvT hZ52 (own_at hw 74 rfl)) (mvT hZ52 (own_at hw 73 rfl)) (by decide) (backOf (W := 0) (rmQ_ne l Z a0 hw [] ob_49 ob_52 ob_3 ob_4 w_CS ar_3 kk_3 ar_4 kk_4 (own_n p1) (own_str p0 p1) (own_n p3) (own_str p2 p3) T52.heap n0 (Nat.le_trans (Nat.le_trans (Nat.le_trans (Nat.le_trans Z0 K3.1) K4.1) K49.1) K52.1) f59 f58 f63 p52_1 p52_2 p52_3 f65 hcs f61 f66 f67 f68 f69 f70 f71 f72 (Nat.ne_of_lt (Nat.lt_of_lt_of_le p3_1.lt p4_0)) (own_sm p0 p1) (own_sm p2 p3) hEQ) hZ52 (own_at hw 75 rfl) (own_at hw 36 rfl) (by decide) (by decide)) q64a q64c (g := (mkF m 96 #[iv p0, iv p1, iv p2, iv p3, iv p4, iv 0, rv ob_3, rv ob_4, rv ob_49, rv ob_52, iv 1, .unset] [(.ref ob_52), (.ref ob_49)])) rfl (by rw [hml]; rfl) (Steps.refl _) (argsL := [(.ref ob_52)]) (rest := []) (lenOf pd_8 rfl) rfl (Nat.le_refl _) (hb hby at_96) (fun _ _ => ⟨rfl, e62, (by decide : 18 + 0 ≤ _), (by decide : 60 + 0 ≤ _)⟩)
      dsimp only [Pt.U, Pt.locs, Pt.cells, Pt.slots] at X64 l64 y64 z64 st64 hQ64
      subst l64 y64 z64
      obtain ⟨rfl, N64q, e64⟩ := hQ64
      have N64 := Fr.app N62 N64q
      obtain ⟨cq73, kq73, q73a, q73b, q73c⟩ := isOf hZ52 e64 f61
      obtain ⟨_, _, ⟨T73, L73, j73, i73⟩, -, X73, ⟨Lc73, hQ73, l73, y73, z73⟩, st73⟩ := X64.virtualBack hx (y := (⟨cS1, "equals", cS2⟩ : MethodName)) (z := (⟨cS1, "equals", cS2⟩ : MethodName)) hown52 (mvT hZ52 (own_at hw 61 rfl)) (mvT hZ52 (own_at hw 62 rfl)) (notFace_of_selects (args := #[]) (mvT hZ52 (own_at hw 64 rfl))) (mvT hZ52 (own_at hw 64 rfl)) (mvT hZ52 (own_at hw 63 rfl)) (by decide) (backOf (W := 1) (rmS_ne l Z a0 hw [] ob_3 ob_4 w_CS ar_3 kk_3 ar_4 kk_4 (own_n p1) (own_str p0 p1) (own_n p3) (own_str p2 p3) T52.heap n0 (Nat.le_trans (Nat.le_trans (Nat.le_trans (Nat.le_trans Z0 K3.1) K4.1) K49.1) K52.1) f65 hcs f61 f66 f67 f68 f69 f70 f71 f72 (Nat.ne_of_lt (Nat.lt_of_lt_of_le p3_1.lt p4_0)) (own_sm p0 p1) (own_sm p2 p3) hEQ) hZ52 (own_at hw 65 rfl) (own_at hw 6 rfl) (by decide) (by decide)) q73a q73c (g := (mkF m 103 #[iv p0, iv p1, iv p2, iv p3, iv p4, iv 0, rv ob_3, rv ob_4, rv ob_49, rv ob_52, iv 1, .unset] [(.ref ob_4), (.ref ob_3), (.int 0)])) rfl (by rw [hml]; rfl) (Steps.refl _) (argsL := [(.ref ob_4)]) (rest := [(.int 0)]) (lenOf pd_8 rfl) rfl (Nat.le_refl _) (hb hby at_103) (fun _ _ => ⟨rfl, e64, (by decide : 18 + 0 ≤ _), (by decide : 60 + 0 ≤ _)⟩)
      dsimp only [Pt.U, Pt.locs, Pt.cells, Pt.slots] at X73 l73 y73 z73 st73 hQ73
      subst l73 y73 z73
      obtain ⟨rfl, N73q, e73⟩ := hQ73
      have N73 := Fr.app N64 N73q
      obtain ⟨cq74, kq74, q74a, q74b, q74c⟩ := isOf hZ52 e73 f59
      obtain ⟨_, _, ⟨T74, L74, j74, i74⟩, -, X74, ⟨Lc74, hQ74, l74, y74, z74⟩, st74⟩ := X73.virtualBack hx (y := (⟨cS0, "inverse", cS4⟩ : MethodName)) (z := (⟨cS0, "inverse", cS4⟩ : MethodName)) hown52 (mvT hZ52 (own_at hw 83 rfl)) (mvT hZ52 (own_at hw 84 rfl)) (notFace_of_selects (args := #[]) (mvT hZ52 (own_at hw 86 rfl))) (mvT hZ52 (own_at hw 86 rfl)) (mvT hZ52 (own_at hw 85 rfl)) (by decide) (backOf (W := 0) (rmX_0 l Z a0 hw [] ob_49 ob_3 T52.heap n0 (Nat.le_trans (Nat.le_trans (Nat.le_trans (Nat.le_trans Z0 K3.1) K4.1) K49.1) K52.1) f59 f58 f63) hZ52 (own_at hw 87 rfl) (own_at hw 36 rfl) (by decide) (by decide)) q74a q74c (g := (mkF m 118 #[iv p0, iv p1, iv p2, iv p3, iv p4, iv 0, rv ob_3, rv ob_4, rv ob_49, rv ob_52, iv 1, .unset] [(.ref ob_49)])) rfl (by rw [hml]; rfl) (Steps.refl _) (argsL := []) (rest := []) (lenOf pd_13 rfl) rfl (Nat.le_refl _) (hb hby at_118) (fun _ _ => ⟨rfl, e73, (by decide : 18 + 1 ≤ _), (by decide : 60 + 2 ≤ _)⟩)
      dsimp only [Pt.U, Pt.locs, Pt.cells, Pt.slots] at X74 l74 y74 z74 st74 hQ74
      subst l74 y74 z74
      obtain ⟨ob_74, rfl, N74q, K74, p74_0, p74_1, p74_2, p74_3⟩ := hQ74
      have Hc74 := CHv.keep K74 sf0 Hc52
      have Rc74 := Rc52.trans (CHr.keep K74 sf0 Hc52)
      have hk74 := Nat.le_trans hk52 K74.1
      have g_ob_74 : n0 ≤ ob_74 := Nat.le_trans (Nat.le_trans (Nat.le_trans (Nat.le_trans (Nat.le_trans Z0 K3.1) K4.1) K49.1) K52.1) p74_0
      have sz_ob_74 : h0.size ≤ ob_74 := Nat.le_trans (((((Keep.refl h0 []).trans K3 all0).trans K4 all0).trans K49 all0).trans K52 all0).1 p74_0
      have N74 := Fr.app N73 N74q
      have f76 := (f59.keep K74)
      have f77 := (f58.keep K74 nin0)
      have f78 := (f63.keep K74 nin0)
      obtain ⟨cq75, kq75, q75a, q75b, q75c⟩ := isOf hZ52 rfl p74_1
      obtain ⟨_, _, ⟨T75, L75, j75, i75⟩, -, X75, ⟨Lc75, hQ75, l75, y75, z75⟩, st75⟩ := X74.virtualBack hx (y := (⟨cS0, "equals", cS2⟩ : MethodName)) (z := (⟨cS0, "equals", cS2⟩ : MethodName)) hown52 (mvT hZ52 (own_at hw 71 rfl)) (mvT hZ52 (own_at hw 72 rfl)) (notFace_of_selects (args := #[]) (mvT hZ52 (own_at hw 74 rfl))) (mvT hZ52 (own_at hw 74 rfl)) (mvT hZ52 (own_at hw 73 rfl)) (by decide) (backOf (W := 0) (rmQ_d l Z a0 hw [] ob_74 ob_49 ob_3 ob_3 T74.heap n0 (Nat.le_trans (Nat.le_trans (Nat.le_trans (Nat.le_trans (Nat.le_trans Z0 K3.1) K4.1) K49.1) K52.1) K74.1) p74_1 p74_2 p74_3 f76 f77 f78) hZ52 (own_at hw 75 rfl) (own_at hw 36 rfl) (by decide) (by decide)) q75a q75c (g := (mkF m 132 #[iv p0, iv p1, iv p2, iv p3, iv p4, iv 0, rv ob_3, rv ob_4, rv ob_49, rv ob_52, iv 1, rv ob_74] [(.ref ob_49), (.ref ob_74)])) rfl (by rw [hml]; rfl) (Steps.refl _) (argsL := [(.ref ob_49)]) (rest := []) (lenOf pd_8 rfl) rfl (Nat.le_refl _) (hb hby at_132) (fun _ _ => ⟨rfl, rfl, (by decide : 19 + 0 ≤ _), (by decide : 62 + 0 ≤ _)⟩)
      dsimp only [Pt.U, Pt.locs, Pt.cells, Pt.slots] at X75 l75 y75 z75 st75 hQ75
      subst l75 y75 z75
      obtain ⟨rfl, N75q, e75⟩ := hQ75
      have N75 := Fr.app N74 N75q
      obtain ⟨cq79, kq79, q79a, q79b, q79c⟩ := isOf hZ52 e75 p74_1
      obtain ⟨_, _, ⟨T79, L79, j79, i79⟩, -, X79, ⟨Lc79, hQ79, l79, y79, z79⟩, st79⟩ := X75.virtualBack hx (y := (⟨cS0, "inverse", cS4⟩ : MethodName)) (z := (⟨cS0, "inverse", cS4⟩ : MethodName)) hown52 (mvT hZ52 (own_at hw 83 rfl)) (mvT hZ52 (own_at hw 84 rfl)) (notFace_of_selects (args := #[]) (mvT hZ52 (own_at hw 86 rfl))) (mvT hZ52 (own_at hw 86 rfl)) (mvT hZ52 (own_at hw 85 rfl)) (by decide) (backOf (W := 0) (rmX_1 l Z a0 hw [] ob_74 ob_3 T74.heap n0 (Nat.le_trans (Nat.le_trans (Nat.le_trans (Nat.le_trans (Nat.le_trans Z0 K3.1) K4.1) K49.1) K52.1) K74.1) p74_1 p74_2 p74_3) hZ52 (own_at hw 87 rfl) (own_at hw 36 rfl) (by decide) (by decide)) q79a q79c (g := (mkF m 152 #[iv p0, iv p1, iv p2, iv p3, iv p4, iv 0, rv ob_3, rv ob_4, rv ob_49, rv ob_52, iv 1, rv ob_74] [(.ref ob_74)])) rfl (by rw [hml]; rfl) (Steps.refl _) (argsL := []) (rest := []) (lenOf pd_13 rfl) rfl (Nat.le_refl _) (hb hby at_152) (fun _ _ => ⟨rfl, e75, (by decide : 19 + 1 ≤ _), (by decide : 62 + 2 ≤ _)⟩)
      dsimp only [Pt.U, Pt.locs, Pt.cells, Pt.slots] at X79 l79 y79 z79 st79 hQ79
      subst l79 y79 z79
      have f80 := (f61.keep K74)
      have f81 := (f68.keep K74 nin0)
      have f82 := (f69.keep K74)
      have f83 := (f72.keep K74 nin0)
      have f84 := (p52_1.keep K74)
      obtain ⟨ob_79, rfl, N79q, K79, p79_0, p79_1, p79_2, p79_3⟩ := hQ79
      have Hc79 := CHv.keep K79 sf0 Hc74
      have Rc79 := Rc74.trans (CHr.keep K79 sf0 Hc74)
      have hk79 := Nat.le_trans hk74 K79.1
      have g_ob_79 : n0 ≤ ob_79 := Nat.le_trans (Nat.le_trans (Nat.le_trans (Nat.le_trans (Nat.le_trans (Nat.le_trans Z0 K3.1) K4.1) K49.1) K52.1) K74.1) p79_0
      have sz_ob_79 : h0.size ≤ ob_79 := Nat.le_trans ((((((Keep.refl h0 []).trans K3 all0).trans K4 all0).trans K49 all0).trans K52 all0).trans K74 all0).1 p79_0
      have N79 := Fr.app N75 N79q
      have f86 := (f76.keep K79)
      have f87 := (f77.keep K79 nin0)
      have f88 := (f78.keep K79 nin0)
      have f89 := (f80.keep K79)
      obtain ⟨cq85, kq85, q85a, q85b, q85c⟩ := isOf hZ52 rfl p79_1
      obtain ⟨_, _, ⟨T85, L85, j85, i85⟩, -, X85, ⟨Lc85, hQ85, l85, y85, z85⟩, st85⟩ := X79.virtualBack hx (y := (⟨cS0, "equals", cS2⟩ : MethodName)) (z := (⟨cS0, "equals", cS2⟩ : MethodName)) hown52 (mvT hZ52 (own_at hw 71 rfl)) (mvT hZ52 (own_at hw 72 rfl)) (notFace_of_selects (args := #[]) (mvT hZ52 (own_at hw 74 rfl))) (mvT hZ52 (own_at hw 74 rfl)) (mvT hZ52 (own_at hw 73 rfl)) (by decide) (backOf (W := 0) (rmQ_s l Z a0 hw [] ob_79 ob_49 ob_3 T79.heap n0 (Nat.le_trans (Nat.le_trans (Nat.le_trans (Nat.le_trans (Nat.le_trans (Nat.le_trans Z0 K3.1) K4.1) K49.1) K52.1) K74.1) K79.1) p79_1 p79_2 p79_3 f86 f87 f88 f89) hZ52 (own_at hw 75 rfl) (own_at hw 36 rfl) (by decide) (by decide)) q85a q85c (g := (mkF m 157 #[iv p0, iv p1, iv p2, iv p3, iv p4, iv 0, rv ob_3, rv ob_4, rv ob_49, rv ob_52, iv 1, rv ob_74] [(.ref ob_49), (.ref ob_79)])) rfl (by rw [hml]; rfl) (Steps.refl _) (argsL := [(.ref ob_49)]) (rest := []) (lenOf pd_8 rfl) rfl (Nat.le_refl _) (hb hby at_157) (fun _ _ => ⟨rfl, rfl, (by decide : 20 + 0 ≤ _), (by decide : 64 + 0 ≤ _)⟩)
      dsimp only [Pt.U, Pt.locs, Pt.cells, Pt.slots] at X85 l85 y85 z85 st85 hQ85
      subst l85 y85 z85
      obtain ⟨rfl, N85q, e85⟩ := hQ85
      have N85 := Fr.app N79 N85q
      obtain ⟨fs, hr, hrun, hended, hRW⟩ := X85.leaveW hS52 (by rw [e85]; exact hk79) (v := some (.int 1)) (fun h => by rw [Bd.returns] at h; cases h)
      have hCE : CHr Z own_EL s.vm s.heap T85.vm T85.heap := by rw [hh, e85]; exact Rc79.trans (CHv.at X85 hZ52 (own_ew hw) Hc79)
      refine ⟨_, _, k6 _ ?_, hrun, hended, _, _, rfl, ?_, hCE, hRW.1, hRW.2.1, hRW.2.2.1, hRW.2.2.2.mono (by decide) (by decide)⟩
      · show OwnS p e below T4 (mkF m 39 #[iv p0, iv p1, iv p2, iv p3, iv p4, iv 0, rv ob_3, .unset, .unset, .unset, .unset, .unset] [(.ref ob_4)]) _
        refine XS.astore X4.here hx rfl (hb hby at_39) rfl rfl (l' := #[iv p0, iv p1, iv p2, iv p3, iv p4, iv 0, rv ob_3, rv ob_4, .unset, .unset, .unset, .unset]) rfl ?_
        refine XS.aload X4.here hx rfl (hb hby at_41) rfl rfl ?_
        refine st49.trans ?_
        refine XS.astore X49.here hx rfl (hb hby at_46) rfl rfl (l' := #[iv p0, iv p1, iv p2, iv p3, iv p4, iv 0, rv ob_3, rv ob_4, rv ob_49, .unset, .unset, .unset]) rfl ?_
        refine XS.aload X49.here hx rfl (hb hby at_48) rfl rfl ?_
        refine st52.trans ?_
        refine XS.astore X52.here hx rfl (hb hby at_53) rfl rfl (l' := #[iv p0, iv p1, iv p2, iv p3, iv p4, iv 0, rv ob_3, rv ob_4, rv ob_49, rv ob_52, .unset, .unset]) rfl ?_
        refine XS.aload X52.here hx rfl (hb hby at_55) rfl rfl ?_
        refine st57.trans ?_
        refine XS.aload X57.here hx rfl (hb hby at_60) rfl rfl ?_
        refine st60.trans ?_
        refine XS.istore X60.here hx rfl (hb hby at_65) rfl (l' := #[iv p0, iv p1, iv p2, iv p3, iv p4, iv 0, rv ob_3, rv ob_4, rv ob_49, rv ob_52, iv 1, .unset]) rfl ?_
        refine XS.iload X60.here hx rfl (hb hby at_67) rfl ?_
        refine XS.ifNo X60.here hx rfl (hb hby at_69) rfl ((if0 _ _).trans (feq (by decide : ¬ ((1 : Int32) = (0 : Int32)))).1) ?_
        refine XS.aload X60.here hx rfl (hb hby at_72) rfl rfl ?_
        refine st62.trans ?_
        refine XS.ifNo X62.here hx rfl (hb hby at_77) rfl ((if0 _ _).trans (teq (by decide : (0 : Int32) = (0 : Int32))).2) ?_
        refine XS.iconst X62.here hx rfl (hb hby at_80) ?_
        refine XS.goto X62.here hx rfl (pc0 := 81) (pc' := 85) rfl (hb hby at_81) (by decide) (by decide) ?_
        refine XS.istore X62.here hx rfl (hb hby at_85) rfl (l' := #[iv p0, iv p1, iv p2, iv p3, iv p4, iv 0, rv ob_3, rv ob_4, rv ob_49, rv ob_52, iv 1, .unset]) rfl ?_
        refine XS.iload X62.here hx rfl (hb hby at_87) rfl ?_
        refine XS.ifNo X62.here hx rfl (hb hby at_89) rfl ((if0 _ _).trans (feq (by decide : ¬ ((1 : Int32) = (0 : Int32)))).1) ?_
        refine XS.aload X62.here hx rfl (hb hby at_92) rfl rfl ?_
        refine XS.aload X62.here hx rfl (hb hby at_94) rfl rfl ?_
        refine st64.trans ?_
        refine XS.aload X64.here hx rfl (hb hby at_99) rfl rfl ?_
        refine XS.aload X64.here hx rfl (hb hby at_101) rfl rfl ?_
        refine st73.trans ?_
        refine XS.icmpNo X73.here hx rfl (hb hby at_106) rfl (teq (by decide : (0 : Int32) = (0 : Int32))).2 ?_
        refine XS.iconst X73.here hx rfl (hb hby at_109) ?_
        show OwnS p e below T73 (mkF m 110 #[iv p0, iv p1, iv p2, iv p3, iv p4, iv 0, rv ob_3, rv ob_4, rv ob_49, rv ob_52, iv 1, .unset] [(.int 1)]) _
        refine XS.goto X73.here hx rfl (pc0 := 110) (pc' := 114) rfl (hb hby at_110) (by decide) (by decide) ?_
        refine XS.istore X73.here hx rfl (hb hby at_114) rfl (l' := #[iv p0, iv p1, iv p2, iv p3, iv p4, iv 0, rv ob_3, rv ob_4, rv ob_49, rv ob_52, iv 1, .unset]) rfl ?_
        refine XS.aload X73.here hx rfl (hb hby at_116) rfl rfl ?_
        refine st74.trans ?_
        refine XS.astore X74.here hx rfl (hb hby at_121) rfl rfl (l' := #[iv p0, iv p1, iv p2, iv p3, iv p4, iv 0, rv ob_3, rv ob_4, rv ob_49, rv ob_52, iv 1, rv ob_74]) rfl ?_
        refine XS.iload X74.here hx rfl (hb hby at_123) rfl ?_
        refine XS.ifNo X74.here hx rfl (hb hby at_125) rfl ((if0 _ _).trans (feq (by decide : ¬ ((1 : Int32) = (0 : Int32)))).1) ?_
        refine XS.aload X74.here hx rfl (hb hby at_128) rfl rfl ?_
        refine XS.aload X74.here hx rfl (hb hby at_130) rfl rfl ?_
        refine st75.trans ?_
        refine XS.ifNo X75.here hx rfl (hb hby at_135) rfl ((if0 _ _).trans (teq (by decide : (0 : Int32) = (0 : Int32))).2) ?_
        refine XS.iconst X75.here hx rfl (hb hby at_138) ?_
        refine XS.goto X75.here hx rfl (pc0 := 139) (pc' := 143) rfl (hb hby at_139) (by decide) (by decide) ?_
        refine XS.istore X75.here hx rfl (hb hby at_143) rfl (l' := #[iv p0, iv p1, iv p2, iv p3, iv p4, iv 0, rv ob_3, rv ob_4, rv ob_49, rv ob_52, iv 1, rv ob_74]) rfl ?_
        refine XS.iload X75.here hx rfl (hb hby at_145) rfl ?_
        refine XS.ifNo X75.here hx rfl (hb hby at_147) rfl ((if0 _ _).trans (feq (by decide : ¬ ((1 : Int32) = (0 : Int32)))).1) ?_
        refine XS.aload X75.here hx rfl (hb hby at_150) rfl rfl ?_
        refine st79.trans ?_
        refine XS.aload X79.here hx rfl (hb hby at_155) rfl rfl ?_
        refine st85.trans ?_
        refine XS.ifNo X85.here hx rfl (hb hby at_160) rfl ((if0 _ _).trans (feq (by decide : ¬ ((1 : Int32) = (0 : Int32)))).1) ?_
        refine XS.iconst X85.here hx rfl (hb hby at_163) ?_
        refine XS.goto X85.here hx rfl (pc0 := 164) (pc' := 168) rfl (hb hby at_164) (by decide) (by decide) ?_
        refine XS.istore X85.here hx rfl (hb hby at_168) rfl (l' := #[iv p0, iv p1, iv p2, iv p3, iv p4, iv 0, rv ob_3, rv ob_4, rv ob_49, rv ob_52, iv 1, rv ob_74]) rfl ?_
        refine XS.iload X85.here hx rfl (hb hby at_170) rfl ?_
        exact retN X85 hx (t := .boolean) Bd.returns (by simp) (hb hby at_172) hr
      · show Q_0 Z _ _ _ _ _ _ h0 n0 _ T85.heap _
        rw [e85]
        exact ⟨rfl, N85, trivial⟩
  · obtain ⟨_, _, ⟨T90, L90, j90, i90⟩, -, X90, hSq90, hgq90, ⟨Lc90, hQ90, l90, y90, z90, CR90⟩, st90⟩ := Jvm.RoadKit.callSS X0 hx (y := (⟨cS7, "str", "(II)Ljava/lang/String;"⟩ : MethodName)) hown (mvT hZ (own_at hw 0 rfl)) (mvT hZ (own_at hw 1 rfl)) (mvT hZ (own_at hw 2 rfl)) (mvT hZ (own_at hw 3 rfl)) (by decide) (backOfSH (W := 0) (rm1 l Z a0 hw [] p0 p1 w_CS h0 n0 Z0 S_CS hcs) hZ (own_at hw 3 rfl) (own_at hw 2 rfl) (by decide) (by decide) (own_ew hw) H0c) (g := (mkF m 16 #[iv p0, iv p1, iv p2, iv p3, iv p4, iv 1, .unset, .unset, .unset, .unset, .unset, .unset] [(.int p1), (.int p0)])) rfl (by rw [hml]; rfl) (argsL := [(.int p0), (.int p1)]) (rest := []) (lenOf pd_9 rfl) rfl (Nat.le_refl _) (hb hby at_16) (fun _ _ => ⟨rfl, e0, (by decide : 0 + 6 ≤ _), (by decide : 0 + 12 ≤ _)⟩)
    dsimp only [Pt.U, Pt.locs, Pt.cells, Pt.slots] at X90 l90 y90 z90 st90 hQ90 CR90 hSq90 hgq90
    subst l90 y90 z90
    obtain ⟨X90, hS90, hZ90, hown90⟩ := rebS hS0 (by rw [e0]; exact hk0) X90 hSq90 hgq90 hZ hown
    have hk90 : T90.heap.size ≤ T90.heap.size := Nat.le_refl _
    obtain ⟨ob_90, ar_90, kk_90, rfl, N90q, K90, p90_0, p90_1, p90_2, p90_3, p90_4⟩ := hQ90
    have Hc90 := CR90.1
    have Rc90 := R0c.trans CR90
    have g_ob_90 : n0 ≤ ob_90 := Nat.le_trans Z0 p90_0
    have sz_ob_90 : h0.size ≤ ob_90 := Nat.le_trans (Keep.refl h0 []).1 p90_0
    have N90 := Fr.app N0 N90q
    have f92 := (own_sta_keep S_CS K90 all0)
    obtain ⟨_, _, ⟨T91, L91, j91, i91⟩, -, X91, hSq91, hgq91, ⟨Lc91, hQ91, l91, y91, z91, CR91⟩, st91⟩ := Jvm.RoadKit.callSS X90 hx (y := (⟨cS7, "str", "(II)Ljava/lang/String;"⟩ : MethodName)) hown90 (mvT hZ90 (own_at hw 0 rfl)) (mvT hZ90 (own_at hw 1 rfl)) (mvT hZ90 (own_at hw 2 rfl)) (mvT hZ90 (own_at hw 3 rfl)) (by decide) (backOfSH (W := 0) (rm1 l Z a0 hw [] p0 p1 w_CS T90.heap n0 (Nat.le_trans Z0 K90.1) f92 hcs) hZ90 (own_at hw 3 rfl) (own_at hw 2 rfl) (by decide) (by decide) (own_ew hw) Hc90) (g := (mkF m 28 #[iv p0, iv p1, iv p2, iv p3, iv p4, iv 1, rv ob_90, .unset, .unset, .unset, .unset, .unset] [(.int p1), (.int p0)])) rfl (by rw [hml]; rfl) (argsL := [(.int p0), (.int p1)]) (rest := []) (lenOf pd_9 rfl) rfl (Nat.le_refl _) (hb hby at_28) (fun _ _ => ⟨rfl, rfl, (by decide : 6 + 6 ≤ _), (by decide : 12 + 12 ≤ _)⟩)
    dsimp only [Pt.U, Pt.locs, Pt.cells, Pt.slots] at X91 l91 y91 z91 st91 hQ91 CR91 hSq91 hgq91
    subst l91 y91 z91
    obtain ⟨X91, hS91, hZ91, hown91⟩ := rebS hS90 hk90 X91 hSq91 hgq91 hZ90 hown90
    have hk91 : T91.heap.size ≤ T91.heap.size := Nat.le_refl _
    obtain ⟨ob_91, ar_91, kk_91, rfl, N91q, K91, p91_0, p91_1, p91_2, p91_3, p91_4⟩ := hQ91
    have Hc91 := CR91.1
    have Rc91 := Rc90.trans CR91
    have g_ob_91 : n0 ≤ ob_91 := Nat.le_trans (Nat.le_trans Z0 K90.1) p91_0
    have sz_ob_91 : h0.size ≤ ob_91 := Nat.le_trans ((Keep.refl h0 []).trans K90 all0).1 p91_0
    have N91 := Fr.app N90 N91q
    have f94 := (p90_1.keep K91)
    have f95 := (p90_4.keep K91 nin0)
    obtain ⟨_, _, ⟨T93, L93, j93, i93⟩, -, X93, hSq93, hgq93, ⟨Lc93, hQ93, l93, y93, z93, CR93⟩, st93⟩ := Jvm.RoadKit.callSS X91 hx (y := (⟨cS0, "named", cS5⟩ : MethodName)) hown91 (mvT hZ91 (own_at hw 34 rfl)) (mvT hZ91 (own_at hw 35 rfl)) (mvT hZ91 (own_at hw 36 rfl)) (mvT hZ91 (own_at hw 37 rfl)) (by decide) (backOfSH (W := 0) (rmN l Z a0 hw [] ob_90 T91.heap n0 (Nat.le_trans (Nat.le_trans Z0 K90.1) K91.1) f94) hZ91 (own_at hw 37 rfl) (own_at hw 36 rfl) (by decide) (by decide) (own_ew hw) Hc91) (g := (mkF m 43 #[iv p0, iv p1, iv p2, iv p3, iv p4, iv 1, rv ob_90, rv ob_91, .unset, .unset, .unset, .unset] [(.ref ob_90)])) rfl (by rw [hml]; rfl) (argsL := [(.ref ob_90)]) (rest := []) (lenOf pd_10 rfl) rfl (Nat.le_refl _) (hb hby at_43) (fun _ _ => ⟨rfl, rfl, (by decide : 12 + 3 ≤ _), (by decide : 24 + 18 ≤ _)⟩)
    dsimp only [Pt.U, Pt.locs, Pt.cells, Pt.slots] at X93 l93 y93 z93 st93 hQ93 CR93 hSq93 hgq93
    subst l93 y93 z93
    obtain ⟨X93, hS93, hZ93, hown93⟩ := rebS hS91 hk91 X93 hSq93 hgq93 hZ91 hown91
    have hk93 : T93.heap.size ≤ T93.heap.size := Nat.le_refl _
    obtain ⟨ob_93, rfl, N93q, K93, p93_0, p93_1, p93_2, p93_3⟩ := hQ93
    have Hc93 := CR93.1
    have Rc93 := Rc91.trans CR93
    have g_ob_93 : n0 ≤ ob_93 := Nat.le_trans (Nat.le_trans (Nat.le_trans Z0 K90.1) K91.1) p93_0
    have sz_ob_93 : h0.size ≤ ob_93 := Nat.le_trans (((Keep.refl h0 []).trans K90 all0).trans K91 all0).1 p93_0
    have N93 := Fr.app N91 N93q
    have f97 := (p91_1.keep K93)
    have f98 := (f94.keep K93)
    have f99 := (f95.keep K93 nin0)
    have f100 := (p91_4.keep K93 nin0)
    obtain ⟨_, _, ⟨T96, L96, j96, i96⟩, -, X96, hSq96, hgq96, ⟨Lc96, hQ96, l96, y96, z96, CR96⟩, st96⟩ := Jvm.RoadKit.callSS X93 hx (y := (⟨cS0, "named", cS5⟩ : MethodName)) hown93 (mvT hZ93 (own_at hw 34 rfl)) (mvT hZ93 (own_at hw 35 rfl)) (mvT hZ93 (own_at hw 36 rfl)) (mvT hZ93 (own_at hw 37 rfl)) (by decide) (backOfSH (W := 0) (rmN l Z a0 hw [] ob_91 T93.heap n0 (Nat.le_trans (Nat.le_trans (Nat.le_trans Z0 K90.1) K91.1) K93.1) f97) hZ93 (own_at hw 37 rfl) (own_at hw 36 rfl) (by decide) (by decide) (own_ew hw) Hc93) (g := (mkF m 50 #[iv p0, iv p1, iv p2, iv p3, iv p4, iv 1, rv ob_90, rv ob_91, rv ob_93, .unset, .unset, .unset] [(.ref ob_91)])) rfl (by rw [hml]; rfl) (argsL := [(.ref ob_91)]) (rest := []) (lenOf pd_10 rfl) rfl (Nat.le_refl _) (hb hby at_50) (fun _ _ => ⟨rfl, rfl, (by decide : 15 + 3 ≤ _), (by decide : 42 + 18 ≤ _)⟩)
    dsimp only [Pt.U, Pt.locs, Pt.cells, Pt.slots] at X96 l96 y96 z96 st96 hQ96 CR96 hSq96 hgq96
    subst l96 y96 z96
    obtain ⟨X96, hS96, hZ96, hown96⟩ := rebS hS93 hk93 X96 hSq96 hgq96 hZ93 hown93
    have hk96 : T96.heap.size ≤ T96.heap.size := Nat.le_refl _
    obtain ⟨ob_96, rfl, N96q, K96, p96_0, p96_1, p96_2, p96_3⟩ := hQ96
    have Hc96 := CR96.1
    have Rc96 := Rc93.trans CR96
    have g_ob_96 : n0 ≤ ob_96 := Nat.le_trans (Nat.le_trans (Nat.le_trans (Nat.le_trans Z0 K90.1) K91.1) K93.1) p96_0
    have sz_ob_96 : h0.size ≤ ob_96 := Nat.le_trans ((((Keep.refl h0 []).trans K90 all0).trans K91 all0).trans K93 all0).1 p96_0
    have N96 := Fr.app N93 N96q
    have f102 := (p93_2.keep K96 nin0)
    have f103 := (p93_1.keep K96)
    obtain ⟨cq101, kq101, q101a, q101b, q101c⟩ := isOf hZ96 rfl f103
    obtain ⟨_, _, ⟨T101, L101, j101, i101⟩, -, X101, ⟨Lc101, hQ101, l101, y101, z101⟩, st101⟩ := X96.virtualBack hx (y := (⟨cS0, "name", "()Ljava/lang/String;"⟩ : MethodName)) (z := (⟨cS0, "name", "()Ljava/lang/String;"⟩ : MethodName)) hown96 (mvT hZ96 (own_at hw 56 rfl)) (mvT hZ96 (own_at hw 57 rfl)) (notFace_of_selects (args := #[]) (mvT hZ96 (own_at hw 59 rfl))) (mvT hZ96 (own_at hw 59 rfl)) (mvT hZ96 (own_at hw 58 rfl)) (by decide) (backOf (W := 0) (rmA l Z a0 hw [] ob_93 ob_90 T96.heap n0 (Nat.le_trans (Nat.le_trans (Nat.le_trans (Nat.le_trans Z0 K90.1) K91.1) K93.1) K96.1) f102) hZ96 (own_at hw 60 rfl) (own_at hw 36 rfl) (by decide) (by decide)) q101a q101c (g := (mkF m 57 #[iv p0, iv p1, iv p2, iv p3, iv p4, iv 1, rv ob_90, rv ob_91, rv ob_93, rv ob_96, .unset, .unset] [(.ref ob_93)])) rfl (by rw [hml]; rfl) (Steps.refl _) (argsL := []) (rest := []) (lenOf pd_11 rfl) rfl (Nat.le_refl _) (hb hby at_57) (fun _ _ => ⟨rfl, rfl, (by decide : 18 + 0 ≤ _), (by decide : 60 + 0 ≤ _)⟩)
    dsimp only [Pt.U, Pt.locs, Pt.cells, Pt.slots] at X101 l101 y101 z101 st101 hQ101
    subst l101 y101 z101
    obtain ⟨rfl, N101q, e101⟩ := hQ101
    have N101 := Fr.app N96 N101q
    have f105 := (f98.keep K96)
    obtain ⟨cq104, kq104, q104a, q104b, q104c⟩ := isOf hZ96 e101 f105
    obtain ⟨_, _, ⟨T104, L104, j104, i104⟩, -, X104, ⟨Lc104, hQ104, l104, y104, z104⟩, st104⟩ := X101.virtualBack hx (y := (⟨cS1, "equals", cS2⟩ : MethodName)) (z := (⟨cS1, "equals", cS2⟩ : MethodName)) hown96 (mvT hZ96 (own_at hw 61 rfl)) (mvT hZ96 (own_at hw 62 rfl)) (notFace_of_selects (args := #[]) (mvT hZ96 (own_at hw 64 rfl))) (mvT hZ96 (own_at hw 64 rfl)) (mvT hZ96 (own_at hw 63 rfl)) (by decide) (backOf (W := 0) (rmS_same l Z a0 hw [] ob_90 T96.heap n0 (Nat.le_trans (Nat.le_trans (Nat.le_trans (Nat.le_trans Z0 K90.1) K91.1) K93.1) K96.1) ) hZ96 (own_at hw 65 rfl) (own_at hw 6 rfl) (by decide) (by decide)) q104a q104c (g := (mkF m 62 #[iv p0, iv p1, iv p2, iv p3, iv p4, iv 1, rv ob_90, rv ob_91, rv ob_93, rv ob_96, .unset, .unset] [(.ref ob_90), (.ref ob_90)])) rfl (by rw [hml]; rfl) (Steps.refl _) (argsL := [(.ref ob_90)]) (rest := []) (lenOf pd_8 rfl) rfl (Nat.le_refl _) (hb hby at_62) (fun _ _ => ⟨rfl, e101, (by decide : 18 + 0 ≤ _), (by decide : 60 + 0 ≤ _)⟩)
    dsimp only [Pt.U, Pt.locs, Pt.cells, Pt.slots] at X104 l104 y104 z104 st104 hQ104
    subst l104 y104 z104
    obtain ⟨rfl, N104q, e104⟩ := hQ104
    have N104 := Fr.app N101 N104q
    have f107 := (p93_3.keep K96 nin0)
    obtain ⟨cq106, kq106, q106a, q106b, q106c⟩ := isOf hZ96 e104 f103
    obtain ⟨_, _, ⟨T106, L106, j106, i106⟩, -, X106, ⟨Lc106, hQ106, l106, y106, z106⟩, st106⟩ := X104.virtualBack hx (y := (⟨cS0, "isInverse", "()Z"⟩ : MethodName)) (z := (⟨cS0, "isInverse", "()Z"⟩ : MethodName)) hown96 (mvT hZ96 (own_at hw 66 rfl)) (mvT hZ96 (own_at hw 67 rfl)) (notFace_of_selects (args := #[]) (mvT hZ96 (own_at hw 69 rfl))) (mvT hZ96 (own_at hw 69 rfl)) (mvT hZ96 (own_at hw 68 rfl)) (by decide) (backOf (W := 0) (rmV l Z a0 hw [] ob_93 T96.heap n0 (Nat.le_trans (Nat.le_trans (Nat.le_trans (Nat.le_trans Z0 K90.1) K91.1) K93.1) K96.1) f107) hZ96 (own_at hw 70 rfl) (own_at hw 36 rfl) (by decide) (by decide)) q106a q106c (g := (mkF m 74 #[iv p0, iv p1, iv p2, iv p3, iv p4, iv 1, rv ob_90, rv ob_91, rv ob_93, rv ob_96, iv 1, .unset] [(.ref ob_93)])) rfl (by rw [hml]; rfl) (Steps.refl _) (argsL := []) (rest := []) (lenOf pd_12 rfl) rfl (Nat.le_refl _) (hb hby at_74) (fun _ _ => ⟨rfl, e104, (by decide : 18 + 0 ≤ _), (by decide : 60 + 0 ≤ _)⟩)
    dsimp only [Pt.U, Pt.locs, Pt.cells, Pt.slots] at X106 l106 y106 z106 st106 hQ106
    subst l106 y106 z106
    obtain ⟨rfl, N106q, e106⟩ := hQ106
    have N106 := Fr.app N104 N106q
    have f109 := (own_sta_keep (own_sta_keep (own_sta_keep f92 K91 all0) K93 all0) K96 all0)
    have f110 := (((p90_2.keep K91 nin0).keep K93 nin0).keep K96 nin0)
    have f111 := (((p90_3.keep K91 nin0).keep K93 nin0).keep K96 nin0)
    have f112 := (f99.keep K96 nin0)
    have f113 := (f97.keep K96)
    have f114 := ((p91_2.keep K93 nin0).keep K96 nin0)
    have f115 := ((p91_3.keep K93 nin0).keep K96 nin0)
    have f116 := (f100.keep K96 nin0)
    obtain ⟨cq108, kq108, q108a, q108b, q108c⟩ := isOf hZ96 e106 f103
    obtain ⟨_, _, ⟨T108, L108, j108, i108⟩, -, X108, ⟨Lc108, hQ108, l108, y108, z108⟩, st108⟩ := X106.virtualBack hx (y := (⟨cS0, "equals", cS2⟩ : MethodName)) (z := (⟨cS0, "equals", cS2⟩ : MethodName)) hown96 (mvT hZ96 (own_at hw 71 rfl)) (mvT hZ96 (own_at hw 72 rfl)) (notFace_of_selects (args := #[]) (mvT hZ96 (own_at hw 74 rfl))) (mvT hZ96 (own_at hw 74 rfl)) (mvT hZ96 (own_at hw 73 rfl)) (by decide) (backOf (W := 0) (rmQ_eq l Z a0 hw [] ob_93 ob_96 ob_90 ob_91 w_CS ar_90 kk_90 ar_91 kk_91 (own_n p1) (own_str p0 p1) T96.heap n0 (Nat.le_trans (Nat.le_trans (Nat.le_trans (Nat.le_trans Z0 K90.1) K91.1) K93.1) K96.1) f103 f102 f107 p96_1 p96_2 p96_3 f109 hcs f105 f110 f111 f112 f113 f114 f115 f116 (Nat.ne_of_lt (Nat.lt_of_lt_of_le p90_1.lt p91_0)) (own_sm p0 p1)) hZ96 (own_at hw 75 rfl) (own_at hw 36 rfl) (by decide) (by decide)) q108a q108c (g := (mkF m 96 #[iv p0, iv p1, iv p2, iv p3, iv p4, iv 1, rv ob_90, rv ob_91, rv ob_93, rv ob_96, iv 1, .unset] [(.ref ob_96), (.ref ob_93)])) rfl (by rw [hml]; rfl) (Steps.refl _) (argsL := [(.ref ob_96)]) (rest := []) (lenOf pd_8 rfl) rfl (Nat.le_refl _) (hb hby at_96) (fun _ _ => ⟨rfl, e106, (by decide : 18 + 0 ≤ _), (by decide : 60 + 0 ≤ _)⟩)
    dsimp only [Pt.U, Pt.locs, Pt.cells, Pt.slots] at X108 l108 y108 z108 st108 hQ108
    subst l108 y108 z108
    obtain ⟨rfl, N108q, e108⟩ := hQ108
    have N108 := Fr.app N106 N108q
    obtain ⟨cq117, kq117, q117a, q117b, q117c⟩ := isOf hZ96 e108 f105
    obtain ⟨_, _, ⟨T117, L117, j117, i117⟩, -, X117, ⟨Lc117, hQ117, l117, y117, z117⟩, st117⟩ := X108.virtualBack hx (y := (⟨cS1, "equals", cS2⟩ : MethodName)) (z := (⟨cS1, "equals", cS2⟩ : MethodName)) hown96 (mvT hZ96 (own_at hw 61 rfl)) (mvT hZ96 (own_at hw 62 rfl)) (notFace_of_selects (args := #[]) (mvT hZ96 (own_at hw 64 rfl))) (mvT hZ96 (own_at hw 64 rfl)) (mvT hZ96 (own_at hw 63 rfl)) (by decide) (backOf (W := 1) (rmS_eq l Z a0 hw [] ob_90 ob_91 w_CS ar_90 kk_90 ar_91 kk_91 (own_n p1) (own_str p0 p1) T96.heap n0 (Nat.le_trans (Nat.le_trans (Nat.le_trans (Nat.le_trans Z0 K90.1) K91.1) K93.1) K96.1) f109 hcs f105 f110 f111 f112 f113 f114 f115 f116 (Nat.ne_of_lt (Nat.lt_of_lt_of_le p90_1.lt p91_0)) (own_sm p0 p1)) hZ96 (own_at hw 65 rfl) (own_at hw 6 rfl) (by decide) (by decide)) q117a q117c (g := (mkF m 103 #[iv p0, iv p1, iv p2, iv p3, iv p4, iv 1, rv ob_90, rv ob_91, rv ob_93, rv ob_96, iv 1, .unset] [(.ref ob_91), (.ref ob_90), (.int 1)])) rfl (by rw [hml]; rfl) (Steps.refl _) (argsL := [(.ref ob_91)]) (rest := [(.int 1)]) (lenOf pd_8 rfl) rfl (Nat.le_refl _) (hb hby at_103) (fun _ _ => ⟨rfl, e108, (by decide : 18 + 0 ≤ _), (by decide : 60 + 0 ≤ _)⟩)
    dsimp only [Pt.U, Pt.locs, Pt.cells, Pt.slots] at X117 l117 y117 z117 st117 hQ117
    subst l117 y117 z117
    obtain ⟨rfl, N117q, e117⟩ := hQ117
    have N117 := Fr.app N108 N117q
    obtain ⟨cq118, kq118, q118a, q118b, q118c⟩ := isOf hZ96 e117 f103
    obtain ⟨_, _, ⟨T118, L118, j118, i118⟩, -, X118, ⟨Lc118, hQ118, l118, y118, z118⟩, st118⟩ := X117.virtualBack hx (y := (⟨cS0, "inverse", cS4⟩ : MethodName)) (z := (⟨cS0, "inverse", cS4⟩ : MethodName)) hown96 (mvT hZ96 (own_at hw 83 rfl)) (mvT hZ96 (own_at hw 84 rfl)) (notFace_of_selects (args := #[]) (mvT hZ96 (own_at hw 86 rfl))) (mvT hZ96 (own_at hw 86 rfl)) (mvT hZ96 (own_at hw 85 rfl)) (by decide) (backOf (W := 0) (rmX_0 l Z a0 hw [] ob_93 ob_90 T96.heap n0 (Nat.le_trans (Nat.le_trans (Nat.le_trans (Nat.le_trans Z0 K90.1) K91.1) K93.1) K96.1) f103 f102 f107) hZ96 (own_at hw 87 rfl) (own_at hw 36 rfl) (by decide) (by decide)) q118a q118c (g := (mkF m 118 #[iv p0, iv p1, iv p2, iv p3, iv p4, iv 1, rv ob_90, rv ob_91, rv ob_93, rv ob_96, iv 1, .unset] [(.ref ob_93)])) rfl (by rw [hml]; rfl) (Steps.refl _) (argsL := []) (rest := []) (lenOf pd_13 rfl) rfl (Nat.le_refl _) (hb hby at_118) (fun _ _ => ⟨rfl, e117, (by decide : 18 + 1 ≤ _), (by decide : 60 + 2 ≤ _)⟩)
    dsimp only [Pt.U, Pt.locs, Pt.cells, Pt.slots] at X118 l118 y118 z118 st118 hQ118
    subst l118 y118 z118
    obtain ⟨ob_118, rfl, N118q, K118, p118_0, p118_1, p118_2, p118_3⟩ := hQ118
    have Hc118 := CHv.keep K118 sf0 Hc96
    have Rc118 := Rc96.trans (CHr.keep K118 sf0 Hc96)
    have hk118 := Nat.le_trans hk96 K118.1
    have g_ob_118 : n0 ≤ ob_118 := Nat.le_trans (Nat.le_trans (Nat.le_trans (Nat.le_trans (Nat.le_trans Z0 K90.1) K91.1) K93.1) K96.1) p118_0
    have sz_ob_118 : h0.size ≤ ob_118 := Nat.le_trans (((((Keep.refl h0 []).trans K90 all0).trans K91 all0).trans K93 all0).trans K96 all0).1 p118_0
    have N118 := Fr.app N117 N118q
    have f120 := (f103.keep K118)
    have f121 := (f102.keep K118 nin0)
    have f122 := (f107.keep K118 nin0)
    obtain ⟨cq119, kq119, q119a, q119b, q119c⟩ := isOf hZ96 rfl p118_1
    obtain ⟨_, _, ⟨T119, L119, j119, i119⟩, -, X119, ⟨Lc119, hQ119, l119, y119, z119⟩, st119⟩ := X118.virtualBack hx (y := (⟨cS0, "equals", cS2⟩ : MethodName)) (z := (⟨cS0, "equals", cS2⟩ : MethodName)) hown96 (mvT hZ96 (own_at hw 71 rfl)) (mvT hZ96 (own_at hw 72 rfl)) (notFace_of_selects (args := #[]) (mvT hZ96 (own_at hw 74 rfl))) (mvT hZ96 (own_at hw 74 rfl)) (mvT hZ96 (own_at hw 73 rfl)) (by decide) (backOf (W := 0) (rmQ_d l Z a0 hw [] ob_118 ob_93 ob_90 ob_90 T118.heap n0 (Nat.le_trans (Nat.le_trans (Nat.le_trans (Nat.le_trans (Nat.le_trans Z0 K90.1) K91.1) K93.1) K96.1) K118.1) p118_1 p118_2 p118_3 f120 f121 f122) hZ96 (own_at hw 75 rfl) (own_at hw 36 rfl) (by decide) (by decide)) q119a q119c (g := (mkF m 132 #[iv p0, iv p1, iv p2, iv p3, iv p4, iv 1, rv ob_90, rv ob_91, rv ob_93, rv ob_96, iv 1, rv ob_118] [(.ref ob_93), (.ref ob_118)])) rfl (by rw [hml]; rfl) (Steps.refl _) (argsL := [(.ref ob_93)]) (rest := []) (lenOf pd_8 rfl) rfl (Nat.le_refl _) (hb hby at_132) (fun _ _ => ⟨rfl, rfl, (by decide : 19 + 0 ≤ _), (by decide : 62 + 0 ≤ _)⟩)
    dsimp only [Pt.U, Pt.locs, Pt.cells, Pt.slots] at X119 l119 y119 z119 st119 hQ119
    subst l119 y119 z119
    obtain ⟨rfl, N119q, e119⟩ := hQ119
    have N119 := Fr.app N118 N119q
    obtain ⟨cq123, kq123, q123a, q123b, q123c⟩ := isOf hZ96 e119 p118_1
    obtain ⟨_, _, ⟨T123, L123, j123, i123⟩, -, X123, ⟨Lc123, hQ123, l123, y123, z123⟩, st123⟩ := X119.virtualBack hx (y := (⟨cS0, "inverse", cS4⟩ : MethodName)) (z := (⟨cS0, "inverse", cS4⟩ : MethodName)) hown96 (mvT hZ96 (own_at hw 83 rfl)) (mvT hZ96 (own_at hw 84 rfl)) (notFace_of_selects (args := #[]) (mvT hZ96 (own_at hw 86 rfl))) (mvT hZ96 (own_at hw 86 rfl)) (mvT hZ96 (own_at hw 85 rfl)) (by decide) (backOf (W := 0) (rmX_1 l Z a0 hw [] ob_118 ob_90 T118.heap n0 (Nat.le_trans (Nat.le_trans (Nat.le_trans (Nat.le_trans (Nat.le_trans Z0 K90.1) K91.1) K93.1) K96.1) K118.1) p118_1 p118_2 p118_3) hZ96 (own_at hw 87 rfl) (own_at hw 36 rfl) (by decide) (by decide)) q123a q123c (g := (mkF m 152 #[iv p0, iv p1, iv p2, iv p3, iv p4, iv 1, rv ob_90, rv ob_91, rv ob_93, rv ob_96, iv 1, rv ob_118] [(.ref ob_118)])) rfl (by rw [hml]; rfl) (Steps.refl _) (argsL := []) (rest := []) (lenOf pd_13 rfl) rfl (Nat.le_refl _) (hb hby at_152) (fun _ _ => ⟨rfl, e119, (by decide : 19 + 1 ≤ _), (by decide : 62 + 2 ≤ _)⟩)
    dsimp only [Pt.U, Pt.locs, Pt.cells, Pt.slots] at X123 l123 y123 z123 st123 hQ123
    subst l123 y123 z123
    have f124 := (f105.keep K118)
    have f125 := (f112.keep K118 nin0)
    have f126 := (f113.keep K118)
    have f127 := (f116.keep K118 nin0)
    have f128 := (p96_1.keep K118)
    obtain ⟨ob_123, rfl, N123q, K123, p123_0, p123_1, p123_2, p123_3⟩ := hQ123
    have Hc123 := CHv.keep K123 sf0 Hc118
    have Rc123 := Rc118.trans (CHr.keep K123 sf0 Hc118)
    have hk123 := Nat.le_trans hk118 K123.1
    have g_ob_123 : n0 ≤ ob_123 := Nat.le_trans (Nat.le_trans (Nat.le_trans (Nat.le_trans (Nat.le_trans (Nat.le_trans Z0 K90.1) K91.1) K93.1) K96.1) K118.1) p123_0
    have sz_ob_123 : h0.size ≤ ob_123 := Nat.le_trans ((((((Keep.refl h0 []).trans K90 all0).trans K91 all0).trans K93 all0).trans K96 all0).trans K118 all0).1 p123_0
    have N123 := Fr.app N119 N123q
    have f130 := (f120.keep K123)
    have f131 := (f121.keep K123 nin0)
    have f132 := (f122.keep K123 nin0)
    have f133 := (f124.keep K123)
    obtain ⟨cq129, kq129, q129a, q129b, q129c⟩ := isOf hZ96 rfl p123_1
    obtain ⟨_, _, ⟨T129, L129, j129, i129⟩, -, X129, ⟨Lc129, hQ129, l129, y129, z129⟩, st129⟩ := X123.virtualBack hx (y := (⟨cS0, "equals", cS2⟩ : MethodName)) (z := (⟨cS0, "equals", cS2⟩ : MethodName)) hown96 (mvT hZ96 (own_at hw 71 rfl)) (mvT hZ96 (own_at hw 72 rfl)) (notFace_of_selects (args := #[]) (mvT hZ96 (own_at hw 74 rfl))) (mvT hZ96 (own_at hw 74 rfl)) (mvT hZ96 (own_at hw 73 rfl)) (by decide) (backOf (W := 0) (rmQ_s l Z a0 hw [] ob_123 ob_93 ob_90 T123.heap n0 (Nat.le_trans (Nat.le_trans (Nat.le_trans (Nat.le_trans (Nat.le_trans (Nat.le_trans Z0 K90.1) K91.1) K93.1) K96.1) K118.1) K123.1) p123_1 p123_2 p123_3 f130 f131 f132 f133) hZ96 (own_at hw 75 rfl) (own_at hw 36 rfl) (by decide) (by decide)) q129a q129c (g := (mkF m 157 #[iv p0, iv p1, iv p2, iv p3, iv p4, iv 1, rv ob_90, rv ob_91, rv ob_93, rv ob_96, iv 1, rv ob_118] [(.ref ob_93), (.ref ob_123)])) rfl (by rw [hml]; rfl) (Steps.refl _) (argsL := [(.ref ob_93)]) (rest := []) (lenOf pd_8 rfl) rfl (Nat.le_refl _) (hb hby at_157) (fun _ _ => ⟨rfl, rfl, (by decide : 20 + 0 ≤ _), (by decide : 64 + 0 ≤ _)⟩)
    dsimp only [Pt.U, Pt.locs, Pt.cells, Pt.slots] at X129 l129 y129 z129 st129 hQ129
    subst l129 y129 z129
    obtain ⟨rfl, N129q, e129⟩ := hQ129
    have N129 := Fr.app N123 N129q
    obtain ⟨fs, hr, hrun, hended, hRW⟩ := X129.leaveW hS96 (by rw [e129]; exact hk123) (v := some (.int 1)) (fun h => by rw [Bd.returns] at h; cases h)
    have hCE : CHr Z own_EL s.vm s.heap T129.vm T129.heap := by rw [hh, e129]; exact Rc123.trans (CHv.at X129 hZ96 (own_ew hw) Hc123)
    refine ⟨_, _, k2 _ ?_, hrun, hended, _, _, rfl, ?_, hCE, hRW.1, hRW.2.1, hRW.2.2.1, hRW.2.2.2.mono (by decide) (by decide)⟩
    · refine XS.ifNo X0.here hx rfl (hb hby at_4) rfl ((if0 _ _).trans (feq hc4_1).1) ?_
      refine XS.iconst X0.here hx rfl (hb hby at_7) ?_
      refine XS.goto X0.here hx rfl (pc0 := 8) (pc' := 12) rfl (hb hby at_8) (by decide) (by decide) ?_
      refine XS.istore X0.here hx rfl (hb hby at_12) rfl (l' := #[iv p0, iv p1, iv p2, iv p3, iv p4, iv 1, .unset, .unset, .unset, .unset, .unset, .unset]) rfl ?_
      refine XS.iloadN X0.here hx rfl (hb hby at_14) rfl ?_
      refine XS.iloadN X0.here hx rfl (hb hby at_15) rfl ?_
      refine st90.trans ?_
      refine XS.astore X90.here hx rfl (hb hby at_19) rfl rfl (l' := #[iv p0, iv p1, iv p2, iv p3, iv p4, iv 1, rv ob_90, .unset, .unset, .unset, .unset, .unset]) rfl ?_
      refine XS.iload X90.here hx rfl (hb hby at_21) rfl ?_
      refine XS.ifNo X90.here hx rfl (hb hby at_23) rfl ((if0 _ _).trans (feq (by decide : ¬ ((1 : Int32) = (0 : Int32)))).1) ?_
      refine XS.iloadN X90.here hx rfl (hb hby at_26) rfl ?_
      refine XS.iloadN X90.here hx rfl (hb hby at_27) rfl ?_
      refine st91.trans ?_
      refine XS.goto X91.here hx rfl (pc0 := 31) (pc' := 39) rfl (hb hby at_31) (by decide) (by decide) ?_
      refine XS.astore X91.here hx rfl (hb hby at_39) rfl rfl (l' := #[iv p0, iv p1, iv p2, iv p3, iv p4, iv 1, rv ob_90, rv ob_91, .unset, .unset, .unset, .unset]) rfl ?_
      refine XS.aload X91.here hx rfl (hb hby at_41) rfl rfl ?_
      refine st93.trans ?_
      refine XS.astore X93.here hx rfl (hb hby at_46) rfl rfl (l' := #[iv p0, iv p1, iv p2, iv p3, iv p4, iv 1, rv ob_90, rv ob_91, rv ob_93, .unset, .unset, .unset]) rfl ?_
      refine XS.aload X93.here hx rfl (hb hby at_48) rfl rfl ?_
      refine st96.trans ?_
      refine XS.astore X96.here hx rfl (hb hby at_53) rfl rfl (l' := #[iv p0, iv p1, iv p2, iv p3, iv p4, iv 1, rv ob_90, rv ob_91, rv ob_93, rv ob_96, .unset, .unset]) rfl ?_
      refine XS.aload X96.here hx rfl (hb hby at_55) rfl rfl ?_
      refine st101.trans ?_
      refine XS.aload X101.here hx rfl (hb hby at_60) rfl rfl ?_
      refine st104.trans ?_
      refine XS.istore X104.here hx rfl (hb hby at_65) rfl (l' := #[iv p0, iv p1, iv p2, iv p3, iv p4, iv 1, rv ob_90, rv ob_91, rv ob_93, rv ob_96, iv 1, .unset]) rfl ?_
      refine XS.iload X104.here hx rfl (hb hby at_67) rfl ?_
      refine XS.ifNo X104.here hx rfl (hb hby at_69) rfl ((if0 _ _).trans (feq (by decide : ¬ ((1 : Int32) = (0 : Int32)))).1) ?_
      refine XS.aload X104.here hx rfl (hb hby at_72) rfl rfl ?_
      refine st106.trans ?_
      show OwnS p e below T106 (mkF m 77 #[iv p0, iv p1, iv p2, iv p3, iv p4, iv 1, rv ob_90, rv ob_91, rv ob_93, rv ob_96, iv 1, .unset] [(.int 0)]) _
      refine XS.ifNo X106.here hx rfl (hb hby at_77) rfl ((if0 _ _).trans (teq (by decide : (0 : Int32) = (0 : Int32))).2) ?_
      refine XS.iconst X106.here hx rfl (hb hby at_80) ?_
      refine XS.goto X106.here hx rfl (pc0 := 81) (pc' := 85) rfl (hb hby at_81) (by decide) (by decide) ?_
      refine XS.istore X106.here hx rfl (hb hby at_85) rfl (l' := #[iv p0, iv p1, iv p2, iv p3, iv p4, iv 1, rv ob_90, rv ob_91, rv ob_93, rv ob_96, iv 1, .unset]) rfl ?_
      refine XS.iload X106.here hx rfl (hb hby at_87) rfl ?_
      refine XS.ifNo X106.here hx rfl (hb hby at_89) rfl ((if0 _ _).trans (feq (by decide : ¬ ((1 : Int32) = (0 : Int32)))).1) ?_
      refine XS.aload X106.here hx rfl (hb hby at_92) rfl rfl ?_
      refine XS.aload X106.here hx rfl (hb hby at_94) rfl rfl ?_
      refine st108.trans ?_
      refine XS.aload X108.here hx rfl (hb hby at_99) rfl rfl ?_
      refine XS.aload X108.here hx rfl (hb hby at_101) rfl rfl ?_
      refine st117.trans ?_
      refine XS.icmpNo X117.here hx rfl (hb hby at_106) rfl (teq (by decide : (1 : Int32) = (1 : Int32))).2 ?_
      refine XS.iconst X117.here hx rfl (hb hby at_109) ?_
      refine XS.goto X117.here hx rfl (pc0 := 110) (pc' := 114) rfl (hb hby at_110) (by decide) (by decide) ?_
      refine XS.istore X117.here hx rfl (hb hby at_114) rfl (l' := #[iv p0, iv p1, iv p2, iv p3, iv p4, iv 1, rv ob_90, rv ob_91, rv ob_93, rv ob_96, iv 1, .unset]) rfl ?_
      refine XS.aload X117.here hx rfl (hb hby at_116) rfl rfl ?_
      refine st118.trans ?_
      refine XS.astore X118.here hx rfl (hb hby at_121) rfl rfl (l' := #[iv p0, iv p1, iv p2, iv p3, iv p4, iv 1, rv ob_90, rv ob_91, rv ob_93, rv ob_96, iv 1, rv ob_118]) rfl ?_
      refine XS.iload X118.here hx rfl (hb hby at_123) rfl ?_
      refine XS.ifNo X118.here hx rfl (hb hby at_125) rfl ((if0 _ _).trans (feq (by decide : ¬ ((1 : Int32) = (0 : Int32)))).1) ?_
      refine XS.aload X118.here hx rfl (hb hby at_128) rfl rfl ?_
      refine XS.aload X118.here hx rfl (hb hby at_130) rfl rfl ?_
      refine st119.trans ?_
      refine XS.ifNo X119.here hx rfl (hb hby at_135) rfl ((if0 _ _).trans (teq (by decide : (0 : Int32) = (0 : Int32))).2) ?_
      refine XS.iconst X119.here hx rfl (hb hby at_138) ?_
      refine XS.goto X119.here hx rfl (pc0 := 139) (pc' := 143) rfl (hb hby at_139) (by decide) (by decide) ?_
      refine XS.istore X119.here hx rfl (hb hby at_143) rfl (l' := #[iv p0, iv p1, iv p2, iv p3, iv p4, iv 1, rv ob_90, rv ob_91, rv ob_93, rv ob_96, iv 1, rv ob_118]) rfl ?_
      refine XS.iload X119.here hx rfl (hb hby at_145) rfl ?_
      refine XS.ifNo X119.here hx rfl (hb hby at_147) rfl ((if0 _ _).trans (feq (by decide : ¬ ((1 : Int32) = (0 : Int32)))).1) ?_
      show OwnS p e below T119 (mkF m 150 #[iv p0, iv p1, iv p2, iv p3, iv p4, iv 1, rv ob_90, rv ob_91, rv ob_93, rv ob_96, iv 1, rv ob_118] []) _
      refine XS.aload X119.here hx rfl (hb hby at_150) rfl rfl ?_
      refine st123.trans ?_
      refine XS.aload X123.here hx rfl (hb hby at_155) rfl rfl ?_
      refine st129.trans ?_
      refine XS.ifNo X129.here hx rfl (hb hby at_160) rfl ((if0 _ _).trans (feq (by decide : ¬ ((1 : Int32) = (0 : Int32)))).1) ?_
      refine XS.iconst X129.here hx rfl (hb hby at_163) ?_
      refine XS.goto X129.here hx rfl (pc0 := 164) (pc' := 168) rfl (hb hby at_164) (by decide) (by decide) ?_
      refine XS.istore X129.here hx rfl (hb hby at_168) rfl (l' := #[iv p0, iv p1, iv p2, iv p3, iv p4, iv 1, rv ob_90, rv ob_91, rv ob_93, rv ob_96, iv 1, rv ob_118]) rfl ?_
      refine XS.iload X129.here hx rfl (hb hby at_170) rfl ?_
      exact retN X129 hx (t := .boolean) Bd.returns (by simp) (hb hby at_172) hr
    · show Q_0 Z _ _ _ _ _ _ h0 n0 _ T129.heap _
      rw [e129]
      exact ⟨rfl, N129, trivial⟩
set_option maxRecDepth 65536 in
set_option maxHeartbeats 40000000 in
theorem comes_1 {Post : Tables → Env → Array Value → State → Outcome → State → Prop} (hpost : ∀ tb e args s v u, (limb_1_1.after args s (.returned v) u = true ∧ limb_1_2.after args s (.returned v) u = true ∧ True) → ReturnedEndW s (.returned v) u (Jvm.fieldLocs frame_1_writes args s ++ Jvm.arrayLocs frame_1_arrays args s ++ Jvm.staticLocs frame_1_statics s) 32 2176 → Post tb e args s (.returned v) u) :
    ArmFor flags0 classFile x code maxLocals ret World_1 tables_1 room_1 Calls_1 rest_1 Pre_1 Post := by
  intro l hfl _ _ p e ha hc hk s m args below hf hA hF happ hP
  obtain ⟨hcalls, hrest, hpre⟩ := hP
  obtain ⟨-, -, -, hnamed, -, -, -, hat⟩ := (Spec.applies_iff hf).mp happ
  obtain ⟨hg, hn⟩ := and_e (Cond.before_iff.mp (show (Jvm.Cond.and given_1 narrow_1).before args s = true from hpre))
  have hw := fun d (hd : d ∈ tables_1) => atoms_spec (ws := Jvm.Cond.code x code maxLocals ret :: tables_1) hat d (List.mem_cons_of_mem _ hd)
  have hfit : Fit s := fun {y c} hc i hi => by
    obtain ⟨ha, rfl⟩ := Array.getElem?_eq_some_iff.mp hc
    have q := List.all_eq_true.mp ((Array.all_eq_true_iff_forall_mem.mp hF) _ (Array.getElem_mem ha)) i (List.mem_range.mpr hi)
    simpa [Array.getElem?_eq_getElem hi] using q
  obtain ⟨hsets, hown0⟩ := atoms_of _ (rest_1_c_eq ▸ (show rest_1_c.before _ s = true from hrest))
  have hr0 := Cond.before_iff.mp hown0
  obtain ⟨cj1, cj2⟩ := and_e hg
  obtain ⟨cj3, cj4⟩ := and_e cj2
  obtain ⟨cj5, cj6⟩ := and_e cj4
  obtain ⟨cj7, cj8⟩ := and_e cj6
  obtain ⟨cj9, cj10⟩ := and_e cj8
  obtain ⟨w0, w1, w2, w3, w4, rfl⟩ : ∃ w0 w1 w2 w3 w4 : Value, args = #[w0, w1, w2, w3, w4] := by
    have hs : args.size = 5 := by simpa [Cond.value, given_1] using cj1
    obtain ⟨L⟩ := args
    match L, hs with
    | [w0, w1, w2, w3, w4], _ => exact ⟨w0, w1, w2, w3, w4, rfl⟩
  obtain ⟨i0, ei0⟩ := is_v cj3
  obtain rfl : w0 = (.int i0) := Option.some.inj ei0
  obtain ⟨i1, ei1⟩ := is_v cj5
  obtain rfl : w1 = (.int i1) := Option.some.inj ei1
  obtain ⟨i2, ei2⟩ := is_v cj7
  obtain rfl : w2 = (.int i2) := Option.some.inj ei2
  obtain ⟨i3, ei3⟩ := is_v cj9
  obtain rfl : w3 = (.int i3) := Option.some.inj ei3
  obtain ⟨i4, ei4⟩ := is_v cj10
  obtain rfl : w4 = (.int i4) := Option.some.inj ei4
  have hcw : Jvm.Lit.compactW.before _ s = true := hsets _ (List.mem_of_getElem? (i := 2) rfl)
  obtain ⟨w_CS, ev_CS⟩ := is_v (Cond.before_iff.mp (hsets _ (List.mem_of_getElem? (i := 1) rfl)))
  have S_CS : Sta s s.heap cS1 "COMPACT_STRINGS" "Z" (.int w_CS) := Sta.start ev_CS (Or.inl (hsets _ (List.mem_of_getElem? (i := 0) rfl)))
  have hcs : ¬ (w_CS = (0 : Int32)) := own_ncs ev_CS hcw
  have hCH : CHv s own_EL s.vm s.heap := CHv.start (own_ew hw) (fun p hp => hcalls.1 p (own_elc p hp)) hcw (own_at hw 23 rfl) (own_at hw 5 rfl)
  obtain ⟨n, o, h1, h2, h3, _, L, rfl, ⟨rfl, N, -⟩, -, hq⟩ := rm0 l s _ hw tables_1 i0 i1 i2 i3 i4 w_CS s.heap s.heap.size (Nat.le_refl _) S_CS hcs p e ha hc hk s m _ below hf ((Spec.applies_iff_loose hf).mp happ).1 ⟨rfl, State.Warmed39.refl s, rfl, hCH⟩ trivial
  refine ⟨n, _, h1, h2, h3, hpost _ _ _ _ _ _ ⟨Cond.after_iff.mpr rfl, Cond.after_iff.mpr (eq_i res_at (Term.int_eval (1)) rfl), trivial⟩ ⟨hq.1, hq.2.1, hq.2.2.1, (hq.2.2.2.sift fun y hy => Or.inr (N y hy)).mono (by decide) (by decide)⟩⟩
theorem main_1_1 : Claimed_1_1 := comes_1 fun _ _ _ _ _ _ h hF => ⟨h.1, hF⟩
theorem main_1_2 : Claimed_1_2 := comes_1 fun _ _ _ _ _ _ h hF => ⟨h.2.1, hF⟩
end Jvm.Pilot.@@N@@
namespace Jvm.Pilot.@@N@@
open Jvm Jvm.ClassFile Sem Op Lib Jvm.Free Jvm.Stand Jvm.Pilot.@@N@@.Jvm.D
/-! MADE BY PROGRAM (witnessworld.py) out of the Statement's table words and the real class files: 21 classes; the members and pool entries that the words name. The judged class is class 1, her method 2. -/
namespace start1
open Jvm.ClassFile
def u (s : String) : CpInfo := .utf8 (stringToUtf16 s)
/-- a pool by its gaps: so many unusable entries, then the entry; so many at the end -/
def gap : Nat → List CpInfo → List CpInfo
  | 0, r => r
  | n + 1, r => .unusable :: gap n r
def poolList (es : List (Nat × CpInfo)) (last : Nat) : List CpInfo := es.foldr (fun e r => gap e.1 (e.2 :: r)) (gap last [])
def pool (es : List (Nat × CpInfo)) (last : Nat) : Array CpInfo := ⟨poolList es last⟩
def fileOf (pool : Array CpInfo) (this : Nat) (attrs : Array Attribute := #[]) (ms : Array MethodInfo := #[]) (fl : Nat := 33) (sup : Nat := 0) (ifs : Array Nat := #[]) (fds : Array FieldInfo := #[]) : ClassFile where
  minorVersion := 0
  majorVersion := 65
  constantPool := pool
  accessFlags := fl
  thisClass := this
  superClass := sup
  interfaces := ifs
  fields := fds
  methods := ms
  attributes := attrs
def plain (name : String) (sup : Option ClassId) : Class where
  name := name
  kind := .ordinary
  loader := none
  accessFlags := 33
  super := sup
  interfaces := #[]
  cf := none
  fields := #[]
  methods := #[]
  instanceTypes := #[]
  staticTypes := #[]
  resolved := #[]
  callSites := []
  init := .initialized
  statics := none
  mirror := none

def pool0 : Array CpInfo := pool [(5, u "<init>"), (0, u "()V"), (1, .class_ 10), (1, u "java/lang/Object")] 113

def k0c0 : Code := { maxStack := 0, maxLocals := 1, code := object_method_1_code, exceptionTable := #[], attributes := #[] }
def k0m0 : Method := { name := "<init>", desc := "()V", sig := { parameters := [], returnType := none }, accessFlags := 1, code := some k0c0 }
/-- java/lang/Object -/
def k0 : Class := { plain "java/lang/Object" none with
  accessFlags := 33
  interfaces := #[]
  cf := some (fileOf pool0 8 #[] #[{ accessFlags := 1, nameIndex := 5, descriptorIndex := 6, attributes := #[] }] 33 0 #[] #[])
  fields := #[]
  methods := #[k0m0]
  instanceTypes := #[]
  staticTypes := #[]
  resolved := Array.replicate 124 none
  statics := none }

def pool1 : Array CpInfo := pool [(2, .class_ 4), (1, u "java/lang/Object"), (0, u "<init>"), (0, u "()V"), (0, .class_ 8), (0, u "java/lang/String"), (0, .methodref 7 10), (0, .nameAndType 5 11), (0, u "([C)V"), (0, .methodref 13 14), (0, .class_ 15), (0, .nameAndType 16 17), (0, u "com/example/tablox/tablox/concept/RoleNamedPinLaw"), (0, u "str"), (0, u "(II)Ljava/lang/String;"), (0, .methodref 19 20), (0, .class_ 21), (0, .nameAndType 22 23), (0, u "com/example/tablox/tablox/concept/Role"), (0, u "named"), (0, u "(Ljava/lang/String;)Lcom/example/tablox/tablox/concept/Role;"), (0, .methodref 19 25), (0, .nameAndType 26 27), (0, u "name"), (0, u "()Ljava/lang/String;"), (0, .methodref 7 29), (0, .nameAndType 30 31), (0, u "equals"), (0, u "(Ljava/lang/Object;)Z"), (0, .methodref 19 33), (0, .nameAndType 34 35), (0, u "isInverse"), (0, u "()Z"), (0, .methodref 19 29), (0, .methodref 19 38), (0, .nameAndType 39 40), (0, u "inverse"), (0, u "()Lcom/example/tablox/tablox/concept/Role;"), (3, u "law"), (0, u "(IIIII)Z")] 2

def k1m0 : Method := { name := "<init>", desc := "()V", sig := { parameters := [], returnType := none }, accessFlags := 1, code := none }
def k1c1 : Code := { maxStack := 6, maxLocals := 6, code := method_2_code, exceptionTable := #[], attributes := #[] }
def k1m1 : Method := { name := "str", desc := "(II)Ljava/lang/String;", sig := { parameters := [.int, .int], returnType := some (.object "java/lang/String") }, accessFlags := 10, code := some k1c1 }
def k1c2 : Code := { maxStack := 3, maxLocals := 12, code := code, exceptionTable := #[], attributes := #[] }
def k1m2 : Method := { name := "law", desc := "(IIIII)Z", sig := { parameters := [.int, .int, .int, .int, .int], returnType := some .boolean }, accessFlags := 9, code := some k1c2 }
/-- com/example/tablox/tablox/concept/RoleNamedPinLaw -/
def k1 : Class := { plain "com/example/tablox/tablox/concept/RoleNamedPinLaw" (some 0) with
  accessFlags := 49
  interfaces := #[]
  cf := some (fileOf pool1 13 #[] #[{ accessFlags := 1, nameIndex := 5, descriptorIndex := 6, attributes := #[] }, { accessFlags := 10, nameIndex := 16, descriptorIndex := 17, attributes := #[] }, { accessFlags := 9, nameIndex := 44, descriptorIndex := 45, attributes := #[] }] 49 2 #[] #[])
  fields := #[]
  methods := #[k1m0, k1m1, k1m2]
  instanceTypes := #[]
  staticTypes := #[]
  resolved := Array.replicate 48 none
  statics := none }

def pool2 : Array CpInfo := pool [(1, .class_ 2), (0, u "java/io/Serializable"), (0, .class_ 4), (0, u "java/lang/Object")] 2

/-- java/io/Serializable -/
def k2 : Class := { plain "java/io/Serializable" (some 0) with
  accessFlags := 1537
  interfaces := #[]
  cf := some (fileOf pool2 1 #[] #[] 1537 3 #[] #[])
  fields := #[]
  methods := #[]
  instanceTypes := #[]
  staticTypes := #[]
  resolved := Array.replicate 7 none
  statics := none }

def pool3 : Array CpInfo := pool [(1, .class_ 2), (0, u "java/lang/Comparable"), (0, .class_ 4), (0, u "java/lang/Object")] 7

/-- java/lang/Comparable -/
def k3 : Class := { plain "java/lang/Comparable" (some 0) with
  accessFlags := 1537
  interfaces := #[]
  cf := some (fileOf pool3 1 #[] #[] 1537 3 #[] #[])
  fields := #[]
  methods := #[]
  instanceTypes := #[]
  staticTypes := #[]
  resolved := Array.replicate 12 none
  statics := none }

def pool4 : Array CpInfo := pool [(2, .class_ 4), (1, u "java/lang/CharSequence"), (42, .class_ 48), (0, u "java/lang/CharSequence$1CodePointIterator"), (10, .class_ 60), (0, u "java/lang/CharSequence$1CharIterator"), (5, .class_ 67), (0, u "java/lang/Object")] 63

/-- java/lang/CharSequence -/
def k4 : Class := { plain "java/lang/CharSequence" (some 0) with
  accessFlags := 1537
  interfaces := #[]
  cf := some (fileOf pool4 2 #[.nestMembers #[47, 59]] #[] 1537 66 #[] #[])
  fields := #[]
  methods := #[]
  instanceTypes := #[]
  staticTypes := #[]
  resolved := Array.replicate 131 none
  statics := none }

def pool5 : Array CpInfo := pool [(1, .class_ 2), (0, u "java/lang/constant/Constable"), (0, .class_ 4), (0, u "java/lang/Object")] 6

/-- java/lang/constant/Constable -/
def k5 : Class := { plain "java/lang/constant/Constable" (some 0) with
  accessFlags := 1537
  interfaces := #[]
  cf := some (fileOf pool5 1 #[] #[] 1537 3 #[] #[])
  fields := #[]
  methods := #[]
  instanceTypes := #[]
  staticTypes := #[]
  resolved := Array.replicate 11 none
  statics := none }

def pool6 : Array CpInfo := pool [(1, .class_ 2), (0, u "java/lang/constant/ConstantDesc"), (0, .class_ 4), (0, u "java/lang/Object")] 32

/-- java/lang/constant/ConstantDesc -/
def k6 : Class := { plain "java/lang/constant/ConstantDesc" (some 0) with
  accessFlags := 1537
  interfaces := #[]
  cf := some (fileOf pool6 1 #[] #[] 1537 3 #[] #[])
  fields := #[]
  methods := #[]
  instanceTypes := #[]
  staticTypes := #[]
  resolved := Array.replicate 37 none
  statics := none }

def pool7 : Array CpInfo := pool [(1, .methodref 2 3), (0, .class_ 4), (0, .nameAndType 5 6), (0, u "java/lang/Object"), (0, u "<init>"), (0, u "()V"), (0, .string 8), (0, u ""), (0, .fieldref 10 11), (0, .class_ 12), (0, .nameAndType 13 14), (0, u "java/lang/String"), (0, u "value"), (0, u "[B"), (0, .fieldref 10 16), (0, .nameAndType 17 18), (0, u "coder"), (0, u "B"), (2, u "hash"), (0, u "I"), (2, u "hashIsZero"), (0, u "Z"), (0, .methodref 10 28), (0, .nameAndType 5 29), (0, u "([CIILjava/lang/Void;)V"), (8, .fieldref 10 39), (0, .nameAndType 40 26), (0, u "COMPACT_STRINGS"), (1, .class_ 44), (1, u "java/lang/StringUTF16"), (0, u "compress"), (1, .methodref 42 48), (0, .nameAndType 49 50), (0, u "coderFromArrayLen"), (0, u "([BI)B"), (56, .class_ 109), (1, u "java/lang/StringLatin1"), (67, .methodref 42 178), (0, .nameAndType 45 179), (0, u "([CII)[B"), (361, .methodref 107 542), (0, .nameAndType 543 544), (0, u "equals"), (0, u "([B[B)Z"), (28, u "(Ljava/lang/Object;)Z"), (1, .class_ 576), (0, u "java/lang/CharSequence"), (22, u "CASE_INSENSITIVE_ORDER"), (0, u "Ljava/util/Comparator;"), (409, u "([C)V"), (90, u "serialPersistentFields"), (0, u "[Ljava/io/ObjectStreamField;"), (0, .class_ 1104), (0, u "java/lang/String$CaseInsensitiveComparator"), (1, .class_ 1107), (0, u "java/io/Serializable"), (0, .class_ 1109), (0, u "java/lang/Comparable"), (0, .class_ 1111), (0, u "java/lang/constant/Constable"), (0, .class_ 1113), (0, u "java/lang/constant/ConstantDesc"), (2, u "serialVersionUID"), (0, u "J"), (3, u "REPL"), (0, u "C"), (2, u "LATIN1"), (1, u "UTF16")] 323

def k7m0 : Method := { name := "<init>", desc := "()V", sig := { parameters := [], returnType := none }, accessFlags := 1, code := none }
def k7c1 : Code := { maxStack := 5, maxLocals := 2, code := jdk_42_method_3_code, exceptionTable := #[], attributes := #[] }
def k7m1 : Method := { name := "<init>", desc := "([C)V", sig := { parameters := [(.array .char)], returnType := none }, accessFlags := 1, code := some k7c1 }
def k7c2 : Code := { maxStack := 2, maxLocals := 3, code := jdk_42_method_66_code, exceptionTable := #[], attributes := #[] }
def k7m2 : Method := { name := "equals", desc := "(Ljava/lang/Object;)Z", sig := { parameters := [(.object "java/lang/Object")], returnType := some .boolean }, accessFlags := 1, code := some k7c2 }
def k7c3 : Code := { maxStack := 4, maxLocals := 6, code := jdk_42_method_149_code, exceptionTable := #[], attributes := #[] }
def k7m3 : Method := { name := "<init>", desc := "([CIILjava/lang/Void;)V", sig := { parameters := [(.array .char), .int, .int, (.object "java/lang/Void")], returnType := none }, accessFlags := 2, code := some k7c3 }
/-- java/lang/String -/
def k7 : Class := { plain "java/lang/String" (some 0) with
  accessFlags := 49
  interfaces := #[2, 3, 4, 5, 6]
  cf := some (fileOf pool7 10 #[.nestMembers #[1103]] #[{ accessFlags := 1, nameIndex := 5, descriptorIndex := 6, attributes := #[] }, { accessFlags := 1, nameIndex := 5, descriptorIndex := 1010, attributes := #[] }, { accessFlags := 1, nameIndex := 543, descriptorIndex := 573, attributes := #[] }, { accessFlags := 2, nameIndex := 5, descriptorIndex := 29, attributes := #[] }] 49 2 #[1106, 1108, 575, 1110, 1112] #[{ accessFlags := 18, nameIndex := 13, descriptorIndex := 14, attributes := #[] }, { accessFlags := 18, nameIndex := 17, descriptorIndex := 18, attributes := #[] }, { accessFlags := 2, nameIndex := 21, descriptorIndex := 22, attributes := #[] }, { accessFlags := 2, nameIndex := 25, descriptorIndex := 26, attributes := #[] }, { accessFlags := 26, nameIndex := 1116, descriptorIndex := 1117, attributes := #[] }, { accessFlags := 24, nameIndex := 40, descriptorIndex := 26, attributes := #[] }, { accessFlags := 26, nameIndex := 1101, descriptorIndex := 1102, attributes := #[] }, { accessFlags := 26, nameIndex := 1121, descriptorIndex := 1122, attributes := #[] }, { accessFlags := 25, nameIndex := 599, descriptorIndex := 600, attributes := #[] }, { accessFlags := 24, nameIndex := 1125, descriptorIndex := 18, attributes := #[] }, { accessFlags := 24, nameIndex := 1127, descriptorIndex := 18, attributes := #[] }])
  fields := #[{ name := "value", type := (.array .byte), accessFlags := 18, slot := 0, constantValue := 0 }, { name := "coder", type := .byte, accessFlags := 18, slot := 1, constantValue := 0 }, { name := "hash", type := .int, accessFlags := 2, slot := 2, constantValue := 0 }, { name := "hashIsZero", type := .boolean, accessFlags := 2, slot := 3, constantValue := 0 }, { name := "serialVersionUID", type := .long, accessFlags := 26, slot := 0, constantValue := 0 }, { name := "COMPACT_STRINGS", type := .boolean, accessFlags := 24, slot := 1, constantValue := 0 }, { name := "serialPersistentFields", type := (.array (.object "java/io/ObjectStreamField")), accessFlags := 26, slot := 2, constantValue := 0 }, { name := "REPL", type := .char, accessFlags := 26, slot := 3, constantValue := 0 }, { name := "CASE_INSENSITIVE_ORDER", type := (.object "java/util/Comparator"), accessFlags := 25, slot := 4, constantValue := 0 }, { name := "LATIN1", type := .byte, accessFlags := 24, slot := 5, constantValue := 0 }, { name := "UTF16", type := .byte, accessFlags := 24, slot := 6, constantValue := 0 }]
  methods := #[k7m0, k7m1, k7m2, k7m3]
  instanceTypes := #[(.array .byte), .byte, .int, .boolean]
  staticTypes := #[.long, .boolean, (.array (.object "java/io/ObjectStreamField")), .char, (.object "java/util/Comparator"), .byte, .byte]
  resolved := Array.replicate 1451 none
  statics := some 0 }

def pool8 : Array CpInfo := pool [(6, .class_ 8), (1, u "java/lang/Object"), (0, u "<init>"), (0, u "()V"), (1, .class_ 14), (1, u "java/lang/StringUTF16"), (31, u "$assertionsDisabled"), (0, u "Z"), (13, u "HI_BYTE_SHIFT"), (0, u "I"), (2, u "LO_BYTE_SHIFT"), (49, .methodref 12 116), (0, .nameAndType 117 118), (0, u "compress"), (0, u "([CI[BII)I"), (3, u "([CII)[B"), (138, u "coderFromArrayLen"), (0, u "([BI)B"), (106, .class_ 371), (1, u "java/lang/StringUTF16$LinesSpliterator"), (58, u "MAX_LENGTH"), (196, .class_ 628), (0, u "java/lang/StringUTF16$CodePointsSpliterator"), (0, .class_ 630), (0, u "java/lang/StringUTF16$CharsSpliterator")] 4

def k8m0 : Method := { name := "<init>", desc := "()V", sig := { parameters := [], returnType := none }, accessFlags := 0, code := none }
def k8c1 : Code := { maxStack := 2, maxLocals := 2, code := jdk_52_method_15_code, exceptionTable := #[], attributes := #[] }
def k8m1 : Method := { name := "coderFromArrayLen", desc := "([BI)B", sig := { parameters := [(.array .byte), .int], returnType := some .byte }, accessFlags := 8, code := some k8c1 }
def k8c2 : Code := { maxStack := 5, maxLocals := 6, code := jdk_52_method_16_code, exceptionTable := #[], attributes := #[] }
def k8m2 : Method := { name := "compress", desc := "([CII)[B", sig := { parameters := [(.array .char), .int, .int], returnType := some (.array .byte) }, accessFlags := 9, code := some k8c2 }
def k8c3 : Code := { maxStack := 3, maxLocals := 7, code := jdk_52_method_21_code, exceptionTable := #[], attributes := #[] }
def k8m3 : Method := { name := "compress", desc := "([CI[BII)I", sig := { parameters := [(.array .char), .int, (.array .byte), .int, .int], returnType := some .int }, accessFlags := 9, code := some k8c3 }
/-- java/lang/StringUTF16 -/
def k8 : Class := { plain "java/lang/StringUTF16" (some 0) with
  accessFlags := 48
  interfaces := #[]
  cf := some (fileOf pool8 12 #[.nestMembers #[627, 629, 369]] #[{ accessFlags := 0, nameIndex := 9, descriptorIndex := 10, attributes := #[] }, { accessFlags := 8, nameIndex := 261, descriptorIndex := 262, attributes := #[] }, { accessFlags := 9, nameIndex := 117, descriptorIndex := 122, attributes := #[] }, { accessFlags := 9, nameIndex := 117, descriptorIndex := 118, attributes := #[] }] 48 6 #[] #[{ accessFlags := 26, nameIndex := 61, descriptorIndex := 62, attributes := #[] }, { accessFlags := 26, nameIndex := 65, descriptorIndex := 62, attributes := #[] }, { accessFlags := 24, nameIndex := 430, descriptorIndex := 62, attributes := #[] }, { accessFlags := 4120, nameIndex := 46, descriptorIndex := 47, attributes := #[] }])
  fields := #[{ name := "HI_BYTE_SHIFT", type := .int, accessFlags := 26, slot := 0, constantValue := 0 }, { name := "LO_BYTE_SHIFT", type := .int, accessFlags := 26, slot := 1, constantValue := 0 }, { name := "MAX_LENGTH", type := .int, accessFlags := 24, slot := 2, constantValue := 0 }, { name := "$assertionsDisabled", type := .boolean, accessFlags := 4120, slot := 3, constantValue := 0 }]
  methods := #[k8m0, k8m1, k8m2, k8m3]
  instanceTypes := #[]
  staticTypes := #[.int, .int, .int, .boolean]
  resolved := Array.replicate 635 none
  statics := none }

def pool9 : Array CpInfo := pool [(1, .methodref 2 3), (0, .class_ 4), (0, .nameAndType 5 6), (0, u "java/lang/Object"), (0, u "<init>"), (0, u "()V"), (0, .fieldref 8 9), (0, .class_ 10), (0, .nameAndType 11 12), (0, u "com/example/tablox/tablox/concept/Role"), (0, u "name"), (0, u "Ljava/lang/String;"), (0, .fieldref 8 14), (0, .nameAndType 15 16), (0, u "inverse"), (0, u "Z"), (0, .string 18), (0, u "iri"), (0, .methodref 20 21), (0, .class_ 22), (0, .nameAndType 23 24), (0, u "java/util/Objects"), (0, u "requireNonNull"), (0, u "(Ljava/lang/Object;Ljava/lang/String;)Ljava/lang/Object;"), (0, .class_ 26), (0, u "java/lang/String"), (0, .methodref 8 28), (0, .nameAndType 5 29), (0, u "(Ljava/lang/String;Z)V"), (0, .methodref 25 31), (0, .nameAndType 32 33), (0, u "equals"), (0, u "(Ljava/lang/Object;)Z"), (6, u "named"), (0, u "(Ljava/lang/String;)Lcom/example/tablox/tablox/concept/Role;"), (0, u "()Lcom/example/tablox/tablox/concept/Role;"), (1, u "()Ljava/lang/String;"), (0, u "isInverse"), (0, u "()Z")] 2

def k9c0 : Code := { maxStack := 2, maxLocals := 3, code := prog_8_method_1_code, exceptionTable := #[], attributes := #[] }
def k9m0 : Method := { name := "<init>", desc := "(Ljava/lang/String;Z)V", sig := { parameters := [(.object "java/lang/String"), .boolean], returnType := none }, accessFlags := 2, code := some k9c0 }
def k9c1 : Code := { maxStack := 4, maxLocals := 1, code := prog_8_method_2_code, exceptionTable := #[], attributes := #[] }
def k9m1 : Method := { name := "named", desc := "(Ljava/lang/String;)Lcom/example/tablox/tablox/concept/Role;", sig := { parameters := [(.object "java/lang/String")], returnType := some (.object "com/example/tablox/tablox/concept/Role") }, accessFlags := 9, code := some k9c1 }
def k9c2 : Code := { maxStack := 4, maxLocals := 1, code := prog_8_method_3_code, exceptionTable := #[], attributes := #[] }
def k9m2 : Method := { name := "inverse", desc := "()Lcom/example/tablox/tablox/concept/Role;", sig := { parameters := [], returnType := some (.object "com/example/tablox/tablox/concept/Role") }, accessFlags := 1, code := some k9c2 }
def k9c3 : Code := { maxStack := 1, maxLocals := 1, code := prog_8_method_4_code, exceptionTable := #[], attributes := #[] }
def k9m3 : Method := { name := "name", desc := "()Ljava/lang/String;", sig := { parameters := [], returnType := some (.object "java/lang/String") }, accessFlags := 1, code := some k9c3 }
def k9c4 : Code := { maxStack := 1, maxLocals := 1, code := prog_8_method_5_code, exceptionTable := #[], attributes := #[] }
def k9m4 : Method := { name := "isInverse", desc := "()Z", sig := { parameters := [], returnType := some .boolean }, accessFlags := 1, code := some k9c4 }
def k9c5 : Code := { maxStack := 2, maxLocals := 3, code := prog_8_method_6_code, exceptionTable := #[], attributes := #[] }
def k9m5 : Method := { name := "equals", desc := "(Ljava/lang/Object;)Z", sig := { parameters := [(.object "java/lang/Object")], returnType := some .boolean }, accessFlags := 1, code := some k9c5 }
/-- com/example/tablox/tablox/concept/Role -/
def k9 : Class := { plain "com/example/tablox/tablox/concept/Role" (some 0) with
  accessFlags := 49
  interfaces := #[]
  cf := some (fileOf pool9 8 #[] #[{ accessFlags := 2, nameIndex := 5, descriptorIndex := 29, attributes := #[] }, { accessFlags := 9, nameIndex := 40, descriptorIndex := 41, attributes := #[] }, { accessFlags := 1, nameIndex := 15, descriptorIndex := 42, attributes := #[] }, { accessFlags := 1, nameIndex := 11, descriptorIndex := 44, attributes := #[] }, { accessFlags := 1, nameIndex := 45, descriptorIndex := 46, attributes := #[] }, { accessFlags := 1, nameIndex := 32, descriptorIndex := 33, attributes := #[] }] 49 2 #[] #[{ accessFlags := 18, nameIndex := 11, descriptorIndex := 12, attributes := #[] }, { accessFlags := 18, nameIndex := 15, descriptorIndex := 16, attributes := #[] }])
  fields := #[{ name := "name", type := (.object "java/lang/String"), accessFlags := 18, slot := 0, constantValue := 0 }, { name := "inverse", type := .boolean, accessFlags := 18, slot := 1, constantValue := 0 }]
  methods := #[k9m0, k9m1, k9m2, k9m3, k9m4, k9m5]
  instanceTypes := #[(.object "java/lang/String"), .boolean]
  staticTypes := #[]
  resolved := Array.replicate 49 none
  statics := none }

def pool10 : Array CpInfo := pool [(2, .class_ 4), (1, u "java/lang/Object"), (0, u "<init>"), (0, u "()V"), (35, .class_ 44), (1, u "java/util/Objects"), (0, u "requireNonNull"), (48, u "(Ljava/lang/Object;Ljava/lang/String;)Ljava/lang/Object;")] 89

def k10m0 : Method := { name := "<init>", desc := "()V", sig := { parameters := [], returnType := none }, accessFlags := 2, code := none }
def k10c1 : Code := { maxStack := 3, maxLocals := 2, code := jdk_31_method_11_code, exceptionTable := #[], attributes := #[] }
def k10m1 : Method := { name := "requireNonNull", desc := "(Ljava/lang/Object;Ljava/lang/String;)Ljava/lang/Object;", sig := { parameters := [(.object "java/lang/Object"), (.object "java/lang/String")], returnType := some (.object "java/lang/Object") }, accessFlags := 9, code := some k10c1 }
/-- java/util/Objects -/
def k10 : Class := { plain "java/util/Objects" (some 0) with
  accessFlags := 49
  interfaces := #[]
  cf := some (fileOf pool10 42 #[] #[{ accessFlags := 2, nameIndex := 5, descriptorIndex := 6, attributes := #[] }, { accessFlags := 9, nameIndex := 45, descriptorIndex := 94, attributes := #[] }] 49 2 #[] #[])
  fields := #[]
  methods := #[k10m0, k10m1]
  instanceTypes := #[]
  staticTypes := #[]
  resolved := Array.replicate 184 none
  statics := none }

def pool11 : Array CpInfo := pool [(4, .class_ 6), (1, u "java/lang/Object"), (0, u "<init>"), (0, u "()V"), (5, .class_ 16), (1, u "java/lang/StringLatin1"), (104, u "$assertionsDisabled"), (0, u "Z"), (98, .class_ 223), (1, u "java/lang/StringLatin1$LinesSpliterator"), (57, u "equals"), (0, u "([B[B)Z"), (107, .class_ 391), (0, u "java/lang/StringLatin1$CharsSpliterator")] 3

def k11m0 : Method := { name := "<init>", desc := "()V", sig := { parameters := [], returnType := none }, accessFlags := 0, code := none }
def k11c1 : Code := { maxStack := 3, maxLocals := 3, code := jdk_43_method_13_code, exceptionTable := #[], attributes := #[] }
def k11m1 : Method := { name := "equals", desc := "([B[B)Z", sig := { parameters := [(.array .byte), (.array .byte)], returnType := some .boolean }, accessFlags := 9, code := some k11c1 }
/-- java/lang/StringLatin1 -/
def k11 : Class := { plain "java/lang/StringLatin1" (some 0) with
  accessFlags := 48
  interfaces := #[]
  cf := some (fileOf pool11 14 #[.nestMembers #[390, 221]] #[{ accessFlags := 0, nameIndex := 7, descriptorIndex := 8, attributes := #[] }, { accessFlags := 9, nameIndex := 281, descriptorIndex := 282, attributes := #[] }] 48 4 #[] #[{ accessFlags := 4120, nameIndex := 121, descriptorIndex := 122, attributes := #[] }])
  fields := #[{ name := "$assertionsDisabled", type := .boolean, accessFlags := 4120, slot := 0, constantValue := 0 }]
  methods := #[k11m0, k11m1]
  instanceTypes := #[]
  staticTypes := #[.boolean]
  resolved := Array.replicate 395 none
  statics := none }

def pool12 : Array CpInfo := pool [(2, .class_ 4), (1, u "java/lang/Object"), (0, u "<init>"), (0, u "()V"), (17, .class_ 26), (1, u "jdk/internal/util/Preconditions"), (28, .class_ 56), (0, u "jdk/internal/util/Preconditions$4"), (57, .class_ 115), (0, u "jdk/internal/util/Preconditions$1"), (7, u "SIOOBE_FORMATTER"), (0, u "Ljava/util/function/BiFunction;"), (0, .class_ 126), (0, u "jdk/internal/util/Preconditions$2"), (3, u "AIOOBE_FORMATTER"), (0, .class_ 132), (0, u "jdk/internal/util/Preconditions$3"), (3, u "IOOBE_FORMATTER")] 57

def k12m0 : Method := { name := "<init>", desc := "()V", sig := { parameters := [], returnType := none }, accessFlags := 1, code := none }
/-- jdk/internal/util/Preconditions -/
def k12 : Class := { plain "jdk/internal/util/Preconditions" (some 0) with
  accessFlags := 33
  interfaces := #[]
  cf := some (fileOf pool12 24 #[.nestMembers #[55, 131, 125, 114]] #[{ accessFlags := 1, nameIndex := 5, descriptorIndex := 6, attributes := #[] }] 33 2 #[] #[{ accessFlags := 25, nameIndex := 123, descriptorIndex := 124, attributes := #[] }, { accessFlags := 25, nameIndex := 130, descriptorIndex := 124, attributes := #[] }, { accessFlags := 25, nameIndex := 136, descriptorIndex := 124, attributes := #[] }])
  fields := #[{ name := "SIOOBE_FORMATTER", type := (.object "java/util/function/BiFunction"), accessFlags := 25, slot := 0, constantValue := 0 }, { name := "AIOOBE_FORMATTER", type := (.object "java/util/function/BiFunction"), accessFlags := 25, slot := 1, constantValue := 0 }, { name := "IOOBE_FORMATTER", type := (.object "java/util/function/BiFunction"), accessFlags := 25, slot := 2, constantValue := 0 }]
  methods := #[k12m0]
  instanceTypes := #[]
  staticTypes := #[(.object "java/util/function/BiFunction"), (.object "java/util/function/BiFunction"), (.object "java/util/function/BiFunction")]
  resolved := Array.replicate 194 none
  statics := some 1 }

def pool13 : Array CpInfo := pool [(9, u "<init>"), (6, .class_ 18), (1, u "java/lang/Object"), (0, u "()V"), (1, .class_ 23), (1, u "jdk/internal/util/ArraysSupport"), (0, u "LOG2_ARRAY_LONG_INDEX_SCALE"), (0, u "I"), (2, u "U"), (0, u "Ljdk/internal/misc/Unsafe;"), (8, u "BIG_ENDIAN"), (0, u "Z"), (8, u "LOG2_BYTE_BIT_SIZE"), (4, u "LOG2_ARRAY_INT_INDEX_SCALE"), (54, u "JLA"), (0, u "Ljdk/internal/access/JavaLangAccess;"), (11, u "LOG2_ARRAY_BOOLEAN_INDEX_SCALE"), (9, u "LOG2_ARRAY_BYTE_INDEX_SCALE"), (5, u "LOG2_ARRAY_CHAR_INDEX_SCALE"), (5, u "LOG2_ARRAY_SHORT_INDEX_SCALE"), (18, u "LOG2_ARRAY_FLOAT_INDEX_SCALE"), (24, u "LOG2_ARRAY_DOUBLE_INDEX_SCALE"), (89, u "T_BOOLEAN"), (2, u "T_CHAR"), (1, u "T_FLOAT"), (1, u "T_DOUBLE"), (1, u "T_BYTE"), (1, u "T_SHORT"), (1, u "T_INT"), (1, u "T_LONG"), (1, u "SOFT_MAX_ARRAY_LENGTH")] 83

def k13m0 : Method := { name := "<init>", desc := "()V", sig := { parameters := [], returnType := none }, accessFlags := 2, code := none }
/-- jdk/internal/util/ArraysSupport -/
def k13 : Class := { plain "jdk/internal/util/ArraysSupport" (some 0) with
  accessFlags := 33
  interfaces := #[]
  cf := some (fileOf pool13 21 #[] #[{ accessFlags := 2, nameIndex := 9, descriptorIndex := 19, attributes := #[] }] 33 16 #[] #[{ accessFlags := 24, nameIndex := 28, descriptorIndex := 29, attributes := #[] }, { accessFlags := 26, nameIndex := 38, descriptorIndex := 39, attributes := #[] }, { accessFlags := 25, nameIndex := 121, descriptorIndex := 25, attributes := #[] }, { accessFlags := 25, nameIndex := 131, descriptorIndex := 25, attributes := #[] }, { accessFlags := 25, nameIndex := 137, descriptorIndex := 25, attributes := #[] }, { accessFlags := 25, nameIndex := 143, descriptorIndex := 25, attributes := #[] }, { accessFlags := 25, nameIndex := 53, descriptorIndex := 25, attributes := #[] }, { accessFlags := 25, nameIndex := 24, descriptorIndex := 25, attributes := #[] }, { accessFlags := 25, nameIndex := 162, descriptorIndex := 25, attributes := #[] }, { accessFlags := 25, nameIndex := 187, descriptorIndex := 25, attributes := #[] }, { accessFlags := 26, nameIndex := 48, descriptorIndex := 25, attributes := #[] }, { accessFlags := 25, nameIndex := 277, descriptorIndex := 25, attributes := #[] }, { accessFlags := 25, nameIndex := 280, descriptorIndex := 25, attributes := #[] }, { accessFlags := 25, nameIndex := 282, descriptorIndex := 25, attributes := #[] }, { accessFlags := 25, nameIndex := 284, descriptorIndex := 25, attributes := #[] }, { accessFlags := 25, nameIndex := 286, descriptorIndex := 25, attributes := #[] }, { accessFlags := 25, nameIndex := 288, descriptorIndex := 25, attributes := #[] }, { accessFlags := 25, nameIndex := 290, descriptorIndex := 25, attributes := #[] }, { accessFlags := 25, nameIndex := 292, descriptorIndex := 25, attributes := #[] }, { accessFlags := 26, nameIndex := 108, descriptorIndex := 109, attributes := #[] }, { accessFlags := 25, nameIndex := 294, descriptorIndex := 25, attributes := #[] }])
  fields := #[{ name := "U", type := (.object "jdk/internal/misc/Unsafe"), accessFlags := 24, slot := 0, constantValue := 0 }, { name := "BIG_ENDIAN", type := .boolean, accessFlags := 26, slot := 1, constantValue := 0 }, { name := "LOG2_ARRAY_BOOLEAN_INDEX_SCALE", type := .int, accessFlags := 25, slot := 2, constantValue := 0 }, { name := "LOG2_ARRAY_BYTE_INDEX_SCALE", type := .int, accessFlags := 25, slot := 3, constantValue := 0 }, { name := "LOG2_ARRAY_CHAR_INDEX_SCALE", type := .int, accessFlags := 25, slot := 4, constantValue := 0 }, { name := "LOG2_ARRAY_SHORT_INDEX_SCALE", type := .int, accessFlags := 25, slot := 5, constantValue := 0 }, { name := "LOG2_ARRAY_INT_INDEX_SCALE", type := .int, accessFlags := 25, slot := 6, constantValue := 0 }, { name := "LOG2_ARRAY_LONG_INDEX_SCALE", type := .int, accessFlags := 25, slot := 7, constantValue := 0 }, { name := "LOG2_ARRAY_FLOAT_INDEX_SCALE", type := .int, accessFlags := 25, slot := 8, constantValue := 0 }, { name := "LOG2_ARRAY_DOUBLE_INDEX_SCALE", type := .int, accessFlags := 25, slot := 9, constantValue := 0 }, { name := "LOG2_BYTE_BIT_SIZE", type := .int, accessFlags := 26, slot := 10, constantValue := 0 }, { name := "T_BOOLEAN", type := .int, accessFlags := 25, slot := 11, constantValue := 0 }, { name := "T_CHAR", type := .int, accessFlags := 25, slot := 12, constantValue := 0 }, { name := "T_FLOAT", type := .int, accessFlags := 25, slot := 13, constantValue := 0 }, { name := "T_DOUBLE", type := .int, accessFlags := 25, slot := 14, constantValue := 0 }, { name := "T_BYTE", type := .int, accessFlags := 25, slot := 15, constantValue := 0 }, { name := "T_SHORT", type := .int, accessFlags := 25, slot := 16, constantValue := 0 }, { name := "T_INT", type := .int, accessFlags := 25, slot := 17, constantValue := 0 }, { name := "T_LONG", type := .int, accessFlags := 25, slot := 18, constantValue := 0 }, { name := "JLA", type := (.object "jdk/internal/access/JavaLangAccess"), accessFlags := 26, slot := 19, constantValue := 0 }, { name := "SOFT_MAX_ARRAY_LENGTH", type := .int, accessFlags := 25, slot := 20, constantValue := 0 }]
  methods := #[k13m0]
  instanceTypes := #[]
  staticTypes := #[(.object "jdk/internal/misc/Unsafe"), .boolean, .int, .int, .int, .int, .int, .int, .int, .int, .int, .int, .int, .int, .int, .int, .int, .int, .int, (.object "jdk/internal/access/JavaLangAccess"), .int]
  resolved := Array.replicate 378 none
  statics := none }

def pool14 : Array CpInfo := pool [(1, u "java/lang/Cloneable"), (0, .class_ 1), (0, u "java/lang/Object"), (0, .class_ 3)] 3

/-- java/lang/Cloneable -/
def k14 : Class := { plain "java/lang/Cloneable" (some 0) with
  accessFlags := 1537
  interfaces := #[]
  cf := some (fileOf pool14 2 #[] #[] 1537 4 #[] #[])
  fields := #[]
  methods := #[]
  instanceTypes := #[]
  staticTypes := #[]
  resolved := Array.replicate 8 none
  statics := none }

/-- the primitive byte -/
def k15 : Class := { plain "byte" none with kind := .primitive 'B', accessFlags := 0x411 }
/-- [B -/
def k16 : Class := { plain "[B" (some 0) with kind := .array 15 .byte, interfaces := #[14, 2], accessFlags := 1041 }

/-- the primitive char -/
def k17 : Class := { plain "char" none with kind := .primitive 'C', accessFlags := 0x411 }
/-- [C -/
def k18 : Class := { plain "[C" (some 0) with kind := .array 17 .char, interfaces := #[14, 2], accessFlags := 1041 }

/-- the primitive int -/
def k19 : Class := { plain "int" none with kind := .primitive 'I', accessFlags := 0x411 }
/-- [I -/
def k20 : Class := { plain "[I" (some 0) with kind := .array 19 .int, interfaces := #[14, 2], accessFlags := 1041 }

def heap : Heap := #[{ cls := 7, slots := #[.long 0, .int 1, .null, .int 0, .null, .int 0, .int 0], vm := .statics 7 },
  { cls := 12, slots := #[.null, .null, .null], vm := .statics 12 }]
def classes : Array Class := #[k0, k1, k2, k3, k4, k5, k6, k7, k8, k9, k10, k11, k12, k13, k14, k15, k16, k17, k18, k19, k20]
def interned : List (Array UInt16 × Addr) := []
def slotsUsed : Nat := 10
def theMethod : MethodId := ⟨1, 2⟩
def args0 : Array Value := #[.int 300, .int 2, .int 5, .int 3, .int 0]
def aboutOver (below : List Frame) : State where
  vm := { classes := classes, interned := interned.toArray }
  heap := heap
  slotsUsed := slotsUsed
  threads := #[{ frames := .invoking theMethod args0 :: below }]
def below0 : List Frame := [.native { method := ⟨0, 0⟩, args := #[] }]
def about1 : State := aboutOver below0
def p0 : Program := .bare "" "" ""
def e0 : Env := launch0.env 0 0 0
theorem w_frames : about1.frames = Frame.invoking theMethod args0 :: below0 := rfl
set_option maxRecDepth 65536 in
theorem w_args : argsFit about1.vm theMethod args0 = true := by decide +kernel
set_option maxRecDepth 65536 in
theorem w_heap : heapFits about1 = true := by decide +kernel
set_option maxRecDepth 65536 in
theorem w_runnable : about1.curStatus? = some .runnable := by decide +kernel
set_option maxRecDepth 65536 in
theorem w_alone : about1.alone = true := by decide +kernel
set_option maxRecDepth 65536 in
theorem w_named : about1.methodNamed? x = some theMethod := by decide +kernel
set_option maxRecDepth 65536 in
theorem w_hears : about1.hears theMethod below0 = true := by decide +kernel
set_option maxRecDepth 65536 in
theorem w_ripe : about1.ripe theMethod args0 below0 = true := by decide +kernel
theorem w_running : about1.status = .running := rfl
set_option maxRecDepth 65536 in
theorem w_room : about1.hasRoom e0.platform room_1 = true :=
  launch0.hasRoom_least _ room_1 (by decide +kernel) (by decide +kernel) (by decide +kernel) (by decide +kernel) (by decide +kernel) (by decide +kernel)
theorem allAtoms_all (ts : List Jvm.Cond) (a : Array Jvm.Value) (st : Jvm.State) : (allAtoms ts).before a st = ts.all (fun c => c.before a st) := by
  induction ts with
  | nil => rfl
  | cons c t ih =>
    show (Jvm.Cond.and c (allAtoms t)).before a st = _
    rw [Jvm.Cond.before_and, ih, List.all_cons]
def words1 : List Jvm.Cond := Jvm.Cond.code x code maxLocals ret :: tables_1
/-- a 'code' word, met by the world's own term for the bytes: nothing is compared byte by byte -/
theorem code_word {y : MethodName} {bytes : ByteArray} {mx : Nat} {rt : Option FieldType} {a : Array Value} {s : State} {m : MethodId} {meth : Method} {c : Code} (h1 : s.methodNamed? y = some m) (h2 : s.vm.method? m = some meth) (h3 : meth.code = some c) (h4 : c.code = bytes)
    (h5 : (c.maxLocals == mx && c.exceptionTable.isEmpty && decide (c.maxStack ≤ mostOperands) && decide (meth.sig.returnType = rt) && !meth.locks && decide (parseMethodDescriptor y.desc = some meth.sig)) = true) : (Jvm.Cond.code y bytes mx rt).before a s = true := by
  simp only [Bool.and_eq_true, beq_iff_eq, Bool.not_eq_true', decide_eq_true_eq] at h5
  obtain ⟨⟨⟨⟨⟨g1, g2⟩, g3⟩, g4⟩, g5⟩, g6⟩ := h5
  simp [Cond.before, Cond.holds, Cond.value, h1, h2, h3, h4, g1, g2, g3, g4, g5, g6]
def isCode : Jvm.Cond → Bool
  | .code _ _ _ _ => true
  | _ => false
theorem all_split {L : List Jvm.Cond} {P : Jvm.Cond → Bool} (h1 : L.all (fun c => isCode c || P c) = true) (h2 : ∀ c ∈ L.filter isCode, P c = true) : L.all P = true := by
  refine List.all_eq_true.mpr fun c hc => ?_
  have h := List.all_eq_true.mp h1 c hc
  rcases Bool.eq_false_or_eq_true (isCode c) with hi | hi
  · exact h2 c (List.mem_filter.mpr ⟨hc, hi⟩)
  · simpa [hi] using h
set_option maxRecDepth 65536 in
theorem w_c0 : (Jvm.Cond.code x code maxLocals ret).before args0 about1 = true := code_word (m := ⟨1, 2⟩) (meth := k1m2) (c := k1c2) (by decide +kernel) rfl rfl rfl (by decide +kernel)
set_option maxRecDepth 65536 in
theorem w_c1 : (Jvm.Cond.code ({ cls := "com/example/tablox/tablox/concept/RoleNamedPinLaw", name := "str", desc := "(II)Ljava/lang/String;" } : Jvm.MethodName) method_2_code (6 : Nat) (Option.some (Jvm.ClassFile.FieldType.object "java/lang/String"))).before args0 about1 = true := code_word (m := ⟨1, 1⟩) (meth := k1m1) (c := k1c1) (by decide +kernel) rfl rfl rfl (by decide +kernel)
set_option maxRecDepth 65536 in
theorem w_c2 : (Jvm.Cond.code ({ cls := "java/lang/String", name := "<init>", desc := "([C)V" } : Jvm.MethodName) jdk_42_method_3_code (2 : Nat) (Option.none : Option Jvm.ClassFile.FieldType)).before args0 about1 = true := code_word (m := ⟨7, 1⟩) (meth := k7m1) (c := k7c1) (by decide +kernel) rfl rfl rfl (by decide +kernel)
set_option maxRecDepth 65536 in
theorem w_c3 : (Jvm.Cond.code ({ cls := "java/lang/String", name := "<init>", desc := "([CIILjava/lang/Void;)V" } : Jvm.MethodName) jdk_42_method_149_code (6 : Nat) (Option.none : Option Jvm.ClassFile.FieldType)).before args0 about1 = true := code_word (m := ⟨7, 3⟩) (meth := k7m3) (c := k7c3) (by decide +kernel) rfl rfl rfl (by decide +kernel)
set_option maxRecDepth 65536 in
theorem w_c4 : (Jvm.Cond.code ({ cls := "java/lang/Object", name := "<init>", desc := "()V" } : Jvm.MethodName) object_method_1_code (1 : Nat) (Option.none : Option Jvm.ClassFile.FieldType)).before args0 about1 = true := code_word (m := ⟨0, 0⟩) (meth := k0m0) (c := k0c0) (by decide +kernel) rfl rfl rfl (by decide +kernel)
set_option maxRecDepth 65536 in
theorem w_c5 : (Jvm.Cond.code ({ cls := "java/lang/StringUTF16", name := "compress", desc := "([CII)[B" } : Jvm.MethodName) jdk_52_method_16_code (6 : Nat) (Option.some (Jvm.ClassFile.FieldType.array Jvm.ClassFile.FieldType.byte))).before args0 about1 = true := code_word (m := ⟨8, 2⟩) (meth := k8m2) (c := k8c2) (by decide +kernel) rfl rfl rfl (by decide +kernel)
set_option maxRecDepth 65536 in
theorem w_c6 : (Jvm.Cond.code ({ cls := "java/lang/StringUTF16", name := "compress", desc := "([CI[BII)I" } : Jvm.MethodName) jdk_52_method_21_code (7 : Nat) (Option.some Jvm.ClassFile.FieldType.int)).before args0 about1 = true := code_word (m := ⟨8, 3⟩) (meth := k8m3) (c := k8c3) (by decide +kernel) rfl rfl rfl (by decide +kernel)
set_option maxRecDepth 65536 in
theorem w_c7 : (Jvm.Cond.code ({ cls := "java/lang/StringUTF16", name := "coderFromArrayLen", desc := "([BI)B" } : Jvm.MethodName) jdk_52_method_15_code (2 : Nat) (Option.some Jvm.ClassFile.FieldType.byte)).before args0 about1 = true := code_word (m := ⟨8, 1⟩) (meth := k8m1) (c := k8c1) (by decide +kernel) rfl rfl rfl (by decide +kernel)
set_option maxRecDepth 65536 in
theorem w_c8 : (Jvm.Cond.code ({ cls := "com/example/tablox/tablox/concept/Role", name := "named", desc := "(Ljava/lang/String;)Lcom/example/tablox/tablox/concept/Role;" } : Jvm.MethodName) prog_8_method_2_code (1 : Nat) (Option.some (Jvm.ClassFile.FieldType.object "com/example/tablox/tablox/concept/Role"))).before args0 about1 = true := code_word (m := ⟨9, 1⟩) (meth := k9m1) (c := k9c1) (by decide +kernel) rfl rfl rfl (by decide +kernel)
set_option maxRecDepth 65536 in
theorem w_c9 : (Jvm.Cond.code ({ cls := "java/util/Objects", name := "requireNonNull", desc := "(Ljava/lang/Object;Ljava/lang/String;)Ljava/lang/Object;" } : Jvm.MethodName) jdk_31_method_11_code (2 : Nat) (Option.some (Jvm.ClassFile.FieldType.object "java/lang/Object"))).before args0 about1 = true := code_word (m := ⟨10, 1⟩) (meth := k10m1) (c := k10c1) (by decide +kernel) rfl rfl rfl (by decide +kernel)
set_option maxRecDepth 65536 in
theorem w_c10 : (Jvm.Cond.code ({ cls := "com/example/tablox/tablox/concept/Role", name := "<init>", desc := "(Ljava/lang/String;Z)V" } : Jvm.MethodName) prog_8_method_1_code (3 : Nat) (Option.none : Option Jvm.ClassFile.FieldType)).before args0 about1 = true := code_word (m := ⟨9, 0⟩) (meth := k9m0) (c := k9c0) (by decide +kernel) rfl rfl rfl (by decide +kernel)
set_option maxRecDepth 65536 in
theorem w_c11 : (Jvm.Cond.code ({ cls := "com/example/tablox/tablox/concept/Role", name := "name", desc := "()Ljava/lang/String;" } : Jvm.MethodName) prog_8_method_4_code (1 : Nat) (Option.some (Jvm.ClassFile.FieldType.object "java/lang/String"))).before args0 about1 = true := code_word (m := ⟨9, 3⟩) (meth := k9m3) (c := k9c3) (by decide +kernel) rfl rfl rfl (by decide +kernel)
set_option maxRecDepth 65536 in
theorem w_c12 : (Jvm.Cond.code ({ cls := "java/lang/String", name := "equals", desc := "(Ljava/lang/Object;)Z" } : Jvm.MethodName) jdk_42_method_66_code (3 : Nat) (Option.some Jvm.ClassFile.FieldType.boolean)).before args0 about1 = true := code_word (m := ⟨7, 2⟩) (meth := k7m2) (c := k7c2) (by decide +kernel) rfl rfl rfl (by decide +kernel)
set_option maxRecDepth 65536 in
theorem w_c13 : (Jvm.Cond.code ({ cls := "com/example/tablox/tablox/concept/Role", name := "isInverse", desc := "()Z" } : Jvm.MethodName) prog_8_method_5_code (1 : Nat) (Option.some Jvm.ClassFile.FieldType.boolean)).before args0 about1 = true := code_word (m := ⟨9, 4⟩) (meth := k9m4) (c := k9c4) (by decide +kernel) rfl rfl rfl (by decide +kernel)
set_option maxRecDepth 65536 in
theorem w_c14 : (Jvm.Cond.code ({ cls := "com/example/tablox/tablox/concept/Role", name := "equals", desc := "(Ljava/lang/Object;)Z" } : Jvm.MethodName) prog_8_method_6_code (3 : Nat) (Option.some Jvm.ClassFile.FieldType.boolean)).before args0 about1 = true := code_word (m := ⟨9, 5⟩) (meth := k9m5) (c := k9c5) (by decide +kernel) rfl rfl rfl (by decide +kernel)
set_option maxRecDepth 65536 in
theorem w_c15 : (Jvm.Cond.code ({ cls := "java/lang/StringLatin1", name := "equals", desc := "([B[B)Z" } : Jvm.MethodName) jdk_43_method_13_code (3 : Nat) (Option.some Jvm.ClassFile.FieldType.boolean)).before args0 about1 = true := code_word (m := ⟨11, 1⟩) (meth := k11m1) (c := k11c1) (by decide +kernel) rfl rfl rfl (by decide +kernel)
set_option maxRecDepth 65536 in
theorem w_c16 : (Jvm.Cond.code ({ cls := "com/example/tablox/tablox/concept/Role", name := "inverse", desc := "()Lcom/example/tablox/tablox/concept/Role;" } : Jvm.MethodName) prog_8_method_3_code (1 : Nat) (Option.some (Jvm.ClassFile.FieldType.object "com/example/tablox/tablox/concept/Role"))).before args0 about1 = true := code_word (m := ⟨9, 2⟩) (meth := k9m2) (c := k9c2) (by decide +kernel) rfl rfl rfl (by decide +kernel)
def codes1 : List Jvm.Cond := [Jvm.Cond.code x code maxLocals ret, Jvm.Cond.code ({ cls := "com/example/tablox/tablox/concept/RoleNamedPinLaw", name := "str", desc := "(II)Ljava/lang/String;" } : Jvm.MethodName) method_2_code (6 : Nat) (Option.some (Jvm.ClassFile.FieldType.object "java/lang/String")), Jvm.Cond.code ({ cls := "java/lang/String", name := "<init>", desc := "([C)V" } : Jvm.MethodName) jdk_42_method_3_code (2 : Nat) (Option.none : Option Jvm.ClassFile.FieldType), Jvm.Cond.code ({ cls := "java/lang/String", name := "<init>", desc := "([CIILjava/lang/Void;)V" } : Jvm.MethodName) jdk_42_method_149_code (6 : Nat) (Option.none : Option Jvm.ClassFile.FieldType), Jvm.Cond.code ({ cls := "java/lang/Object", name := "<init>", desc := "()V" } : Jvm.MethodName) object_method_1_code (1 : Nat) (Option.none : Option Jvm.ClassFile.FieldType), Jvm.Cond.code ({ cls := "java/lang/StringUTF16", name := "compress", desc := "([CII)[B" } : Jvm.MethodName) jdk_52_method_16_code (6 : Nat) (Option.some (Jvm.ClassFile.FieldType.array Jvm.ClassFile.FieldType.byte)), Jvm.Cond.code ({ cls := "java/lang/StringUTF16", name := "compress", desc := "([CI[BII)I" } : Jvm.MethodName) jdk_52_method_21_code (7 : Nat) (Option.some Jvm.ClassFile.FieldType.int), Jvm.Cond.code ({ cls := "java/lang/StringUTF16", name := "coderFromArrayLen", desc := "([BI)B" } : Jvm.MethodName) jdk_52_method_15_code (2 : Nat) (Option.some Jvm.ClassFile.FieldType.byte), Jvm.Cond.code ({ cls := "com/example/tablox/tablox/concept/Role", name := "named", desc := "(Ljava/lang/String;)Lcom/example/tablox/tablox/concept/Role;" } : Jvm.MethodName) prog_8_method_2_code (1 : Nat) (Option.some (Jvm.ClassFile.FieldType.object "com/example/tablox/tablox/concept/Role")), Jvm.Cond.code ({ cls := "java/util/Objects", name := "requireNonNull", desc := "(Ljava/lang/Object;Ljava/lang/String;)Ljava/lang/Object;" } : Jvm.MethodName) jdk_31_method_11_code (2 : Nat) (Option.some (Jvm.ClassFile.FieldType.object "java/lang/Object")), Jvm.Cond.code ({ cls := "com/example/tablox/tablox/concept/Role", name := "<init>", desc := "(Ljava/lang/String;Z)V" } : Jvm.MethodName) prog_8_method_1_code (3 : Nat) (Option.none : Option Jvm.ClassFile.FieldType), Jvm.Cond.code ({ cls := "com/example/tablox/tablox/concept/Role", name := "name", desc := "()Ljava/lang/String;" } : Jvm.MethodName) prog_8_method_4_code (1 : Nat) (Option.some (Jvm.ClassFile.FieldType.object "java/lang/String")), Jvm.Cond.code ({ cls := "java/lang/String", name := "equals", desc := "(Ljava/lang/Object;)Z" } : Jvm.MethodName) jdk_42_method_66_code (3 : Nat) (Option.some Jvm.ClassFile.FieldType.boolean), Jvm.Cond.code ({ cls := "com/example/tablox/tablox/concept/Role", name := "isInverse", desc := "()Z" } : Jvm.MethodName) prog_8_method_5_code (1 : Nat) (Option.some Jvm.ClassFile.FieldType.boolean), Jvm.Cond.code ({ cls := "com/example/tablox/tablox/concept/Role", name := "equals", desc := "(Ljava/lang/Object;)Z" } : Jvm.MethodName) prog_8_method_6_code (3 : Nat) (Option.some Jvm.ClassFile.FieldType.boolean), Jvm.Cond.code ({ cls := "java/lang/StringLatin1", name := "equals", desc := "([B[B)Z" } : Jvm.MethodName) jdk_43_method_13_code (3 : Nat) (Option.some Jvm.ClassFile.FieldType.boolean), Jvm.Cond.code ({ cls := "com/example/tablox/tablox/concept/Role", name := "inverse", desc := "()Lcom/example/tablox/tablox/concept/Role;" } : Jvm.MethodName) prog_8_method_3_code (1 : Nat) (Option.some (Jvm.ClassFile.FieldType.object "com/example/tablox/tablox/concept/Role"))]
set_option maxRecDepth 65536 in
theorem codes_eq : words1.filter isCode = codes1 := rfl
theorem w_codes : ∀ c ∈ words1.filter isCode, c.before args0 about1 = true := by
  rw [codes_eq]
  intro c hc
  simp only [codes1, List.mem_cons, List.not_mem_nil, or_false] at hc
  rcases hc with rfl | rfl | rfl | rfl | rfl | rfl | rfl | rfl | rfl | rfl | rfl | rfl | rfl | rfl | rfl | rfl | rfl
  · exact w_c0
  · exact w_c1
  · exact w_c2
  · exact w_c3
  · exact w_c4
  · exact w_c5
  · exact w_c6
  · exact w_c7
  · exact w_c8
  · exact w_c9
  · exact w_c10
  · exact w_c11
  · exact w_c12
  · exact w_c13
  · exact w_c14
  · exact w_c15
  · exact w_c16
set_option maxRecDepth 65536 in
theorem w_t1 : (words1.take 24).all (fun c => isCode c || c.before args0 about1) = true := by decide +kernel
set_option maxRecDepth 65536 in
theorem w_t2 : ((words1.drop 24).take 24).all (fun c => isCode c || c.before args0 about1) = true := by decide +kernel
set_option maxRecDepth 65536 in
theorem w_t3 : (((words1.drop 24).drop 24).take 24).all (fun c => isCode c || c.before args0 about1) = true := by decide +kernel
set_option maxRecDepth 65536 in
theorem w_t4 : (((words1.drop 24).drop 24).drop 24).all (fun c => isCode c || c.before args0 about1) = true := by decide +kernel
theorem w_tables : (allAtoms (Jvm.Cond.code x code maxLocals ret :: tables_1)).before args0 about1 = true := by
  rw [allAtoms_all]
  show words1.all (fun c => c.before args0 about1) = true
  refine all_split ?_ w_codes
  rw [← List.take_append_drop 24 words1, List.all_append, w_t1, ← List.take_append_drop 24 (words1.drop 24), List.all_append, w_t2, ← List.take_append_drop 24 ((words1.drop 24).drop 24), List.all_append, w_t3, w_t4]
  rfl
set_option maxRecDepth 65536 in
theorem w_rest : rest_1_c.before args0 about1 = true := by decide +kernel
set_option maxRecDepth 65536 in
theorem w_case : (Jvm.Cond.and given_1 narrow_1).before args0 about1 = true := by decide +kernel
set_option maxRecDepth 65536 in
theorem w_consts : constsHeld consts_1 about1 := Jvm.Lit.constsHeldB_iff.mp (by decide +kernel)
theorem w_applies : (headSpec (Jvm.Cond.code x code maxLocals ret :: tables_1) room_1).applies x e0.platform about1 = true :=
  (Spec.applies_iff w_frames).mpr ⟨w_running, w_runnable, w_alone, w_named, w_hears, w_ripe, w_room, w_tables⟩
theorem atStart : AtStart classFile x code maxLocals ret World_1 tables_1 room_1 Calls_1 rest_1 Pre_1 launch0 p0 e0 about1 theMethod args0 below0 :=
  ⟨lists_1, trivial, launch0.admits_env _ _ _, launch0.least_env, fairChoices_fair.cas, fairChoices_fair.clock, w_frames, w_args, w_heap, w_applies, ⟨w_consts, trivial⟩, w_rest, w_case⟩
end start1
theorem witness_1 : WitnessClaimed_1 := ⟨start1.p0, start1.e0, start1.about1, start1.theMethod, start1.args0, start1.below0, start1.atStart⟩
end Jvm.Pilot.@@N@@
