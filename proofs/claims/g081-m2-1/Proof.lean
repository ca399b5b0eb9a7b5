import JvmDerived
import JvmDerived.Pilot.@@N@@Statement
import JvmDerived.Pilot.@@N@@Code
set_option linter.unusedVariables false
set_option linter.unusedSimpArgs false
set_option maxRecDepth 65536
set_option maxHeartbeats 40000000
namespace Jvm.RoadKit
open Sem ClassFile Op Lib Jvm.Stand Jvm.Free Jvm.LawKit
section New
variable {p : Program} {l : Launch} {e : Env} {R : Room} {s : State} {m : MethodId} {args : Array Value} {below : List Frame} {meth : Method} {c : Code} {T : State} {locs : List Loc} {cells slots : Nat}
theorem retI (X : Stand p l e R s m args below meth c T locs cells slots) (hx : p.tables.exec = Jvm.exec) {pc : Nat} {Ls : Array Slot} {z : Int32} {rest : List Value} (hret : meth.sig.returnType = some .int) (hd : decode c.code pc = .ok (.ireturn, 1)) {fs : List Frame}
    (hl : ∀ (f : JFrame) (acts : List Action), f.method = m → f.locked = none → f.entered = [] → (doReturn e (T.setTop f) acts (some (.int z))).1 = T.setFrames fs) : Steps p.tables e below (T.setTop (mkF m pc Ls (.int z :: rest))) (T.setFrames fs) := by
  have hm' : T.vm.method? m = some meth := X.method'
  have hn : narrow .int (.int z) = .int z := rfl
  show Steps p.tables e below (T.setTop { method := m, pc := pc, locals := Ls, stack := _ :: rest, locked := none }) _
  jvm_step X.here [X.here.top, hx, hd, hm', hret, hn]
  first | (intro acts; rw [hl _ acts rfl rfl rfl]) | rw [hl _ _ rfl rfl rfl]
  exact Steps.refl _
theorem retD (X : Stand p l e R s m args below meth c T locs cells slots) (hx : p.tables.exec = Jvm.exec) {pc : Nat} {Ls : Array Slot} {z : UInt64} {rest : List Value} (hret : meth.sig.returnType = some .double) (hd : decode c.code pc = .ok (.dreturn, 1)) {fs : List Frame}
    (hl : ∀ (f : JFrame) (acts : List Action), f.method = m → f.locked = none → f.entered = [] → (doReturn e (T.setTop f) acts (some (.double z))).1 = T.setFrames fs) : Steps p.tables e below (T.setTop (mkF m pc Ls (.double z :: rest))) (T.setFrames fs) := by
  have hm' : T.vm.method? m = some meth := X.method'
  have hn : narrow .double (.double z) = .double z := rfl
  show Steps p.tables e below (T.setTop { method := m, pc := pc, locals := Ls, stack := _ :: rest, locked := none }) _
  jvm_step X.here [X.here.top, hx, hd, hm', hret, hn]
  first | (intro acts; rw [hl _ acts rfl rfl rfl]) | rw [hl _ _ rfl rfl rfl]
  exact Steps.refl _
end New
end Jvm.RoadKit
namespace Jvm.Pilot.@@N@@
open Jvm Jvm.ClassFile Sem Op Lib Jvm.Free Jvm.Stand Jvm.LawKit Jvm.RoadKit Bundle Jvm.Pilot.@@N@@.Jvm.D
abbrev own_HW (a0 : Array Value) (Z : State) : Prop := ∀ d ∈ tables_1, d.before a0 Z = true
theorem own_at {Z : State} {a0 : Array Value} (hw : own_HW a0 Z) (i : Nat) {d : Jvm.Cond} (h : tables_1[i]? = some d) : d.before a0 Z = true := hw _ (List.mem_of_getElem? h)
abbrev OwnS (p : Program) (e : Env) (below : List Frame) (T : State) (g : JFrame) (t : State) : Prop := Steps p.tables e below (T.setTop g) t
theorem own_selpriv {s : State} {args : Array Value} {y : MethodName} {n : Nat} (hy : y.cls ≠ "java/lang/invoke/MethodHandle" ∧ y.cls ≠ "java/lang/invoke/VarHandle") (hins : (Jvm.Cond.instantiable y.cls n).before args s = true) (hp : (Jvm.Cond.privateMethod y).before args s = true) (hi : (Jvm.Cond.instanceMethod y).before args s = true) : (Jvm.Cond.selects y.cls y y).before args s = true := by
  obtain ⟨c, k, hc, hk, -, hniab, -⟩ := Cond.instantiable_spec hins
  exact selects_self_of_private hc hk (Bool.or_eq_false_iff.mp hniab).1 (Cond.privateMethod_at hp) hi hy
theorem own_irr (x : Int32) : ¬ (x < x) := by rw [Int32.lt_iff_toInt_lt]; omega
theorem own_asymm {x y : Int32} (h : x < y) : ¬ (y < x) := by rw [Int32.lt_iff_toInt_lt] at *; omega
theorem own_irr64 (x : Int64) : ¬ (x < x) := by rw [Int64.lt_iff_toInt_lt]; omega
theorem own_asymm64 {x y : Int64} (h : x < y) : ¬ (y < x) := by rw [Int64.lt_iff_toInt_lt] at *; omega
theorem own_ne {x y : Int32} (h : x < y) : ¬ (x = y) := fun q => own_irr x (by rw [← q] at h; exact h)
theorem own_ne' {x y : Int32} (h : x < y) : ¬ (y = x) := fun q => own_irr x (by rw [q] at h; exact h)
theorem own_tri (x y : Int32) : x < y ∨ x = y ∨ y < x := by
  rw [Int32.lt_iff_toInt_lt, Int32.lt_iff_toInt_lt, ← Int32.toInt_inj]; omega
theorem own_ns {Z : State} {h : Heap} {a : Addr} {C : String} (F : Exa Z h a C) : ∃ cell : Cell, h[a]? = some cell ∧ cell.vm.isStatics = false := by
  obtain ⟨cell, k, h1, -, -, h4, -⟩ := F; exact ⟨cell, h1, h4⟩
theorem own_sta_keep {Z : State} {h h' : Heap} {ws : List Addr} {C n d : String} {v : Value} (F : Sta Z h C n d v) (K : Keep h h' ws) (q : ∀ x ∈ ws, ∃ cell : Cell, h[x]? = some cell ∧ cell.vm.isStatics = false) : Sta Z h' C n d v := by
  obtain ⟨cf, i, k, f, st, cell, h1, h2, h3, h4, h5, h6, h7⟩ := F
  refine ⟨cf, i, k, f, st, cell, h1, h2, h3, h4, K.2.1 st cell h5 fun r => ?_, h6, h7⟩
  obtain ⟨c2, g1, g2⟩ := q st r
  cases h5.symm.trans g1
  rw [g2] at h6; cases h6
theorem own_eq_int {args : Array Value} {first s : State} {o : Option Outcome} {idx : List Nat} {t : Term} {k : Int32} (h : (Jvm.Cond.eq t (.int k)).value args first o s idx = some true) : t.eval args first o idx s = some (.int k) := by
  simp only [Cond.value, Term.eval] at h
  cases ht : t.eval args first o idx s with
  | none => simp [ht] at h
  | some x => cases x <;> simp [ht] at h ⊢; exact h
section
variable {p : Program} {l : Launch} {e : Env} {R : Room} {s : State} {m : MethodId} {args : Array Value} {below : List Frame} {meth : Method} {c : Code} {T t : State} {locs : List Loc} {cells slots : Nat} {cd : ByteArray} {pc : Nat} {ls : Array Slot} {st : List Value}
theorem oIn (X : Stand p l e R s m args below meth c T locs cells slots) (hx : p.tables.exec = Jvm.exec) (hy : c.code = cd) {k : Fin 4} {v : Int32} (hd : decode cd pc = .ok (.iload_n k, 1)) (hl : ls[k.val]? = some (.val (.int v))) (hr : OwnS p e below T (mkF m (pc + 1) ls (.int v :: st)) t) : OwnS p e below T (mkF m pc ls st) t := XS.iloadN X.here hx rfl (hb hy hd) hl hr
theorem oIl (X : Stand p l e R s m args below meth c T locs cells slots) (hx : p.tables.exec = Jvm.exec) (hy : c.code = cd) {k : Nat} {v : Int32} (hd : decode cd pc = .ok (.iload k, 2)) (hl : ls[k]? = some (.val (.int v))) (hr : OwnS p e below T (mkF m (pc + 2) ls (.int v :: st)) t) : OwnS p e below T (mkF m pc ls st) t := XS.iload X.here hx rfl (hb hy hd) hl hr
theorem oAn (X : Stand p l e R s m args below meth c T locs cells slots) (hx : p.tables.exec = Jvm.exec) (hy : c.code = cd) {k : Fin 4} {v : Value} (hd : decode cd pc = .ok (.aload_n k, 1)) (hl : ls[k.val]? = some (.val v)) (hv : v.isRef = true) (hr : OwnS p e below T (mkF m (pc + 1) ls (v :: st)) t) : OwnS p e below T (mkF m pc ls st) t := XS.aloadN X.here hx rfl (hb hy hd) hl hv hr
theorem oAl (X : Stand p l e R s m args below meth c T locs cells slots) (hx : p.tables.exec = Jvm.exec) (hy : c.code = cd) {k : Nat} {v : Value} (hd : decode cd pc = .ok (.aload k, 2)) (hl : ls[k]? = some (.val v)) (hv : v.isRef = true) (hr : OwnS p e below T (mkF m (pc + 2) ls (v :: st)) t) : OwnS p e below T (mkF m pc ls st) t := XS.aload X.here hx rfl (hb hy hd) hl hv hr
theorem oIc (X : Stand p l e R s m args below meth c T locs cells slots) (hx : p.tables.exec = Jvm.exec) (hy : c.code = cd) {i : Int} (hd : decode cd pc = .ok (.iconst i, 1)) (hr : OwnS p e below T (mkF m (pc + 1) ls (.int (Int32.ofInt i) :: st)) t) : OwnS p e below T (mkF m pc ls st) t := XS.iconst X.here hx rfl (hb hy hd) hr
theorem oBp (X : Stand p l e R s m args below meth c T locs cells slots) (hx : p.tables.exec = Jvm.exec) (hy : c.code = cd) {i : Int} (hd : decode cd pc = .ok (.bipush i, 2)) (hr : OwnS p e below T (mkF m (pc + 2) ls (.int (Int8.ofInt i).toInt32 :: st)) t) : OwnS p e below T (mkF m pc ls st) t := XS.bipush X.here hx rfl (hb hy hd) hr
theorem oGo (X : Stand p l e R s m args below meth c T locs cells slots) (hx : p.tables.exec = Jvm.exec) (hy : c.code = cd) {o : Int} (a q : Nat) (hd : decode cd a = .ok (.goto o, 3)) (h1 : 0 ≤ (a : Int) + o) (h2 : ((a : Int) + o).toNat = q) (hr : OwnS p e below T (mkF m q ls st) t) : OwnS p e below T (mkF m a ls st) t := XS.goto X.here hx rfl (pc0 := a) (pc' := q) rfl (hb hy hd) h1 h2 hr
end
abbrev own_M (l : Launch) (Z : State) (y : MethodName) (cd : ByteArray) (ml : Nat) (rt : Option FieldType) (ws : List Jvm.Cond) (R : Room) (A : Array Value) (h0 : Heap) (Q : Option Value → Heap → List Loc → Prop) : Prop :=
  MetFree l y (head1 (Jvm.Cond.code y cd ml rt :: ws) R) (fun a U => a = A ∧ Z.Warmed39 U.vm ∧ U.heap = h0) (fun _ _ _ _ _ => True) (fun _ U o U' => ∃ v L, o = .returned v ∧ Q v U'.heap L ∧ FrameEnd U o U' L R.cells R.slots)
theorem own_in {l : Launch} {Z : State} {y : MethodName} {cd : ByteArray} {ml : Nat} {rt : Option FieldType} {ws : List Jvm.Cond} {R : Room} {A : Array Value} {h0 : Heap} {Q : Option Value → Heap → List Loc → Prop} (own : String) (hc : y.cls = own) (hp : plainFor y = true)
    (H : ∀ p e s m below meth c s₁, BodyLoose p l y (head1 (Jvm.Cond.code y cd ml rt :: ws) R) cd ml rt e s m A below meth c s₁ → c.maxLocals = ml → Z.Warmed39 s.vm → s.heap = h0 → p.tables.exec = Jvm.exec → c.code = cd → s.vm.findClass own = some m.cls → Stand p l e R s m A below meth c s₁ [] 0 0 → s₁.heap = h0 →
      ∃ s₂ o, Steps p.tables e below (s₁.setTop (entryFrame m A ml)) s₂ ∧ s₂.status = .running ∧ Ended s₂ below o ∧ ∃ v L, o = .returned v ∧ Q v s₂.heap L ∧ FrameEnd s o s₂ L R.cells R.slots) : own_M l Z y cd ml rt ws R A h0 Q := by
  refine MetFree.of_bodySF hp hisR ?_
  intro p e s m args below meth c s₁ Bd hml0 hP hK
  obtain ⟨rfl, hZ, hh⟩ := hP
  subst hc
  exact H p e s m below meth c s₁ Bd hml0 hZ hh Bd.exec Bd.bytes (findClass_of_methodNamed Bd.named) (Stand.of_body Bd) (by rw [← hh, Bd.state]; rfl)
theorem own_cS {p : Program} {l : Launch} {e : Env} {R : Room} {s : State} {m : MethodId} {args : Array Value} {below : List Frame} {meth : Method} {c : Code} {T : State} {locs : List Loc} {cells slots : Nat} {Z : State} {a0 : Array Value} {own : String} {index : Nat} {y : MethodName} {bytes : ByteArray} {maxL : Nat} {ret : Option FieldType} {rm : Room} {as' : Array Value} {h : Heap} {Q : Option Value → Heap → List Loc → Prop} (W : Nat)
    (hM : own_M l Z y bytes maxL ret [] rm as' h Q) (X : Stand p l e R s m args below meth c T locs cells slots) (hx : p.tables.exec = Jvm.exec) (hZ : Z.Warmed39 s.vm) (hown : s.vm.findClass own = some m.cls) (hw : own_HW a0 Z) (i1 i2 i3 i4 : Nat) (v1 : tables_1[i1]? = some (Jvm.Cond.methodLink own index y)) (v2 : tables_1[i2]? = some (Jvm.Cond.static y)) (v3 : tables_1[i3]? = some (Jvm.Cond.initialized y.cls)) (v4 : tables_1[i4]? = some (Jvm.Cond.code y bytes maxL ret))
    (pc : Nat) (ls : Array Slot) (argsL rest : List Value) (hdg : decode c.code pc = .ok (.invokestatic index, 3)) (hml : c.maxLocals = ls.size) (hlen : ∀ sig, parseMethodDescriptor y.desc = some sig → argsL.length = sig.parameters.length) (eT : T.heap = h) (has : argsL.toArray = as') (hW : (rest.map fun v => v.category).sum ≤ W)
    (hd : (y.cls ≠ "java/lang/invoke/MethodHandle" ∧ y.cls ≠ "java/lang/invoke/VarHandle") ∧ rm.frames + 1 ≤ R.frames ∧ W + (maxL + 11) + rm.locals ≤ R.locals ∧ cells + rm.cells ≤ R.cells ∧ slots + rm.slots ≤ R.slots) :
    ∃ (v : Option Value) (T' : State) (L : List Loc), Stand p l e R s m args below meth c T' (locs ++ L) (cells + rm.cells) (slots + rm.slots) ∧ Q v T'.heap L ∧ ∀ t, OwnS p e below T' (mkF m (pc + 3) ls (v.toList ++ rest)) t → OwnS p e below T (mkF m pc ls (argsL.reverse ++ rest)) t := by
  obtain ⟨v, vm₁, ⟨T', L', j, i⟩, -, X', ⟨L, hQ, l1, y1, z1⟩, st⟩ := Jvm.LawKit.callS X hx (y := y) hown (mvT hZ (own_at hw i1 v1)) (mvT hZ (own_at hw i2 v2)) (mvT hZ (own_at hw i3 v3)) (mvT hZ (own_at hw i4 v4)) hd.1 (backOf (W := W) hM hZ (own_at hw i4 v4) (own_at hw i3 v3) hd.2.1 hd.2.2.1) (g := (mkF m pc ls (argsL.reverse ++ rest))) rfl hml.symm (argsL := argsL) (rest := rest) hlen rfl (by simpa [mkF] using hW) hdg (fun _ _ => ⟨has, eT, hd.2.2.2⟩)
  dsimp only [Pt.U, Pt.locs, Pt.cells, Pt.slots] at X' l1 y1 z1 st hQ
  subst l1 y1 z1
  exact ⟨v, T', L, X', hQ, st⟩
theorem own_cV {p : Program} {l : Launch} {e : Env} {R : Room} {s : State} {m : MethodId} {args : Array Value} {below : List Frame} {meth : Method} {c : Code} {T : State} {locs : List Loc} {cells slots : Nat} {Z : State} {a0 : Array Value} {own : String} {index : Nat} {y : MethodName} {bytes : ByteArray} {maxL : Nat} {ret : Option FieldType} {rm : Room} {as' : Array Value} {h : Heap} {Q : Option Value → Heap → List Loc → Prop} (W : Nat)
    (hM : own_M l Z y bytes maxL ret [] rm as' h Q) (X : Stand p l e R s m args below meth c T locs cells slots) (hx : p.tables.exec = Jvm.exec) (hZ : Z.Warmed39 s.vm) (hown : s.vm.findClass own = some m.cls) (hw : own_HW a0 Z) (i1 i2 i5 i6 i3 i4 : Nat) (v1 : tables_1[i1]? = some (Jvm.Cond.methodLink own index y)) (v2 : tables_1[i2]? = some (Jvm.Cond.declares y)) (v5 : tables_1[i5]? = some (Jvm.Cond.selects y.cls y y)) (v6 : tables_1[i6]? = some (Jvm.Cond.instanceMethod y)) (v3 : tables_1[i3]? = some (Jvm.Cond.initialized y.cls)) (v4 : tables_1[i4]? = some (Jvm.Cond.code y bytes maxL ret))
    (o : Addr) (E : Exa Z h o y.cls) (pc : Nat) (ls : Array Slot) (argsL rest : List Value) (hdg : decode c.code pc = .ok (.invokevirtual index, 3)) (hml : c.maxLocals = ls.size) (hlen : ∀ sig, parseMethodDescriptor y.desc = some sig → argsL.length = sig.parameters.length) (eT : T.heap = h) (has : (.ref o :: argsL).toArray = as') (hW : (rest.map fun v => v.category).sum ≤ W)
    (hd : (y.cls ≠ "java/lang/invoke/MethodHandle" ∧ y.cls ≠ "java/lang/invoke/VarHandle") ∧ rm.frames + 1 ≤ R.frames ∧ W + (maxL + 11) + rm.locals ≤ R.locals ∧ cells + rm.cells ≤ R.cells ∧ slots + rm.slots ≤ R.slots) :
    ∃ (v : Option Value) (T' : State) (L : List Loc), Stand p l e R s m args below meth c T' (locs ++ L) (cells + rm.cells) (slots + rm.slots) ∧ Q v T'.heap L ∧ ∀ t, OwnS p e below T' (mkF m (pc + 3) ls (v.toList ++ rest)) t → OwnS p e below T (mkF m pc ls (argsL.reverse ++ .ref o :: rest)) t := by
  obtain ⟨cq, kq, qa, qb, qc⟩ := isOf hZ eT E
  obtain ⟨v, vm₁, ⟨T', L', j, i⟩, -, X', ⟨L, hQ, l1, y1, z1⟩, st⟩ := X.virtualBack hx (y := y) (z := y) hown (mvT hZ (own_at hw i1 v1)) (mvT hZ (own_at hw i2 v2)) (notFace_of_selects (args := #[]) (mvT hZ (own_at hw i5 v5))) (mvT hZ (own_at hw i5 v5)) (mvT hZ (own_at hw i6 v6)) hd.1 (backOf (W := W) hM hZ (own_at hw i4 v4) (own_at hw i3 v3) hd.2.1 hd.2.2.1) qa qc (g := (mkF m pc ls (argsL.reverse ++ .ref o :: rest))) rfl hml.symm (Steps.refl _) (argsL := argsL) (rest := rest) hlen rfl (by simpa [mkF] using hW) hdg (fun _ _ => ⟨has, eT, hd.2.2.2⟩)
  dsimp only [Pt.U, Pt.locs, Pt.cells, Pt.slots] at X' l1 y1 z1 st hQ
  subst l1 y1 z1
  exact ⟨v, T', L, X', hQ, fun t q => st.trans q⟩
theorem own_out {p : Program} {l : Launch} {e : Env} {R : Room} {s : State} {m : MethodId} {args : Array Value} {below : List Frame} {meth : Method} {c : Code} {T : State} {locs : List Loc} {cells slots : Nat} {s0 : State} {Q : Option Value → Heap → List Loc → Prop} {C D : Nat} (X : Stand p l e R s m args below meth c T locs cells slots) (hlk : meth.locks = false) {rt : Option FieldType} (hrt : meth.sig.returnType = rt) (v : Option Value) (hv : rt = none → v = none) (hc : cells ≤ C) (hs : slots ≤ D) (hQ : Q v T.heap locs)
    (K : ∀ fs, (∀ (f : JFrame) (acts : List Action), f.method = m → f.locked = none → f.entered = [] → (doReturn e (T.setTop f) acts v).1 = T.setFrames fs) → Steps p.tables e below s0 (T.setFrames fs)) :
    ∃ s₂ o, Steps p.tables e below s0 s₂ ∧ s₂.status = .running ∧ Ended s₂ below o ∧ ∃ v L, o = .returned v ∧ Q v s₂.heap L ∧ FrameEnd s o s₂ L C D := by
  obtain ⟨fs, hr, hrun, hended, hW, hsame⟩ := X.leave (v := v) (fun q => hv (hrt.symm.trans q)) hlk
  exact ⟨_, _, K fs hr, hrun, hended, _, _, rfl, hQ, ⟨_, rfl⟩, hW, hsame.mono hc hs⟩
theorem own_k {p : Program} {e : Env} {below : List Frame} {T : State} {f g : JFrame} (h : f = g) (t : State) (q : OwnS p e below T g t) : OwnS p e below T f t := castTop h q
theorem own_more {p : Program} {l : Launch} {e : Env} {R : Room} {s : State} {m : MethodId} {args : Array Value} {below : List Frame} {meth : Method} {c : Code} {T : State} {locs : List Loc} {cells slots cells' slots' : Nat} (X : Stand p l e R s m args below meth c T locs cells slots) (h1 : cells ≤ cells') (h2 : slots ≤ slots') : Stand p l e R s m args below meth c T locs cells' slots' := { X with same := X.same.mono h1 h2 }
def own_ch (x : Int32) : Prop := 0 ≤ x.toInt ∧ x.toInt < 65536
theorem own_chc (x : Int32) : own_ch x.toUInt32.toUInt16.toUInt32.toInt32 := (c_i2c x).2
theorem own_i2cid {x : Int32} (h : own_ch x) : x.toUInt32.toUInt16.toUInt32.toInt32 = x := by
  apply Int32.toInt_inj.mp
  have a := c_i2c x
  obtain ⟨h1, h2⟩ := h
  omega
theorem own_m255 (y : Int32) : (y &&& (255 : Int32)).toInt = y.toInt % 256 := by
  have := c_mask y 255 8 (by decide) (by decide)
  simpa using this
theorem own_latc {x : Int32} (h : own_ch x) (hl : ¬ ((255 : Int32) < x)) : (((((x.toInt8.toInt32).toInt8.toInt32) &&& (255 : Int32)).toUInt32.toUInt16.toUInt32.toInt32).toUInt32.toUInt16.toUInt32.toInt32) = x := by
  apply Int32.toInt_inj.mp
  have a1 := c_i2b x
  have a2 := c_i2b x.toInt8.toInt32
  have a3 := own_m255 x.toInt8.toInt32.toInt8.toInt32
  have a4 := c_i2c (x.toInt8.toInt32.toInt8.toInt32 &&& (255 : Int32))
  have a5 := c_i2c (x.toInt8.toInt32.toInt8.toInt32 &&& (255 : Int32)).toUInt32.toUInt16.toUInt32.toInt32
  rw [Int32.lt_iff_toInt_lt] at hl
  have e : (255 : Int32).toInt = 255 := by decide
  obtain ⟨h1, h2⟩ := h
  omega
theorem own_u16c {x : Int32} (h : own_ch x) : ((((((((x >>> ((0 : Int32) &&& 31)).toInt8.toInt32).toInt8.toInt32) &&& (255 : Int32)) <<< ((0 : Int32) &&& 31)) ||| (((((x >>> ((8 : Int32) &&& 31)).toInt8.toInt32).toInt8.toInt32) &&& (255 : Int32)) <<< ((8 : Int32) &&& 31))).toUInt32.toUInt16.toUInt32.toInt32).toUInt32.toUInt16.toUInt32.toInt32) = x := by
  apply Int32.toInt_inj.mp
  have b1 : (x >>> ((0 : Int32) &&& 31)).toInt = x.toInt / 1 := by have := c_ishr x 0 0 (by decide); simpa using this
  have b2 : (x >>> ((8 : Int32) &&& 31)).toInt = x.toInt / 256 := by have := c_ishr x 8 8 (by decide); simpa using this
  generalize (x >>> ((0 : Int32) &&& 31)) = lo at *
  generalize (x >>> ((8 : Int32) &&& 31)) = hi at *
  have a1 := c_i2b lo
  have a2 := c_i2b lo.toInt8.toInt32
  have a3 := own_m255 lo.toInt8.toInt32.toInt8.toInt32
  have a4 := c_i2b hi
  have a5 := c_i2b hi.toInt8.toInt32
  have a6 := own_m255 hi.toInt8.toInt32.toInt8.toInt32
  generalize (lo.toInt8.toInt32.toInt8.toInt32 &&& (255 : Int32)) = L at *
  generalize (hi.toInt8.toInt32.toInt8.toInt32 &&& (255 : Int32)) = H at *
  have s1 : ((L <<< ((0 : Int32) &&& 31)).toInt - L.toInt * 1) % 4294967296 = 0 := by have := c_ishl L 0 0 (by decide); simpa using this
  have s2 : ((H <<< ((8 : Int32) &&& 31)).toInt - H.toInt * 256) % 4294967296 = 0 := by have := c_ishl H 8 8 (by decide); simpa using this
  have r1 := rng32 (L <<< ((0 : Int32) &&& 31))
  have r2 := rng32 (H <<< ((8 : Int32) &&& 31))
  generalize (L <<< ((0 : Int32) &&& 31)) = A at *
  generalize (H <<< ((8 : Int32) &&& 31)) = B at *
  obtain ⟨h1, h2⟩ := h
  have o1 := c_or' A B 8 (by decide) 256 (by decide) (by omega) (by omega) (by omega)
  have r3 := rng32 (A ||| B)
  have o2 := c_i2c (A ||| B)
  have o3 := c_i2c (A ||| B).toUInt32.toUInt16.toUInt32.toInt32
  omega
def own_S1 (Z : State) (h : Heap) (o : Addr) (x0 : Int32) : Prop := Exa Z h o "java/lang/String" ∧ ((∃ (ar : Addr) (k : ClassId), Fld Z h o "java/lang/String" "coder" "B" (.int 0) ∧ Fld Z h o "java/lang/String" "value" "[B" (.ref ar) ∧ Arv Z h ar k .byte 1 [(.int ((x0.toInt8.toInt32).toInt8.toInt32))] (.int 0) ∧ ¬ ((255 : Int32) < x0)) ∨ (∃ (ar : Addr) (k : ClassId), Fld Z h o "java/lang/String" "coder" "B" (.int 1) ∧ Fld Z h o "java/lang/String" "value" "[B" (.ref ar) ∧ Arv Z h ar k .byte 2 [(.int (((x0 >>> ((0 : Int32) &&& 31)).toInt8.toInt32).toInt8.toInt32)), (.int (((x0 >>> ((8 : Int32) &&& 31)).toInt8.toInt32).toInt8.toInt32))] (.int 0)))
theorem own_S1_ext {Z : State} {h h' : Heap} {o : Addr} {x0 : Int32} (F : own_S1 Z h o x0) (E : Ext h h') : own_S1 Z h' o x0 := by
  obtain ⟨e, ⟨ar, k, a, b, c, r⟩ | ⟨ar, k, a, b, c⟩⟩ := F
  · exact ⟨(e.ext E), Or.inl ⟨ar, k, (a.ext E), (b.ext E), (c.ext E), r⟩⟩
  · exact ⟨(e.ext E), Or.inr ⟨ar, k, (a.ext E), (b.ext E), (c.ext E)⟩⟩
theorem own_S1_keep {Z : State} {h h' : Heap} {o : Addr} {x0 : Int32} (F : own_S1 Z h o x0) (K : Keep h h' []) : own_S1 Z h' o x0 := by
  obtain ⟨e, ⟨ar, k, a, b, c, r⟩ | ⟨ar, k, a, b, c⟩⟩ := F
  · exact ⟨(e.keep K), Or.inl ⟨ar, k, (a.keep K nin0), (b.keep K nin0), (c.keep K nin0), r⟩⟩
  · exact ⟨(e.keep K), Or.inr ⟨ar, k, (a.keep K nin0), (b.keep K nin0), (c.keep K nin0)⟩⟩
def own_S2 (Z : State) (h : Heap) (o : Addr) (x0 x1 : Int32) : Prop := Exa Z h o "java/lang/String" ∧ ((∃ (ar : Addr) (k : ClassId), Fld Z h o "java/lang/String" "coder" "B" (.int 0) ∧ Fld Z h o "java/lang/String" "value" "[B" (.ref ar) ∧ Arv Z h ar k .byte 2 [(.int ((x0.toInt8.toInt32).toInt8.toInt32)), (.int ((x1.toInt8.toInt32).toInt8.toInt32))] (.int 0) ∧ ¬ ((255 : Int32) < x0) ∧ ¬ ((255 : Int32) < x1)) ∨ (∃ (ar : Addr) (k : ClassId), Fld Z h o "java/lang/String" "coder" "B" (.int 1) ∧ Fld Z h o "java/lang/String" "value" "[B" (.ref ar) ∧ Arv Z h ar k .byte 4 [(.int (((x0 >>> ((0 : Int32) &&& 31)).toInt8.toInt32).toInt8.toInt32)), (.int (((x0 >>> ((8 : Int32) &&& 31)).toInt8.toInt32).toInt8.toInt32)), (.int (((x1 >>> ((0 : Int32) &&& 31)).toInt8.toInt32).toInt8.toInt32)), (.int (((x1 >>> ((8 : Int32) &&& 31)).toInt8.toInt32).toInt8.toInt32))] (.int 0)))
theorem own_S2_ext {Z : State} {h h' : Heap} {o : Addr} {x0 x1 : Int32} (F : own_S2 Z h o x0 x1) (E : Ext h h') : own_S2 Z h' o x0 x1 := by
  obtain ⟨e, ⟨ar, k, a, b, c, r⟩ | ⟨ar, k, a, b, c⟩⟩ := F
  · exact ⟨(e.ext E), Or.inl ⟨ar, k, (a.ext E), (b.ext E), (c.ext E), r⟩⟩
  · exact ⟨(e.ext E), Or.inr ⟨ar, k, (a.ext E), (b.ext E), (c.ext E)⟩⟩
theorem own_S2_keep {Z : State} {h h' : Heap} {o : Addr} {x0 x1 : Int32} (F : own_S2 Z h o x0 x1) (K : Keep h h' []) : own_S2 Z h' o x0 x1 := by
  obtain ⟨e, ⟨ar, k, a, b, c, r⟩ | ⟨ar, k, a, b, c⟩⟩ := F
  · exact ⟨(e.keep K), Or.inl ⟨ar, k, (a.keep K nin0), (b.keep K nin0), (c.keep K nin0), r⟩⟩
  · exact ⟨(e.keep K), Or.inr ⟨ar, k, (a.keep K nin0), (b.keep K nin0), (c.keep K nin0)⟩⟩
def own_S3 (Z : State) (h : Heap) (o : Addr) (x0 x1 x2 : Int32) : Prop := Exa Z h o "java/lang/String" ∧ ((∃ (ar : Addr) (k : ClassId), Fld Z h o "java/lang/String" "coder" "B" (.int 0) ∧ Fld Z h o "java/lang/String" "value" "[B" (.ref ar) ∧ Arv Z h ar k .byte 3 [(.int ((x0.toInt8.toInt32).toInt8.toInt32)), (.int ((x1.toInt8.toInt32).toInt8.toInt32)), (.int ((x2.toInt8.toInt32).toInt8.toInt32))] (.int 0) ∧ ¬ ((255 : Int32) < x0) ∧ ¬ ((255 : Int32) < x1) ∧ ¬ ((255 : Int32) < x2)) ∨ (∃ (ar : Addr) (k : ClassId), Fld Z h o "java/lang/String" "coder" "B" (.int 1) ∧ Fld Z h o "java/lang/String" "value" "[B" (.ref ar) ∧ Arv Z h ar k .byte 6 [(.int (((x0 >>> ((0 : Int32) &&& 31)).toInt8.toInt32).toInt8.toInt32)), (.int (((x0 >>> ((8 : Int32) &&& 31)).toInt8.toInt32).toInt8.toInt32)), (.int (((x1 >>> ((0 : Int32) &&& 31)).toInt8.toInt32).toInt8.toInt32)), (.int (((x1 >>> ((8 : Int32) &&& 31)).toInt8.toInt32).toInt8.toInt32)), (.int (((x2 >>> ((0 : Int32) &&& 31)).toInt8.toInt32).toInt8.toInt32)), (.int (((x2 >>> ((8 : Int32) &&& 31)).toInt8.toInt32).toInt8.toInt32))] (.int 0)))
theorem own_S3_ext {Z : State} {h h' : Heap} {o : Addr} {x0 x1 x2 : Int32} (F : own_S3 Z h o x0 x1 x2) (E : Ext h h') : own_S3 Z h' o x0 x1 x2 := by
  obtain ⟨e, ⟨ar, k, a, b, c, r⟩ | ⟨ar, k, a, b, c⟩⟩ := F
  · exact ⟨(e.ext E), Or.inl ⟨ar, k, (a.ext E), (b.ext E), (c.ext E), r⟩⟩
  · exact ⟨(e.ext E), Or.inr ⟨ar, k, (a.ext E), (b.ext E), (c.ext E)⟩⟩
theorem own_S3_keep {Z : State} {h h' : Heap} {o : Addr} {x0 x1 x2 : Int32} (F : own_S3 Z h o x0 x1 x2) (K : Keep h h' []) : own_S3 Z h' o x0 x1 x2 := by
  obtain ⟨e, ⟨ar, k, a, b, c, r⟩ | ⟨ar, k, a, b, c⟩⟩ := F
  · exact ⟨(e.keep K), Or.inl ⟨ar, k, (a.keep K nin0), (b.keep K nin0), (c.keep K nin0), r⟩⟩
  · exact ⟨(e.keep K), Or.inr ⟨ar, k, (a.keep K nin0), (b.keep K nin0), (c.keep K nin0)⟩⟩
def own_S4 (Z : State) (h : Heap) (o : Addr) (x0 x1 x2 x3 : Int32) : Prop := Exa Z h o "java/lang/String" ∧ ((∃ (ar : Addr) (k : ClassId), Fld Z h o "java/lang/String" "coder" "B" (.int 0) ∧ Fld Z h o "java/lang/String" "value" "[B" (.ref ar) ∧ Arv Z h ar k .byte 4 [(.int ((x0.toInt8.toInt32).toInt8.toInt32)), (.int ((x1.toInt8.toInt32).toInt8.toInt32)), (.int ((x2.toInt8.toInt32).toInt8.toInt32)), (.int ((x3.toInt8.toInt32).toInt8.toInt32))] (.int 0) ∧ ¬ ((255 : Int32) < x0) ∧ ¬ ((255 : Int32) < x1) ∧ ¬ ((255 : Int32) < x2) ∧ ¬ ((255 : Int32) < x3)) ∨ (∃ (ar : Addr) (k : ClassId), Fld Z h o "java/lang/String" "coder" "B" (.int 1) ∧ Fld Z h o "java/lang/String" "value" "[B" (.ref ar) ∧ Arv Z h ar k .byte 8 [(.int (((x0 >>> ((0 : Int32) &&& 31)).toInt8.toInt32).toInt8.toInt32)), (.int (((x0 >>> ((8 : Int32) &&& 31)).toInt8.toInt32).toInt8.toInt32)), (.int (((x1 >>> ((0 : Int32) &&& 31)).toInt8.toInt32).toInt8.toInt32)), (.int (((x1 >>> ((8 : Int32) &&& 31)).toInt8.toInt32).toInt8.toInt32)), (.int (((x2 >>> ((0 : Int32) &&& 31)).toInt8.toInt32).toInt8.toInt32)), (.int (((x2 >>> ((8 : Int32) &&& 31)).toInt8.toInt32).toInt8.toInt32)), (.int (((x3 >>> ((0 : Int32) &&& 31)).toInt8.toInt32).toInt8.toInt32)), (.int (((x3 >>> ((8 : Int32) &&& 31)).toInt8.toInt32).toInt8.toInt32))] (.int 0)))
theorem own_S4_ext {Z : State} {h h' : Heap} {o : Addr} {x0 x1 x2 x3 : Int32} (F : own_S4 Z h o x0 x1 x2 x3) (E : Ext h h') : own_S4 Z h' o x0 x1 x2 x3 := by
  obtain ⟨e, ⟨ar, k, a, b, c, r⟩ | ⟨ar, k, a, b, c⟩⟩ := F
  · exact ⟨(e.ext E), Or.inl ⟨ar, k, (a.ext E), (b.ext E), (c.ext E), r⟩⟩
  · exact ⟨(e.ext E), Or.inr ⟨ar, k, (a.ext E), (b.ext E), (c.ext E)⟩⟩
theorem own_S4_keep {Z : State} {h h' : Heap} {o : Addr} {x0 x1 x2 x3 : Int32} (F : own_S4 Z h o x0 x1 x2 x3) (K : Keep h h' []) : own_S4 Z h' o x0 x1 x2 x3 := by
  obtain ⟨e, ⟨ar, k, a, b, c, r⟩ | ⟨ar, k, a, b, c⟩⟩ := F
  · exact ⟨(e.keep K), Or.inl ⟨ar, k, (a.keep K nin0), (b.keep K nin0), (c.keep K nin0), r⟩⟩
  · exact ⟨(e.keep K), Or.inr ⟨ar, k, (a.keep K nin0), (b.keep K nin0), (c.keep K nin0)⟩⟩
def own_sp (c : Int32) : Bool := decide (c = (32 : Int32)) || decide (c = (9 : Int32))
def own_sk1_1 (x0 : Int32) : Int32 := 1
def own_sk1_0 (x0 : Int32) : Int32 := if own_sp x0 = true then own_sk1_1 x0 else 0
theorem own_kc1_0 (x0 : Int32) : (own_sp x0 = false ∧ own_sk1_0 x0 = (0 : Int32)) ∨ (own_sp x0 = true ∧ own_sk1_0 x0 = (1 : Int32)) := by
  unfold own_sk1_0 own_sk1_1
  cases own_sp x0 <;> simp
theorem own_kc1_1 (x0 : Int32) : (own_sk1_1 x0 = (1 : Int32)) := by
  unfold own_sk1_1
  rfl
def own_sk2_2 (x0 x1 : Int32) : Int32 := 2
def own_sk2_1 (x0 x1 : Int32) : Int32 := if own_sp x1 = true then own_sk2_2 x0 x1 else 1
def own_sk2_0 (x0 x1 : Int32) : Int32 := if own_sp x0 = true then own_sk2_1 x0 x1 else 0
theorem own_kc2_0 (x0 x1 : Int32) : (own_sp x0 = false ∧ own_sk2_0 x0 x1 = (0 : Int32)) ∨ (own_sp x0 = true ∧ own_sp x1 = false ∧ own_sk2_0 x0 x1 = (1 : Int32)) ∨ (own_sp x0 = true ∧ own_sp x1 = true ∧ own_sk2_0 x0 x1 = (2 : Int32)) := by
  unfold own_sk2_0 own_sk2_1 own_sk2_2
  cases own_sp x0 <;> cases own_sp x1 <;> simp
theorem own_kc2_1 (x0 x1 : Int32) : (own_sp x1 = false ∧ own_sk2_1 x0 x1 = (1 : Int32)) ∨ (own_sp x1 = true ∧ own_sk2_1 x0 x1 = (2 : Int32)) := by
  unfold own_sk2_1 own_sk2_2
  cases own_sp x1 <;> simp
theorem own_kc2_2 (x0 x1 : Int32) : (own_sk2_2 x0 x1 = (2 : Int32)) := by
  unfold own_sk2_2
  rfl
def own_sk3_3 (x0 x1 x2 : Int32) : Int32 := 3
def own_sk3_2 (x0 x1 x2 : Int32) : Int32 := if own_sp x2 = true then own_sk3_3 x0 x1 x2 else 2
def own_sk3_1 (x0 x1 x2 : Int32) : Int32 := if own_sp x1 = true then own_sk3_2 x0 x1 x2 else 1
def own_sk3_0 (x0 x1 x2 : Int32) : Int32 := if own_sp x0 = true then own_sk3_1 x0 x1 x2 else 0
theorem own_kc3_0 (x0 x1 x2 : Int32) : (own_sp x0 = false ∧ own_sk3_0 x0 x1 x2 = (0 : Int32)) ∨ (own_sp x0 = true ∧ own_sp x1 = false ∧ own_sk3_0 x0 x1 x2 = (1 : Int32)) ∨ (own_sp x0 = true ∧ own_sp x1 = true ∧ own_sp x2 = false ∧ own_sk3_0 x0 x1 x2 = (2 : Int32)) ∨ (own_sp x0 = true ∧ own_sp x1 = true ∧ own_sp x2 = true ∧ own_sk3_0 x0 x1 x2 = (3 : Int32)) := by
  unfold own_sk3_0 own_sk3_1 own_sk3_2 own_sk3_3
  cases own_sp x0 <;> cases own_sp x1 <;> cases own_sp x2 <;> simp
theorem own_kc3_1 (x0 x1 x2 : Int32) : (own_sp x1 = false ∧ own_sk3_1 x0 x1 x2 = (1 : Int32)) ∨ (own_sp x1 = true ∧ own_sp x2 = false ∧ own_sk3_1 x0 x1 x2 = (2 : Int32)) ∨ (own_sp x1 = true ∧ own_sp x2 = true ∧ own_sk3_1 x0 x1 x2 = (3 : Int32)) := by
  unfold own_sk3_1 own_sk3_2 own_sk3_3
  cases own_sp x1 <;> cases own_sp x2 <;> simp
theorem own_kc3_2 (x0 x1 x2 : Int32) : (own_sp x2 = false ∧ own_sk3_2 x0 x1 x2 = (2 : Int32)) ∨ (own_sp x2 = true ∧ own_sk3_2 x0 x1 x2 = (3 : Int32)) := by
  unfold own_sk3_2 own_sk3_3
  cases own_sp x2 <;> simp
theorem own_kc3_3 (x0 x1 x2 : Int32) : (own_sk3_3 x0 x1 x2 = (3 : Int32)) := by
  unfold own_sk3_3
  rfl
def own_sk4_4 (x0 x1 x2 x3 : Int32) : Int32 := 4
def own_sk4_3 (x0 x1 x2 x3 : Int32) : Int32 := if own_sp x3 = true then own_sk4_4 x0 x1 x2 x3 else 3
def own_sk4_2 (x0 x1 x2 x3 : Int32) : Int32 := if own_sp x2 = true then own_sk4_3 x0 x1 x2 x3 else 2
def own_sk4_1 (x0 x1 x2 x3 : Int32) : Int32 := if own_sp x1 = true then own_sk4_2 x0 x1 x2 x3 else 1
def own_sk4_0 (x0 x1 x2 x3 : Int32) : Int32 := if own_sp x0 = true then own_sk4_1 x0 x1 x2 x3 else 0
theorem own_kc4_0 (x0 x1 x2 x3 : Int32) : (own_sp x0 = false ∧ own_sk4_0 x0 x1 x2 x3 = (0 : Int32)) ∨ (own_sp x0 = true ∧ own_sp x1 = false ∧ own_sk4_0 x0 x1 x2 x3 = (1 : Int32)) ∨ (own_sp x0 = true ∧ own_sp x1 = true ∧ own_sp x2 = false ∧ own_sk4_0 x0 x1 x2 x3 = (2 : Int32)) ∨ (own_sp x0 = true ∧ own_sp x1 = true ∧ own_sp x2 = true ∧ own_sp x3 = false ∧ own_sk4_0 x0 x1 x2 x3 = (3 : Int32)) ∨ (own_sp x0 = true ∧ own_sp x1 = true ∧ own_sp x2 = true ∧ own_sp x3 = true ∧ own_sk4_0 x0 x1 x2 x3 = (4 : Int32)) := by
  unfold own_sk4_0 own_sk4_1 own_sk4_2 own_sk4_3 own_sk4_4
  cases own_sp x0 <;> cases own_sp x1 <;> cases own_sp x2 <;> cases own_sp x3 <;> simp
theorem own_kc4_1 (x0 x1 x2 x3 : Int32) : (own_sp x1 = false ∧ own_sk4_1 x0 x1 x2 x3 = (1 : Int32)) ∨ (own_sp x1 = true ∧ own_sp x2 = false ∧ own_sk4_1 x0 x1 x2 x3 = (2 : Int32)) ∨ (own_sp x1 = true ∧ own_sp x2 = true ∧ own_sp x3 = false ∧ own_sk4_1 x0 x1 x2 x3 = (3 : Int32)) ∨ (own_sp x1 = true ∧ own_sp x2 = true ∧ own_sp x3 = true ∧ own_sk4_1 x0 x1 x2 x3 = (4 : Int32)) := by
  unfold own_sk4_1 own_sk4_2 own_sk4_3 own_sk4_4
  cases own_sp x1 <;> cases own_sp x2 <;> cases own_sp x3 <;> simp
theorem own_kc4_2 (x0 x1 x2 x3 : Int32) : (own_sp x2 = false ∧ own_sk4_2 x0 x1 x2 x3 = (2 : Int32)) ∨ (own_sp x2 = true ∧ own_sp x3 = false ∧ own_sk4_2 x0 x1 x2 x3 = (3 : Int32)) ∨ (own_sp x2 = true ∧ own_sp x3 = true ∧ own_sk4_2 x0 x1 x2 x3 = (4 : Int32)) := by
  unfold own_sk4_2 own_sk4_3 own_sk4_4
  cases own_sp x2 <;> cases own_sp x3 <;> simp
theorem own_kc4_3 (x0 x1 x2 x3 : Int32) : (own_sp x3 = false ∧ own_sk4_3 x0 x1 x2 x3 = (3 : Int32)) ∨ (own_sp x3 = true ∧ own_sk4_3 x0 x1 x2 x3 = (4 : Int32)) := by
  unfold own_sk4_3 own_sk4_4
  cases own_sp x3 <;> simp
theorem own_kc4_4 (x0 x1 x2 x3 : Int32) : (own_sk4_4 x0 x1 x2 x3 = (4 : Int32)) := by
  unfold own_sk4_4
  rfl
def own_ok (i f r c : Int32) : Bool := decide (i < f) || decide (¬ (i < r)) || own_sp c
theorem own_ok1 {i f r c : Int32} (h : i < f) : own_ok i f r c = true := by simp [own_ok, h]
theorem own_ok2 {i f r c : Int32} (h : ¬ (i < r)) : own_ok i f r c = true := by simp only [own_ok, h]; simp
theorem own_ok4 {i f r c : Int32} (h : own_sp c = true) : own_ok i f r c = true := by simp [own_ok, h]
theorem own_ok3 {i f r c : Int32} (h : own_ok i f r c = true) (a : ¬ (i < f)) (b : i < r) : own_sp c = true := by
  unfold own_ok at h
  rw [Bool.or_eq_true, Bool.or_eq_true, decide_eq_true_eq, decide_eq_true_eq] at h
  rcases h with (h | h) | h
  · exact absurd h a
  · exact absurd b h
  · exact h
theorem own_sp_iff (c : Int32) : own_sp c = true ↔ c = (32 : Int32) ∨ c = (9 : Int32) := by simp [own_sp]
theorem own_sp1 {c : Int32} (h : own_sp c = true) (a : ¬ (c = (32 : Int32))) : c = (9 : Int32) := ((own_sp_iff c).mp h).resolve_left a
theorem own_sp2 {c : Int32} (h : own_sp c = false) : ¬ (c = (32 : Int32)) := fun q => by rw [(own_sp_iff c).mpr (Or.inl q)] at h; cases h
theorem own_sp3 {c : Int32} (h : own_sp c = false) : ¬ (c = (9 : Int32)) := fun q => by rw [(own_sp_iff c).mpr (Or.inr q)] at h; cases h

theorem own_m7 (p : Int32) : (p &&& (7 : Int32)) % (5 : Int32) = (0 : Int32) ∨ (p &&& (7 : Int32)) % (5 : Int32) = (1 : Int32) ∨ (p &&& (7 : Int32)) % (5 : Int32) = (2 : Int32) ∨ (p &&& (7 : Int32)) % (5 : Int32) = (3 : Int32) ∨ (p &&& (7 : Int32)) % (5 : Int32) = (4 : Int32) := by
  have h := (c_irem (p &&& 7) 5 5 rfl).1 (c_and p 7 (by decide)).1
  have h2 : ((p &&& (7 : Int32)) % (5 : Int32)).toInt = 0 ∨ ((p &&& (7 : Int32)) % (5 : Int32)).toInt = 1 ∨ ((p &&& (7 : Int32)) % (5 : Int32)).toInt = 2 ∨ ((p &&& (7 : Int32)) % (5 : Int32)).toInt = 3 ∨ ((p &&& (7 : Int32)) % (5 : Int32)).toInt = 4 := by omega
  rcases h2 with q | q | q | q | q
  · exact Or.inl (Int32.toInt_inj.mp q)
  · exact Or.inr (Or.inl (Int32.toInt_inj.mp q))
  · exact Or.inr (Or.inr (Or.inl (Int32.toInt_inj.mp q)))
  · exact Or.inr (Or.inr (Or.inr (Or.inl (Int32.toInt_inj.mp q))))
  · exact Or.inr (Or.inr (Or.inr (Or.inr ((Int32.toInt_inj.mp q)))))
theorem own_mod1 (p : Int32) : (p &&& (2147483647 : Int32)) % (1 : Int32) = (0 : Int32) := by
  have h := (c_irem (p &&& 2147483647) 1 1 rfl).1 (c_and p 2147483647 (by decide)).1
  have e : (0 : Int32).toInt = 0 := by decide
  exact Int32.toInt_inj.mp (by omega)
theorem own_mod2 (p : Int32) : (p &&& (2147483647 : Int32)) % (2 : Int32) = (0 : Int32) ∨ (p &&& (2147483647 : Int32)) % (2 : Int32) = (1 : Int32) := by
  have h := (c_irem (p &&& 2147483647) 2 2 rfl).1 (c_and p 2147483647 (by decide)).1
  have h2 : ((p &&& (2147483647 : Int32)) % (2 : Int32)).toInt = 0 ∨ ((p &&& (2147483647 : Int32)) % (2 : Int32)).toInt = 1 := by omega
  rcases h2 with q | q
  · exact Or.inl (Int32.toInt_inj.mp q)
  · exact Or.inr ((Int32.toInt_inj.mp q))
theorem own_mod3 (p : Int32) : (p &&& (2147483647 : Int32)) % (3 : Int32) = (0 : Int32) ∨ (p &&& (2147483647 : Int32)) % (3 : Int32) = (1 : Int32) ∨ (p &&& (2147483647 : Int32)) % (3 : Int32) = (2 : Int32) := by
  have h := (c_irem (p &&& 2147483647) 3 3 rfl).1 (c_and p 2147483647 (by decide)).1
  have h2 : ((p &&& (2147483647 : Int32)) % (3 : Int32)).toInt = 0 ∨ ((p &&& (2147483647 : Int32)) % (3 : Int32)).toInt = 1 ∨ ((p &&& (2147483647 : Int32)) % (3 : Int32)).toInt = 2 := by omega
  rcases h2 with q | q | q
  · exact Or.inl (Int32.toInt_inj.mp q)
  · exact Or.inr (Or.inl (Int32.toInt_inj.mp q))
  · exact Or.inr (Or.inr ((Int32.toInt_inj.mp q)))
theorem own_mod4 (p : Int32) : (p &&& (2147483647 : Int32)) % (4 : Int32) = (0 : Int32) ∨ (p &&& (2147483647 : Int32)) % (4 : Int32) = (1 : Int32) ∨ (p &&& (2147483647 : Int32)) % (4 : Int32) = (2 : Int32) ∨ (p &&& (2147483647 : Int32)) % (4 : Int32) = (3 : Int32) := by
  have h := (c_irem (p &&& 2147483647) 4 4 rfl).1 (c_and p 2147483647 (by decide)).1
  have h2 : ((p &&& (2147483647 : Int32)) % (4 : Int32)).toInt = 0 ∨ ((p &&& (2147483647 : Int32)) % (4 : Int32)).toInt = 1 ∨ ((p &&& (2147483647 : Int32)) % (4 : Int32)).toInt = 2 ∨ ((p &&& (2147483647 : Int32)) % (4 : Int32)).toInt = 3 := by omega
  rcases h2 with q | q | q | q
  · exact Or.inl (Int32.toInt_inj.mp q)
  · exact Or.inr (Or.inl (Int32.toInt_inj.mp q))
  · exact Or.inr (Or.inr (Or.inl (Int32.toInt_inj.mp q)))
  · exact Or.inr (Or.inr (Or.inr ((Int32.toInt_inj.mp q))))
theorem own_mod5 (p : Int32) : (p &&& (2147483647 : Int32)) % (5 : Int32) = (0 : Int32) ∨ (p &&& (2147483647 : Int32)) % (5 : Int32) = (1 : Int32) ∨ (p &&& (2147483647 : Int32)) % (5 : Int32) = (2 : Int32) ∨ (p &&& (2147483647 : Int32)) % (5 : Int32) = (3 : Int32) ∨ (p &&& (2147483647 : Int32)) % (5 : Int32) = (4 : Int32) := by
  have h := (c_irem (p &&& 2147483647) 5 5 rfl).1 (c_and p 2147483647 (by decide)).1
  have h2 : ((p &&& (2147483647 : Int32)) % (5 : Int32)).toInt = 0 ∨ ((p &&& (2147483647 : Int32)) % (5 : Int32)).toInt = 1 ∨ ((p &&& (2147483647 : Int32)) % (5 : Int32)).toInt = 2 ∨ ((p &&& (2147483647 : Int32)) % (5 : Int32)).toInt = 3 ∨ ((p &&& (2147483647 : Int32)) % (5 : Int32)).toInt = 4 := by omega
  rcases h2 with q | q | q | q | q
  · exact Or.inl (Int32.toInt_inj.mp q)
  · exact Or.inr (Or.inl (Int32.toInt_inj.mp q))
  · exact Or.inr (Or.inr (Or.inl (Int32.toInt_inj.mp q)))
  · exact Or.inr (Or.inr (Or.inr (Or.inl (Int32.toInt_inj.mp q))))
  · exact Or.inr (Or.inr (Or.inr (Or.inr ((Int32.toInt_inj.mp q)))))
def own_EL : List (String × Nat) := [("java/lang/String", 7)]
theorem own_mem0 : ("java/lang/String", 7) ∈ own_EL := List.mem_of_getElem? (i := 0) rfl
theorem own_ew {Z : State} {a0 : Array Value} (hw : ∀ d ∈ tables_1, d.before a0 Z = true) : EW Z a0 own_EL := EW.cons (own_at hw 23 rfl) (by decide) (EW.nil)
theorem own_ws {Z : State} {a0 : Array Value} (hw : ∀ d ∈ tables_1, d.before a0 Z = true) : ∀ a ∈ Bundle.stringAtoms, a.before a0 Z = true := by
  intro d hd
  simp only [Bundle.stringAtoms, List.mem_cons, List.not_mem_nil, or_false] at hd
  rcases hd with rfl | rfl | rfl | rfl | rfl | rfl | rfl
  · exact own_at hw 12 rfl
  · exact own_at hw 11 rfl
  · exact own_at hw 24 rfl
  · exact own_at hw 25 rfl
  · exact own_at hw 26 rfl
  · exact own_at hw 27 rfl
  · exact own_at hw 28 rfl
theorem own_elc : ∀ p ∈ own_EL, p ∈ consts_1 := by decide
theorem own_safe_null {Z : State} {vm : Vm} {h : Heap} {x : Addr} {EL : List (String × Nat)} (hal : Z.vm.Alike vm) (E : Exa Z h x "java/lang/String") (F : Fld Z h x "java/lang/String" "value" "[B" .null) : Safe Z EL vm h x := fun B => by
  obtain ⟨p, hp, u, a, hB, q, hqa, G, hx⟩ := B
  obtain ⟨cS, ⟨⟨s1, s2, s3, ⟨cv, kv, iv, s4, s4'⟩, s5, s6, s7, s8, s9, s10, r⟩, hfS, hcS⟩, k, hBB, hbyt⟩ := G
  rcases hx with rfl | rfl
  · obtain ⟨cell, cf, k2, i, f, h1, h2, -, -, -, -, h7⟩ := F
    obtain ⟨kv', z4⟩ := ff_back (U := Wst Z vm h) hal s4
    cases h2.symm.trans z4
    cases h1.symm.trans (show h[q.sa]? = some q.sC from s1)
    cases h7.symm.trans s8
  · obtain ⟨cell, k2, h1, h2, -⟩ := E
    cases h1.symm.trans (show h[q.sd]? = some q.SA from s10)
    have e1 : Z.vm.findClass "[B" = some q.SA.cls := by rw [← hal.findClass]; exact hBB
    obtain ⟨k3, a1, a2⟩ := Vm.findClass_spec h2
    obtain ⟨k4, b1, b2⟩ := Vm.findClass_spec e1
    cases a1.symm.trans b1
    have := a2.symm.trans b2
    revert this; decide
theorem own_ncs {args : Array Value} {s : State} {w : Int32} (ev : (Term.static "java/lang/String" "COMPACT_STRINGS" "Z").eval args s none [] s = some (.int w)) (h : Jvm.Lit.compactW.before args s = true) : ¬ (w = (0 : Int32)) := by
  intro q
  subst q
  have h2 := not_v (Cond.before_iff.mp h)
  rw [eq_i ev (Term.int_eval (0 : Int32)) rfl] at h2
  cases h2
abbrev cS0 : String := "java/lang/StringUTF16"
abbrev cS1 : String := "java/lang/String"
abbrev cS2 : String := "jdk/internal/util/Preconditions"
abbrev cS3 : String := "Ljava/util/function/BiFunction;"
abbrev cS4 : String := "com/example/strict_lock/strictlock/IfHeader"
abbrev cS5 : String := "$assertionsDisabled"
abbrev cS6 : String := "com/example/strict_lock/strictlock/IfHeaderSkipSpacePinLaw"
abbrev cS7 : String := "HI_BYTE_SHIFT"
abbrev cS8 : String := "LO_BYTE_SHIFT"
abbrev cS9 : String := "SIOOBE_FORMATTER"
abbrev cS10 : String := "COMPACT_STRINGS"
abbrev cS12 : String := "java/lang/StringLatin1"
theorem d17_0 : decode jdk_41_method_11_code 0 = .ok (.iload_n 0, 1) := by decide +kernel
theorem d17_1 : decode jdk_41_method_11_code 1 = .ok (.ifCond .lt 8, 3) := by decide +kernel
theorem d17_4 : decode jdk_41_method_11_code 4 = .ok (.iload_n 0, 1) := by decide +kernel
theorem d17_5 : decode jdk_41_method_11_code 5 = .ok (.iload_n 1, 1) := by decide +kernel
theorem d17_6 : decode jdk_41_method_11_code 6 = .ok (.if_icmp .lt 10, 3) := by decide +kernel
theorem d17_16 : decode jdk_41_method_11_code 16 = .ok (.iload_n 0, 1) := by decide +kernel
theorem d17_17 : decode jdk_41_method_11_code 17 = .ok (.ireturn, 1) := by decide +kernel
theorem pn_jdk_internal_util_Preconditions : plainName cS2 = true := by first | (simp [plainName, overriddenIn]; done) | decide +kernel
theorem ef_17n3 (m : MethodId) (x0 : Int32) (x1 : Int32) : entryFrame m #[(.int x0), (.int x1), .null] 3 = mkF m 0 #[.val (.int x0), .val (.int x1), .val .null] [] := by first | (simp [entryFrame, mkF, argsToLocals, Value.category]; done) | rfl
def Q_Pn (Z : State) (p0 p1 : Int32) (h0 : Heap) (n0 : Nat) (v : Option Value) (h : Heap) (L : List Loc) : Prop := v = some (.int p0) ∧ Fr n0 L ∧ h = h0
theorem rmPn (l : Launch) (Z : State) (a0 : Array Value) (hw : own_HW a0 Z) (ws : List Jvm.Cond) (p0 p1 : Int32) (h0 : Heap) (n0 : Nat) (Z0 : n0 ≤ h0.size) (hge : ¬ (p0 < (0 : Int32))) (hlt : p0 < p1) :
    own_M l Z (⟨cS2, "checkIndex", "(IILjava/util/function/BiFunction;)I"⟩ : MethodName) jdk_41_method_11_code 3 (some .int) ws ({ frames := 0, cells := 0, slots := 0, locals := 0 } : Room) #[(.int p0), (.int p1), .null] h0 (Q_Pn Z p0 p1 h0 n0) := by
  refine own_in cS2 rfl (plainFor_of_name pn_jdk_internal_util_Preconditions) ?_
  intro p e s m below meth c s₁ Bd hml hZ hh hx hby hown X0 e0
  have N0 := Fr.nil n0
  have k0 := own_k (p := p) (e := e) (below := below) (T := s₁) (ef_17n3 m p0 p1)
  refine own_out X0 Bd.notSynchronized Bd.returns (some (.int p0)) nofun (by decide) (by decide) ?_ fun fs hr => k0 _ ?_
  · rw [e0]; exact ⟨rfl, N0, rfl⟩
  · show OwnS p e below s₁ (mkF m 0 #[iv p0, iv p1, .val .null] []) _
    refine oIn X0 hx hby d17_0 rfl ?_
    refine XS.ifNo X0.here hx rfl (hb hby d17_1) rfl ((if0 _ _).trans (flt hge).1) ?_
    refine oIn X0 hx hby d17_4 rfl (oIn X0 hx hby d17_5 rfl ?_)
    refine XS.icmpYes X0.here hx rfl (pc0 := 6) (pc' := 16) rfl (hb hby d17_6) rfl (tlt hlt).1 (by decide) (by decide) ?_
    refine oIn X0 hx hby d17_16 rfl ?_
    exact retI X0 hx Bd.returns (hb hby d17_17) hr
theorem ef_17 (m : MethodId) (x0 : Int32) (x1 : Int32) (x2 : Addr) : entryFrame m #[(.int x0), (.int x1), (.ref x2)] 3 = mkF m 0 #[.val (.int x0), .val (.int x1), .val (.ref x2)] [] := by first | (simp [entryFrame, mkF, argsToLocals, Value.category]; done) | rfl
def Q_Pr (Z : State) (p0 p1 : Int32) (r2 : Addr) (h0 : Heap) (n0 : Nat) (v : Option Value) (h : Heap) (L : List Loc) : Prop := v = some (.int p0) ∧ Fr n0 L ∧ h = h0
theorem rmPr (l : Launch) (Z : State) (a0 : Array Value) (hw : own_HW a0 Z) (ws : List Jvm.Cond) (p0 p1 : Int32) (r2 : Addr) (h0 : Heap) (n0 : Nat) (Z0 : n0 ≤ h0.size) (hge : ¬ (p0 < (0 : Int32))) (hlt : p0 < p1) :
    own_M l Z (⟨cS2, "checkIndex", "(IILjava/util/function/BiFunction;)I"⟩ : MethodName) jdk_41_method_11_code 3 (some .int) ws ({ frames := 0, cells := 0, slots := 0, locals := 0 } : Room) #[(.int p0), (.int p1), (.ref r2)] h0 (Q_Pr Z p0 p1 r2 h0 n0) := by
  refine own_in cS2 rfl (plainFor_of_name pn_jdk_internal_util_Preconditions) ?_
  intro p e s m below meth c s₁ Bd hml hZ hh hx hby hown X0 e0
  have N0 := Fr.nil n0
  have k0 := own_k (p := p) (e := e) (below := below) (T := s₁) (ef_17 m p0 p1 r2)
  refine own_out X0 Bd.notSynchronized Bd.returns (some (.int p0)) nofun (by decide) (by decide) ?_ fun fs hr => k0 _ ?_
  · rw [e0]; exact ⟨rfl, N0, rfl⟩
  · show OwnS p e below s₁ (mkF m 0 #[iv p0, iv p1, rv r2] []) _
    refine oIn X0 hx hby d17_0 rfl ?_
    refine XS.ifNo X0.here hx rfl (hb hby d17_1) rfl ((if0 _ _).trans (flt hge).1) ?_
    refine oIn X0 hx hby d17_4 rfl (oIn X0 hx hby d17_5 rfl ?_)
    refine XS.icmpYes X0.here hx rfl (pc0 := 6) (pc' := 16) rfl (hb hby d17_6) rfl (tlt hlt).1 (by decide) (by decide) ?_
    refine oIn X0 hx hby d17_16 rfl ?_
    exact retI X0 hx Bd.returns (hb hby d17_17) hr
theorem pd_0 : parseMethodDescriptor "(IILjava/util/function/BiFunction;)I" = some ⟨[.int, .int, (.object "java/util/function/BiFunction")], some .int⟩ := by decide +kernel
theorem d16_0 : decode jdk_42_method_155_code 0 = .ok (.iload_n 0, 1) := by decide +kernel
theorem d16_1 : decode jdk_42_method_155_code 1 = .ok (.iload_n 1, 1) := by decide +kernel
theorem d16_2 : decode jdk_42_method_155_code 2 = .ok (.getstatic 1053, 3) := by decide +kernel
theorem d16_5 : decode jdk_42_method_155_code 5 = .ok (.invokestatic 1059, 3) := by decide +kernel
theorem d16_8 : decode jdk_42_method_155_code 8 = .ok (.pop, 1) := by decide +kernel
theorem d16_9 : decode jdk_42_method_155_code 9 = .ok (.return_, 1) := by decide +kernel
theorem pn_java_lang_String : plainName cS1 = true := by first | (simp [plainName, overriddenIn]; done) | decide +kernel
theorem ef_16 (m : MethodId) (x0 : Int32) (x1 : Int32) : entryFrame m #[(.int x0), (.int x1)] 2 = mkF m 0 #[.val (.int x0), .val (.int x1)] [] := by first | (simp [entryFrame, mkF, argsToLocals, Value.category]; done) | rfl
def Q_Ck (Z : State) (p0 p1 : Int32) (w_F : Value) (h0 : Heap) (n0 : Nat) (v : Option Value) (h : Heap) (L : List Loc) : Prop := v = none ∧ Fr n0 L ∧ h = h0
theorem rmCk (l : Launch) (Z : State) (a0 : Array Value) (hw : own_HW a0 Z) (ws : List Jvm.Cond) (p0 p1 : Int32) (w_F : Value) (h0 : Heap) (n0 : Nat) (Z0 : n0 ≤ h0.size) (S_F : Sta Z h0 cS2 cS9 cS3 w_F) (hwF : w_F.isRef = true) (hge : ¬ (p0 < (0 : Int32))) (hlt : p0 < p1) :
    own_M l Z (⟨cS1, "checkIndex", "(II)V"⟩ : MethodName) jdk_42_method_155_code 2 none ws ({ frames := 1, cells := 0, slots := 0, locals := 14 } : Room) #[(.int p0), (.int p1)] h0 (Q_Ck Z p0 p1 w_F h0 n0) := by
  refine own_in cS1 rfl (plainFor_of_name pn_java_lang_String) ?_
  intro p e s m below meth c s₁ Bd hml hZ hh hx hby hown X0 e0
  have N0 := Fr.nil n0
  have k0 := own_k (p := p) (e := e) (below := below) (T := s₁) (ef_16 m p0 p1)
  obtain ⟨T1, X1, e1, st1⟩ := getS2 X0 hx hZ hown (host := "") (Or.inl (own_at hw 76 rfl)) Via.refl e0 S_F (g := (mkF m 2 #[iv p0, iv p1] [(.int p1), (.int p0)])) rfl (hb hby d16_2)
  have k2 : ∀ t, OwnS p e below T1 (mkF m 5 #[iv p0, iv p1] [w_F, (.int p1), (.int p0)]) t → OwnS p e below s₁ (entryFrame m #[(.int p0), (.int p1)] 2) t := fun t q => by
   refine k0 t ?_
   show OwnS p e below s₁ (mkF m 0 #[iv p0, iv p1] []) _
   refine oIn X0 hx hby d16_0 rfl (oIn X0 hx hby d16_1 rfl ?_)
   refine st1 _ ?_
   exact q
  rcases ref_cases hwF with rfl | ⟨fa, rfl⟩
  · skip
    obtain ⟨_, T3, L3, X3, hQ3, st3⟩ := own_cS 0 (rmPn l Z a0 hw [] p0 p1 h0 n0 Z0 hge hlt) X1 hx hZ hown hw 78 79 77 80 rfl rfl rfl rfl 5 #[iv p0, iv p1] [(.int p0), (.int p1), .null] [] (hb hby d16_5) hml (lenOf pd_0 rfl) e1 rfl (Nat.le_refl _) (by decide)
    obtain ⟨rfl, N3q, e3⟩ := hQ3
    have N3 := Fr.app N0 N3q
    refine own_out X3 Bd.notSynchronized Bd.returns (none) (fun _ => rfl) (by decide) (by decide) ?_ fun fs hr => k2 _ ?_
    · rw [e3]; exact ⟨rfl, N3, rfl⟩
    · show OwnS p e below T1 (mkF m 5 #[iv p0, iv p1] [.null, (.int p1), (.int p0)]) _
      refine st3 _ ?_
      refine XS.pop X3.here hx rfl (hb hby d16_8) rfl rfl ?_
      exact X3.returnOut hx Bd.returns (hb hby d16_9) hr
  · skip
    obtain ⟨_, T4, L4, X4, hQ4, st4⟩ := own_cS 0 (rmPr l Z a0 hw [] p0 p1 fa h0 n0 Z0 hge hlt) X1 hx hZ hown hw 78 79 77 80 rfl rfl rfl rfl 5 #[iv p0, iv p1] [(.int p0), (.int p1), (.ref fa)] [] (hb hby d16_5) hml (lenOf pd_0 rfl) e1 rfl (Nat.le_refl _) (by decide)
    obtain ⟨rfl, N4q, e4⟩ := hQ4
    have N4 := Fr.app N0 N4q
    refine own_out X4 Bd.notSynchronized Bd.returns (none) (fun _ => rfl) (by decide) (by decide) ?_ fun fs hr => k2 _ ?_
    · rw [e4]; exact ⟨rfl, N4, rfl⟩
    · show OwnS p e below T1 (mkF m 5 #[iv p0, iv p1] [(.ref fa), (.int p1), (.int p0)]) _
      refine st4 _ ?_
      refine XS.pop X4.here hx rfl (hb hby d16_8) rfl rfl ?_
      exact X4.returnOut hx Bd.returns (hb hby d16_9) hr
theorem d8_0 : decode jdk_42_method_152_code 0 = .ok (.getstatic 38, 3) := by decide +kernel
theorem d8_3 : decode jdk_42_method_152_code 3 = .ok (.ifCond .eq 10, 3) := by decide +kernel
theorem d8_6 : decode jdk_42_method_152_code 6 = .ok (.aload_n 0, 1) := by decide +kernel
theorem d8_7 : decode jdk_42_method_152_code 7 = .ok (.getfield 15, 3) := by decide +kernel
theorem d8_10 : decode jdk_42_method_152_code 10 = .ok (.goto 4, 3) := by decide +kernel
theorem d8_14 : decode jdk_42_method_152_code 14 = .ok (.ireturn, 1) := by decide +kernel
theorem ef_8 (m : MethodId) (x0 : Addr) : entryFrame m #[(.ref x0)] 1 = mkF m 0 #[.val (.ref x0)] [] := by first | (simp [entryFrame, mkF, argsToLocals, Value.category]; done) | rfl
def Q_Co0 (Z : State) (r0 : Addr) (w_CS : Int32) (h0 : Heap) (n0 : Nat) (v : Option Value) (h : Heap) (L : List Loc) : Prop := v = some (.int 0) ∧ Fr n0 L ∧ h = h0
theorem rmCo0 (l : Launch) (Z : State) (a0 : Array Value) (hw : own_HW a0 Z) (ws : List Jvm.Cond) (r0 : Addr) (w_CS : Int32) (h0 : Heap) (n0 : Nat) (Z0 : n0 ≤ h0.size) (S_CS : Sta Z h0 cS1 cS10 "Z" (.int w_CS)) (hcs : ¬ (w_CS = (0 : Int32))) (F_coder_r0 : Fld Z h0 r0 cS1 "coder" "B" (.int 0)) :
    own_M l Z (⟨cS1, "coder", "()B"⟩ : MethodName) jdk_42_method_152_code 1 (some .byte) ws ({ frames := 0, cells := 0, slots := 0, locals := 0 } : Room) #[(.ref r0)] h0 (Q_Co0 Z r0 w_CS h0 n0) := by
  refine own_in cS1 rfl (plainFor_of_name pn_java_lang_String) ?_
  intro p e s m below meth c s₁ Bd hml hZ hh hx hby hown X0 e0
  have N0 := Fr.nil n0
  have k0 := own_k (p := p) (e := e) (below := below) (T := s₁) (ef_8 m r0)
  obtain ⟨T1, X1, e1, st1⟩ := getS2 X0 hx hZ hown (host := "") (Or.inl (own_at hw 45 rfl)) Via.refl e0 S_CS (g := (mkF m 0 #[rv r0] [])) rfl (hb hby d8_0)
  obtain ⟨T2, X2, e2, st2⟩ := getF X1 hx hZ hown (host := "") (Or.inl (own_at hw 30 rfl)) Via.refl e1 F_coder_r0 (g := (mkF m 7 #[rv r0] [(.ref r0)])) rfl rfl (hb hby d8_7)
  refine own_out X2 Bd.notSynchronized Bd.returns (some (.int 0)) nofun (by decide) (by decide) ?_ fun fs hr => k0 _ ?_
  · rw [e2]; exact ⟨rfl, N0, rfl⟩
  · show OwnS p e below s₁ (mkF m 0 #[rv r0] []) _
    refine st1 _ ?_
    refine XS.ifNo X1.here hx rfl (hb hby d8_3) rfl ((if0 _ _).trans (feq hcs).1) ?_
    refine oAn X1 hx hby d8_6 rfl rfl ?_
    refine st2 _ ?_
    refine oGo X2 hx hby 10 14 d8_10 (by decide) (by decide) ?_
    exact retN X2 hx (t := .byte) Bd.returns (by simp) (hb hby d8_14) hr
theorem d14_0 : decode jdk_42_method_154_code 0 = .ok (.getstatic 38, 3) := by decide +kernel
theorem d14_3 : decode jdk_42_method_154_code 3 = .ok (.ifCond .eq 14, 3) := by decide +kernel
theorem d14_6 : decode jdk_42_method_154_code 6 = .ok (.aload_n 0, 1) := by decide +kernel
theorem d14_7 : decode jdk_42_method_154_code 7 = .ok (.getfield 15, 3) := by decide +kernel
theorem d14_10 : decode jdk_42_method_154_code 10 = .ok (.ifCond .ne 7, 3) := by decide +kernel
theorem d14_13 : decode jdk_42_method_154_code 13 = .ok (.iconst 1, 1) := by decide +kernel
theorem d14_14 : decode jdk_42_method_154_code 14 = .ok (.goto 4, 3) := by decide +kernel
theorem d14_18 : decode jdk_42_method_154_code 18 = .ok (.ireturn, 1) := by decide +kernel
theorem ef_14 (m : MethodId) (x0 : Addr) : entryFrame m #[(.ref x0)] 1 = mkF m 0 #[.val (.ref x0)] [] := by first | (simp [entryFrame, mkF, argsToLocals, Value.category]; done) | rfl
def Q_IL0 (Z : State) (r0 : Addr) (w_CS : Int32) (h0 : Heap) (n0 : Nat) (v : Option Value) (h : Heap) (L : List Loc) : Prop := v = some (.int 1) ∧ Fr n0 L ∧ h = h0
theorem rmIL0 (l : Launch) (Z : State) (a0 : Array Value) (hw : own_HW a0 Z) (ws : List Jvm.Cond) (r0 : Addr) (w_CS : Int32) (h0 : Heap) (n0 : Nat) (Z0 : n0 ≤ h0.size) (S_CS : Sta Z h0 cS1 cS10 "Z" (.int w_CS)) (hcs : ¬ (w_CS = (0 : Int32))) (F_coder_r0 : Fld Z h0 r0 cS1 "coder" "B" (.int 0)) :
    own_M l Z (⟨cS1, "isLatin1", "()Z"⟩ : MethodName) jdk_42_method_154_code 1 (some .boolean) ws ({ frames := 0, cells := 0, slots := 0, locals := 0 } : Room) #[(.ref r0)] h0 (Q_IL0 Z r0 w_CS h0 n0) := by
  refine own_in cS1 rfl (plainFor_of_name pn_java_lang_String) ?_
  intro p e s m below meth c s₁ Bd hml hZ hh hx hby hown X0 e0
  have N0 := Fr.nil n0
  have k0 := own_k (p := p) (e := e) (below := below) (T := s₁) (ef_14 m r0)
  obtain ⟨T1, X1, e1, st1⟩ := getS2 X0 hx hZ hown (host := "") (Or.inl (own_at hw 45 rfl)) Via.refl e0 S_CS (g := (mkF m 0 #[rv r0] [])) rfl (hb hby d14_0)
  obtain ⟨T2, X2, e2, st2⟩ := getF X1 hx hZ hown (host := "") (Or.inl (own_at hw 30 rfl)) Via.refl e1 F_coder_r0 (g := (mkF m 7 #[rv r0] [(.ref r0)])) rfl rfl (hb hby d14_7)
  refine own_out X2 Bd.notSynchronized Bd.returns (some (.int 1)) nofun (by decide) (by decide) ?_ fun fs hr => k0 _ ?_
  · rw [e2]; exact ⟨rfl, N0, rfl⟩
  · show OwnS p e below s₁ (mkF m 0 #[rv r0] []) _
    refine st1 _ ?_
    refine XS.ifNo X1.here hx rfl (hb hby d14_3) rfl ((if0 _ _).trans (feq hcs).1) ?_
    refine oAn X1 hx hby d14_6 rfl rfl ?_
    refine st2 _ ?_
    refine XS.ifNo X2.here hx rfl (hb hby d14_10) rfl ((if0 _ _).trans (teq (by decide : (0 : Int32) = (0 : Int32))).2) ?_
    refine oIc X2 hx hby d14_13 (oGo X2 hx hby 14 18 d14_14 (by decide) (by decide) ?_)
    exact retN X2 hx (t := .boolean) Bd.returns (by simp) (hb hby d14_18) hr
def Q_Co1 (Z : State) (r0 : Addr) (w_CS : Int32) (h0 : Heap) (n0 : Nat) (v : Option Value) (h : Heap) (L : List Loc) : Prop := v = some (.int 1) ∧ Fr n0 L ∧ h = h0
theorem rmCo1 (l : Launch) (Z : State) (a0 : Array Value) (hw : own_HW a0 Z) (ws : List Jvm.Cond) (r0 : Addr) (w_CS : Int32) (h0 : Heap) (n0 : Nat) (Z0 : n0 ≤ h0.size) (S_CS : Sta Z h0 cS1 cS10 "Z" (.int w_CS)) (hcs : ¬ (w_CS = (0 : Int32))) (F_coder_r0 : Fld Z h0 r0 cS1 "coder" "B" (.int 1)) :
    own_M l Z (⟨cS1, "coder", "()B"⟩ : MethodName) jdk_42_method_152_code 1 (some .byte) ws ({ frames := 0, cells := 0, slots := 0, locals := 0 } : Room) #[(.ref r0)] h0 (Q_Co1 Z r0 w_CS h0 n0) := by
  refine own_in cS1 rfl (plainFor_of_name pn_java_lang_String) ?_
  intro p e s m below meth c s₁ Bd hml hZ hh hx hby hown X0 e0
  have N0 := Fr.nil n0
  have k0 := own_k (p := p) (e := e) (below := below) (T := s₁) (ef_8 m r0)
  obtain ⟨T1, X1, e1, st1⟩ := getS2 X0 hx hZ hown (host := "") (Or.inl (own_at hw 45 rfl)) Via.refl e0 S_CS (g := (mkF m 0 #[rv r0] [])) rfl (hb hby d8_0)
  obtain ⟨T2, X2, e2, st2⟩ := getF X1 hx hZ hown (host := "") (Or.inl (own_at hw 30 rfl)) Via.refl e1 F_coder_r0 (g := (mkF m 7 #[rv r0] [(.ref r0)])) rfl rfl (hb hby d8_7)
  refine own_out X2 Bd.notSynchronized Bd.returns (some (.int 1)) nofun (by decide) (by decide) ?_ fun fs hr => k0 _ ?_
  · rw [e2]; exact ⟨rfl, N0, rfl⟩
  · show OwnS p e below s₁ (mkF m 0 #[rv r0] []) _
    refine st1 _ ?_
    refine XS.ifNo X1.here hx rfl (hb hby d8_3) rfl ((if0 _ _).trans (feq hcs).1) ?_
    refine oAn X1 hx hby d8_6 rfl rfl ?_
    refine st2 _ ?_
    refine oGo X2 hx hby 10 14 d8_10 (by decide) (by decide) ?_
    exact retN X2 hx (t := .byte) Bd.returns (by simp) (hb hby d8_14) hr
theorem d14_17 : decode jdk_42_method_154_code 17 = .ok (.iconst 0, 1) := by decide +kernel
def Q_IL1 (Z : State) (r0 : Addr) (w_CS : Int32) (h0 : Heap) (n0 : Nat) (v : Option Value) (h : Heap) (L : List Loc) : Prop := v = some (.int 0) ∧ Fr n0 L ∧ h = h0
theorem rmIL1 (l : Launch) (Z : State) (a0 : Array Value) (hw : own_HW a0 Z) (ws : List Jvm.Cond) (r0 : Addr) (w_CS : Int32) (h0 : Heap) (n0 : Nat) (Z0 : n0 ≤ h0.size) (S_CS : Sta Z h0 cS1 cS10 "Z" (.int w_CS)) (hcs : ¬ (w_CS = (0 : Int32))) (F_coder_r0 : Fld Z h0 r0 cS1 "coder" "B" (.int 1)) :
    own_M l Z (⟨cS1, "isLatin1", "()Z"⟩ : MethodName) jdk_42_method_154_code 1 (some .boolean) ws ({ frames := 0, cells := 0, slots := 0, locals := 0 } : Room) #[(.ref r0)] h0 (Q_IL1 Z r0 w_CS h0 n0) := by
  refine own_in cS1 rfl (plainFor_of_name pn_java_lang_String) ?_
  intro p e s m below meth c s₁ Bd hml hZ hh hx hby hown X0 e0
  have N0 := Fr.nil n0
  have k0 := own_k (p := p) (e := e) (below := below) (T := s₁) (ef_14 m r0)
  obtain ⟨T1, X1, e1, st1⟩ := getS2 X0 hx hZ hown (host := "") (Or.inl (own_at hw 45 rfl)) Via.refl e0 S_CS (g := (mkF m 0 #[rv r0] [])) rfl (hb hby d14_0)
  obtain ⟨T2, X2, e2, st2⟩ := getF X1 hx hZ hown (host := "") (Or.inl (own_at hw 30 rfl)) Via.refl e1 F_coder_r0 (g := (mkF m 7 #[rv r0] [(.ref r0)])) rfl rfl (hb hby d14_7)
  refine own_out X2 Bd.notSynchronized Bd.returns (some (.int 0)) nofun (by decide) (by decide) ?_ fun fs hr => k0 _ ?_
  · rw [e2]; exact ⟨rfl, N0, rfl⟩
  · show OwnS p e below s₁ (mkF m 0 #[rv r0] []) _
    refine st1 _ ?_
    refine XS.ifNo X1.here hx rfl (hb hby d14_3) rfl ((if0 _ _).trans (feq hcs).1) ?_
    refine oAn X1 hx hby d14_6 rfl rfl ?_
    refine st2 _ ?_
    refine XS.ifYes X2.here hx rfl (pc0 := 10) (pc' := 17) rfl (hb hby d14_10) rfl ((if0 _ _).trans (feq (by decide : ¬ ((1 : Int32) = (0 : Int32)))).2) (by decide) (by decide) ?_
    refine oIc X2 hx hby d14_17 ?_
    exact retN X2 hx (t := .boolean) Bd.returns (by simp) (hb hby d14_18) hr
theorem d26_0 : decode jdk_52_method_6_code 0 = .ok (.aload_n 0, 1) := by decide +kernel
theorem d26_1 : decode jdk_52_method_6_code 1 = .ok (.arraylength, 1) := by decide +kernel
theorem d26_2 : decode jdk_52_method_6_code 2 = .ok (.iconst 1, 1) := by decide +kernel
theorem d26_3 : decode jdk_52_method_6_code 3 = .ok (.ishr, 1) := by decide +kernel
theorem d26_4 : decode jdk_52_method_6_code 4 = .ok (.ireturn, 1) := by decide +kernel
theorem pn_java_lang_StringUTF16 : plainName cS0 = true := by first | (simp [plainName, overriddenIn]; done) | decide +kernel
theorem ef_26 (m : MethodId) (x0 : Addr) : entryFrame m #[(.ref x0)] 1 = mkF m 0 #[.val (.ref x0)] [] := by first | (simp [entryFrame, mkF, argsToLocals, Value.category]; done) | rfl
def Q_UL_1 (Z : State) (r0 : Addr) (kB : ClassId) (vs : List Value) (h0 : Heap) (n0 : Nat) (v : Option Value) (h : Heap) (L : List Loc) : Prop := v = some (.int 1) ∧ Fr n0 L ∧ h = h0
theorem rmUL_1 (l : Launch) (Z : State) (a0 : Array Value) (hw : own_HW a0 Z) (ws : List Jvm.Cond) (r0 : Addr) (kB : ClassId) (vs : List Value) (h0 : Heap) (n0 : Nat) (Z0 : n0 ≤ h0.size) (V_r0 : Arv Z h0 r0 kB .byte (2 : Int32) vs (.int 0)) :
    own_M l Z (⟨cS0, "length", "([B)I"⟩ : MethodName) jdk_52_method_6_code 1 (some .int) ws ({ frames := 0, cells := 0, slots := 0, locals := 0 } : Room) #[(.ref r0)] h0 (Q_UL_1 Z r0 kB vs h0 n0) := by
  refine own_in cS0 rfl (plainFor_of_name pn_java_lang_StringUTF16) ?_
  intro p e s m below meth c s₁ Bd hml hZ hh hx hby hown X0 e0
  have N0 := Fr.nil n0
  have k0 := own_k (p := p) (e := e) (below := below) (T := s₁) (ef_26 m r0)
  obtain ⟨cl_z1, Ar_z1, q_z1, S_z1, N_z1, H_z1, G_z1⟩ := id V_r0
  refine own_out X0 Bd.notSynchronized Bd.returns (some (.int 1)) nofun (by decide) (by decide) ?_ fun fs hr => k0 _ ?_
  · rw [e0]; exact ⟨rfl, N0, rfl⟩
  · show OwnS p e below s₁ (mkF m 0 #[rv r0] []) _
    refine oAn X0 hx hby d26_0 rfl rfl ?_
    refine X0.arraylength hx (by rw [e0]; exact Ar_z1.1) (State.isArrayOf_alike hZ.alike Ar_z1.2.1) (g := (mkF m 1 #[rv r0] [(.ref r0)])) rfl rfl (hb hby d26_1) _ ?_
    rw [len_of S_z1 N_z1]
    refine oIc X0 hx hby d26_2 ?_
    refine XS.ishr X0.here hx rfl (hb hby d26_3) rfl ?_
    exact retI X0 hx Bd.returns (hb hby d26_4) hr
theorem d21_0 : decode jdk_52_method_3_code 0 = .ok (.iload_n 0, 1) := by decide +kernel
theorem d21_1 : decode jdk_52_method_3_code 1 = .ok (.ifCond .ge 11, 3) := by decide +kernel
theorem d21_12 : decode jdk_52_method_3_code 12 = .ok (.iload_n 0, 1) := by decide +kernel
theorem d21_13 : decode jdk_52_method_3_code 13 = .ok (.ldc 20, 2) := by decide +kernel
theorem d21_15 : decode jdk_52_method_3_code 15 = .ok (.if_icmp .lt 40, 3) := by decide +kernel
theorem d21_55 : decode jdk_52_method_3_code 55 = .ok (.iload_n 0, 1) := by decide +kernel
theorem d21_56 : decode jdk_52_method_3_code 56 = .ok (.iconst 1, 1) := by decide +kernel
theorem d21_57 : decode jdk_52_method_3_code 57 = .ok (.ishl, 1) := by decide +kernel
theorem d21_58 : decode jdk_52_method_3_code 58 = .ok (.ireturn, 1) := by decide +kernel
theorem ef_21 (m : MethodId) (x0 : Int32) : entryFrame m #[(.int x0)] 1 = mkF m 0 #[.val (.int x0)] [] := by first | (simp [entryFrame, mkF, argsToLocals, Value.category]; done) | rfl
def Q_NL_1 (Z : State)  (h0 : Heap) (n0 : Nat) (v : Option Value) (h : Heap) (L : List Loc) : Prop := v = some (.int 2) ∧ Fr n0 L ∧ h = h0
theorem rmNL_1 (l : Launch) (Z : State) (a0 : Array Value) (hw : own_HW a0 Z) (ws : List Jvm.Cond)  (h0 : Heap) (n0 : Nat) (Z0 : n0 ≤ h0.size) :
    own_M l Z (⟨cS0, "newBytesLength", "(I)I"⟩ : MethodName) jdk_52_method_3_code 1 (some .int) ws ({ frames := 0, cells := 0, slots := 0, locals := 0 } : Room) #[(.int 1)] h0 (Q_NL_1 Z  h0 n0) := by
  refine own_in cS0 rfl (plainFor_of_name pn_java_lang_StringUTF16) ?_
  intro p e s m below meth c s₁ Bd hml hZ hh hx hby hown X0 e0
  have N0 := Fr.nil n0
  have k0 := own_k (p := p) (e := e) (below := below) (T := s₁) (ef_21 m (1 : Int32))
  refine own_out X0 Bd.notSynchronized Bd.returns (some (.int 2)) nofun (by decide) (by decide) ?_ fun fs hr => k0 _ ?_
  · rw [e0]; exact ⟨rfl, N0, rfl⟩
  · show OwnS p e below s₁ (mkF m 0 #[iv 1] []) _
    refine oIn X0 hx hby d21_0 rfl ?_
    refine XS.ifYes X0.here hx rfl (pc0 := 1) (pc' := 12) rfl (hb hby d21_1) rfl ((if0 _ _).trans (flt (by decide : ¬ ((1 : Int32) < (0 : Int32)))).2.1) (by decide) (by decide) ?_
    refine oIn X0 hx hby d21_12 rfl ?_
    refine X0.ldcInt hx hown (mvT hZ (own_at hw 93 rfl)) (g := (mkF m 13 #[iv 1] [(.int 1)])) rfl (hb hby d21_13) _ ?_
    refine XS.icmpYes X0.here hx rfl (pc0 := 15) (pc' := 55) rfl (hb hby d21_15) rfl (tlt (by decide : (1 : Int32) < (1073741823 : Int32))).1 (by decide) (by decide) ?_
    refine oIn X0 hx hby d21_55 rfl (oIc X0 hx hby d21_56 ?_)
    refine XS.ishl X0.here hx rfl (hb hby d21_57) rfl ?_
    exact retI X0 hx Bd.returns (hb hby d21_58) hr
theorem pd_1 : parseMethodDescriptor "(I)I" = some ⟨[.int], some .int⟩ := by decide +kernel
theorem d20_0 : decode jdk_52_method_2_code 0 = .ok (.iload_n 0, 1) := by decide +kernel
theorem d20_1 : decode jdk_52_method_2_code 1 = .ok (.invokestatic 11, 3) := by decide +kernel
theorem d20_4 : decode jdk_52_method_2_code 4 = .ok (.newarray .byte, 2) := by decide +kernel
theorem d20_6 : decode jdk_52_method_2_code 6 = .ok (.areturn, 1) := by decide +kernel
theorem ef_20 (m : MethodId) (x0 : Int32) : entryFrame m #[(.int x0)] 1 = mkF m 0 #[.val (.int x0)] [] := by first | (simp [entryFrame, mkF, argsToLocals, Value.category]; done) | rfl
def Q_NF_1 (Z : State)  (h0 : Heap) (n0 : Nat) (v : Option Value) (h : Heap) (L : List Loc) : Prop := ∃ ar : Addr, ∃ kk : ClassId, v = some (.ref ar) ∧ Fr n0 L ∧ Keep h0 h [] ∧ h0.size ≤ ar ∧ Arv Z h ar kk .byte (2 : Int32) [(.int 0), (.int 0)] (.int 0) ∧ Exa Z h ar "[B"
theorem rmNF_1 (l : Launch) (Z : State) (a0 : Array Value) (hw : own_HW a0 Z) (ws : List Jvm.Cond)  (h0 : Heap) (n0 : Nat) (Z0 : n0 ≤ h0.size) :
    own_M l Z (⟨cS0, "newBytesFor", "(I)[B"⟩ : MethodName) jdk_52_method_2_code 1 (some (.array .byte)) ws ({ frames := 1, cells := 1, slots := 2, locals := 12 } : Room) #[(.int 1)] h0 (Q_NF_1 Z  h0 n0) := by
  refine own_in cS0 rfl (plainFor_of_name pn_java_lang_StringUTF16) ?_
  intro p e s m below meth c s₁ Bd hml hZ hh hx hby hown X0 e0
  have N0 := Fr.nil n0
  have k0 := own_k (p := p) (e := e) (below := below) (T := s₁) (ef_20 m (1 : Int32))
  obtain ⟨_, T1, L1, X1, hQ1, st1⟩ := own_cS 0 (rmNL_1 l Z a0 hw []  h0 n0 Z0 ) X0 hx hZ hown hw 90 91 51 92 rfl rfl rfl rfl 1 #[iv 1] [(.int 1)] [] (hb hby d20_1) hml (lenOf pd_1 rfl) e0 rfl (Nat.le_refl _) (by decide)
  obtain ⟨rfl, N1q, e1⟩ := hQ1
  have N1 := Fr.app N0 N1q
  obtain ⟨T2, h2, k2, X2, e2, E2, A2, EA2, st2⟩ := newPE X1 hx hZ (own_at hw 24 rfl) e1 (g := (mkF m 4 #[iv 1] [(.int 2)])) rfl (hb hby d20_4) rfl (by decide) (cap := 2) (by decide) (by decide) (by decide) (by decide) (ad := "[B") (by decide)
  obtain ⟨b2, g2⟩ : ∃ z, z = h0.size := ⟨_, rfl⟩
  rw [← g2] at A2 EA2 st2
  have g_b2 : n0 ≤ b2 := Nat.le_trans Z0 (Nat.le_of_eq g2.symm)
  have sz_b2 : h0.size ≤ b2 := Nat.le_trans (Keep.refl h0 []).1 (Nat.le_of_eq g2.symm)
  have V_b2 : Arv Z h2 b2 k2 .byte (2 : Int32) [(.int 0), (.int 0)] (.int 0) := (Arv.new A2 (by decide)).pad (pad_rep [] (.int 0) 2)
  refine own_out X2 Bd.notSynchronized Bd.returns (some (.ref b2)) nofun (by decide) (by decide) ?_ fun fs hr => k0 _ ?_
  · rw [e2]; exact ⟨b2, k2, rfl, N1, ((Keep.refl h0 []).ext E2), sz_b2, V_b2, EA2⟩
  · show OwnS p e below s₁ (mkF m 0 #[iv 1] []) _
    refine oIn X0 hx hby d20_0 rfl ?_
    refine st1 _ ?_
    refine st2 _ ?_
    jvm_step X2.here [X2.here.top, hx, (hb hby d20_6), X2.method', Bd.returns, Value.isRef, FieldType.isReference]
    first | (intro acts; rw [hr _ acts rfl rfl rfl]) | rw [hr _ _ rfl rfl rfl]
    exact Steps.refl _
theorem d22_0 : decode jdk_52_method_4_code 0 = .ok (.getstatic 44, 3) := by decide +kernel
theorem d22_3 : decode jdk_52_method_4_code 3 = .ok (.ifCond .ne 25, 3) := by decide +kernel
theorem d22_28 : decode jdk_52_method_4_code 28 = .ok (.iload_n 1, 1) := by decide +kernel
theorem d22_29 : decode jdk_52_method_4_code 29 = .ok (.iconst 1, 1) := by decide +kernel
theorem d22_30 : decode jdk_52_method_4_code 30 = .ok (.ishl, 1) := by decide +kernel
theorem d22_31 : decode jdk_52_method_4_code 31 = .ok (.istore_n 1, 1) := by decide +kernel
theorem d22_32 : decode jdk_52_method_4_code 32 = .ok (.aload_n 0, 1) := by decide +kernel
theorem d22_33 : decode jdk_52_method_4_code 33 = .ok (.iload_n 1, 1) := by decide +kernel
theorem d22_34 : decode jdk_52_method_4_code 34 = .ok (.iinc 1 1, 3) := by decide +kernel
theorem d22_37 : decode jdk_52_method_4_code 37 = .ok (.iload_n 2, 1) := by decide +kernel
theorem d22_38 : decode jdk_52_method_4_code 38 = .ok (.getstatic 59, 3) := by decide +kernel
theorem d22_41 : decode jdk_52_method_4_code 41 = .ok (.ishr, 1) := by decide +kernel
theorem d22_42 : decode jdk_52_method_4_code 42 = .ok (.i2b, 1) := by decide +kernel
theorem d22_43 : decode jdk_52_method_4_code 43 = .ok (.bastore, 1) := by decide +kernel
theorem d22_44 : decode jdk_52_method_4_code 44 = .ok (.aload_n 0, 1) := by decide +kernel
theorem d22_45 : decode jdk_52_method_4_code 45 = .ok (.iload_n 1, 1) := by decide +kernel
theorem d22_46 : decode jdk_52_method_4_code 46 = .ok (.iload_n 2, 1) := by decide +kernel
theorem d22_47 : decode jdk_52_method_4_code 47 = .ok (.getstatic 63, 3) := by decide +kernel
theorem d22_50 : decode jdk_52_method_4_code 50 = .ok (.ishr, 1) := by decide +kernel
theorem d22_51 : decode jdk_52_method_4_code 51 = .ok (.i2b, 1) := by decide +kernel
theorem d22_52 : decode jdk_52_method_4_code 52 = .ok (.bastore, 1) := by decide +kernel
theorem d22_53 : decode jdk_52_method_4_code 53 = .ok (.return_, 1) := by decide +kernel
theorem ef_22 (m : MethodId) (x0 : Addr) (x1 : Int32) (x2 : Int32) : entryFrame m #[(.ref x0), (.int x1), (.int x2)] 3 = mkF m 0 #[.val (.ref x0), .val (.int x1), .val (.int x2)] [] := by first | (simp [entryFrame, mkF, argsToLocals, Value.category]; done) | rfl
def Q_PC_1_0 (Z : State) (r0 : Addr) (x : Int32) (kB : ClassId) (b0 b1 : Int32) (h0 : Heap) (n0 : Nat) (v : Option Value) (h : Heap) (L : List Loc) : Prop := v = none ∧ Fr n0 L ∧ Keep h0 h [r0] ∧ Arv Z h r0 kB .byte (2 : Int32) [(.int (((x >>> ((0 : Int32) &&& 31)).toInt8.toInt32).toInt8.toInt32)), (.int (((x >>> ((8 : Int32) &&& 31)).toInt8.toInt32).toInt8.toInt32))] (.int 0)
theorem rmPC_1_0 (l : Launch) (Z : State) (a0 : Array Value) (hw : own_HW a0 Z) (ws : List Jvm.Cond) (r0 : Addr) (x : Int32) (kB : ClassId) (b0 b1 : Int32) (h0 : Heap) (n0 : Nat) (Z0 : n0 ≤ h0.size) (S_AD : Sta Z h0 cS0 cS5 "Z" (.int 1)) (S_HI : Sta Z h0 cS0 cS7 "I" (.int 0)) (S_LO : Sta Z h0 cS0 cS8 "I" (.int 8)) (V_r0 : Arv Z h0 r0 kB .byte (2 : Int32) [(.int b0), (.int b1)] (.int 0)) (E_r0 : Exa Z h0 r0 "[B") (ge_r0 : n0 ≤ r0) :
    own_M l Z (⟨cS0, "putChar", "([BII)V"⟩ : MethodName) jdk_52_method_4_code 3 none ws ({ frames := 0, cells := 0, slots := 0, locals := 0 } : Room) #[(.ref r0), (.int 0), (.int x)] h0 (Q_PC_1_0 Z r0 x kB b0 b1 h0 n0) := by
  refine own_in cS0 rfl (plainFor_of_name pn_java_lang_StringUTF16) ?_
  intro p e s m below meth c s₁ Bd hml hZ hh hx hby hown X0 e0
  have N0 := Fr.nil n0
  have k0 := own_k (p := p) (e := e) (below := below) (T := s₁) (ef_22 m r0 (0 : Int32) x)
  obtain ⟨T1, X1, e1, st1⟩ := getS2 X0 hx hZ hown (host := "") (Or.inl (own_at hw 97 rfl)) Via.refl e0 S_AD (g := (mkF m 0 #[rv r0, iv 0, iv x] [])) rfl (hb hby d22_0)
  obtain ⟨T2, X2, e2, st2⟩ := getS2 X1 hx hZ hown (host := "") (Or.inl (own_at hw 98 rfl)) Via.refl e1 S_HI (g := (mkF m 38 #[rv r0, iv 1, iv x] [(.int x), (.int 0), (.ref r0)])) rfl (hb hby d22_38)
  obtain ⟨cl_z3, Ar_z3, q_z3, S_z3, N_z3, H_z3, G_z3⟩ := id V_r0
  have hin4 : ¬ ((0 : Int32) < 0 ∨ cl_z3.slots.size ≤ ((0 : Int32)).toNatClampNeg) := inb_of S_z3 ⟨by decide, by decide⟩
  obtain ⟨T5, h5, X5, e5, W5, st5⟩ := stB X2 hx hZ e2 Ar_z3 (j := (0 : Int32)) hin4 (g := (mkF m 43 #[rv r0, iv 1, iv x] [(.int ((x >>> ((0 : Int32) &&& 31)).toInt8.toInt32)), (.int 0), (.ref r0)])) rfl rfl (hb hby d22_43)
  have V5 : Arv Z h5 r0 kB .byte (2 : Int32) [(.int (((x >>> ((0 : Int32) &&& 31)).toInt8.toInt32).toInt8.toInt32)), (.int b1)] (.int 0) := Arv.set Ar_z3 q_z3 S_z3 N_z3 H_z3 G_z3 (fits_nar_byte _) W5 0 rfl (Nat.le_of_ble_eq_true rfl)
  have N5 := Fr.snoc X5 N0 ge_r0
  have f6 := (S_LO.wr W5)
  obtain ⟨T7, X7, e7, st7⟩ := getS2 X5 hx hZ hown (host := "") (Or.inl (own_at hw 99 rfl)) Via.refl e5 f6 (g := (mkF m 47 #[rv r0, iv 1, iv x] [(.int x), (.int 1), (.ref r0)])) rfl (hb hby d22_47)
  obtain ⟨cl_z8, Ar_z8, q_z8, S_z8, N_z8, H_z8, G_z8⟩ := id V5
  have hin9 : ¬ ((1 : Int32) < 0 ∨ cl_z8.slots.size ≤ ((1 : Int32)).toNatClampNeg) := inb_of S_z8 ⟨by decide, by decide⟩
  obtain ⟨T10, h10, X10, e10, W10, st10⟩ := stB X7 hx hZ e7 Ar_z8 (j := (1 : Int32)) hin9 (g := (mkF m 52 #[rv r0, iv 1, iv x] [(.int ((x >>> ((8 : Int32) &&& 31)).toInt8.toInt32)), (.int 1), (.ref r0)])) rfl rfl (hb hby d22_52)
  have V10 : Arv Z h10 r0 kB .byte (2 : Int32) [(.int (((x >>> ((0 : Int32) &&& 31)).toInt8.toInt32).toInt8.toInt32)), (.int (((x >>> ((8 : Int32) &&& 31)).toInt8.toInt32).toInt8.toInt32))] (.int 0) := Arv.set Ar_z8 q_z8 S_z8 N_z8 H_z8 G_z8 (fits_nar_byte _) W10 1 rfl (Nat.le_of_ble_eq_true rfl)
  have N10 := Fr.snoc X10 N5 ge_r0
  refine own_out X10 Bd.notSynchronized Bd.returns (none) (fun _ => rfl) (by decide) (by decide) ?_ fun fs hr => k0 _ ?_
  · rw [e10]; exact ⟨rfl, N10, (((Keep.refl h0 [r0]).wr W5 (Or.inl (List.mem_of_getElem? (i := 0) rfl))).wr W10 (Or.inl (List.mem_of_getElem? (i := 0) rfl))), V10⟩
  · show OwnS p e below s₁ (mkF m 0 #[rv r0, iv 0, iv x] []) _
    refine st1 _ ?_
    refine XS.ifYes X1.here hx rfl (pc0 := 3) (pc' := 28) rfl (hb hby d22_3) rfl ((if0 _ _).trans (feq (by decide : ¬ ((1 : Int32) = (0 : Int32)))).2) (by decide) (by decide) ?_
    refine oIn X1 hx hby d22_28 rfl (oIc X1 hx hby d22_29 ?_)
    refine XS.ishl X1.here hx rfl (hb hby d22_30) rfl ?_
    refine XS.istoreN X1.here hx rfl (hb hby d22_31) rfl (l' := #[rv r0, iv 0, iv x]) rfl ?_
    refine oAn X1 hx hby d22_32 rfl rfl (oIn X1 hx hby d22_33 rfl ?_)
    refine XS.iinc X1.here hx rfl (hb hby d22_34) rfl (l' := #[rv r0, iv 1, iv x]) rfl ?_
    refine oIn X1 hx hby d22_37 rfl ?_
    refine st2 _ ?_
    refine XS.ishr X2.here hx rfl (hb hby d22_41) rfl ?_
    refine XS.i2b X2.here hx rfl (hb hby d22_42) rfl ?_
    refine st5 _ ?_
    refine oAn X5 hx hby d22_44 rfl rfl (oIn X5 hx hby d22_45 rfl (oIn X5 hx hby d22_46 rfl ?_))
    refine st7 _ ?_
    refine XS.ishr X7.here hx rfl (hb hby d22_50) rfl ?_
    refine XS.i2b X7.here hx rfl (hb hby d22_51) rfl ?_
    refine st10 _ ?_
    exact X10.returnOut hx Bd.returns (hb hby d22_53) hr
theorem pd_2 : parseMethodDescriptor "(I)[B" = some ⟨[.int], some (.array .byte)⟩ := by decide +kernel
theorem pd_3 : parseMethodDescriptor "([BII)V" = some ⟨[(.array .byte), .int, .int], none⟩ := by decide +kernel
theorem d19_0 : decode jdk_52_method_14_code 0 = .ok (.iload_n 2, 1) := by decide +kernel
theorem d19_1 : decode jdk_52_method_14_code 1 = .ok (.invokestatic 107, 3) := by decide +kernel
theorem d19_4 : decode jdk_52_method_14_code 4 = .ok (.astore_n 3, 1) := by decide +kernel
theorem d19_5 : decode jdk_52_method_14_code 5 = .ok (.iconst 0, 1) := by decide +kernel
theorem d19_6 : decode jdk_52_method_14_code 6 = .ok (.istore 4, 2) := by decide +kernel
theorem d19_8 : decode jdk_52_method_14_code 8 = .ok (.iload 4, 2) := by decide +kernel
theorem d19_10 : decode jdk_52_method_14_code 10 = .ok (.iload_n 2, 1) := by decide +kernel
theorem d19_11 : decode jdk_52_method_14_code 11 = .ok (.if_icmp .ge 21, 3) := by decide +kernel
theorem d19_14 : decode jdk_52_method_14_code 14 = .ok (.aload_n 3, 1) := by decide +kernel
theorem d19_15 : decode jdk_52_method_14_code 15 = .ok (.iload 4, 2) := by decide +kernel
theorem d19_17 : decode jdk_52_method_14_code 17 = .ok (.aload_n 0, 1) := by decide +kernel
theorem d19_18 : decode jdk_52_method_14_code 18 = .ok (.iload_n 1, 1) := by decide +kernel
theorem d19_19 : decode jdk_52_method_14_code 19 = .ok (.caload, 1) := by decide +kernel
theorem d19_20 : decode jdk_52_method_14_code 20 = .ok (.invokestatic 111, 3) := by decide +kernel
theorem d19_23 : decode jdk_52_method_14_code 23 = .ok (.iinc 1 1, 3) := by decide +kernel
theorem d19_26 : decode jdk_52_method_14_code 26 = .ok (.iinc 4 1, 3) := by decide +kernel
theorem d19_29 : decode jdk_52_method_14_code 29 = .ok (.goto (-21), 3) := by decide +kernel
theorem d19_32 : decode jdk_52_method_14_code 32 = .ok (.aload_n 3, 1) := by decide +kernel
theorem d19_33 : decode jdk_52_method_14_code 33 = .ok (.areturn, 1) := by decide +kernel
theorem ef_19 (m : MethodId) (x0 : Addr) (x1 : Int32) (x2 : Int32) : entryFrame m #[(.ref x0), (.int x1), (.int x2)] 5 = mkF m 0 #[.val (.ref x0), .val (.int x1), .val (.int x2), .unset, .unset] [] := by first | (simp [entryFrame, mkF, argsToLocals, Value.category]; done) | rfl
def Q_TB_1 (Z : State) (r0 : Addr) (kC : ClassId) (x0 : Int32) (h0 : Heap) (n0 : Nat) (v : Option Value) (h : Heap) (L : List Loc) : Prop := ∃ ar : Addr, ∃ kk : ClassId, v = some (.ref ar) ∧ Fr n0 L ∧ Keep h0 h [] ∧ h0.size ≤ ar ∧ Arv Z h ar kk .byte (2 : Int32) [(.int (((x0 >>> ((0 : Int32) &&& 31)).toInt8.toInt32).toInt8.toInt32)), (.int (((x0 >>> ((8 : Int32) &&& 31)).toInt8.toInt32).toInt8.toInt32))] (.int 0) ∧ Exa Z h ar "[B"
theorem rmTB_1 (l : Launch) (Z : State) (a0 : Array Value) (hw : own_HW a0 Z) (ws : List Jvm.Cond) (r0 : Addr) (kC : ClassId) (x0 : Int32) (h0 : Heap) (n0 : Nat) (Z0 : n0 ≤ h0.size) (S_AD : Sta Z h0 cS0 cS5 "Z" (.int 1)) (S_HI : Sta Z h0 cS0 cS7 "I" (.int 0)) (S_LO : Sta Z h0 cS0 cS8 "I" (.int 8)) (V_r0 : Arv Z h0 r0 kC .char (1 : Int32) [(.int x0)] (.int 0)) :
    own_M l Z (⟨cS0, "toBytes", "([CII)[B"⟩ : MethodName) jdk_52_method_14_code 5 (some (.array .byte)) ws ({ frames := 2, cells := 1, slots := 2, locals := 24 } : Room) #[(.ref r0), (.int 0), (.int 1)] h0 (Q_TB_1 Z r0 kC x0 h0 n0) := by
  refine own_in cS0 rfl (plainFor_of_name pn_java_lang_StringUTF16) ?_
  intro p e s m below meth c s₁ Bd hml hZ hh hx hby hown X0 e0
  have N0 := Fr.nil n0
  have k0 := own_k (p := p) (e := e) (below := below) (T := s₁) (ef_19 m r0 (0 : Int32) (1 : Int32))
  obtain ⟨_, T1, L1, X1, hQ1, st1⟩ := own_cS 0 (rmNF_1 l Z a0 hw []  h0 n0 Z0 ) X0 hx hZ hown hw 87 88 51 89 rfl rfl rfl rfl 1 #[rv r0, iv 0, iv 1, .unset, .unset] [(.int 1)] [] (hb hby d19_1) hml (lenOf pd_2 rfl) e0 rfl (Nat.le_refl _) (by decide)
  obtain ⟨ar_1, kk_1, rfl, N1q, K1, p1_0, p1_1, p1_2⟩ := hQ1
  have g_ar_1 : n0 ≤ ar_1 := Nat.le_trans Z0 p1_0
  have sz_ar_1 : h0.size ≤ ar_1 := Nat.le_trans (Keep.refl h0 []).1 p1_0
  have N1 := Fr.app N0 N1q
  have f2 := (V_r0.keep K1 nin0)
  obtain ⟨cl_z3, Ar_z3, q_z3, S_z3, N_z3, H_z3, G_z3⟩ := id f2
  have hin4 : ¬ ((0 : Int32) < 0 ∨ cl_z3.slots.size ≤ ((0 : Int32)).toNatClampNeg) := inb_of S_z3 ⟨by decide, by decide⟩
  have f6 := (own_sta_keep S_AD K1 all0)
  have f7 := (own_sta_keep S_HI K1 all0)
  have f8 := (own_sta_keep S_LO K1 all0)
  obtain ⟨_, T5, L5, X5, hQ5, st5⟩ := own_cS 0 (rmPC_1_0 l Z a0 hw [] ar_1 x0 kk_1 (0 : Int32) (0 : Int32) T1.heap n0 (Nat.le_trans Z0 K1.1) f6 f7 f8 p1_1 p1_2 g_ar_1) X1 hx hZ hown hw 94 95 51 96 rfl rfl rfl rfl 20 #[rv r0, iv 0, iv 1, rv ar_1, iv 0] [(.ref ar_1), (.int 0), (.int x0)] [] (hb hby d19_20) hml (lenOf pd_3 rfl) rfl rfl (Nat.le_refl _) (by decide)
  obtain ⟨rfl, N5q, K5, p5_0⟩ := hQ5
  have pl5 := (allS (P := fun x => ∃ cell : Cell, T1.heap[x]? = some cell ∧ cell.vm.isStatics = false) (own_ns p1_2) all0)
  have N5 := Fr.app N1 N5q
  have f9 := (p1_2.keep K5)
  refine own_out X5 Bd.notSynchronized Bd.returns (some (.ref ar_1)) nofun (by decide) (by decide) ?_ fun fs hr => k0 _ ?_
  · exact ⟨ar_1, kk_1, rfl, N5, (((Keep.refl h0 []).trans K1 all0).trans K5 (allS (Or.inr sz_ar_1) all0)), sz_ar_1, p5_0, f9⟩
  · show OwnS p e below s₁ (mkF m 0 #[rv r0, iv 0, iv 1, .unset, .unset] []) _
    refine oIn X0 hx hby d19_0 rfl ?_
    refine st1 _ ?_
    refine XS.astoreN X1.here hx rfl (hb hby d19_4) rfl rfl (l' := #[rv r0, iv 0, iv 1, rv ar_1, .unset]) rfl ?_
    refine oIc X1 hx hby d19_5 ?_
    refine XS.istore X1.here hx rfl (hb hby d19_6) rfl (l' := #[rv r0, iv 0, iv 1, rv ar_1, iv 0]) rfl ?_
    refine oIl X1 hx hby d19_8 rfl (oIn X1 hx hby d19_10 rfl ?_)
    refine XS.icmpNo X1.here hx rfl (hb hby d19_11) rfl (tlt (by decide : (0 : Int32) < (1 : Int32))).2.1 ?_
    refine oAn X1 hx hby d19_14 rfl rfl (oIl X1 hx hby d19_15 rfl (oAn X1 hx hby d19_17 rfl rfl (oIn X1 hx hby d19_18 rfl ?_)))
    refine X1.caload hx (j := (0 : Int32)) (v := (.int x0)) (Ar_z3.1) (State.isArrayOf_alike hZ.alike Ar_z3.2.1) Ar_z3.2.2 hin4 (Has.at H_z3 hin4 rfl) (g := (mkF m 19 #[rv r0, iv 0, iv 1, rv ar_1, iv 0] [(.int 0), (.ref r0), (.int 0), (.ref ar_1)])) rfl rfl (hb hby d19_19) _ ?_
    refine st5 _ ?_
    refine XS.iinc X5.here hx rfl (hb hby d19_23) rfl (l' := #[rv r0, iv 1, iv 1, rv ar_1, iv 0]) rfl ?_
    refine XS.iinc X5.here hx rfl (hb hby d19_26) rfl (l' := #[rv r0, iv 1, iv 1, rv ar_1, iv 1]) rfl ?_
    refine oGo X5 hx hby 29 8 d19_29 (by decide) (by decide) (oIl X5 hx hby d19_8 rfl (oIn X5 hx hby d19_10 rfl ?_))
    refine XS.icmpYes X5.here hx rfl (pc0 := 11) (pc' := 32) rfl (hb hby d19_11) rfl (flt (by decide : ¬ ((1 : Int32) < (1 : Int32)))).2.1 (by decide) (by decide) ?_
    refine oAn X5 hx hby d19_32 rfl rfl ?_
    jvm_step X5.here [X5.here.top, hx, (hb hby d19_33), X5.method', Bd.returns, Value.isRef, FieldType.isReference]
    first | (intro acts; rw [hr _ acts rfl rfl rfl]) | rw [hr _ _ rfl rfl rfl]
    exact Steps.refl _
theorem d23_0 : decode jdk_52_method_5_code 0 = .ok (.getstatic 44, 3) := by decide +kernel
theorem d23_3 : decode jdk_52_method_5_code 3 = .ok (.ifCond .ne 25, 3) := by decide +kernel
theorem d23_28 : decode jdk_52_method_5_code 28 = .ok (.iload_n 1, 1) := by decide +kernel
theorem d23_29 : decode jdk_52_method_5_code 29 = .ok (.iconst 1, 1) := by decide +kernel
theorem d23_30 : decode jdk_52_method_5_code 30 = .ok (.ishl, 1) := by decide +kernel
theorem d23_31 : decode jdk_52_method_5_code 31 = .ok (.istore_n 1, 1) := by decide +kernel
theorem d23_32 : decode jdk_52_method_5_code 32 = .ok (.aload_n 0, 1) := by decide +kernel
theorem d23_33 : decode jdk_52_method_5_code 33 = .ok (.iload_n 1, 1) := by decide +kernel
theorem d23_34 : decode jdk_52_method_5_code 34 = .ok (.iinc 1 1, 3) := by decide +kernel
theorem d23_37 : decode jdk_52_method_5_code 37 = .ok (.baload, 1) := by decide +kernel
theorem d23_38 : decode jdk_52_method_5_code 38 = .ok (.sipush 255, 3) := by decide +kernel
theorem d23_41 : decode jdk_52_method_5_code 41 = .ok (.iand, 1) := by decide +kernel
theorem d23_42 : decode jdk_52_method_5_code 42 = .ok (.getstatic 59, 3) := by decide +kernel
theorem d23_45 : decode jdk_52_method_5_code 45 = .ok (.ishl, 1) := by decide +kernel
theorem d23_46 : decode jdk_52_method_5_code 46 = .ok (.aload_n 0, 1) := by decide +kernel
theorem d23_47 : decode jdk_52_method_5_code 47 = .ok (.iload_n 1, 1) := by decide +kernel
theorem d23_48 : decode jdk_52_method_5_code 48 = .ok (.baload, 1) := by decide +kernel
theorem d23_49 : decode jdk_52_method_5_code 49 = .ok (.sipush 255, 3) := by decide +kernel
theorem d23_52 : decode jdk_52_method_5_code 52 = .ok (.iand, 1) := by decide +kernel
theorem d23_53 : decode jdk_52_method_5_code 53 = .ok (.getstatic 63, 3) := by decide +kernel
theorem d23_56 : decode jdk_52_method_5_code 56 = .ok (.ishl, 1) := by decide +kernel
theorem d23_57 : decode jdk_52_method_5_code 57 = .ok (.ior, 1) := by decide +kernel
theorem d23_58 : decode jdk_52_method_5_code 58 = .ok (.i2c, 1) := by decide +kernel
theorem d23_59 : decode jdk_52_method_5_code 59 = .ok (.ireturn, 1) := by decide +kernel
theorem ef_23 (m : MethodId) (x0 : Addr) (x1 : Int32) : entryFrame m #[(.ref x0), (.int x1)] 2 = mkF m 0 #[.val (.ref x0), .val (.int x1)] [] := by first | (simp [entryFrame, mkF, argsToLocals, Value.category]; done) | rfl
def Q_GC_1_0 (Z : State) (r0 : Addr) (kB : ClassId) (x0 : Int32) (h0 : Heap) (n0 : Nat) (v : Option Value) (h : Heap) (L : List Loc) : Prop := v = some (.int x0) ∧ Fr n0 L ∧ h = h0
theorem rmGC_1_0 (l : Launch) (Z : State) (a0 : Array Value) (hw : own_HW a0 Z) (ws : List Jvm.Cond) (r0 : Addr) (kB : ClassId) (x0 : Int32) (h0 : Heap) (n0 : Nat) (Z0 : n0 ≤ h0.size) (S_AD : Sta Z h0 cS0 cS5 "Z" (.int 1)) (S_HI : Sta Z h0 cS0 cS7 "I" (.int 0)) (S_LO : Sta Z h0 cS0 cS8 "I" (.int 8)) (V_r0 : Arv Z h0 r0 kB .byte (2 : Int32) [(.int (((x0 >>> ((0 : Int32) &&& 31)).toInt8.toInt32).toInt8.toInt32)), (.int (((x0 >>> ((8 : Int32) &&& 31)).toInt8.toInt32).toInt8.toInt32))] (.int 0)) (hch_x0 : own_ch x0) :
    own_M l Z (⟨cS0, "getChar", "([BI)C"⟩ : MethodName) jdk_52_method_5_code 2 (some .char) ws ({ frames := 0, cells := 0, slots := 0, locals := 0 } : Room) #[(.ref r0), (.int 0)] h0 (Q_GC_1_0 Z r0 kB x0 h0 n0) := by
  refine own_in cS0 rfl (plainFor_of_name pn_java_lang_StringUTF16) ?_
  intro p e s m below meth c s₁ Bd hml hZ hh hx hby hown X0 e0
  have N0 := Fr.nil n0
  have k0 := own_k (p := p) (e := e) (below := below) (T := s₁) (ef_23 m r0 (0 : Int32))
  obtain ⟨T1, X1, e1, st1⟩ := getS2 X0 hx hZ hown (host := "") (Or.inl (own_at hw 97 rfl)) Via.refl e0 S_AD (g := (mkF m 0 #[rv r0, iv 0] [])) rfl (hb hby d23_0)
  obtain ⟨cl_z2, Ar_z2, q_z2, S_z2, N_z2, H_z2, G_z2⟩ := id V_r0
  have hin3 : ¬ ((0 : Int32) < 0 ∨ cl_z2.slots.size ≤ ((0 : Int32)).toNatClampNeg) := inb_of S_z2 ⟨by decide, by decide⟩
  obtain ⟨T4, X4, e4, st4⟩ := getS2 X1 hx hZ hown (host := "") (Or.inl (own_at hw 98 rfl)) Via.refl e1 S_HI (g := (mkF m 42 #[rv r0, iv 1] [(.int ((((x0 >>> ((0 : Int32) &&& 31)).toInt8.toInt32).toInt8.toInt32) &&& (255 : Int32)))])) rfl (hb hby d23_42)
  have hin5 : ¬ ((1 : Int32) < 0 ∨ cl_z2.slots.size ≤ ((1 : Int32)).toNatClampNeg) := inb_of S_z2 ⟨by decide, by decide⟩
  obtain ⟨T6, X6, e6, st6⟩ := getS2 X4 hx hZ hown (host := "") (Or.inl (own_at hw 99 rfl)) Via.refl e4 S_LO (g := (mkF m 53 #[rv r0, iv 1] [(.int ((((x0 >>> ((8 : Int32) &&& 31)).toInt8.toInt32).toInt8.toInt32) &&& (255 : Int32))), (.int (((((x0 >>> ((0 : Int32) &&& 31)).toInt8.toInt32).toInt8.toInt32) &&& (255 : Int32)) <<< ((0 : Int32) &&& 31)))])) rfl (hb hby d23_53)
  refine own_out X6 Bd.notSynchronized Bd.returns (some (.int ((((((((x0 >>> ((0 : Int32) &&& 31)).toInt8.toInt32).toInt8.toInt32) &&& (255 : Int32)) <<< ((0 : Int32) &&& 31)) ||| (((((x0 >>> ((8 : Int32) &&& 31)).toInt8.toInt32).toInt8.toInt32) &&& (255 : Int32)) <<< ((8 : Int32) &&& 31))).toUInt32.toUInt16.toUInt32.toInt32).toUInt32.toUInt16.toUInt32.toInt32))) nofun (by decide) (by decide) ?_ fun fs hr => k0 _ ?_
  · rw [e6]; exact ⟨(congrArg some (congrArg Value.int (own_u16c hch_x0))), N0, rfl⟩
  · show OwnS p e below s₁ (mkF m 0 #[rv r0, iv 0] []) _
    refine st1 _ ?_
    refine XS.ifYes X1.here hx rfl (pc0 := 3) (pc' := 28) rfl (hb hby d23_3) rfl ((if0 _ _).trans (feq (by decide : ¬ ((1 : Int32) = (0 : Int32)))).2) (by decide) (by decide) ?_
    refine oIn X1 hx hby d23_28 rfl (oIc X1 hx hby d23_29 ?_)
    refine XS.ishl X1.here hx rfl (hb hby d23_30) rfl ?_
    refine XS.istoreN X1.here hx rfl (hb hby d23_31) rfl (l' := #[rv r0, iv 0]) rfl ?_
    refine oAn X1 hx hby d23_32 rfl rfl (oIn X1 hx hby d23_33 rfl ?_)
    refine XS.iinc X1.here hx rfl (hb hby d23_34) rfl (l' := #[rv r0, iv 1]) rfl ?_
    refine X1.baloadBytes hx (j := (0 : Int32)) (v := (.int (((x0 >>> ((0 : Int32) &&& 31)).toInt8.toInt32).toInt8.toInt32))) (by rw [e1]; exact Ar_z2.1) (State.isArrayOf_alike hZ.alike Ar_z2.2.1) Ar_z2.2.2 hin3 (Has.at H_z2 hin3 rfl) (g := (mkF m 37 #[rv r0, iv 1] [(.int 0), (.ref r0)])) rfl rfl (hb hby d23_37) _ ?_
    refine XS.sipush X1.here hx rfl (hb hby d23_38) ?_
    refine XS.iand X1.here hx rfl (hb hby d23_41) rfl ?_
    refine st4 _ ?_
    refine XS.ishl X4.here hx rfl (hb hby d23_45) rfl ?_
    refine oAn X4 hx hby d23_46 rfl rfl (oIn X4 hx hby d23_47 rfl ?_)
    refine X4.baloadBytes hx (j := (1 : Int32)) (v := (.int (((x0 >>> ((8 : Int32) &&& 31)).toInt8.toInt32).toInt8.toInt32))) (by rw [e4]; exact Ar_z2.1) (State.isArrayOf_alike hZ.alike Ar_z2.2.1) Ar_z2.2.2 hin5 (Has.at H_z2 hin5 rfl) (g := (mkF m 48 #[rv r0, iv 1] [(.int 1), (.ref r0), (.int (((((x0 >>> ((0 : Int32) &&& 31)).toInt8.toInt32).toInt8.toInt32) &&& (255 : Int32)) <<< ((0 : Int32) &&& 31)))])) rfl rfl (hb hby d23_48) _ ?_
    refine XS.sipush X4.here hx rfl (hb hby d23_49) ?_
    refine XS.iand X4.here hx rfl (hb hby d23_52) rfl ?_
    refine st6 _ ?_
    refine XS.ishl X6.here hx rfl (hb hby d23_56) rfl ?_
    refine XS.ior X6.here hx rfl (hb hby d23_57) rfl ?_
    refine XS.i2c X6.here hx rfl (hb hby d23_58) rfl ?_
    exact retN X6 hx (t := .char) Bd.returns (by simp) (hb hby d23_59) hr
theorem d11_0 : decode jdk_52_method_21_code 0 = .ok (.iconst 0, 1) := by decide +kernel
theorem d11_1 : decode jdk_52_method_21_code 1 = .ok (.istore 5, 2) := by decide +kernel
theorem d11_3 : decode jdk_52_method_21_code 3 = .ok (.iload 5, 2) := by decide +kernel
theorem d11_5 : decode jdk_52_method_21_code 5 = .ok (.iload 4, 2) := by decide +kernel
theorem d11_7 : decode jdk_52_method_21_code 7 = .ok (.if_icmp .ge 37, 3) := by decide +kernel
theorem d11_10 : decode jdk_52_method_21_code 10 = .ok (.aload_n 0, 1) := by decide +kernel
theorem d11_11 : decode jdk_52_method_21_code 11 = .ok (.iload_n 1, 1) := by decide +kernel
theorem d11_12 : decode jdk_52_method_21_code 12 = .ok (.caload, 1) := by decide +kernel
theorem d11_13 : decode jdk_52_method_21_code 13 = .ok (.istore 6, 2) := by decide +kernel
theorem d11_15 : decode jdk_52_method_21_code 15 = .ok (.iload 6, 2) := by decide +kernel
theorem d11_17 : decode jdk_52_method_21_code 17 = .ok (.sipush 255, 3) := by decide +kernel
theorem d11_20 : decode jdk_52_method_21_code 20 = .ok (.if_icmp .le 6, 3) := by decide +kernel
theorem d11_23 : decode jdk_52_method_21_code 23 = .ok (.iload 5, 2) := by decide +kernel
theorem d11_25 : decode jdk_52_method_21_code 25 = .ok (.ireturn, 1) := by decide +kernel
theorem d11_26 : decode jdk_52_method_21_code 26 = .ok (.aload_n 2, 1) := by decide +kernel
theorem d11_27 : decode jdk_52_method_21_code 27 = .ok (.iload_n 3, 1) := by decide +kernel
theorem d11_28 : decode jdk_52_method_21_code 28 = .ok (.iload 6, 2) := by decide +kernel
theorem d11_30 : decode jdk_52_method_21_code 30 = .ok (.i2b, 1) := by decide +kernel
theorem d11_31 : decode jdk_52_method_21_code 31 = .ok (.bastore, 1) := by decide +kernel
theorem d11_32 : decode jdk_52_method_21_code 32 = .ok (.iinc 1 1, 3) := by decide +kernel
theorem d11_35 : decode jdk_52_method_21_code 35 = .ok (.iinc 3 1, 3) := by decide +kernel
theorem d11_38 : decode jdk_52_method_21_code 38 = .ok (.iinc 5 1, 3) := by decide +kernel
theorem d11_41 : decode jdk_52_method_21_code 41 = .ok (.goto (-38), 3) := by decide +kernel
theorem d11_44 : decode jdk_52_method_21_code 44 = .ok (.iload 4, 2) := by decide +kernel
theorem d11_46 : decode jdk_52_method_21_code 46 = .ok (.ireturn, 1) := by decide +kernel
theorem ef_11 (m : MethodId) (x0 : Addr) (x1 : Int32) (x2 : Addr) (x3 : Int32) (x4 : Int32) : entryFrame m #[(.ref x0), (.int x1), (.ref x2), (.int x3), (.int x4)] 7 = mkF m 0 #[.val (.ref x0), .val (.int x1), .val (.ref x2), .val (.int x3), .val (.int x4), .unset, .unset] [] := by first | (simp [entryFrame, mkF, argsToLocals, Value.category]; done) | rfl
def Q_C2_1 (Z : State) (r0 r2 : Addr) (kC kB : ClassId) (x0 : Int32) (h0 : Heap) (n0 : Nat) (v : Option Value) (h : Heap) (L : List Loc) : Prop := (v = some (.int 0) ∧ Fr n0 L ∧ Keep h0 h [r2] ∧ Arv Z h r2 kB .byte (1 : Int32) [(.int 0)] (.int 0) ∧ (255 : Int32) < x0) ∨ (v = some (.int 1) ∧ Fr n0 L ∧ Keep h0 h [r2] ∧ Arv Z h r2 kB .byte (1 : Int32) [(.int ((x0.toInt8.toInt32).toInt8.toInt32))] (.int 0) ∧ ¬ ((255 : Int32) < x0))
theorem rmC2_1 (l : Launch) (Z : State) (a0 : Array Value) (hw : own_HW a0 Z) (ws : List Jvm.Cond) (r0 r2 : Addr) (kC kB : ClassId) (x0 : Int32) (h0 : Heap) (n0 : Nat) (Z0 : n0 ≤ h0.size) (V_r0 : Arv Z h0 r0 kC .char (1 : Int32) [(.int x0)] (.int 0)) (V_r2 : Arv Z h0 r2 kB .byte (1 : Int32) [(.int 0)] (.int 0)) (E_r2 : Exa Z h0 r2 "[B") (ge_r2 : n0 ≤ r2) :
    own_M l Z (⟨cS0, "compress", "([CI[BII)I"⟩ : MethodName) jdk_52_method_21_code 7 (some .int) ws ({ frames := 0, cells := 0, slots := 0, locals := 0 } : Room) #[(.ref r0), (.int 0), (.ref r2), (.int 0), (.int 1)] h0 (Q_C2_1 Z r0 r2 kC kB x0 h0 n0) := by
  refine own_in cS0 rfl (plainFor_of_name pn_java_lang_StringUTF16) ?_
  intro p e s m below meth c s₁ Bd hml hZ hh hx hby hown X0 e0
  have N0 := Fr.nil n0
  have k0 := own_k (p := p) (e := e) (below := below) (T := s₁) (ef_11 m r0 (0 : Int32) r2 (0 : Int32) (1 : Int32))
  obtain ⟨cl_z1, Ar_z1, q_z1, S_z1, N_z1, H_z1, G_z1⟩ := id V_r0
  have hin2 : ¬ ((0 : Int32) < 0 ∨ cl_z1.slots.size ≤ ((0 : Int32)).toNatClampNeg) := inb_of S_z1 ⟨by decide, by decide⟩
  have k4 : ∀ t, OwnS p e below s₁ (mkF m 20 #[rv r0, iv 0, rv r2, iv 0, iv 1, iv 0, iv x0] [(.int 255), (.int x0)]) t → OwnS p e below s₁ (entryFrame m #[(.ref r0), (.int 0), (.ref r2), (.int 0), (.int 1)] 7) t := fun t q => by
   refine k0 t ?_
   show OwnS p e below s₁ (mkF m 0 #[rv r0, iv 0, rv r2, iv 0, iv 1, .unset, .unset] []) _
   refine oIc X0 hx hby d11_0 ?_
   refine XS.istore X0.here hx rfl (hb hby d11_1) rfl (l' := #[rv r0, iv 0, rv r2, iv 0, iv 1, iv 0, .unset]) rfl ?_
   refine oIl X0 hx hby d11_3 rfl (oIl X0 hx hby d11_5 rfl ?_)
   refine XS.icmpNo X0.here hx rfl (hb hby d11_7) rfl (tlt (by decide : (0 : Int32) < (1 : Int32))).2.1 ?_
   refine oAn X0 hx hby d11_10 rfl rfl (oIn X0 hx hby d11_11 rfl ?_)
   refine X0.caload hx (j := (0 : Int32)) (v := (.int x0)) (by rw [e0]; exact Ar_z1.1) (State.isArrayOf_alike hZ.alike Ar_z1.2.1) Ar_z1.2.2 hin2 (Has.at H_z1 hin2 rfl) (g := (mkF m 12 #[rv r0, iv 0, rv r2, iv 0, iv 1, iv 0, .unset] [(.int 0), (.ref r0)])) rfl rfl (hb hby d11_12) _ ?_
   refine XS.istore X0.here hx rfl (hb hby d11_13) rfl (l' := #[rv r0, iv 0, rv r2, iv 0, iv 1, iv 0, iv x0]) rfl ?_
   refine oIl X0 hx hby d11_15 rfl ?_
   refine XS.sipush X0.here hx rfl (hb hby d11_17) ?_
   exact q
  by_cases hc20_3 : (255 : Int32) < x0
  · refine own_out X0 Bd.notSynchronized Bd.returns (some (.int 0)) nofun (by decide) (by decide) ?_ fun fs hr => k4 _ ?_
    · rw [e0]; exact Or.inl (⟨rfl, N0, (Keep.refl h0 [r2]), V_r2, hc20_3⟩)
    · refine XS.icmpNo X0.here hx rfl (hb hby d11_20) rfl (tlt hc20_3).2.2.2 ?_
      refine oIl X0 hx hby d11_23 rfl ?_
      exact retI X0 hx Bd.returns (hb hby d11_25) hr
  · obtain ⟨cl_z5, Ar_z5, q_z5, S_z5, N_z5, H_z5, G_z5⟩ := id V_r2
    have hin6 : ¬ ((0 : Int32) < 0 ∨ cl_z5.slots.size ≤ ((0 : Int32)).toNatClampNeg) := inb_of S_z5 ⟨by decide, by decide⟩
    obtain ⟨T7, h7, X7, e7, W7, st7⟩ := stB X0 hx hZ e0 Ar_z5 (j := (0 : Int32)) hin6 (g := (mkF m 31 #[rv r0, iv 0, rv r2, iv 0, iv 1, iv 0, iv x0] [(.int (x0.toInt8.toInt32)), (.int 0), (.ref r2)])) rfl rfl (hb hby d11_31)
    have V7 : Arv Z h7 r2 kB .byte (1 : Int32) [(.int ((x0.toInt8.toInt32).toInt8.toInt32))] (.int 0) := Arv.set Ar_z5 q_z5 S_z5 N_z5 H_z5 G_z5 (fits_nar_byte _) W7 0 rfl (Nat.le_of_ble_eq_true rfl)
    have N7 := Fr.snoc X7 N0 ge_r2
    refine own_out X7 Bd.notSynchronized Bd.returns (some (.int 1)) nofun (by decide) (by decide) ?_ fun fs hr => k4 _ ?_
    · rw [e7]; exact Or.inr ((⟨rfl, N7, ((Keep.refl h0 [r2]).wr W7 (Or.inl (List.mem_of_getElem? (i := 0) rfl))), V7, hc20_3⟩))
    · refine XS.icmpYes X0.here hx rfl (pc0 := 20) (pc' := 26) rfl (hb hby d11_20) rfl (flt hc20_3).2.2.2 (by decide) (by decide) ?_
      refine oAn X0 hx hby d11_26 rfl rfl (oIn X0 hx hby d11_27 rfl (oIl X0 hx hby d11_28 rfl ?_))
      refine XS.i2b X0.here hx rfl (hb hby d11_30) rfl ?_
      refine st7 _ ?_
      refine XS.iinc X7.here hx rfl (hb hby d11_32) rfl (l' := #[rv r0, iv 1, rv r2, iv 0, iv 1, iv 0, iv x0]) rfl ?_
      refine XS.iinc X7.here hx rfl (hb hby d11_35) rfl (l' := #[rv r0, iv 1, rv r2, iv 1, iv 1, iv 0, iv x0]) rfl ?_
      refine XS.iinc X7.here hx rfl (hb hby d11_38) rfl (l' := #[rv r0, iv 1, rv r2, iv 1, iv 1, iv 1, iv x0]) rfl ?_
      refine oGo X7 hx hby 41 3 d11_41 (by decide) (by decide) (oIl X7 hx hby d11_3 rfl (oIl X7 hx hby d11_5 rfl ?_))
      refine XS.icmpYes X7.here hx rfl (pc0 := 7) (pc' := 44) rfl (hb hby d11_7) rfl (flt (by decide : ¬ ((1 : Int32) < (1 : Int32)))).2.1 (by decide) (by decide) ?_
      refine oIl X7 hx hby d11_44 rfl ?_
      exact retI X7 hx Bd.returns (hb hby d11_46) hr
theorem pd_4 : parseMethodDescriptor "([CI[BII)I" = some ⟨[(.array .char), .int, (.array .byte), .int, .int], some .int⟩ := by decide +kernel
theorem pd_5 : parseMethodDescriptor "([CII)[B" = some ⟨[(.array .char), .int, .int], some (.array .byte)⟩ := by decide +kernel
theorem pd_6 : parseMethodDescriptor "([BI)C" = some ⟨[(.array .byte), .int], some .char⟩ := by decide +kernel
theorem d10_0 : decode jdk_52_method_16_code 0 = .ok (.iload_n 2, 1) := by decide +kernel
theorem d10_1 : decode jdk_52_method_16_code 1 = .ok (.newarray .byte, 2) := by decide +kernel
theorem d10_3 : decode jdk_52_method_16_code 3 = .ok (.astore_n 3, 1) := by decide +kernel
theorem d10_4 : decode jdk_52_method_16_code 4 = .ok (.aload_n 0, 1) := by decide +kernel
theorem d10_5 : decode jdk_52_method_16_code 5 = .ok (.iload_n 1, 1) := by decide +kernel
theorem d10_6 : decode jdk_52_method_16_code 6 = .ok (.aload_n 3, 1) := by decide +kernel
theorem d10_7 : decode jdk_52_method_16_code 7 = .ok (.iconst 0, 1) := by decide +kernel
theorem d10_8 : decode jdk_52_method_16_code 8 = .ok (.iload_n 2, 1) := by decide +kernel
theorem d10_9 : decode jdk_52_method_16_code 9 = .ok (.invokestatic 115, 3) := by decide +kernel
theorem d10_12 : decode jdk_52_method_16_code 12 = .ok (.istore 4, 2) := by decide +kernel
theorem d10_14 : decode jdk_52_method_16_code 14 = .ok (.iload 4, 2) := by decide +kernel
theorem d10_16 : decode jdk_52_method_16_code 16 = .ok (.iload_n 2, 1) := by decide +kernel
theorem d10_17 : decode jdk_52_method_16_code 17 = .ok (.if_icmp .eq 40, 3) := by decide +kernel
theorem d10_20 : decode jdk_52_method_16_code 20 = .ok (.aload_n 0, 1) := by decide +kernel
theorem d10_21 : decode jdk_52_method_16_code 21 = .ok (.iload_n 1, 1) := by decide +kernel
theorem d10_22 : decode jdk_52_method_16_code 22 = .ok (.iload_n 2, 1) := by decide +kernel
theorem d10_23 : decode jdk_52_method_16_code 23 = .ok (.invokestatic 119, 3) := by decide +kernel
theorem d10_26 : decode jdk_52_method_16_code 26 = .ok (.astore 5, 2) := by decide +kernel
theorem d10_28 : decode jdk_52_method_16_code 28 = .ok (.aload 5, 2) := by decide +kernel
theorem d10_30 : decode jdk_52_method_16_code 30 = .ok (.iload 4, 2) := by decide +kernel
theorem d10_32 : decode jdk_52_method_16_code 32 = .ok (.invokestatic 71, 3) := by decide +kernel
theorem d10_35 : decode jdk_52_method_16_code 35 = .ok (.sipush 255, 3) := by decide +kernel
theorem d10_38 : decode jdk_52_method_16_code 38 = .ok (.if_icmp .gt 16, 3) := by decide +kernel
theorem d10_54 : decode jdk_52_method_16_code 54 = .ok (.aload 5, 2) := by decide +kernel
theorem d10_56 : decode jdk_52_method_16_code 56 = .ok (.areturn, 1) := by decide +kernel
theorem d10_57 : decode jdk_52_method_16_code 57 = .ok (.aload_n 3, 1) := by decide +kernel
theorem d10_58 : decode jdk_52_method_16_code 58 = .ok (.areturn, 1) := by decide +kernel
theorem ef_10 (m : MethodId) (x0 : Addr) (x1 : Int32) (x2 : Int32) : entryFrame m #[(.ref x0), (.int x1), (.int x2)] 6 = mkF m 0 #[.val (.ref x0), .val (.int x1), .val (.int x2), .unset, .unset, .unset] [] := by first | (simp [entryFrame, mkF, argsToLocals, Value.category]; done) | rfl
def Q_C1_1 (Z : State) (r0 : Addr) (kC : ClassId) (x0 : Int32) (h0 : Heap) (n0 : Nat) (v : Option Value) (h : Heap) (L : List Loc) : Prop := (∃ ar : Addr, ∃ kk : ClassId, v = some (.ref ar) ∧ Fr n0 L ∧ Keep h0 h [] ∧ h0.size ≤ ar ∧ Arv Z h ar kk .byte (2 : Int32) [(.int (((x0 >>> ((0 : Int32) &&& 31)).toInt8.toInt32).toInt8.toInt32)), (.int (((x0 >>> ((8 : Int32) &&& 31)).toInt8.toInt32).toInt8.toInt32))] (.int 0) ∧ Exa Z h ar "[B") ∨ (∃ ar : Addr, ∃ kk : ClassId, v = some (.ref ar) ∧ Fr n0 L ∧ Keep h0 h [] ∧ h0.size ≤ ar ∧ Arv Z h ar kk .byte (1 : Int32) [(.int ((x0.toInt8.toInt32).toInt8.toInt32))] (.int 0) ∧ Exa Z h ar "[B" ∧ ¬ ((255 : Int32) < x0))
theorem rmC1_1 (l : Launch) (Z : State) (a0 : Array Value) (hw : own_HW a0 Z) (ws : List Jvm.Cond) (r0 : Addr) (kC : ClassId) (x0 : Int32) (h0 : Heap) (n0 : Nat) (Z0 : n0 ≤ h0.size) (S_AD : Sta Z h0 cS0 cS5 "Z" (.int 1)) (S_HI : Sta Z h0 cS0 cS7 "I" (.int 0)) (S_LO : Sta Z h0 cS0 cS8 "I" (.int 8)) (V_r0 : Arv Z h0 r0 kC .char (1 : Int32) [(.int x0)] (.int 0)) (hch_x0 : own_ch x0) :
    own_M l Z (⟨cS0, "compress", "([CII)[B"⟩ : MethodName) jdk_52_method_16_code 6 (some (.array .byte)) ws ({ frames := 3, cells := 2, slots := 3, locals := 40 } : Room) #[(.ref r0), (.int 0), (.int 1)] h0 (Q_C1_1 Z r0 kC x0 h0 n0) := by
  refine own_in cS0 rfl (plainFor_of_name pn_java_lang_StringUTF16) ?_
  intro p e s m below meth c s₁ Bd hml hZ hh hx hby hown X0 e0
  have N0 := Fr.nil n0
  have k0 := own_k (p := p) (e := e) (below := below) (T := s₁) (ef_10 m r0 (0 : Int32) (1 : Int32))
  obtain ⟨T1, h1, k1, X1, e1, E1, A1, EA1, st1⟩ := newPE X0 hx hZ (own_at hw 24 rfl) e0 (g := (mkF m 1 #[rv r0, iv 0, iv 1, .unset, .unset, .unset] [(.int 1)])) rfl (hb hby d10_1) rfl (by decide) (cap := 1) (by decide) (by decide) (by decide) (by decide) (ad := "[B") (by decide)
  obtain ⟨b1, g1⟩ : ∃ z, z = h0.size := ⟨_, rfl⟩
  rw [← g1] at A1 EA1 st1
  have g_b1 : n0 ≤ b1 := Nat.le_trans Z0 (Nat.le_of_eq g1.symm)
  have sz_b1 : h0.size ≤ b1 := Nat.le_trans (Keep.refl h0 []).1 (Nat.le_of_eq g1.symm)
  have V_b1 : Arv Z h1 b1 k1 .byte (1 : Int32) [(.int 0)] (.int 0) := (Arv.new A1 (by decide)).pad (pad_rep [] (.int 0) 1)
  have f3 := (V_r0.ext E1)
  obtain ⟨_, T2, L2, X2, hQ2, st2⟩ := own_cS 0 (rmC2_1 l Z a0 hw [] r0 b1 kC k1 x0 h1 n0 (Nat.le_trans Z0 E1.1) f3 V_b1 EA1 g_b1) X1 hx hZ hown hw 53 54 51 55 rfl rfl rfl rfl 9 #[rv r0, iv 0, iv 1, rv b1, .unset, .unset] [(.ref r0), (.int 0), (.ref b1), (.int 0), (.int 1)] [] (hb hby d10_9) hml (lenOf pd_4 rfl) e1 rfl (Nat.le_refl _) (by decide)
  have k4 : ∀ t, OwnS p e below T1 (mkF m 9 #[rv r0, iv 0, iv 1, rv b1, .unset, .unset] [(.int 1), (.int 0), (.ref b1), (.int 0), (.ref r0)]) t → OwnS p e below s₁ (entryFrame m #[(.ref r0), (.int 0), (.int 1)] 6) t := fun t q => by
   refine k0 t ?_
   show OwnS p e below s₁ (mkF m 0 #[rv r0, iv 0, iv 1, .unset, .unset, .unset] []) _
   refine oIn X0 hx hby d10_0 rfl ?_
   refine st1 _ ?_
   refine XS.astoreN X1.here hx rfl (hb hby d10_3) rfl rfl (l' := #[rv r0, iv 0, iv 1, rv b1, .unset, .unset]) rfl ?_
   refine oAn X1 hx hby d10_4 rfl rfl (oIn X1 hx hby d10_5 rfl (oAn X1 hx hby d10_6 rfl rfl (oIc X1 hx hby d10_7 (oIn X1 hx hby d10_8 rfl ?_))))
   exact q
  rcases hQ2 with ⟨rfl, N2q, K2, p2_0, p2_1⟩ | ⟨rfl, N2q, K2, p2_0, p2_1⟩
  · have pl2 := (allS (P := fun x => ∃ cell : Cell, h1[x]? = some cell ∧ cell.vm.isStatics = false) (own_ns EA1) all0)
    have N2 := Fr.app N0 N2q
    have f6 := (own_sta_keep (S_AD.ext E1) K2 pl2)
    have f7 := (own_sta_keep (S_HI.ext E1) K2 pl2)
    have f8 := (own_sta_keep (S_LO.ext E1) K2 pl2)
    have f9 := (f3.keep K2 (ninS (Nat.ne_of_lt (Nat.lt_of_lt_of_le V_r0.lt (Nat.le_of_eq g1.symm))) nin0))
    obtain ⟨_, T5, L5, X5, hQ5, st5⟩ := own_cS 0 (rmTB_1 l Z a0 hw [] r0 kC x0 T2.heap n0 (Nat.le_trans (Nat.le_trans Z0 E1.1) K2.1) f6 f7 f8 f9) X2 hx hZ hown hw 84 85 51 86 rfl rfl rfl rfl 23 #[rv r0, iv 0, iv 1, rv b1, iv 0, .unset] [(.ref r0), (.int 0), (.int 1)] [] (hb hby d10_23) hml (lenOf pd_5 rfl) rfl rfl (Nat.le_refl _) (by decide)
    have f10 := (EA1.keep K2)
    obtain ⟨ar_5, kk_5, rfl, N5q, K5, p5_0, p5_1, p5_2⟩ := hQ5
    have g_ar_5 : n0 ≤ ar_5 := Nat.le_trans (Nat.le_trans (Nat.le_trans Z0 E1.1) K2.1) p5_0
    have sz_ar_5 : h0.size ≤ ar_5 := Nat.le_trans (((Keep.refl h0 []).ext E1).trans K2 (allS (Or.inr sz_b1) all0)).1 p5_0
    have N5 := Fr.app N2 N5q
    have f12 := (own_sta_keep f6 K5 all0)
    have f13 := (own_sta_keep f7 K5 all0)
    have f14 := (own_sta_keep f8 K5 all0)
    obtain ⟨_, T11, L11, X11, hQ11, st11⟩ := own_cS 0 (rmGC_1_0 l Z a0 hw [] ar_5 kk_5 x0 T5.heap n0 (Nat.le_trans (Nat.le_trans (Nat.le_trans Z0 E1.1) K2.1) K5.1) f12 f13 f14 p5_1 hch_x0) X5 hx hZ hown hw 100 101 51 102 rfl rfl rfl rfl 32 #[rv r0, iv 0, iv 1, rv b1, iv 0, rv ar_5] [(.ref ar_5), (.int 0)] [] (hb hby d10_32) hml (lenOf pd_6 rfl) rfl rfl (Nat.le_refl _) (by decide)
    obtain ⟨rfl, N11q, e11⟩ := hQ11
    have N11 := Fr.app N5 N11q
    refine own_out X11 Bd.notSynchronized Bd.returns (some (.ref ar_5)) nofun (by decide) (by decide) ?_ fun fs hr => k4 _ ?_
    · rw [e11]; exact Or.inl (⟨ar_5, kk_5, rfl, N11, ((((Keep.refl h0 []).ext E1).trans K2 (allS (Or.inr sz_b1) all0)).trans K5 all0), sz_ar_5, p5_1, p5_2⟩)
    · refine st2 _ ?_
      refine XS.istore X2.here hx rfl (hb hby d10_12) rfl (l' := #[rv r0, iv 0, iv 1, rv b1, iv 0, .unset]) rfl ?_
      refine oIl X2 hx hby d10_14 rfl (oIn X2 hx hby d10_16 rfl ?_)
      refine XS.icmpNo X2.here hx rfl (hb hby d10_17) rfl (feq (by decide : ¬ ((0 : Int32) = (1 : Int32)))).1 ?_
      refine oAn X2 hx hby d10_20 rfl rfl (oIn X2 hx hby d10_21 rfl (oIn X2 hx hby d10_22 rfl ?_))
      refine st5 _ ?_
      refine XS.astore X5.here hx rfl (hb hby d10_26) rfl rfl (l' := #[rv r0, iv 0, iv 1, rv b1, iv 0, rv ar_5]) rfl ?_
      refine oAl X5 hx hby d10_28 rfl rfl (oIl X5 hx hby d10_30 rfl ?_)
      refine st11 _ ?_
      refine XS.sipush X11.here hx rfl (hb hby d10_35) ?_
      refine XS.icmpYes X11.here hx rfl (pc0 := 38) (pc' := 54) rfl (hb hby d10_38) rfl (tlt p2_1).2.2.1 (by decide) (by decide) ?_
      refine oAl X11 hx hby d10_54 rfl rfl ?_
      jvm_step X11.here [X11.here.top, hx, (hb hby d10_56), X11.method', Bd.returns, Value.isRef, FieldType.isReference]
      first | (intro acts; rw [hr _ acts rfl rfl rfl]) | rw [hr _ _ rfl rfl rfl]
      exact Steps.refl _
  · have pl2 := (allS (P := fun x => ∃ cell : Cell, h1[x]? = some cell ∧ cell.vm.isStatics = false) (own_ns EA1) all0)
    have N2 := Fr.app N0 N2q
    have f15 := (EA1.keep K2)
    refine own_out X2 Bd.notSynchronized Bd.returns (some (.ref b1)) nofun (by decide) (by decide) ?_ fun fs hr => k4 _ ?_
    · exact Or.inr ((⟨b1, k1, rfl, N2, (((Keep.refl h0 []).ext E1).trans K2 (allS (Or.inr sz_b1) all0)), sz_b1, p2_0, f15, p2_1⟩))
    · refine st2 _ ?_
      refine XS.istore X2.here hx rfl (hb hby d10_12) rfl (l' := #[rv r0, iv 0, iv 1, rv b1, iv 1, .unset]) rfl ?_
      refine oIl X2 hx hby d10_14 rfl (oIn X2 hx hby d10_16 rfl ?_)
      refine XS.icmpYes X2.here hx rfl (pc0 := 17) (pc' := 57) rfl (hb hby d10_17) rfl (teq (by decide : (1 : Int32) = (1 : Int32))).1 (by decide) (by decide) ?_
      refine oAn X2 hx hby d10_57 rfl rfl ?_
      jvm_step X2.here [X2.here.top, hx, (hb hby d10_58), X2.method', Bd.returns, Value.isRef, FieldType.isReference]
      first | (intro acts; rw [hr _ acts rfl rfl rfl]) | rw [hr _ _ rfl rfl rfl]
      exact Steps.refl _
theorem d12_0 : decode jdk_52_method_15_code 0 = .ok (.iload_n 1, 1) := by decide +kernel
theorem d12_1 : decode jdk_52_method_15_code 1 = .ok (.aload_n 0, 1) := by decide +kernel
theorem d12_2 : decode jdk_52_method_15_code 2 = .ok (.arraylength, 1) := by decide +kernel
theorem d12_3 : decode jdk_52_method_15_code 3 = .ok (.isub, 1) := by decide +kernel
theorem d12_4 : decode jdk_52_method_15_code 4 = .ok (.bipush 31, 2) := by decide +kernel
theorem d12_6 : decode jdk_52_method_15_code 6 = .ok (.iushr, 1) := by decide +kernel
theorem d12_7 : decode jdk_52_method_15_code 7 = .ok (.i2b, 1) := by decide +kernel
theorem d12_8 : decode jdk_52_method_15_code 8 = .ok (.ireturn, 1) := by decide +kernel
theorem ef_12 (m : MethodId) (x0 : Addr) (x1 : Int32) : entryFrame m #[(.ref x0), (.int x1)] 2 = mkF m 0 #[.val (.ref x0), .val (.int x1)] [] := by first | (simp [entryFrame, mkF, argsToLocals, Value.category]; done) | rfl
def Q_Cd_1_1 (Z : State) (r0 : Addr) (kB : ClassId) (vs : List Value) (h0 : Heap) (n0 : Nat) (v : Option Value) (h : Heap) (L : List Loc) : Prop := v = some (.int 0) ∧ Fr n0 L ∧ h = h0
theorem rmCd_1_1 (l : Launch) (Z : State) (a0 : Array Value) (hw : own_HW a0 Z) (ws : List Jvm.Cond) (r0 : Addr) (kB : ClassId) (vs : List Value) (h0 : Heap) (n0 : Nat) (Z0 : n0 ≤ h0.size) (V_r0 : Arv Z h0 r0 kB .byte (1 : Int32) vs (.int 0)) :
    own_M l Z (⟨cS0, "coderFromArrayLen", "([BI)B"⟩ : MethodName) jdk_52_method_15_code 2 (some .byte) ws ({ frames := 0, cells := 0, slots := 0, locals := 0 } : Room) #[(.ref r0), (.int 1)] h0 (Q_Cd_1_1 Z r0 kB vs h0 n0) := by
  refine own_in cS0 rfl (plainFor_of_name pn_java_lang_StringUTF16) ?_
  intro p e s m below meth c s₁ Bd hml hZ hh hx hby hown X0 e0
  have N0 := Fr.nil n0
  have k0 := own_k (p := p) (e := e) (below := below) (T := s₁) (ef_12 m r0 (1 : Int32))
  obtain ⟨cl_z1, Ar_z1, q_z1, S_z1, N_z1, H_z1, G_z1⟩ := id V_r0
  refine own_out X0 Bd.notSynchronized Bd.returns (some (.int 0)) nofun (by decide) (by decide) ?_ fun fs hr => k0 _ ?_
  · rw [e0]; exact ⟨rfl, N0, rfl⟩
  · show OwnS p e below s₁ (mkF m 0 #[rv r0, iv 1] []) _
    refine oIn X0 hx hby d12_0 rfl (oAn X0 hx hby d12_1 rfl rfl ?_)
    refine X0.arraylength hx (by rw [e0]; exact Ar_z1.1) (State.isArrayOf_alike hZ.alike Ar_z1.2.1) (g := (mkF m 2 #[rv r0, iv 1] [(.ref r0), (.int 1)])) rfl rfl (hb hby d12_2) _ ?_
    rw [len_of S_z1 N_z1]
    refine XS.isub X0.here hx rfl (hb hby d12_3) rfl ?_
    refine oBp X0 hx hby d12_4 ?_
    refine XS.iushr X0.here hx rfl (hb hby d12_6) rfl ?_
    refine XS.i2b X0.here hx rfl (hb hby d12_7) rfl ?_
    exact retN X0 hx (t := .byte) Bd.returns (by simp) (hb hby d12_8) hr
def Q_Cd_1_2 (Z : State) (r0 : Addr) (kB : ClassId) (vs : List Value) (h0 : Heap) (n0 : Nat) (v : Option Value) (h : Heap) (L : List Loc) : Prop := v = some (.int 1) ∧ Fr n0 L ∧ h = h0
theorem rmCd_1_2 (l : Launch) (Z : State) (a0 : Array Value) (hw : own_HW a0 Z) (ws : List Jvm.Cond) (r0 : Addr) (kB : ClassId) (vs : List Value) (h0 : Heap) (n0 : Nat) (Z0 : n0 ≤ h0.size) (V_r0 : Arv Z h0 r0 kB .byte (2 : Int32) vs (.int 0)) :
    own_M l Z (⟨cS0, "coderFromArrayLen", "([BI)B"⟩ : MethodName) jdk_52_method_15_code 2 (some .byte) ws ({ frames := 0, cells := 0, slots := 0, locals := 0 } : Room) #[(.ref r0), (.int 1)] h0 (Q_Cd_1_2 Z r0 kB vs h0 n0) := by
  refine own_in cS0 rfl (plainFor_of_name pn_java_lang_StringUTF16) ?_
  intro p e s m below meth c s₁ Bd hml hZ hh hx hby hown X0 e0
  have N0 := Fr.nil n0
  have k0 := own_k (p := p) (e := e) (below := below) (T := s₁) (ef_12 m r0 (1 : Int32))
  obtain ⟨cl_z1, Ar_z1, q_z1, S_z1, N_z1, H_z1, G_z1⟩ := id V_r0
  refine own_out X0 Bd.notSynchronized Bd.returns (some (.int 1)) nofun (by decide) (by decide) ?_ fun fs hr => k0 _ ?_
  · rw [e0]; exact ⟨rfl, N0, rfl⟩
  · show OwnS p e below s₁ (mkF m 0 #[rv r0, iv 1] []) _
    refine oIn X0 hx hby d12_0 rfl (oAn X0 hx hby d12_1 rfl rfl ?_)
    refine X0.arraylength hx (by rw [e0]; exact Ar_z1.1) (State.isArrayOf_alike hZ.alike Ar_z1.2.1) (g := (mkF m 2 #[rv r0, iv 1] [(.ref r0), (.int 1)])) rfl rfl (hb hby d12_2) _ ?_
    rw [len_of S_z1 N_z1]
    refine XS.isub X0.here hx rfl (hb hby d12_3) rfl ?_
    refine oBp X0 hx hby d12_4 ?_
    refine XS.iushr X0.here hx rfl (hb hby d12_6) rfl ?_
    refine XS.i2b X0.here hx rfl (hb hby d12_7) rfl ?_
    exact retN X0 hx (t := .byte) Bd.returns (by simp) (hb hby d12_8) hr
theorem pd_7 : parseMethodDescriptor "([BI)B" = some ⟨[(.array .byte), .int], some .byte⟩ := by decide +kernel
theorem d4_0 : decode jdk_42_method_149_code 0 = .ok (.aload_n 0, 1) := by decide +kernel
theorem d4_1 : decode jdk_42_method_149_code 1 = .ok (.invokespecial 1, 3) := by decide +kernel
theorem d4_4 : decode jdk_42_method_149_code 4 = .ok (.iload_n 3, 1) := by decide +kernel
theorem d4_5 : decode jdk_42_method_149_code 5 = .ok (.ifCond .ne 22, 3) := by decide +kernel
theorem d4_27 : decode jdk_42_method_149_code 27 = .ok (.getstatic 38, 3) := by decide +kernel
theorem d4_30 : decode jdk_42_method_149_code 30 = .ok (.ifCond .eq 28, 3) := by decide +kernel
theorem d4_33 : decode jdk_42_method_149_code 33 = .ok (.aload_n 1, 1) := by decide +kernel
theorem d4_34 : decode jdk_42_method_149_code 34 = .ok (.iload_n 2, 1) := by decide +kernel
theorem d4_35 : decode jdk_42_method_149_code 35 = .ok (.iload_n 3, 1) := by decide +kernel
theorem d4_36 : decode jdk_42_method_149_code 36 = .ok (.invokestatic 177, 3) := by decide +kernel
theorem d4_39 : decode jdk_42_method_149_code 39 = .ok (.astore 5, 2) := by decide +kernel
theorem d4_41 : decode jdk_42_method_149_code 41 = .ok (.aload_n 0, 1) := by decide +kernel
theorem d4_42 : decode jdk_42_method_149_code 42 = .ok (.aload 5, 2) := by decide +kernel
theorem d4_44 : decode jdk_42_method_149_code 44 = .ok (.iload_n 3, 1) := by decide +kernel
theorem d4_45 : decode jdk_42_method_149_code 45 = .ok (.invokestatic 47, 3) := by decide +kernel
theorem d4_48 : decode jdk_42_method_149_code 48 = .ok (.putfield 15, 3) := by decide +kernel
theorem d4_51 : decode jdk_42_method_149_code 51 = .ok (.aload_n 0, 1) := by decide +kernel
theorem d4_52 : decode jdk_42_method_149_code 52 = .ok (.aload 5, 2) := by decide +kernel
theorem d4_54 : decode jdk_42_method_149_code 54 = .ok (.putfield 9, 3) := by decide +kernel
theorem d4_57 : decode jdk_42_method_149_code 57 = .ok (.return_, 1) := by decide +kernel
theorem ef_4n4 (m : MethodId) (x0 : Addr) (x1 : Addr) (x2 : Int32) (x3 : Int32) : entryFrame m #[(.ref x0), (.ref x1), (.int x2), (.int x3), .null] 6 = mkF m 0 #[.val (.ref x0), .val (.ref x1), .val (.int x2), .val (.int x3), .val .null, .unset] [] := by first | (simp [entryFrame, mkF, argsToLocals, Value.category]; done) | rfl
def Q_I2_1 (Z : State) (r0 r1 : Addr) (w_CS : Int32) (kC : ClassId) (x0 : Int32) (u_coder_r0 u_value_r0 u_coder_r0 u_value_r0 : Value) (h0 : Heap) (n0 : Nat) (v : Option Value) (h : Heap) (L : List Loc) : Prop := v = none ∧ Fr n0 L ∧ Keep h0 h [r0] ∧ own_S1 Z h r0 x0 ∧ Exa Z h r0 cS1
theorem rmI2_1 (l : Launch) (Z : State) (a0 : Array Value) (hw : own_HW a0 Z) (ws : List Jvm.Cond) (r0 r1 : Addr) (w_CS : Int32) (kC : ClassId) (x0 : Int32) (u_coder_r0 u_value_r0 u_coder_r0 u_value_r0 : Value) (h0 : Heap) (n0 : Nat) (Z0 : n0 ≤ h0.size) (S_CS : Sta Z h0 cS1 cS10 "Z" (.int w_CS)) (hcs : ¬ (w_CS = (0 : Int32))) (S_AD : Sta Z h0 cS0 cS5 "Z" (.int 1)) (S_HI : Sta Z h0 cS0 cS7 "I" (.int 0)) (S_LO : Sta Z h0 cS0 cS8 "I" (.int 8)) (E_r0 : Exa Z h0 r0 cS1) (V_r1 : Arv Z h0 r1 kC .char (1 : Int32) [(.int x0)] (.int 0)) (hch_x0 : own_ch x0) (F_coder_r0 : Fld Z h0 r0 cS1 "coder" "B" u_coder_r0) (ge_r0 : n0 ≤ r0) (F_value_r0 : Fld Z h0 r0 cS1 "value" "[B" u_value_r0) :
    own_M l Z (⟨cS1, "<init>", "([CIILjava/lang/Void;)V"⟩ : MethodName) jdk_42_method_149_code 6 none ws ({ frames := 4, cells := 2, slots := 3, locals := 57 } : Room) #[(.ref r0), (.ref r1), (.int 0), (.int 1), .null] h0 (Q_I2_1 Z r0 r1 w_CS kC x0 u_coder_r0 u_value_r0 u_coder_r0 u_value_r0 h0 n0) := by
  refine own_in cS1 rfl (plainFor_of_name pn_java_lang_String) ?_
  intro p e s m below meth c s₁ Bd hml hZ hh hx hby hown X0 e0
  have N0 := Fr.nil n0
  have hnm := (name_of_methodNamed Bd.named Bd.method).1
  have k0 := own_k (p := p) (e := e) (below := below) (T := s₁) (ef_4n4 m r0 r1 (0 : Int32) (1 : Int32))
  obtain ⟨T1, X1, e1, st1⟩ := initO X0 hx hZ hown (own_at hw 20 rfl) (own_at hw 21 rfl) (own_at hw 22 rfl) e0 (g := (mkF m 1 #[rv r0, rv r1, iv 0, iv 1, .val .null, .unset] [(.ref r0)])) rfl (by rw [hml]; rfl) rfl (hb hby d4_1) (by decide) (W := 0) (Nat.le_refl _) (by decide)
  obtain ⟨T2, X2, e2, st2⟩ := getS2 X1 hx hZ hown (host := "") (Or.inl (own_at hw 45 rfl)) Via.refl e1 S_CS (g := (mkF m 27 #[rv r0, rv r1, iv 0, iv 1, .val .null, .unset] [])) rfl (hb hby d4_27)
  obtain ⟨_, T3, L3, X3, hQ3, st3⟩ := own_cS 0 (rmC1_1 l Z a0 hw [] r1 kC x0 h0 n0 Z0 S_AD S_HI S_LO V_r1 hch_x0) X2 hx hZ hown hw 49 50 51 52 rfl rfl rfl rfl 36 #[rv r0, rv r1, iv 0, iv 1, .val .null, .unset] [(.ref r1), (.int 0), (.int 1)] [] (hb hby d4_36) hml (lenOf pd_5 rfl) e2 rfl (Nat.le_refl _) (by decide)
  have k4 : ∀ t, OwnS p e below T2 (mkF m 36 #[rv r0, rv r1, iv 0, iv 1, .val .null, .unset] [(.int 1), (.int 0), (.ref r1)]) t → OwnS p e below s₁ (entryFrame m #[(.ref r0), (.ref r1), (.int 0), (.int 1), .null] 6) t := fun t q => by
   refine k0 t ?_
   show OwnS p e below s₁ (mkF m 0 #[rv r0, rv r1, iv 0, iv 1, .val .null, .unset] []) _
   refine oAn X0 hx hby d4_0 rfl rfl ?_
   refine st1 _ ?_
   refine oIn X1 hx hby d4_4 rfl ?_
   refine XS.ifYes X1.here hx rfl (pc0 := 5) (pc' := 27) rfl (hb hby d4_5) rfl ((if0 _ _).trans (feq (by decide : ¬ ((1 : Int32) = (0 : Int32)))).2) (by decide) (by decide) ?_
   refine st2 _ ?_
   refine XS.ifNo X2.here hx rfl (hb hby d4_30) rfl ((if0 _ _).trans (feq hcs).1) ?_
   refine oAn X2 hx hby d4_33 rfl rfl (oIn X2 hx hby d4_34 rfl (oIn X2 hx hby d4_35 rfl ?_))
   exact q
  rcases hQ3 with ⟨ar_3, kk_3, rfl, N3q, K3, p3_0, p3_1, p3_2⟩ | ⟨ar_3, kk_3, rfl, N3q, K3, p3_0, p3_1, p3_2, p3_3⟩
  · have g_ar_3 : n0 ≤ ar_3 := Nat.le_trans Z0 p3_0
    have sz_ar_3 : h0.size ≤ ar_3 := Nat.le_trans (Keep.refl h0 []).1 p3_0
    have N3 := Fr.app N0 N3q
    obtain ⟨_, T5, L5, X5, hQ5, st5⟩ := own_cS 1 (rmCd_1_2 l Z a0 hw [] ar_3 kk_3 [(.int (((x0 >>> ((0 : Int32) &&& 31)).toInt8.toInt32).toInt8.toInt32)), (.int (((x0 >>> ((8 : Int32) &&& 31)).toInt8.toInt32).toInt8.toInt32))] T3.heap n0 (Nat.le_trans Z0 K3.1) p3_1) X3 hx hZ hown hw 56 57 51 58 rfl rfl rfl rfl 45 #[rv r0, rv r1, iv 0, iv 1, .val .null, rv ar_3] [(.ref ar_3), (.int 1)] [(.ref r0)] (hb hby d4_45) hml (lenOf pd_7 rfl) rfl rfl (Nat.le_refl _) (by decide)
    obtain ⟨rfl, N5q, e5⟩ := hQ5
    have N5 := Fr.app N3 N5q
    have f6 := (E_r0.keep K3)
    have f7 := (F_coder_r0.keep K3 nin0)
    obtain ⟨T8, h8, X8, e8, W8, st8⟩ := putFN X5 hx hZ hown (own_at hw 30 rfl) Via.refl e5 f7 f6 (Or.inr ⟨(own_at hw 26 rfl), rfl, hnm⟩) (own_at hw 11 rfl) (ty := .byte) (v' := (.int 1)) (by decide) rfl rfl (g := (mkF m 48 #[rv r0, rv r1, iv 0, iv 1, .val .null, rv ar_3] [(.int 1), (.ref r0)])) rfl rfl (hb hby d4_48)
    have Fw8 : Fld Z h8 r0 cS1 "coder" "B" (.int 1) := f7.same W8
    have N8 := Fr.snoc X8 N5 ge_r0
    have f9 := (f6.wr W8)
    have f10 := ((F_value_r0.keep K3 nin0).other W8 (Or.inr (slot_ne (Or.inr (own_at hw 25 rfl)) (Or.inr (own_at hw 26 rfl)) (by decide) (t := (.array .byte)) (t' := .byte) (by decide) (by decide))))
    obtain ⟨T11, h11, X11, e11, W11, st11⟩ := putF X8 hx hZ hown (host := "") (Or.inl (own_at hw 29 rfl)) Via.refl e8 f10 f9 (Or.inr ⟨(own_at hw 25 rfl), rfl, hnm⟩) (own_at hw 11 rfl) (ty := (.array .byte)) (by decide) rfl rfl (g := (mkF m 54 #[rv r0, rv r1, iv 0, iv 1, .val .null, rv ar_3] [(.ref ar_3), (.ref r0)])) rfl rfl (hb hby d4_54)
    have Fw11 : Fld Z h11 r0 cS1 "value" "[B" (.ref ar_3) := f10.same W11
    have N11 := Fr.snoc X11 N8 ge_r0
    have f12 := ((p3_1.other W8 (Ne.symm (Nat.ne_of_lt (Nat.lt_of_lt_of_le E_r0.lt p3_0)))).other W11 (Ne.symm (Nat.ne_of_lt (Nat.lt_of_lt_of_le E_r0.lt p3_0))))
    have f14 := (f9.wr W11)
    have f15 := (Fw8.other W11 (Or.inr (slot_ne (Or.inr (own_at hw 26 rfl)) (Or.inr (own_at hw 25 rfl)) (by decide) (t := .byte) (t' := (.array .byte)) (by decide) (by decide))))
    have P13 : own_S1 Z h11 r0 x0 := ⟨f14, Or.inr ⟨ar_3, kk_3, f15, Fw11, f12⟩⟩
    refine own_out X11 Bd.notSynchronized Bd.returns (none) (fun _ => rfl) (by decide) (by decide) ?_ fun fs hr => k4 _ ?_
    · rw [e11]; exact ⟨rfl, N11, ((((Keep.refl h0 [r0]).trans K3 all0).wr W8 (Or.inl (List.mem_of_getElem? (i := 0) rfl))).wr W11 (Or.inl (List.mem_of_getElem? (i := 0) rfl))), P13, f14⟩
    · refine st3 _ ?_
      refine XS.astore X3.here hx rfl (hb hby d4_39) rfl rfl (l' := #[rv r0, rv r1, iv 0, iv 1, .val .null, rv ar_3]) rfl ?_
      refine oAn X3 hx hby d4_41 rfl rfl (oAl X3 hx hby d4_42 rfl rfl (oIn X3 hx hby d4_44 rfl ?_))
      refine st5 _ ?_
      refine st8 _ ?_
      refine oAn X8 hx hby d4_51 rfl rfl (oAl X8 hx hby d4_52 rfl rfl ?_)
      refine st11 _ ?_
      exact X11.returnOut hx Bd.returns (hb hby d4_57) hr
  · have g_ar_3 : n0 ≤ ar_3 := Nat.le_trans Z0 p3_0
    have sz_ar_3 : h0.size ≤ ar_3 := Nat.le_trans (Keep.refl h0 []).1 p3_0
    have N3 := Fr.app N0 N3q
    obtain ⟨_, T16, L16, X16, hQ16, st16⟩ := own_cS 1 (rmCd_1_1 l Z a0 hw [] ar_3 kk_3 [(.int ((x0.toInt8.toInt32).toInt8.toInt32))] T3.heap n0 (Nat.le_trans Z0 K3.1) p3_1) X3 hx hZ hown hw 56 57 51 58 rfl rfl rfl rfl 45 #[rv r0, rv r1, iv 0, iv 1, .val .null, rv ar_3] [(.ref ar_3), (.int 1)] [(.ref r0)] (hb hby d4_45) hml (lenOf pd_7 rfl) rfl rfl (Nat.le_refl _) (by decide)
    obtain ⟨rfl, N16q, e16⟩ := hQ16
    have N16 := Fr.app N3 N16q
    have f17 := (E_r0.keep K3)
    have f18 := (F_coder_r0.keep K3 nin0)
    obtain ⟨T19, h19, X19, e19, W19, st19⟩ := putFN X16 hx hZ hown (own_at hw 30 rfl) Via.refl e16 f18 f17 (Or.inr ⟨(own_at hw 26 rfl), rfl, hnm⟩) (own_at hw 11 rfl) (ty := .byte) (v' := (.int 0)) (by decide) rfl rfl (g := (mkF m 48 #[rv r0, rv r1, iv 0, iv 1, .val .null, rv ar_3] [(.int 0), (.ref r0)])) rfl rfl (hb hby d4_48)
    have Fw19 : Fld Z h19 r0 cS1 "coder" "B" (.int 0) := f18.same W19
    have N19 := Fr.snoc X19 N16 ge_r0
    have f20 := (f17.wr W19)
    have f21 := ((F_value_r0.keep K3 nin0).other W19 (Or.inr (slot_ne (Or.inr (own_at hw 25 rfl)) (Or.inr (own_at hw 26 rfl)) (by decide) (t := (.array .byte)) (t' := .byte) (by decide) (by decide))))
    obtain ⟨T22, h22, X22, e22, W22, st22⟩ := putF X19 hx hZ hown (host := "") (Or.inl (own_at hw 29 rfl)) Via.refl e19 f21 f20 (Or.inr ⟨(own_at hw 25 rfl), rfl, hnm⟩) (own_at hw 11 rfl) (ty := (.array .byte)) (by decide) rfl rfl (g := (mkF m 54 #[rv r0, rv r1, iv 0, iv 1, .val .null, rv ar_3] [(.ref ar_3), (.ref r0)])) rfl rfl (hb hby d4_54)
    have Fw22 : Fld Z h22 r0 cS1 "value" "[B" (.ref ar_3) := f21.same W22
    have N22 := Fr.snoc X22 N19 ge_r0
    have f23 := ((p3_1.other W19 (Ne.symm (Nat.ne_of_lt (Nat.lt_of_lt_of_le E_r0.lt p3_0)))).other W22 (Ne.symm (Nat.ne_of_lt (Nat.lt_of_lt_of_le E_r0.lt p3_0))))
    have f25 := (f20.wr W22)
    have f26 := (Fw19.other W22 (Or.inr (slot_ne (Or.inr (own_at hw 26 rfl)) (Or.inr (own_at hw 25 rfl)) (by decide) (t := .byte) (t' := (.array .byte)) (by decide) (by decide))))
    have P24 : own_S1 Z h22 r0 x0 := ⟨f25, Or.inl ⟨ar_3, kk_3, f26, Fw22, f23, p3_3⟩⟩
    refine own_out X22 Bd.notSynchronized Bd.returns (none) (fun _ => rfl) (by decide) (by decide) ?_ fun fs hr => k4 _ ?_
    · rw [e22]; exact ⟨rfl, N22, ((((Keep.refl h0 [r0]).trans K3 all0).wr W19 (Or.inl (List.mem_of_getElem? (i := 0) rfl))).wr W22 (Or.inl (List.mem_of_getElem? (i := 0) rfl))), P24, f25⟩
    · refine st3 _ ?_
      refine XS.astore X3.here hx rfl (hb hby d4_39) rfl rfl (l' := #[rv r0, rv r1, iv 0, iv 1, .val .null, rv ar_3]) rfl ?_
      refine oAn X3 hx hby d4_41 rfl rfl (oAl X3 hx hby d4_42 rfl rfl (oIn X3 hx hby d4_44 rfl ?_))
      refine st16 _ ?_
      refine st19 _ ?_
      refine oAn X19 hx hby d4_51 rfl rfl (oAl X19 hx hby d4_52 rfl rfl ?_)
      refine st22 _ ?_
      exact X22.returnOut hx Bd.returns (hb hby d4_57) hr
theorem pd_8 : parseMethodDescriptor "([CIILjava/lang/Void;)V" = some ⟨[(.array .char), .int, .int, (.object "java/lang/Void")], none⟩ := by decide +kernel
theorem d3_0 : decode jdk_42_method_3_code 0 = .ok (.aload_n 0, 1) := by decide +kernel
theorem d3_1 : decode jdk_42_method_3_code 1 = .ok (.aload_n 1, 1) := by decide +kernel
theorem d3_2 : decode jdk_42_method_3_code 2 = .ok (.iconst 0, 1) := by decide +kernel
theorem d3_3 : decode jdk_42_method_3_code 3 = .ok (.aload_n 1, 1) := by decide +kernel
theorem d3_4 : decode jdk_42_method_3_code 4 = .ok (.arraylength, 1) := by decide +kernel
theorem d3_5 : decode jdk_42_method_3_code 5 = .ok (.aconst_null, 1) := by decide +kernel
theorem d3_6 : decode jdk_42_method_3_code 6 = .ok (.invokespecial 27, 3) := by decide +kernel
theorem d3_9 : decode jdk_42_method_3_code 9 = .ok (.return_, 1) := by decide +kernel
theorem ef_3 (m : MethodId) (x0 : Addr) (x1 : Addr) : entryFrame m #[(.ref x0), (.ref x1)] 2 = mkF m 0 #[.val (.ref x0), .val (.ref x1)] [] := by first | (simp [entryFrame, mkF, argsToLocals, Value.category]; done) | rfl
def Q_I1_1 (Z : State) (r0 r1 : Addr) (w_CS : Int32) (kC : ClassId) (x0 : Int32) (u_coder_r0 u_value_r0 : Value) (h0 : Heap) (n0 : Nat) (v : Option Value) (h : Heap) (L : List Loc) : Prop := v = none ∧ Fr n0 L ∧ Keep h0 h [r0] ∧ own_S1 Z h r0 x0 ∧ Exa Z h r0 cS1
theorem rmI1_1 (l : Launch) (Z : State) (a0 : Array Value) (hw : own_HW a0 Z) (ws : List Jvm.Cond) (r0 r1 : Addr) (w_CS : Int32) (kC : ClassId) (x0 : Int32) (u_coder_r0 u_value_r0 : Value) (h0 : Heap) (n0 : Nat) (Z0 : n0 ≤ h0.size) (S_CS : Sta Z h0 cS1 cS10 "Z" (.int w_CS)) (hcs : ¬ (w_CS = (0 : Int32))) (S_AD : Sta Z h0 cS0 cS5 "Z" (.int 1)) (S_HI : Sta Z h0 cS0 cS7 "I" (.int 0)) (S_LO : Sta Z h0 cS0 cS8 "I" (.int 8)) (E_r0 : Exa Z h0 r0 cS1) (V_r1 : Arv Z h0 r1 kC .char (1 : Int32) [(.int x0)] (.int 0)) (hch_x0 : own_ch x0) (F_coder_r0 : Fld Z h0 r0 cS1 "coder" "B" u_coder_r0) (ge_r0 : n0 ≤ r0) (F_value_r0 : Fld Z h0 r0 cS1 "value" "[B" u_value_r0) :
    own_M l Z (⟨cS1, "<init>", "([C)V"⟩ : MethodName) jdk_42_method_3_code 2 none ws ({ frames := 5, cells := 2, slots := 3, locals := 74 } : Room) #[(.ref r0), (.ref r1)] h0 (Q_I1_1 Z r0 r1 w_CS kC x0 u_coder_r0 u_value_r0 h0 n0) := by
  refine own_in cS1 rfl (plainFor_of_name pn_java_lang_String) ?_
  intro p e s m below meth c s₁ Bd hml hZ hh hx hby hown X0 e0
  have N0 := Fr.nil n0
  have k0 := own_k (p := p) (e := e) (below := below) (T := s₁) (ef_3 m r0 r1)
  obtain ⟨cl_z1, Ar_z1, q_z1, S_z1, N_z1, H_z1, G_z1⟩ := id V_r1
  obtain ⟨_, _, ⟨T2, L2, j2, i2⟩, -, X2, ⟨Lc2, hQ2, l2, y2, z2⟩, st2⟩ := X0.specialBack hx (y := (⟨cS1, "<init>", "([CIILjava/lang/Void;)V"⟩ : MethodName)) rfl hown (mvT hZ (own_at hw 16 rfl)) (mvT hZ (own_at hw 17 rfl)) (mvT hZ (own_at hw 19 rfl)) (by decide) (backOf (W := 0) (rmI2_1 l Z a0 hw [] r0 r1 w_CS kC x0 u_coder_r0 u_value_r0 u_coder_r0 u_value_r0 h0 n0 Z0 S_CS hcs S_AD S_HI S_LO E_r0 V_r1 hch_x0 F_coder_r0 ge_r0 F_value_r0) hZ (own_at hw 19 rfl) (own_at hw 12 rfl) (by decide) (by decide)) (g := (mkF m 6 #[rv r0, rv r1] [.null, (.int 1), (.int 0), (.ref r1), (.ref r0)])) rfl (by rw [hml]; rfl) (Steps.refl _) (a := r0) (argsL := [(.ref r1), (.int 0), (.int 1), .null]) (rest := []) (lenOf pd_8 rfl) rfl (Nat.le_refl _) (hb hby d3_6) (fun _ _ => ⟨rfl, e0, (by decide : 0 + 2 ≤ _), (by decide : 0 + 3 ≤ _)⟩)
  dsimp only [Pt.U, Pt.locs, Pt.cells, Pt.slots] at X2 l2 y2 z2 st2 hQ2
  subst l2 y2 z2
  obtain ⟨rfl, N2q, K2, p2_0, p2_1⟩ := hQ2
  have pl2 := (allS (P := fun x => ∃ cell : Cell, h0[x]? = some cell ∧ cell.vm.isStatics = false) (own_ns E_r0) all0)
  have N2 := Fr.app N0 N2q
  refine own_out X2 Bd.notSynchronized Bd.returns (none) (fun _ => rfl) (by decide) (by decide) ?_ fun fs hr => k0 _ ?_
  · exact ⟨rfl, N2, ((Keep.refl h0 [r0]).trans K2 (allS (Or.inl (List.mem_of_getElem? (i := 0) rfl)) all0)), p2_0, p2_1⟩
  · show OwnS p e below s₁ (mkF m 0 #[rv r0, rv r1] []) _
    refine oAn X0 hx hby d3_0 rfl rfl (oAn X0 hx hby d3_1 rfl rfl (oIc X0 hx hby d3_2 (oAn X0 hx hby d3_3 rfl rfl ?_)))
    refine X0.arraylength hx (by rw [e0]; exact Ar_z1.1) (State.isArrayOf_alike hZ.alike Ar_z1.2.1) (g := (mkF m 4 #[rv r0, rv r1] [(.ref r1), (.int 0), (.ref r1), (.ref r0)])) rfl rfl (hb hby d3_4) _ ?_
    rw [len_of S_z1 N_z1]
    refine XS.aconstNull X0.here hx rfl (hb hby d3_5) ?_
    refine st2.trans ?_
    exact X2.returnOut hx Bd.returns (hb hby d3_9) hr
def Q_UL_2 (Z : State) (r0 : Addr) (kB : ClassId) (vs : List Value) (h0 : Heap) (n0 : Nat) (v : Option Value) (h : Heap) (L : List Loc) : Prop := v = some (.int 2) ∧ Fr n0 L ∧ h = h0
theorem rmUL_2 (l : Launch) (Z : State) (a0 : Array Value) (hw : own_HW a0 Z) (ws : List Jvm.Cond) (r0 : Addr) (kB : ClassId) (vs : List Value) (h0 : Heap) (n0 : Nat) (Z0 : n0 ≤ h0.size) (V_r0 : Arv Z h0 r0 kB .byte (4 : Int32) vs (.int 0)) :
    own_M l Z (⟨cS0, "length", "([B)I"⟩ : MethodName) jdk_52_method_6_code 1 (some .int) ws ({ frames := 0, cells := 0, slots := 0, locals := 0 } : Room) #[(.ref r0)] h0 (Q_UL_2 Z r0 kB vs h0 n0) := by
  refine own_in cS0 rfl (plainFor_of_name pn_java_lang_StringUTF16) ?_
  intro p e s m below meth c s₁ Bd hml hZ hh hx hby hown X0 e0
  have N0 := Fr.nil n0
  have k0 := own_k (p := p) (e := e) (below := below) (T := s₁) (ef_26 m r0)
  obtain ⟨cl_z1, Ar_z1, q_z1, S_z1, N_z1, H_z1, G_z1⟩ := id V_r0
  refine own_out X0 Bd.notSynchronized Bd.returns (some (.int 2)) nofun (by decide) (by decide) ?_ fun fs hr => k0 _ ?_
  · rw [e0]; exact ⟨rfl, N0, rfl⟩
  · show OwnS p e below s₁ (mkF m 0 #[rv r0] []) _
    refine oAn X0 hx hby d26_0 rfl rfl ?_
    refine X0.arraylength hx (by rw [e0]; exact Ar_z1.1) (State.isArrayOf_alike hZ.alike Ar_z1.2.1) (g := (mkF m 1 #[rv r0] [(.ref r0)])) rfl rfl (hb hby d26_1) _ ?_
    rw [len_of S_z1 N_z1]
    refine oIc X0 hx hby d26_2 ?_
    refine XS.ishr X0.here hx rfl (hb hby d26_3) rfl ?_
    exact retI X0 hx Bd.returns (hb hby d26_4) hr
def Q_NL_2 (Z : State)  (h0 : Heap) (n0 : Nat) (v : Option Value) (h : Heap) (L : List Loc) : Prop := v = some (.int 4) ∧ Fr n0 L ∧ h = h0
theorem rmNL_2 (l : Launch) (Z : State) (a0 : Array Value) (hw : own_HW a0 Z) (ws : List Jvm.Cond)  (h0 : Heap) (n0 : Nat) (Z0 : n0 ≤ h0.size) :
    own_M l Z (⟨cS0, "newBytesLength", "(I)I"⟩ : MethodName) jdk_52_method_3_code 1 (some .int) ws ({ frames := 0, cells := 0, slots := 0, locals := 0 } : Room) #[(.int 2)] h0 (Q_NL_2 Z  h0 n0) := by
  refine own_in cS0 rfl (plainFor_of_name pn_java_lang_StringUTF16) ?_
  intro p e s m below meth c s₁ Bd hml hZ hh hx hby hown X0 e0
  have N0 := Fr.nil n0
  have k0 := own_k (p := p) (e := e) (below := below) (T := s₁) (ef_21 m (2 : Int32))
  refine own_out X0 Bd.notSynchronized Bd.returns (some (.int 4)) nofun (by decide) (by decide) ?_ fun fs hr => k0 _ ?_
  · rw [e0]; exact ⟨rfl, N0, rfl⟩
  · show OwnS p e below s₁ (mkF m 0 #[iv 2] []) _
    refine oIn X0 hx hby d21_0 rfl ?_
    refine XS.ifYes X0.here hx rfl (pc0 := 1) (pc' := 12) rfl (hb hby d21_1) rfl ((if0 _ _).trans (flt (by decide : ¬ ((2 : Int32) < (0 : Int32)))).2.1) (by decide) (by decide) ?_
    refine oIn X0 hx hby d21_12 rfl ?_
    refine X0.ldcInt hx hown (mvT hZ (own_at hw 93 rfl)) (g := (mkF m 13 #[iv 2] [(.int 2)])) rfl (hb hby d21_13) _ ?_
    refine XS.icmpYes X0.here hx rfl (pc0 := 15) (pc' := 55) rfl (hb hby d21_15) rfl (tlt (by decide : (2 : Int32) < (1073741823 : Int32))).1 (by decide) (by decide) ?_
    refine oIn X0 hx hby d21_55 rfl (oIc X0 hx hby d21_56 ?_)
    refine XS.ishl X0.here hx rfl (hb hby d21_57) rfl ?_
    exact retI X0 hx Bd.returns (hb hby d21_58) hr
def Q_NF_2 (Z : State)  (h0 : Heap) (n0 : Nat) (v : Option Value) (h : Heap) (L : List Loc) : Prop := ∃ ar : Addr, ∃ kk : ClassId, v = some (.ref ar) ∧ Fr n0 L ∧ Keep h0 h [] ∧ h0.size ≤ ar ∧ Arv Z h ar kk .byte (4 : Int32) [(.int 0), (.int 0), (.int 0), (.int 0)] (.int 0) ∧ Exa Z h ar "[B"
theorem rmNF_2 (l : Launch) (Z : State) (a0 : Array Value) (hw : own_HW a0 Z) (ws : List Jvm.Cond)  (h0 : Heap) (n0 : Nat) (Z0 : n0 ≤ h0.size) :
    own_M l Z (⟨cS0, "newBytesFor", "(I)[B"⟩ : MethodName) jdk_52_method_2_code 1 (some (.array .byte)) ws ({ frames := 1, cells := 1, slots := 4, locals := 12 } : Room) #[(.int 2)] h0 (Q_NF_2 Z  h0 n0) := by
  refine own_in cS0 rfl (plainFor_of_name pn_java_lang_StringUTF16) ?_
  intro p e s m below meth c s₁ Bd hml hZ hh hx hby hown X0 e0
  have N0 := Fr.nil n0
  have k0 := own_k (p := p) (e := e) (below := below) (T := s₁) (ef_20 m (2 : Int32))
  obtain ⟨_, T1, L1, X1, hQ1, st1⟩ := own_cS 0 (rmNL_2 l Z a0 hw []  h0 n0 Z0 ) X0 hx hZ hown hw 90 91 51 92 rfl rfl rfl rfl 1 #[iv 2] [(.int 2)] [] (hb hby d20_1) hml (lenOf pd_1 rfl) e0 rfl (Nat.le_refl _) (by decide)
  obtain ⟨rfl, N1q, e1⟩ := hQ1
  have N1 := Fr.app N0 N1q
  obtain ⟨T2, h2, k2, X2, e2, E2, A2, EA2, st2⟩ := newPE X1 hx hZ (own_at hw 24 rfl) e1 (g := (mkF m 4 #[iv 2] [(.int 4)])) rfl (hb hby d20_4) rfl (by decide) (cap := 4) (by decide) (by decide) (by decide) (by decide) (ad := "[B") (by decide)
  obtain ⟨b2, g2⟩ : ∃ z, z = h0.size := ⟨_, rfl⟩
  rw [← g2] at A2 EA2 st2
  have g_b2 : n0 ≤ b2 := Nat.le_trans Z0 (Nat.le_of_eq g2.symm)
  have sz_b2 : h0.size ≤ b2 := Nat.le_trans (Keep.refl h0 []).1 (Nat.le_of_eq g2.symm)
  have V_b2 : Arv Z h2 b2 k2 .byte (4 : Int32) [(.int 0), (.int 0), (.int 0), (.int 0)] (.int 0) := (Arv.new A2 (by decide)).pad (pad_rep [] (.int 0) 4)
  refine own_out X2 Bd.notSynchronized Bd.returns (some (.ref b2)) nofun (by decide) (by decide) ?_ fun fs hr => k0 _ ?_
  · rw [e2]; exact ⟨b2, k2, rfl, N1, ((Keep.refl h0 []).ext E2), sz_b2, V_b2, EA2⟩
  · show OwnS p e below s₁ (mkF m 0 #[iv 2] []) _
    refine oIn X0 hx hby d20_0 rfl ?_
    refine st1 _ ?_
    refine st2 _ ?_
    jvm_step X2.here [X2.here.top, hx, (hb hby d20_6), X2.method', Bd.returns, Value.isRef, FieldType.isReference]
    first | (intro acts; rw [hr _ acts rfl rfl rfl]) | rw [hr _ _ rfl rfl rfl]
    exact Steps.refl _
def Q_PC_2_0 (Z : State) (r0 : Addr) (x : Int32) (kB : ClassId) (b0 b1 b2 b3 : Int32) (h0 : Heap) (n0 : Nat) (v : Option Value) (h : Heap) (L : List Loc) : Prop := v = none ∧ Fr n0 L ∧ Keep h0 h [r0] ∧ Arv Z h r0 kB .byte (4 : Int32) [(.int (((x >>> ((0 : Int32) &&& 31)).toInt8.toInt32).toInt8.toInt32)), (.int (((x >>> ((8 : Int32) &&& 31)).toInt8.toInt32).toInt8.toInt32)), (.int b2), (.int b3)] (.int 0)
theorem rmPC_2_0 (l : Launch) (Z : State) (a0 : Array Value) (hw : own_HW a0 Z) (ws : List Jvm.Cond) (r0 : Addr) (x : Int32) (kB : ClassId) (b0 b1 b2 b3 : Int32) (h0 : Heap) (n0 : Nat) (Z0 : n0 ≤ h0.size) (S_AD : Sta Z h0 cS0 cS5 "Z" (.int 1)) (S_HI : Sta Z h0 cS0 cS7 "I" (.int 0)) (S_LO : Sta Z h0 cS0 cS8 "I" (.int 8)) (V_r0 : Arv Z h0 r0 kB .byte (4 : Int32) [(.int b0), (.int b1), (.int b2), (.int b3)] (.int 0)) (E_r0 : Exa Z h0 r0 "[B") (ge_r0 : n0 ≤ r0) :
    own_M l Z (⟨cS0, "putChar", "([BII)V"⟩ : MethodName) jdk_52_method_4_code 3 none ws ({ frames := 0, cells := 0, slots := 0, locals := 0 } : Room) #[(.ref r0), (.int 0), (.int x)] h0 (Q_PC_2_0 Z r0 x kB b0 b1 b2 b3 h0 n0) := by
  refine own_in cS0 rfl (plainFor_of_name pn_java_lang_StringUTF16) ?_
  intro p e s m below meth c s₁ Bd hml hZ hh hx hby hown X0 e0
  have N0 := Fr.nil n0
  have k0 := own_k (p := p) (e := e) (below := below) (T := s₁) (ef_22 m r0 (0 : Int32) x)
  obtain ⟨T1, X1, e1, st1⟩ := getS2 X0 hx hZ hown (host := "") (Or.inl (own_at hw 97 rfl)) Via.refl e0 S_AD (g := (mkF m 0 #[rv r0, iv 0, iv x] [])) rfl (hb hby d22_0)
  obtain ⟨T2, X2, e2, st2⟩ := getS2 X1 hx hZ hown (host := "") (Or.inl (own_at hw 98 rfl)) Via.refl e1 S_HI (g := (mkF m 38 #[rv r0, iv 1, iv x] [(.int x), (.int 0), (.ref r0)])) rfl (hb hby d22_38)
  obtain ⟨cl_z3, Ar_z3, q_z3, S_z3, N_z3, H_z3, G_z3⟩ := id V_r0
  have hin4 : ¬ ((0 : Int32) < 0 ∨ cl_z3.slots.size ≤ ((0 : Int32)).toNatClampNeg) := inb_of S_z3 ⟨by decide, by decide⟩
  obtain ⟨T5, h5, X5, e5, W5, st5⟩ := stB X2 hx hZ e2 Ar_z3 (j := (0 : Int32)) hin4 (g := (mkF m 43 #[rv r0, iv 1, iv x] [(.int ((x >>> ((0 : Int32) &&& 31)).toInt8.toInt32)), (.int 0), (.ref r0)])) rfl rfl (hb hby d22_43)
  have V5 : Arv Z h5 r0 kB .byte (4 : Int32) [(.int (((x >>> ((0 : Int32) &&& 31)).toInt8.toInt32).toInt8.toInt32)), (.int b1), (.int b2), (.int b3)] (.int 0) := Arv.set Ar_z3 q_z3 S_z3 N_z3 H_z3 G_z3 (fits_nar_byte _) W5 0 rfl (Nat.le_of_ble_eq_true rfl)
  have N5 := Fr.snoc X5 N0 ge_r0
  have f6 := (S_LO.wr W5)
  obtain ⟨T7, X7, e7, st7⟩ := getS2 X5 hx hZ hown (host := "") (Or.inl (own_at hw 99 rfl)) Via.refl e5 f6 (g := (mkF m 47 #[rv r0, iv 1, iv x] [(.int x), (.int 1), (.ref r0)])) rfl (hb hby d22_47)
  obtain ⟨cl_z8, Ar_z8, q_z8, S_z8, N_z8, H_z8, G_z8⟩ := id V5
  have hin9 : ¬ ((1 : Int32) < 0 ∨ cl_z8.slots.size ≤ ((1 : Int32)).toNatClampNeg) := inb_of S_z8 ⟨by decide, by decide⟩
  obtain ⟨T10, h10, X10, e10, W10, st10⟩ := stB X7 hx hZ e7 Ar_z8 (j := (1 : Int32)) hin9 (g := (mkF m 52 #[rv r0, iv 1, iv x] [(.int ((x >>> ((8 : Int32) &&& 31)).toInt8.toInt32)), (.int 1), (.ref r0)])) rfl rfl (hb hby d22_52)
  have V10 : Arv Z h10 r0 kB .byte (4 : Int32) [(.int (((x >>> ((0 : Int32) &&& 31)).toInt8.toInt32).toInt8.toInt32)), (.int (((x >>> ((8 : Int32) &&& 31)).toInt8.toInt32).toInt8.toInt32)), (.int b2), (.int b3)] (.int 0) := Arv.set Ar_z8 q_z8 S_z8 N_z8 H_z8 G_z8 (fits_nar_byte _) W10 1 rfl (Nat.le_of_ble_eq_true rfl)
  have N10 := Fr.snoc X10 N5 ge_r0
  refine own_out X10 Bd.notSynchronized Bd.returns (none) (fun _ => rfl) (by decide) (by decide) ?_ fun fs hr => k0 _ ?_
  · rw [e10]; exact ⟨rfl, N10, (((Keep.refl h0 [r0]).wr W5 (Or.inl (List.mem_of_getElem? (i := 0) rfl))).wr W10 (Or.inl (List.mem_of_getElem? (i := 0) rfl))), V10⟩
  · show OwnS p e below s₁ (mkF m 0 #[rv r0, iv 0, iv x] []) _
    refine st1 _ ?_
    refine XS.ifYes X1.here hx rfl (pc0 := 3) (pc' := 28) rfl (hb hby d22_3) rfl ((if0 _ _).trans (feq (by decide : ¬ ((1 : Int32) = (0 : Int32)))).2) (by decide) (by decide) ?_
    refine oIn X1 hx hby d22_28 rfl (oIc X1 hx hby d22_29 ?_)
    refine XS.ishl X1.here hx rfl (hb hby d22_30) rfl ?_
    refine XS.istoreN X1.here hx rfl (hb hby d22_31) rfl (l' := #[rv r0, iv 0, iv x]) rfl ?_
    refine oAn X1 hx hby d22_32 rfl rfl (oIn X1 hx hby d22_33 rfl ?_)
    refine XS.iinc X1.here hx rfl (hb hby d22_34) rfl (l' := #[rv r0, iv 1, iv x]) rfl ?_
    refine oIn X1 hx hby d22_37 rfl ?_
    refine st2 _ ?_
    refine XS.ishr X2.here hx rfl (hb hby d22_41) rfl ?_
    refine XS.i2b X2.here hx rfl (hb hby d22_42) rfl ?_
    refine st5 _ ?_
    refine oAn X5 hx hby d22_44 rfl rfl (oIn X5 hx hby d22_45 rfl (oIn X5 hx hby d22_46 rfl ?_))
    refine st7 _ ?_
    refine XS.ishr X7.here hx rfl (hb hby d22_50) rfl ?_
    refine XS.i2b X7.here hx rfl (hb hby d22_51) rfl ?_
    refine st10 _ ?_
    exact X10.returnOut hx Bd.returns (hb hby d22_53) hr
def Q_PC_2_1 (Z : State) (r0 : Addr) (x : Int32) (kB : ClassId) (b0 b1 b2 b3 : Int32) (h0 : Heap) (n0 : Nat) (v : Option Value) (h : Heap) (L : List Loc) : Prop := v = none ∧ Fr n0 L ∧ Keep h0 h [r0] ∧ Arv Z h r0 kB .byte (4 : Int32) [(.int b0), (.int b1), (.int (((x >>> ((0 : Int32) &&& 31)).toInt8.toInt32).toInt8.toInt32)), (.int (((x >>> ((8 : Int32) &&& 31)).toInt8.toInt32).toInt8.toInt32))] (.int 0)
theorem rmPC_2_1 (l : Launch) (Z : State) (a0 : Array Value) (hw : own_HW a0 Z) (ws : List Jvm.Cond) (r0 : Addr) (x : Int32) (kB : ClassId) (b0 b1 b2 b3 : Int32) (h0 : Heap) (n0 : Nat) (Z0 : n0 ≤ h0.size) (S_AD : Sta Z h0 cS0 cS5 "Z" (.int 1)) (S_HI : Sta Z h0 cS0 cS7 "I" (.int 0)) (S_LO : Sta Z h0 cS0 cS8 "I" (.int 8)) (V_r0 : Arv Z h0 r0 kB .byte (4 : Int32) [(.int b0), (.int b1), (.int b2), (.int b3)] (.int 0)) (E_r0 : Exa Z h0 r0 "[B") (ge_r0 : n0 ≤ r0) :
    own_M l Z (⟨cS0, "putChar", "([BII)V"⟩ : MethodName) jdk_52_method_4_code 3 none ws ({ frames := 0, cells := 0, slots := 0, locals := 0 } : Room) #[(.ref r0), (.int 1), (.int x)] h0 (Q_PC_2_1 Z r0 x kB b0 b1 b2 b3 h0 n0) := by
  refine own_in cS0 rfl (plainFor_of_name pn_java_lang_StringUTF16) ?_
  intro p e s m below meth c s₁ Bd hml hZ hh hx hby hown X0 e0
  have N0 := Fr.nil n0
  have k0 := own_k (p := p) (e := e) (below := below) (T := s₁) (ef_22 m r0 (1 : Int32) x)
  obtain ⟨T1, X1, e1, st1⟩ := getS2 X0 hx hZ hown (host := "") (Or.inl (own_at hw 97 rfl)) Via.refl e0 S_AD (g := (mkF m 0 #[rv r0, iv 1, iv x] [])) rfl (hb hby d22_0)
  obtain ⟨T2, X2, e2, st2⟩ := getS2 X1 hx hZ hown (host := "") (Or.inl (own_at hw 98 rfl)) Via.refl e1 S_HI (g := (mkF m 38 #[rv r0, iv 3, iv x] [(.int x), (.int 2), (.ref r0)])) rfl (hb hby d22_38)
  obtain ⟨cl_z3, Ar_z3, q_z3, S_z3, N_z3, H_z3, G_z3⟩ := id V_r0
  have hin4 : ¬ ((2 : Int32) < 0 ∨ cl_z3.slots.size ≤ ((2 : Int32)).toNatClampNeg) := inb_of S_z3 ⟨by decide, by decide⟩
  obtain ⟨T5, h5, X5, e5, W5, st5⟩ := stB X2 hx hZ e2 Ar_z3 (j := (2 : Int32)) hin4 (g := (mkF m 43 #[rv r0, iv 3, iv x] [(.int ((x >>> ((0 : Int32) &&& 31)).toInt8.toInt32)), (.int 2), (.ref r0)])) rfl rfl (hb hby d22_43)
  have V5 : Arv Z h5 r0 kB .byte (4 : Int32) [(.int b0), (.int b1), (.int (((x >>> ((0 : Int32) &&& 31)).toInt8.toInt32).toInt8.toInt32)), (.int b3)] (.int 0) := Arv.set Ar_z3 q_z3 S_z3 N_z3 H_z3 G_z3 (fits_nar_byte _) W5 2 rfl (Nat.le_of_ble_eq_true rfl)
  have N5 := Fr.snoc X5 N0 ge_r0
  have f6 := (S_LO.wr W5)
  obtain ⟨T7, X7, e7, st7⟩ := getS2 X5 hx hZ hown (host := "") (Or.inl (own_at hw 99 rfl)) Via.refl e5 f6 (g := (mkF m 47 #[rv r0, iv 3, iv x] [(.int x), (.int 3), (.ref r0)])) rfl (hb hby d22_47)
  obtain ⟨cl_z8, Ar_z8, q_z8, S_z8, N_z8, H_z8, G_z8⟩ := id V5
  have hin9 : ¬ ((3 : Int32) < 0 ∨ cl_z8.slots.size ≤ ((3 : Int32)).toNatClampNeg) := inb_of S_z8 ⟨by decide, by decide⟩
  obtain ⟨T10, h10, X10, e10, W10, st10⟩ := stB X7 hx hZ e7 Ar_z8 (j := (3 : Int32)) hin9 (g := (mkF m 52 #[rv r0, iv 3, iv x] [(.int ((x >>> ((8 : Int32) &&& 31)).toInt8.toInt32)), (.int 3), (.ref r0)])) rfl rfl (hb hby d22_52)
  have V10 : Arv Z h10 r0 kB .byte (4 : Int32) [(.int b0), (.int b1), (.int (((x >>> ((0 : Int32) &&& 31)).toInt8.toInt32).toInt8.toInt32)), (.int (((x >>> ((8 : Int32) &&& 31)).toInt8.toInt32).toInt8.toInt32))] (.int 0) := Arv.set Ar_z8 q_z8 S_z8 N_z8 H_z8 G_z8 (fits_nar_byte _) W10 3 rfl (Nat.le_of_ble_eq_true rfl)
  have N10 := Fr.snoc X10 N5 ge_r0
  refine own_out X10 Bd.notSynchronized Bd.returns (none) (fun _ => rfl) (by decide) (by decide) ?_ fun fs hr => k0 _ ?_
  · rw [e10]; exact ⟨rfl, N10, (((Keep.refl h0 [r0]).wr W5 (Or.inl (List.mem_of_getElem? (i := 0) rfl))).wr W10 (Or.inl (List.mem_of_getElem? (i := 0) rfl))), V10⟩
  · show OwnS p e below s₁ (mkF m 0 #[rv r0, iv 1, iv x] []) _
    refine st1 _ ?_
    refine XS.ifYes X1.here hx rfl (pc0 := 3) (pc' := 28) rfl (hb hby d22_3) rfl ((if0 _ _).trans (feq (by decide : ¬ ((1 : Int32) = (0 : Int32)))).2) (by decide) (by decide) ?_
    refine oIn X1 hx hby d22_28 rfl (oIc X1 hx hby d22_29 ?_)
    refine XS.ishl X1.here hx rfl (hb hby d22_30) rfl ?_
    refine XS.istoreN X1.here hx rfl (hb hby d22_31) rfl (l' := #[rv r0, iv 2, iv x]) rfl ?_
    refine oAn X1 hx hby d22_32 rfl rfl (oIn X1 hx hby d22_33 rfl ?_)
    refine XS.iinc X1.here hx rfl (hb hby d22_34) rfl (l' := #[rv r0, iv 3, iv x]) rfl ?_
    refine oIn X1 hx hby d22_37 rfl ?_
    refine st2 _ ?_
    refine XS.ishr X2.here hx rfl (hb hby d22_41) rfl ?_
    refine XS.i2b X2.here hx rfl (hb hby d22_42) rfl ?_
    refine st5 _ ?_
    refine oAn X5 hx hby d22_44 rfl rfl (oIn X5 hx hby d22_45 rfl (oIn X5 hx hby d22_46 rfl ?_))
    refine st7 _ ?_
    refine XS.ishr X7.here hx rfl (hb hby d22_50) rfl ?_
    refine XS.i2b X7.here hx rfl (hb hby d22_51) rfl ?_
    refine st10 _ ?_
    exact X10.returnOut hx Bd.returns (hb hby d22_53) hr
def Q_TB_2 (Z : State) (r0 : Addr) (kC : ClassId) (x0 x1 : Int32) (h0 : Heap) (n0 : Nat) (v : Option Value) (h : Heap) (L : List Loc) : Prop := ∃ ar : Addr, ∃ kk : ClassId, v = some (.ref ar) ∧ Fr n0 L ∧ Keep h0 h [] ∧ h0.size ≤ ar ∧ Arv Z h ar kk .byte (4 : Int32) [(.int (((x0 >>> ((0 : Int32) &&& 31)).toInt8.toInt32).toInt8.toInt32)), (.int (((x0 >>> ((8 : Int32) &&& 31)).toInt8.toInt32).toInt8.toInt32)), (.int (((x1 >>> ((0 : Int32) &&& 31)).toInt8.toInt32).toInt8.toInt32)), (.int (((x1 >>> ((8 : Int32) &&& 31)).toInt8.toInt32).toInt8.toInt32))] (.int 0) ∧ Exa Z h ar "[B"
theorem rmTB_2 (l : Launch) (Z : State) (a0 : Array Value) (hw : own_HW a0 Z) (ws : List Jvm.Cond) (r0 : Addr) (kC : ClassId) (x0 x1 : Int32) (h0 : Heap) (n0 : Nat) (Z0 : n0 ≤ h0.size) (S_AD : Sta Z h0 cS0 cS5 "Z" (.int 1)) (S_HI : Sta Z h0 cS0 cS7 "I" (.int 0)) (S_LO : Sta Z h0 cS0 cS8 "I" (.int 8)) (V_r0 : Arv Z h0 r0 kC .char (2 : Int32) [(.int x0), (.int x1)] (.int 0)) :
    own_M l Z (⟨cS0, "toBytes", "([CII)[B"⟩ : MethodName) jdk_52_method_14_code 5 (some (.array .byte)) ws ({ frames := 2, cells := 1, slots := 4, locals := 24 } : Room) #[(.ref r0), (.int 0), (.int 2)] h0 (Q_TB_2 Z r0 kC x0 x1 h0 n0) := by
  refine own_in cS0 rfl (plainFor_of_name pn_java_lang_StringUTF16) ?_
  intro p e s m below meth c s₁ Bd hml hZ hh hx hby hown X0 e0
  have N0 := Fr.nil n0
  have k0 := own_k (p := p) (e := e) (below := below) (T := s₁) (ef_19 m r0 (0 : Int32) (2 : Int32))
  obtain ⟨_, T1, L1, X1, hQ1, st1⟩ := own_cS 0 (rmNF_2 l Z a0 hw []  h0 n0 Z0 ) X0 hx hZ hown hw 87 88 51 89 rfl rfl rfl rfl 1 #[rv r0, iv 0, iv 2, .unset, .unset] [(.int 2)] [] (hb hby d19_1) hml (lenOf pd_2 rfl) e0 rfl (Nat.le_refl _) (by decide)
  obtain ⟨ar_1, kk_1, rfl, N1q, K1, p1_0, p1_1, p1_2⟩ := hQ1
  have g_ar_1 : n0 ≤ ar_1 := Nat.le_trans Z0 p1_0
  have sz_ar_1 : h0.size ≤ ar_1 := Nat.le_trans (Keep.refl h0 []).1 p1_0
  have N1 := Fr.app N0 N1q
  have f2 := (V_r0.keep K1 nin0)
  obtain ⟨cl_z3, Ar_z3, q_z3, S_z3, N_z3, H_z3, G_z3⟩ := id f2
  have hin4 : ¬ ((0 : Int32) < 0 ∨ cl_z3.slots.size ≤ ((0 : Int32)).toNatClampNeg) := inb_of S_z3 ⟨by decide, by decide⟩
  have f6 := (own_sta_keep S_AD K1 all0)
  have f7 := (own_sta_keep S_HI K1 all0)
  have f8 := (own_sta_keep S_LO K1 all0)
  obtain ⟨_, T5, L5, X5, hQ5, st5⟩ := own_cS 0 (rmPC_2_0 l Z a0 hw [] ar_1 x0 kk_1 (0 : Int32) (0 : Int32) (0 : Int32) (0 : Int32) T1.heap n0 (Nat.le_trans Z0 K1.1) f6 f7 f8 p1_1 p1_2 g_ar_1) X1 hx hZ hown hw 94 95 51 96 rfl rfl rfl rfl 20 #[rv r0, iv 0, iv 2, rv ar_1, iv 0] [(.ref ar_1), (.int 0), (.int x0)] [] (hb hby d19_20) hml (lenOf pd_3 rfl) rfl rfl (Nat.le_refl _) (by decide)
  obtain ⟨rfl, N5q, K5, p5_0⟩ := hQ5
  have pl5 := (allS (P := fun x => ∃ cell : Cell, T1.heap[x]? = some cell ∧ cell.vm.isStatics = false) (own_ns p1_2) all0)
  have N5 := Fr.app N1 N5q
  have f9 := (f2.keep K5 (ninS (Nat.ne_of_lt (Nat.lt_of_lt_of_le V_r0.lt p1_0)) nin0))
  obtain ⟨cl_z10, Ar_z10, q_z10, S_z10, N_z10, H_z10, G_z10⟩ := id f9
  have hin11 : ¬ ((1 : Int32) < 0 ∨ cl_z10.slots.size ≤ ((1 : Int32)).toNatClampNeg) := inb_of S_z10 ⟨by decide, by decide⟩
  have f13 := (own_sta_keep f6 K5 pl5)
  have f14 := (own_sta_keep f7 K5 pl5)
  have f15 := (own_sta_keep f8 K5 pl5)
  have f16 := (p1_2.keep K5)
  obtain ⟨_, T12, L12, X12, hQ12, st12⟩ := own_cS 0 (rmPC_2_1 l Z a0 hw [] ar_1 x1 kk_1 (((x0 >>> ((0 : Int32) &&& 31)).toInt8.toInt32).toInt8.toInt32) (((x0 >>> ((8 : Int32) &&& 31)).toInt8.toInt32).toInt8.toInt32) (0 : Int32) (0 : Int32) T5.heap n0 (Nat.le_trans (Nat.le_trans Z0 K1.1) K5.1) f13 f14 f15 p5_0 f16 g_ar_1) X5 hx hZ hown hw 94 95 51 96 rfl rfl rfl rfl 20 #[rv r0, iv 1, iv 2, rv ar_1, iv 1] [(.ref ar_1), (.int 1), (.int x1)] [] (hb hby d19_20) hml (lenOf pd_3 rfl) rfl rfl (Nat.le_refl _) (by decide)
  obtain ⟨rfl, N12q, K12, p12_0⟩ := hQ12
  have pl12 := (allS (P := fun x => ∃ cell : Cell, T5.heap[x]? = some cell ∧ cell.vm.isStatics = false) (own_ns f16) all0)
  have N12 := Fr.app N5 N12q
  have f17 := (f16.keep K12)
  refine own_out X12 Bd.notSynchronized Bd.returns (some (.ref ar_1)) nofun (by decide) (by decide) ?_ fun fs hr => k0 _ ?_
  · exact ⟨ar_1, kk_1, rfl, N12, ((((Keep.refl h0 []).trans K1 all0).trans K5 (allS (Or.inr sz_ar_1) all0)).trans K12 (allS (Or.inr sz_ar_1) all0)), sz_ar_1, p12_0, f17⟩
  · show OwnS p e below s₁ (mkF m 0 #[rv r0, iv 0, iv 2, .unset, .unset] []) _
    refine oIn X0 hx hby d19_0 rfl ?_
    refine st1 _ ?_
    refine XS.astoreN X1.here hx rfl (hb hby d19_4) rfl rfl (l' := #[rv r0, iv 0, iv 2, rv ar_1, .unset]) rfl ?_
    refine oIc X1 hx hby d19_5 ?_
    refine XS.istore X1.here hx rfl (hb hby d19_6) rfl (l' := #[rv r0, iv 0, iv 2, rv ar_1, iv 0]) rfl ?_
    refine oIl X1 hx hby d19_8 rfl (oIn X1 hx hby d19_10 rfl ?_)
    refine XS.icmpNo X1.here hx rfl (hb hby d19_11) rfl (tlt (by decide : (0 : Int32) < (2 : Int32))).2.1 ?_
    refine oAn X1 hx hby d19_14 rfl rfl (oIl X1 hx hby d19_15 rfl (oAn X1 hx hby d19_17 rfl rfl (oIn X1 hx hby d19_18 rfl ?_)))
    refine X1.caload hx (j := (0 : Int32)) (v := (.int x0)) (Ar_z3.1) (State.isArrayOf_alike hZ.alike Ar_z3.2.1) Ar_z3.2.2 hin4 (Has.at H_z3 hin4 rfl) (g := (mkF m 19 #[rv r0, iv 0, iv 2, rv ar_1, iv 0] [(.int 0), (.ref r0), (.int 0), (.ref ar_1)])) rfl rfl (hb hby d19_19) _ ?_
    refine st5 _ ?_
    refine XS.iinc X5.here hx rfl (hb hby d19_23) rfl (l' := #[rv r0, iv 1, iv 2, rv ar_1, iv 0]) rfl ?_
    refine XS.iinc X5.here hx rfl (hb hby d19_26) rfl (l' := #[rv r0, iv 1, iv 2, rv ar_1, iv 1]) rfl ?_
    refine oGo X5 hx hby 29 8 d19_29 (by decide) (by decide) (oIl X5 hx hby d19_8 rfl (oIn X5 hx hby d19_10 rfl ?_))
    refine XS.icmpNo X5.here hx rfl (hb hby d19_11) rfl (tlt (by decide : (1 : Int32) < (2 : Int32))).2.1 ?_
    refine oAn X5 hx hby d19_14 rfl rfl (oIl X5 hx hby d19_15 rfl (oAn X5 hx hby d19_17 rfl rfl (oIn X5 hx hby d19_18 rfl ?_)))
    refine X5.caload hx (j := (1 : Int32)) (v := (.int x1)) (Ar_z10.1) (State.isArrayOf_alike hZ.alike Ar_z10.2.1) Ar_z10.2.2 hin11 (Has.at H_z10 hin11 rfl) (g := (mkF m 19 #[rv r0, iv 1, iv 2, rv ar_1, iv 1] [(.int 1), (.ref r0), (.int 1), (.ref ar_1)])) rfl rfl (hb hby d19_19) _ ?_
    refine st12 _ ?_
    refine XS.iinc X12.here hx rfl (hb hby d19_23) rfl (l' := #[rv r0, iv 2, iv 2, rv ar_1, iv 1]) rfl ?_
    refine XS.iinc X12.here hx rfl (hb hby d19_26) rfl (l' := #[rv r0, iv 2, iv 2, rv ar_1, iv 2]) rfl ?_
    refine oGo X12 hx hby 29 8 d19_29 (by decide) (by decide) (oIl X12 hx hby d19_8 rfl (oIn X12 hx hby d19_10 rfl ?_))
    refine XS.icmpYes X12.here hx rfl (pc0 := 11) (pc' := 32) rfl (hb hby d19_11) rfl (flt (by decide : ¬ ((2 : Int32) < (2 : Int32)))).2.1 (by decide) (by decide) ?_
    refine oAn X12 hx hby d19_32 rfl rfl ?_
    jvm_step X12.here [X12.here.top, hx, (hb hby d19_33), X12.method', Bd.returns, Value.isRef, FieldType.isReference]
    first | (intro acts; rw [hr _ acts rfl rfl rfl]) | rw [hr _ _ rfl rfl rfl]
    exact Steps.refl _
def Q_GC_2_0 (Z : State) (r0 : Addr) (kB : ClassId) (x0 x1 : Int32) (h0 : Heap) (n0 : Nat) (v : Option Value) (h : Heap) (L : List Loc) : Prop := v = some (.int x0) ∧ Fr n0 L ∧ h = h0
theorem rmGC_2_0 (l : Launch) (Z : State) (a0 : Array Value) (hw : own_HW a0 Z) (ws : List Jvm.Cond) (r0 : Addr) (kB : ClassId) (x0 x1 : Int32) (h0 : Heap) (n0 : Nat) (Z0 : n0 ≤ h0.size) (S_AD : Sta Z h0 cS0 cS5 "Z" (.int 1)) (S_HI : Sta Z h0 cS0 cS7 "I" (.int 0)) (S_LO : Sta Z h0 cS0 cS8 "I" (.int 8)) (V_r0 : Arv Z h0 r0 kB .byte (4 : Int32) [(.int (((x0 >>> ((0 : Int32) &&& 31)).toInt8.toInt32).toInt8.toInt32)), (.int (((x0 >>> ((8 : Int32) &&& 31)).toInt8.toInt32).toInt8.toInt32)), (.int (((x1 >>> ((0 : Int32) &&& 31)).toInt8.toInt32).toInt8.toInt32)), (.int (((x1 >>> ((8 : Int32) &&& 31)).toInt8.toInt32).toInt8.toInt32))] (.int 0)) (hch_x0 : own_ch x0) :
    own_M l Z (⟨cS0, "getChar", "([BI)C"⟩ : MethodName) jdk_52_method_5_code 2 (some .char) ws ({ frames := 0, cells := 0, slots := 0, locals := 0 } : Room) #[(.ref r0), (.int 0)] h0 (Q_GC_2_0 Z r0 kB x0 x1 h0 n0) := by
  refine own_in cS0 rfl (plainFor_of_name pn_java_lang_StringUTF16) ?_
  intro p e s m below meth c s₁ Bd hml hZ hh hx hby hown X0 e0
  have N0 := Fr.nil n0
  have k0 := own_k (p := p) (e := e) (below := below) (T := s₁) (ef_23 m r0 (0 : Int32))
  obtain ⟨T1, X1, e1, st1⟩ := getS2 X0 hx hZ hown (host := "") (Or.inl (own_at hw 97 rfl)) Via.refl e0 S_AD (g := (mkF m 0 #[rv r0, iv 0] [])) rfl (hb hby d23_0)
  obtain ⟨cl_z2, Ar_z2, q_z2, S_z2, N_z2, H_z2, G_z2⟩ := id V_r0
  have hin3 : ¬ ((0 : Int32) < 0 ∨ cl_z2.slots.size ≤ ((0 : Int32)).toNatClampNeg) := inb_of S_z2 ⟨by decide, by decide⟩
  obtain ⟨T4, X4, e4, st4⟩ := getS2 X1 hx hZ hown (host := "") (Or.inl (own_at hw 98 rfl)) Via.refl e1 S_HI (g := (mkF m 42 #[rv r0, iv 1] [(.int ((((x0 >>> ((0 : Int32) &&& 31)).toInt8.toInt32).toInt8.toInt32) &&& (255 : Int32)))])) rfl (hb hby d23_42)
  have hin5 : ¬ ((1 : Int32) < 0 ∨ cl_z2.slots.size ≤ ((1 : Int32)).toNatClampNeg) := inb_of S_z2 ⟨by decide, by decide⟩
  obtain ⟨T6, X6, e6, st6⟩ := getS2 X4 hx hZ hown (host := "") (Or.inl (own_at hw 99 rfl)) Via.refl e4 S_LO (g := (mkF m 53 #[rv r0, iv 1] [(.int ((((x0 >>> ((8 : Int32) &&& 31)).toInt8.toInt32).toInt8.toInt32) &&& (255 : Int32))), (.int (((((x0 >>> ((0 : Int32) &&& 31)).toInt8.toInt32).toInt8.toInt32) &&& (255 : Int32)) <<< ((0 : Int32) &&& 31)))])) rfl (hb hby d23_53)
  refine own_out X6 Bd.notSynchronized Bd.returns (some (.int ((((((((x0 >>> ((0 : Int32) &&& 31)).toInt8.toInt32).toInt8.toInt32) &&& (255 : Int32)) <<< ((0 : Int32) &&& 31)) ||| (((((x0 >>> ((8 : Int32) &&& 31)).toInt8.toInt32).toInt8.toInt32) &&& (255 : Int32)) <<< ((8 : Int32) &&& 31))).toUInt32.toUInt16.toUInt32.toInt32).toUInt32.toUInt16.toUInt32.toInt32))) nofun (by decide) (by decide) ?_ fun fs hr => k0 _ ?_
  · rw [e6]; exact ⟨(congrArg some (congrArg Value.int (own_u16c hch_x0))), N0, rfl⟩
  · show OwnS p e below s₁ (mkF m 0 #[rv r0, iv 0] []) _
    refine st1 _ ?_
    refine XS.ifYes X1.here hx rfl (pc0 := 3) (pc' := 28) rfl (hb hby d23_3) rfl ((if0 _ _).trans (feq (by decide : ¬ ((1 : Int32) = (0 : Int32)))).2) (by decide) (by decide) ?_
    refine oIn X1 hx hby d23_28 rfl (oIc X1 hx hby d23_29 ?_)
    refine XS.ishl X1.here hx rfl (hb hby d23_30) rfl ?_
    refine XS.istoreN X1.here hx rfl (hb hby d23_31) rfl (l' := #[rv r0, iv 0]) rfl ?_
    refine oAn X1 hx hby d23_32 rfl rfl (oIn X1 hx hby d23_33 rfl ?_)
    refine XS.iinc X1.here hx rfl (hb hby d23_34) rfl (l' := #[rv r0, iv 1]) rfl ?_
    refine X1.baloadBytes hx (j := (0 : Int32)) (v := (.int (((x0 >>> ((0 : Int32) &&& 31)).toInt8.toInt32).toInt8.toInt32))) (by rw [e1]; exact Ar_z2.1) (State.isArrayOf_alike hZ.alike Ar_z2.2.1) Ar_z2.2.2 hin3 (Has.at H_z2 hin3 rfl) (g := (mkF m 37 #[rv r0, iv 1] [(.int 0), (.ref r0)])) rfl rfl (hb hby d23_37) _ ?_
    refine XS.sipush X1.here hx rfl (hb hby d23_38) ?_
    refine XS.iand X1.here hx rfl (hb hby d23_41) rfl ?_
    refine st4 _ ?_
    refine XS.ishl X4.here hx rfl (hb hby d23_45) rfl ?_
    refine oAn X4 hx hby d23_46 rfl rfl (oIn X4 hx hby d23_47 rfl ?_)
    refine X4.baloadBytes hx (j := (1 : Int32)) (v := (.int (((x0 >>> ((8 : Int32) &&& 31)).toInt8.toInt32).toInt8.toInt32))) (by rw [e4]; exact Ar_z2.1) (State.isArrayOf_alike hZ.alike Ar_z2.2.1) Ar_z2.2.2 hin5 (Has.at H_z2 hin5 rfl) (g := (mkF m 48 #[rv r0, iv 1] [(.int 1), (.ref r0), (.int (((((x0 >>> ((0 : Int32) &&& 31)).toInt8.toInt32).toInt8.toInt32) &&& (255 : Int32)) <<< ((0 : Int32) &&& 31)))])) rfl rfl (hb hby d23_48) _ ?_
    refine XS.sipush X4.here hx rfl (hb hby d23_49) ?_
    refine XS.iand X4.here hx rfl (hb hby d23_52) rfl ?_
    refine st6 _ ?_
    refine XS.ishl X6.here hx rfl (hb hby d23_56) rfl ?_
    refine XS.ior X6.here hx rfl (hb hby d23_57) rfl ?_
    refine XS.i2c X6.here hx rfl (hb hby d23_58) rfl ?_
    exact retN X6 hx (t := .char) Bd.returns (by simp) (hb hby d23_59) hr
def Q_GC_2_1 (Z : State) (r0 : Addr) (kB : ClassId) (x0 x1 : Int32) (h0 : Heap) (n0 : Nat) (v : Option Value) (h : Heap) (L : List Loc) : Prop := v = some (.int x1) ∧ Fr n0 L ∧ h = h0
theorem rmGC_2_1 (l : Launch) (Z : State) (a0 : Array Value) (hw : own_HW a0 Z) (ws : List Jvm.Cond) (r0 : Addr) (kB : ClassId) (x0 x1 : Int32) (h0 : Heap) (n0 : Nat) (Z0 : n0 ≤ h0.size) (S_AD : Sta Z h0 cS0 cS5 "Z" (.int 1)) (S_HI : Sta Z h0 cS0 cS7 "I" (.int 0)) (S_LO : Sta Z h0 cS0 cS8 "I" (.int 8)) (V_r0 : Arv Z h0 r0 kB .byte (4 : Int32) [(.int (((x0 >>> ((0 : Int32) &&& 31)).toInt8.toInt32).toInt8.toInt32)), (.int (((x0 >>> ((8 : Int32) &&& 31)).toInt8.toInt32).toInt8.toInt32)), (.int (((x1 >>> ((0 : Int32) &&& 31)).toInt8.toInt32).toInt8.toInt32)), (.int (((x1 >>> ((8 : Int32) &&& 31)).toInt8.toInt32).toInt8.toInt32))] (.int 0)) (hch_x1 : own_ch x1) :
    own_M l Z (⟨cS0, "getChar", "([BI)C"⟩ : MethodName) jdk_52_method_5_code 2 (some .char) ws ({ frames := 0, cells := 0, slots := 0, locals := 0 } : Room) #[(.ref r0), (.int 1)] h0 (Q_GC_2_1 Z r0 kB x0 x1 h0 n0) := by
  refine own_in cS0 rfl (plainFor_of_name pn_java_lang_StringUTF16) ?_
  intro p e s m below meth c s₁ Bd hml hZ hh hx hby hown X0 e0
  have N0 := Fr.nil n0
  have k0 := own_k (p := p) (e := e) (below := below) (T := s₁) (ef_23 m r0 (1 : Int32))
  obtain ⟨T1, X1, e1, st1⟩ := getS2 X0 hx hZ hown (host := "") (Or.inl (own_at hw 97 rfl)) Via.refl e0 S_AD (g := (mkF m 0 #[rv r0, iv 1] [])) rfl (hb hby d23_0)
  obtain ⟨cl_z2, Ar_z2, q_z2, S_z2, N_z2, H_z2, G_z2⟩ := id V_r0
  have hin3 : ¬ ((2 : Int32) < 0 ∨ cl_z2.slots.size ≤ ((2 : Int32)).toNatClampNeg) := inb_of S_z2 ⟨by decide, by decide⟩
  obtain ⟨T4, X4, e4, st4⟩ := getS2 X1 hx hZ hown (host := "") (Or.inl (own_at hw 98 rfl)) Via.refl e1 S_HI (g := (mkF m 42 #[rv r0, iv 3] [(.int ((((x1 >>> ((0 : Int32) &&& 31)).toInt8.toInt32).toInt8.toInt32) &&& (255 : Int32)))])) rfl (hb hby d23_42)
  have hin5 : ¬ ((3 : Int32) < 0 ∨ cl_z2.slots.size ≤ ((3 : Int32)).toNatClampNeg) := inb_of S_z2 ⟨by decide, by decide⟩
  obtain ⟨T6, X6, e6, st6⟩ := getS2 X4 hx hZ hown (host := "") (Or.inl (own_at hw 99 rfl)) Via.refl e4 S_LO (g := (mkF m 53 #[rv r0, iv 3] [(.int ((((x1 >>> ((8 : Int32) &&& 31)).toInt8.toInt32).toInt8.toInt32) &&& (255 : Int32))), (.int (((((x1 >>> ((0 : Int32) &&& 31)).toInt8.toInt32).toInt8.toInt32) &&& (255 : Int32)) <<< ((0 : Int32) &&& 31)))])) rfl (hb hby d23_53)
  refine own_out X6 Bd.notSynchronized Bd.returns (some (.int ((((((((x1 >>> ((0 : Int32) &&& 31)).toInt8.toInt32).toInt8.toInt32) &&& (255 : Int32)) <<< ((0 : Int32) &&& 31)) ||| (((((x1 >>> ((8 : Int32) &&& 31)).toInt8.toInt32).toInt8.toInt32) &&& (255 : Int32)) <<< ((8 : Int32) &&& 31))).toUInt32.toUInt16.toUInt32.toInt32).toUInt32.toUInt16.toUInt32.toInt32))) nofun (by decide) (by decide) ?_ fun fs hr => k0 _ ?_
  · rw [e6]; exact ⟨(congrArg some (congrArg Value.int (own_u16c hch_x1))), N0, rfl⟩
  · show OwnS p e below s₁ (mkF m 0 #[rv r0, iv 1] []) _
    refine st1 _ ?_
    refine XS.ifYes X1.here hx rfl (pc0 := 3) (pc' := 28) rfl (hb hby d23_3) rfl ((if0 _ _).trans (feq (by decide : ¬ ((1 : Int32) = (0 : Int32)))).2) (by decide) (by decide) ?_
    refine oIn X1 hx hby d23_28 rfl (oIc X1 hx hby d23_29 ?_)
    refine XS.ishl X1.here hx rfl (hb hby d23_30) rfl ?_
    refine XS.istoreN X1.here hx rfl (hb hby d23_31) rfl (l' := #[rv r0, iv 2]) rfl ?_
    refine oAn X1 hx hby d23_32 rfl rfl (oIn X1 hx hby d23_33 rfl ?_)
    refine XS.iinc X1.here hx rfl (hb hby d23_34) rfl (l' := #[rv r0, iv 3]) rfl ?_
    refine X1.baloadBytes hx (j := (2 : Int32)) (v := (.int (((x1 >>> ((0 : Int32) &&& 31)).toInt8.toInt32).toInt8.toInt32))) (by rw [e1]; exact Ar_z2.1) (State.isArrayOf_alike hZ.alike Ar_z2.2.1) Ar_z2.2.2 hin3 (Has.at H_z2 hin3 rfl) (g := (mkF m 37 #[rv r0, iv 3] [(.int 2), (.ref r0)])) rfl rfl (hb hby d23_37) _ ?_
    refine XS.sipush X1.here hx rfl (hb hby d23_38) ?_
    refine XS.iand X1.here hx rfl (hb hby d23_41) rfl ?_
    refine st4 _ ?_
    refine XS.ishl X4.here hx rfl (hb hby d23_45) rfl ?_
    refine oAn X4 hx hby d23_46 rfl rfl (oIn X4 hx hby d23_47 rfl ?_)
    refine X4.baloadBytes hx (j := (3 : Int32)) (v := (.int (((x1 >>> ((8 : Int32) &&& 31)).toInt8.toInt32).toInt8.toInt32))) (by rw [e4]; exact Ar_z2.1) (State.isArrayOf_alike hZ.alike Ar_z2.2.1) Ar_z2.2.2 hin5 (Has.at H_z2 hin5 rfl) (g := (mkF m 48 #[rv r0, iv 3] [(.int 3), (.ref r0), (.int (((((x1 >>> ((0 : Int32) &&& 31)).toInt8.toInt32).toInt8.toInt32) &&& (255 : Int32)) <<< ((0 : Int32) &&& 31)))])) rfl rfl (hb hby d23_48) _ ?_
    refine XS.sipush X4.here hx rfl (hb hby d23_49) ?_
    refine XS.iand X4.here hx rfl (hb hby d23_52) rfl ?_
    refine st6 _ ?_
    refine XS.ishl X6.here hx rfl (hb hby d23_56) rfl ?_
    refine XS.ior X6.here hx rfl (hb hby d23_57) rfl ?_
    refine XS.i2c X6.here hx rfl (hb hby d23_58) rfl ?_
    exact retN X6 hx (t := .char) Bd.returns (by simp) (hb hby d23_59) hr
def Q_C2_2 (Z : State) (r0 r2 : Addr) (kC kB : ClassId) (x0 x1 : Int32) (h0 : Heap) (n0 : Nat) (v : Option Value) (h : Heap) (L : List Loc) : Prop := (v = some (.int 0) ∧ Fr n0 L ∧ Keep h0 h [r2] ∧ Arv Z h r2 kB .byte (2 : Int32) [(.int 0), (.int 0)] (.int 0) ∧ (255 : Int32) < x0) ∨ (v = some (.int 1) ∧ Fr n0 L ∧ Keep h0 h [r2] ∧ Arv Z h r2 kB .byte (2 : Int32) [(.int ((x0.toInt8.toInt32).toInt8.toInt32)), (.int 0)] (.int 0) ∧ ¬ ((255 : Int32) < x0) ∧ (255 : Int32) < x1) ∨ (v = some (.int 2) ∧ Fr n0 L ∧ Keep h0 h [r2] ∧ Arv Z h r2 kB .byte (2 : Int32) [(.int ((x0.toInt8.toInt32).toInt8.toInt32)), (.int ((x1.toInt8.toInt32).toInt8.toInt32))] (.int 0) ∧ ¬ ((255 : Int32) < x0) ∧ ¬ ((255 : Int32) < x1))
theorem rmC2_2 (l : Launch) (Z : State) (a0 : Array Value) (hw : own_HW a0 Z) (ws : List Jvm.Cond) (r0 r2 : Addr) (kC kB : ClassId) (x0 x1 : Int32) (h0 : Heap) (n0 : Nat) (Z0 : n0 ≤ h0.size) (V_r0 : Arv Z h0 r0 kC .char (2 : Int32) [(.int x0), (.int x1)] (.int 0)) (V_r2 : Arv Z h0 r2 kB .byte (2 : Int32) [(.int 0), (.int 0)] (.int 0)) (E_r2 : Exa Z h0 r2 "[B") (ge_r2 : n0 ≤ r2) (ne_r0_r2 : r0 ≠ r2) :
    own_M l Z (⟨cS0, "compress", "([CI[BII)I"⟩ : MethodName) jdk_52_method_21_code 7 (some .int) ws ({ frames := 0, cells := 0, slots := 0, locals := 0 } : Room) #[(.ref r0), (.int 0), (.ref r2), (.int 0), (.int 2)] h0 (Q_C2_2 Z r0 r2 kC kB x0 x1 h0 n0) := by
  refine own_in cS0 rfl (plainFor_of_name pn_java_lang_StringUTF16) ?_
  intro p e s m below meth c s₁ Bd hml hZ hh hx hby hown X0 e0
  have N0 := Fr.nil n0
  have k0 := own_k (p := p) (e := e) (below := below) (T := s₁) (ef_11 m r0 (0 : Int32) r2 (0 : Int32) (2 : Int32))
  obtain ⟨cl_z1, Ar_z1, q_z1, S_z1, N_z1, H_z1, G_z1⟩ := id V_r0
  have hin2 : ¬ ((0 : Int32) < 0 ∨ cl_z1.slots.size ≤ ((0 : Int32)).toNatClampNeg) := inb_of S_z1 ⟨by decide, by decide⟩
  have k4 : ∀ t, OwnS p e below s₁ (mkF m 20 #[rv r0, iv 0, rv r2, iv 0, iv 2, iv 0, iv x0] [(.int 255), (.int x0)]) t → OwnS p e below s₁ (entryFrame m #[(.ref r0), (.int 0), (.ref r2), (.int 0), (.int 2)] 7) t := fun t q => by
   refine k0 t ?_
   show OwnS p e below s₁ (mkF m 0 #[rv r0, iv 0, rv r2, iv 0, iv 2, .unset, .unset] []) _
   refine oIc X0 hx hby d11_0 ?_
   refine XS.istore X0.here hx rfl (hb hby d11_1) rfl (l' := #[rv r0, iv 0, rv r2, iv 0, iv 2, iv 0, .unset]) rfl ?_
   refine oIl X0 hx hby d11_3 rfl (oIl X0 hx hby d11_5 rfl ?_)
   refine XS.icmpNo X0.here hx rfl (hb hby d11_7) rfl (tlt (by decide : (0 : Int32) < (2 : Int32))).2.1 ?_
   refine oAn X0 hx hby d11_10 rfl rfl (oIn X0 hx hby d11_11 rfl ?_)
   refine X0.caload hx (j := (0 : Int32)) (v := (.int x0)) (by rw [e0]; exact Ar_z1.1) (State.isArrayOf_alike hZ.alike Ar_z1.2.1) Ar_z1.2.2 hin2 (Has.at H_z1 hin2 rfl) (g := (mkF m 12 #[rv r0, iv 0, rv r2, iv 0, iv 2, iv 0, .unset] [(.int 0), (.ref r0)])) rfl rfl (hb hby d11_12) _ ?_
   refine XS.istore X0.here hx rfl (hb hby d11_13) rfl (l' := #[rv r0, iv 0, rv r2, iv 0, iv 2, iv 0, iv x0]) rfl ?_
   refine oIl X0 hx hby d11_15 rfl ?_
   refine XS.sipush X0.here hx rfl (hb hby d11_17) ?_
   exact q
  by_cases hc20_3 : (255 : Int32) < x0
  · refine own_out X0 Bd.notSynchronized Bd.returns (some (.int 0)) nofun (by decide) (by decide) ?_ fun fs hr => k4 _ ?_
    · rw [e0]; exact Or.inl (⟨rfl, N0, (Keep.refl h0 [r2]), V_r2, hc20_3⟩)
    · refine XS.icmpNo X0.here hx rfl (hb hby d11_20) rfl (tlt hc20_3).2.2.2 ?_
      refine oIl X0 hx hby d11_23 rfl ?_
      exact retI X0 hx Bd.returns (hb hby d11_25) hr
  · obtain ⟨cl_z5, Ar_z5, q_z5, S_z5, N_z5, H_z5, G_z5⟩ := id V_r2
    have hin6 : ¬ ((0 : Int32) < 0 ∨ cl_z5.slots.size ≤ ((0 : Int32)).toNatClampNeg) := inb_of S_z5 ⟨by decide, by decide⟩
    obtain ⟨T7, h7, X7, e7, W7, st7⟩ := stB X0 hx hZ e0 Ar_z5 (j := (0 : Int32)) hin6 (g := (mkF m 31 #[rv r0, iv 0, rv r2, iv 0, iv 2, iv 0, iv x0] [(.int (x0.toInt8.toInt32)), (.int 0), (.ref r2)])) rfl rfl (hb hby d11_31)
    have V7 : Arv Z h7 r2 kB .byte (2 : Int32) [(.int ((x0.toInt8.toInt32).toInt8.toInt32)), (.int 0)] (.int 0) := Arv.set Ar_z5 q_z5 S_z5 N_z5 H_z5 G_z5 (fits_nar_byte _) W7 0 rfl (Nat.le_of_ble_eq_true rfl)
    have N7 := Fr.snoc X7 N0 ge_r2
    have f8 := (V_r0.other W7 ne_r0_r2)
    obtain ⟨cl_z9, Ar_z9, q_z9, S_z9, N_z9, H_z9, G_z9⟩ := id f8
    have hin10 : ¬ ((1 : Int32) < 0 ∨ cl_z9.slots.size ≤ ((1 : Int32)).toNatClampNeg) := inb_of S_z9 ⟨by decide, by decide⟩
    have k12 : ∀ t, OwnS p e below T7 (mkF m 20 #[rv r0, iv 1, rv r2, iv 1, iv 2, iv 1, iv x1] [(.int 255), (.int x1)]) t → OwnS p e below s₁ (entryFrame m #[(.ref r0), (.int 0), (.ref r2), (.int 0), (.int 2)] 7) t := fun t q => by
     refine k4 t ?_
     refine XS.icmpYes X0.here hx rfl (pc0 := 20) (pc' := 26) rfl (hb hby d11_20) rfl (flt hc20_3).2.2.2 (by decide) (by decide) ?_
     refine oAn X0 hx hby d11_26 rfl rfl (oIn X0 hx hby d11_27 rfl (oIl X0 hx hby d11_28 rfl ?_))
     refine XS.i2b X0.here hx rfl (hb hby d11_30) rfl ?_
     refine st7 _ ?_
     refine XS.iinc X7.here hx rfl (hb hby d11_32) rfl (l' := #[rv r0, iv 1, rv r2, iv 0, iv 2, iv 0, iv x0]) rfl ?_
     refine XS.iinc X7.here hx rfl (hb hby d11_35) rfl (l' := #[rv r0, iv 1, rv r2, iv 1, iv 2, iv 0, iv x0]) rfl ?_
     refine XS.iinc X7.here hx rfl (hb hby d11_38) rfl (l' := #[rv r0, iv 1, rv r2, iv 1, iv 2, iv 1, iv x0]) rfl ?_
     refine oGo X7 hx hby 41 3 d11_41 (by decide) (by decide) (oIl X7 hx hby d11_3 rfl (oIl X7 hx hby d11_5 rfl ?_))
     refine XS.icmpNo X7.here hx rfl (hb hby d11_7) rfl (tlt (by decide : (1 : Int32) < (2 : Int32))).2.1 ?_
     refine oAn X7 hx hby d11_10 rfl rfl (oIn X7 hx hby d11_11 rfl ?_)
     refine X7.caload hx (j := (1 : Int32)) (v := (.int x1)) (by rw [e7]; exact Ar_z9.1) (State.isArrayOf_alike hZ.alike Ar_z9.2.1) Ar_z9.2.2 hin10 (Has.at H_z9 hin10 rfl) (g := (mkF m 12 #[rv r0, iv 1, rv r2, iv 1, iv 2, iv 1, iv x0] [(.int 1), (.ref r0)])) rfl rfl (hb hby d11_12) _ ?_
     refine XS.istore X7.here hx rfl (hb hby d11_13) rfl (l' := #[rv r0, iv 1, rv r2, iv 1, iv 2, iv 1, iv x1]) rfl ?_
     refine oIl X7 hx hby d11_15 rfl ?_
     refine XS.sipush X7.here hx rfl (hb hby d11_17) ?_
     exact q
    by_cases hc20_11 : (255 : Int32) < x1
    · refine own_out X7 Bd.notSynchronized Bd.returns (some (.int 1)) nofun (by decide) (by decide) ?_ fun fs hr => k12 _ ?_
      · rw [e7]; exact Or.inr (Or.inl (⟨rfl, N7, ((Keep.refl h0 [r2]).wr W7 (Or.inl (List.mem_of_getElem? (i := 0) rfl))), V7, hc20_3, hc20_11⟩))
      · refine XS.icmpNo X7.here hx rfl (hb hby d11_20) rfl (tlt hc20_11).2.2.2 ?_
        refine oIl X7 hx hby d11_23 rfl ?_
        exact retI X7 hx Bd.returns (hb hby d11_25) hr
    · obtain ⟨cl_z13, Ar_z13, q_z13, S_z13, N_z13, H_z13, G_z13⟩ := id V7
      have hin14 : ¬ ((1 : Int32) < 0 ∨ cl_z13.slots.size ≤ ((1 : Int32)).toNatClampNeg) := inb_of S_z13 ⟨by decide, by decide⟩
      obtain ⟨T15, h15, X15, e15, W15, st15⟩ := stB X7 hx hZ e7 Ar_z13 (j := (1 : Int32)) hin14 (g := (mkF m 31 #[rv r0, iv 1, rv r2, iv 1, iv 2, iv 1, iv x1] [(.int (x1.toInt8.toInt32)), (.int 1), (.ref r2)])) rfl rfl (hb hby d11_31)
      have V15 : Arv Z h15 r2 kB .byte (2 : Int32) [(.int ((x0.toInt8.toInt32).toInt8.toInt32)), (.int ((x1.toInt8.toInt32).toInt8.toInt32))] (.int 0) := Arv.set Ar_z13 q_z13 S_z13 N_z13 H_z13 G_z13 (fits_nar_byte _) W15 1 rfl (Nat.le_of_ble_eq_true rfl)
      have N15 := Fr.snoc X15 N7 ge_r2
      refine own_out X15 Bd.notSynchronized Bd.returns (some (.int 2)) nofun (by decide) (by decide) ?_ fun fs hr => k12 _ ?_
      · rw [e15]; exact Or.inr (Or.inr ((⟨rfl, N15, (((Keep.refl h0 [r2]).wr W7 (Or.inl (List.mem_of_getElem? (i := 0) rfl))).wr W15 (Or.inl (List.mem_of_getElem? (i := 0) rfl))), V15, hc20_3, hc20_11⟩)))
      · refine XS.icmpYes X7.here hx rfl (pc0 := 20) (pc' := 26) rfl (hb hby d11_20) rfl (flt hc20_11).2.2.2 (by decide) (by decide) ?_
        refine oAn X7 hx hby d11_26 rfl rfl (oIn X7 hx hby d11_27 rfl (oIl X7 hx hby d11_28 rfl ?_))
        refine XS.i2b X7.here hx rfl (hb hby d11_30) rfl ?_
        refine st15 _ ?_
        refine XS.iinc X15.here hx rfl (hb hby d11_32) rfl (l' := #[rv r0, iv 2, rv r2, iv 1, iv 2, iv 1, iv x1]) rfl ?_
        refine XS.iinc X15.here hx rfl (hb hby d11_35) rfl (l' := #[rv r0, iv 2, rv r2, iv 2, iv 2, iv 1, iv x1]) rfl ?_
        refine XS.iinc X15.here hx rfl (hb hby d11_38) rfl (l' := #[rv r0, iv 2, rv r2, iv 2, iv 2, iv 2, iv x1]) rfl ?_
        refine oGo X15 hx hby 41 3 d11_41 (by decide) (by decide) (oIl X15 hx hby d11_3 rfl (oIl X15 hx hby d11_5 rfl ?_))
        refine XS.icmpYes X15.here hx rfl (pc0 := 7) (pc' := 44) rfl (hb hby d11_7) rfl (flt (by decide : ¬ ((2 : Int32) < (2 : Int32)))).2.1 (by decide) (by decide) ?_
        refine oIl X15 hx hby d11_44 rfl ?_
        exact retI X15 hx Bd.returns (hb hby d11_46) hr
def Q_C1_2 (Z : State) (r0 : Addr) (kC : ClassId) (x0 x1 : Int32) (h0 : Heap) (n0 : Nat) (v : Option Value) (h : Heap) (L : List Loc) : Prop := (∃ ar : Addr, ∃ kk : ClassId, v = some (.ref ar) ∧ Fr n0 L ∧ Keep h0 h [] ∧ h0.size ≤ ar ∧ Arv Z h ar kk .byte (4 : Int32) [(.int (((x0 >>> ((0 : Int32) &&& 31)).toInt8.toInt32).toInt8.toInt32)), (.int (((x0 >>> ((8 : Int32) &&& 31)).toInt8.toInt32).toInt8.toInt32)), (.int (((x1 >>> ((0 : Int32) &&& 31)).toInt8.toInt32).toInt8.toInt32)), (.int (((x1 >>> ((8 : Int32) &&& 31)).toInt8.toInt32).toInt8.toInt32))] (.int 0) ∧ Exa Z h ar "[B") ∨ (∃ ar : Addr, ∃ kk : ClassId, v = some (.ref ar) ∧ Fr n0 L ∧ Keep h0 h [] ∧ h0.size ≤ ar ∧ Arv Z h ar kk .byte (2 : Int32) [(.int ((x0.toInt8.toInt32).toInt8.toInt32)), (.int ((x1.toInt8.toInt32).toInt8.toInt32))] (.int 0) ∧ Exa Z h ar "[B" ∧ ¬ ((255 : Int32) < x0) ∧ ¬ ((255 : Int32) < x1))
theorem rmC1_2 (l : Launch) (Z : State) (a0 : Array Value) (hw : own_HW a0 Z) (ws : List Jvm.Cond) (r0 : Addr) (kC : ClassId) (x0 x1 : Int32) (h0 : Heap) (n0 : Nat) (Z0 : n0 ≤ h0.size) (S_AD : Sta Z h0 cS0 cS5 "Z" (.int 1)) (S_HI : Sta Z h0 cS0 cS7 "I" (.int 0)) (S_LO : Sta Z h0 cS0 cS8 "I" (.int 8)) (V_r0 : Arv Z h0 r0 kC .char (2 : Int32) [(.int x0), (.int x1)] (.int 0)) (hch_x0 : own_ch x0) (hch_x1 : own_ch x1) :
    own_M l Z (⟨cS0, "compress", "([CII)[B"⟩ : MethodName) jdk_52_method_16_code 6 (some (.array .byte)) ws ({ frames := 3, cells := 2, slots := 6, locals := 40 } : Room) #[(.ref r0), (.int 0), (.int 2)] h0 (Q_C1_2 Z r0 kC x0 x1 h0 n0) := by
  refine own_in cS0 rfl (plainFor_of_name pn_java_lang_StringUTF16) ?_
  intro p e s m below meth c s₁ Bd hml hZ hh hx hby hown X0 e0
  have N0 := Fr.nil n0
  have k0 := own_k (p := p) (e := e) (below := below) (T := s₁) (ef_10 m r0 (0 : Int32) (2 : Int32))
  obtain ⟨T1, h1, k1, X1, e1, E1, A1, EA1, st1⟩ := newPE X0 hx hZ (own_at hw 24 rfl) e0 (g := (mkF m 1 #[rv r0, iv 0, iv 2, .unset, .unset, .unset] [(.int 2)])) rfl (hb hby d10_1) rfl (by decide) (cap := 2) (by decide) (by decide) (by decide) (by decide) (ad := "[B") (by decide)
  obtain ⟨b1, g1⟩ : ∃ z, z = h0.size := ⟨_, rfl⟩
  rw [← g1] at A1 EA1 st1
  have g_b1 : n0 ≤ b1 := Nat.le_trans Z0 (Nat.le_of_eq g1.symm)
  have sz_b1 : h0.size ≤ b1 := Nat.le_trans (Keep.refl h0 []).1 (Nat.le_of_eq g1.symm)
  have V_b1 : Arv Z h1 b1 k1 .byte (2 : Int32) [(.int 0), (.int 0)] (.int 0) := (Arv.new A1 (by decide)).pad (pad_rep [] (.int 0) 2)
  have f3 := (V_r0.ext E1)
  obtain ⟨_, T2, L2, X2, hQ2, st2⟩ := own_cS 0 (rmC2_2 l Z a0 hw [] r0 b1 kC k1 x0 x1 h1 n0 (Nat.le_trans Z0 E1.1) f3 V_b1 EA1 g_b1 (Nat.ne_of_lt (Nat.lt_of_lt_of_le V_r0.lt (Nat.le_of_eq g1.symm)))) X1 hx hZ hown hw 53 54 51 55 rfl rfl rfl rfl 9 #[rv r0, iv 0, iv 2, rv b1, .unset, .unset] [(.ref r0), (.int 0), (.ref b1), (.int 0), (.int 2)] [] (hb hby d10_9) hml (lenOf pd_4 rfl) e1 rfl (Nat.le_refl _) (by decide)
  have k4 : ∀ t, OwnS p e below T1 (mkF m 9 #[rv r0, iv 0, iv 2, rv b1, .unset, .unset] [(.int 2), (.int 0), (.ref b1), (.int 0), (.ref r0)]) t → OwnS p e below s₁ (entryFrame m #[(.ref r0), (.int 0), (.int 2)] 6) t := fun t q => by
   refine k0 t ?_
   show OwnS p e below s₁ (mkF m 0 #[rv r0, iv 0, iv 2, .unset, .unset, .unset] []) _
   refine oIn X0 hx hby d10_0 rfl ?_
   refine st1 _ ?_
   refine XS.astoreN X1.here hx rfl (hb hby d10_3) rfl rfl (l' := #[rv r0, iv 0, iv 2, rv b1, .unset, .unset]) rfl ?_
   refine oAn X1 hx hby d10_4 rfl rfl (oIn X1 hx hby d10_5 rfl (oAn X1 hx hby d10_6 rfl rfl (oIc X1 hx hby d10_7 (oIn X1 hx hby d10_8 rfl ?_))))
   exact q
  rcases hQ2 with ⟨rfl, N2q, K2, p2_0, p2_1⟩ | ⟨rfl, N2q, K2, p2_0, p2_1, p2_2⟩ | ⟨rfl, N2q, K2, p2_0, p2_1, p2_2⟩
  · have pl2 := (allS (P := fun x => ∃ cell : Cell, h1[x]? = some cell ∧ cell.vm.isStatics = false) (own_ns EA1) all0)
    have N2 := Fr.app N0 N2q
    have f6 := (own_sta_keep (S_AD.ext E1) K2 pl2)
    have f7 := (own_sta_keep (S_HI.ext E1) K2 pl2)
    have f8 := (own_sta_keep (S_LO.ext E1) K2 pl2)
    have f9 := (f3.keep K2 (ninS (Nat.ne_of_lt (Nat.lt_of_lt_of_le V_r0.lt (Nat.le_of_eq g1.symm))) nin0))
    obtain ⟨_, T5, L5, X5, hQ5, st5⟩ := own_cS 0 (rmTB_2 l Z a0 hw [] r0 kC x0 x1 T2.heap n0 (Nat.le_trans (Nat.le_trans Z0 E1.1) K2.1) f6 f7 f8 f9) X2 hx hZ hown hw 84 85 51 86 rfl rfl rfl rfl 23 #[rv r0, iv 0, iv 2, rv b1, iv 0, .unset] [(.ref r0), (.int 0), (.int 2)] [] (hb hby d10_23) hml (lenOf pd_5 rfl) rfl rfl (Nat.le_refl _) (by decide)
    have f10 := (EA1.keep K2)
    obtain ⟨ar_5, kk_5, rfl, N5q, K5, p5_0, p5_1, p5_2⟩ := hQ5
    have g_ar_5 : n0 ≤ ar_5 := Nat.le_trans (Nat.le_trans (Nat.le_trans Z0 E1.1) K2.1) p5_0
    have sz_ar_5 : h0.size ≤ ar_5 := Nat.le_trans (((Keep.refl h0 []).ext E1).trans K2 (allS (Or.inr sz_b1) all0)).1 p5_0
    have N5 := Fr.app N2 N5q
    have f12 := (own_sta_keep f6 K5 all0)
    have f13 := (own_sta_keep f7 K5 all0)
    have f14 := (own_sta_keep f8 K5 all0)
    obtain ⟨_, T11, L11, X11, hQ11, st11⟩ := own_cS 0 (rmGC_2_0 l Z a0 hw [] ar_5 kk_5 x0 x1 T5.heap n0 (Nat.le_trans (Nat.le_trans (Nat.le_trans Z0 E1.1) K2.1) K5.1) f12 f13 f14 p5_1 hch_x0) X5 hx hZ hown hw 100 101 51 102 rfl rfl rfl rfl 32 #[rv r0, iv 0, iv 2, rv b1, iv 0, rv ar_5] [(.ref ar_5), (.int 0)] [] (hb hby d10_32) hml (lenOf pd_6 rfl) rfl rfl (Nat.le_refl _) (by decide)
    obtain ⟨rfl, N11q, e11⟩ := hQ11
    have N11 := Fr.app N5 N11q
    refine own_out X11 Bd.notSynchronized Bd.returns (some (.ref ar_5)) nofun (by decide) (by decide) ?_ fun fs hr => k4 _ ?_
    · rw [e11]; exact Or.inl (⟨ar_5, kk_5, rfl, N11, ((((Keep.refl h0 []).ext E1).trans K2 (allS (Or.inr sz_b1) all0)).trans K5 all0), sz_ar_5, p5_1, p5_2⟩)
    · refine st2 _ ?_
      refine XS.istore X2.here hx rfl (hb hby d10_12) rfl (l' := #[rv r0, iv 0, iv 2, rv b1, iv 0, .unset]) rfl ?_
      refine oIl X2 hx hby d10_14 rfl (oIn X2 hx hby d10_16 rfl ?_)
      refine XS.icmpNo X2.here hx rfl (hb hby d10_17) rfl (feq (by decide : ¬ ((0 : Int32) = (2 : Int32)))).1 ?_
      refine oAn X2 hx hby d10_20 rfl rfl (oIn X2 hx hby d10_21 rfl (oIn X2 hx hby d10_22 rfl ?_))
      refine st5 _ ?_
      refine XS.astore X5.here hx rfl (hb hby d10_26) rfl rfl (l' := #[rv r0, iv 0, iv 2, rv b1, iv 0, rv ar_5]) rfl ?_
      refine oAl X5 hx hby d10_28 rfl rfl (oIl X5 hx hby d10_30 rfl ?_)
      refine st11 _ ?_
      refine XS.sipush X11.here hx rfl (hb hby d10_35) ?_
      refine XS.icmpYes X11.here hx rfl (pc0 := 38) (pc' := 54) rfl (hb hby d10_38) rfl (tlt p2_1).2.2.1 (by decide) (by decide) ?_
      refine oAl X11 hx hby d10_54 rfl rfl ?_
      jvm_step X11.here [X11.here.top, hx, (hb hby d10_56), X11.method', Bd.returns, Value.isRef, FieldType.isReference]
      first | (intro acts; rw [hr _ acts rfl rfl rfl]) | rw [hr _ _ rfl rfl rfl]
      exact Steps.refl _
  · have pl2 := (allS (P := fun x => ∃ cell : Cell, h1[x]? = some cell ∧ cell.vm.isStatics = false) (own_ns EA1) all0)
    have N2 := Fr.app N0 N2q
    have f16 := (own_sta_keep (S_AD.ext E1) K2 pl2)
    have f17 := (own_sta_keep (S_HI.ext E1) K2 pl2)
    have f18 := (own_sta_keep (S_LO.ext E1) K2 pl2)
    have f19 := (f3.keep K2 (ninS (Nat.ne_of_lt (Nat.lt_of_lt_of_le V_r0.lt (Nat.le_of_eq g1.symm))) nin0))
    obtain ⟨_, T15, L15, X15, hQ15, st15⟩ := own_cS 0 (rmTB_2 l Z a0 hw [] r0 kC x0 x1 T2.heap n0 (Nat.le_trans (Nat.le_trans Z0 E1.1) K2.1) f16 f17 f18 f19) X2 hx hZ hown hw 84 85 51 86 rfl rfl rfl rfl 23 #[rv r0, iv 0, iv 2, rv b1, iv 1, .unset] [(.ref r0), (.int 0), (.int 2)] [] (hb hby d10_23) hml (lenOf pd_5 rfl) rfl rfl (Nat.le_refl _) (by decide)
    have f20 := (EA1.keep K2)
    obtain ⟨ar_15, kk_15, rfl, N15q, K15, p15_0, p15_1, p15_2⟩ := hQ15
    have g_ar_15 : n0 ≤ ar_15 := Nat.le_trans (Nat.le_trans (Nat.le_trans Z0 E1.1) K2.1) p15_0
    have sz_ar_15 : h0.size ≤ ar_15 := Nat.le_trans (((Keep.refl h0 []).ext E1).trans K2 (allS (Or.inr sz_b1) all0)).1 p15_0
    have N15 := Fr.app N2 N15q
    have f22 := (own_sta_keep f16 K15 all0)
    have f23 := (own_sta_keep f17 K15 all0)
    have f24 := (own_sta_keep f18 K15 all0)
    obtain ⟨_, T21, L21, X21, hQ21, st21⟩ := own_cS 0 (rmGC_2_1 l Z a0 hw [] ar_15 kk_15 x0 x1 T15.heap n0 (Nat.le_trans (Nat.le_trans (Nat.le_trans Z0 E1.1) K2.1) K15.1) f22 f23 f24 p15_1 hch_x1) X15 hx hZ hown hw 100 101 51 102 rfl rfl rfl rfl 32 #[rv r0, iv 0, iv 2, rv b1, iv 1, rv ar_15] [(.ref ar_15), (.int 1)] [] (hb hby d10_32) hml (lenOf pd_6 rfl) rfl rfl (Nat.le_refl _) (by decide)
    obtain ⟨rfl, N21q, e21⟩ := hQ21
    have N21 := Fr.app N15 N21q
    refine own_out X21 Bd.notSynchronized Bd.returns (some (.ref ar_15)) nofun (by decide) (by decide) ?_ fun fs hr => k4 _ ?_
    · rw [e21]; exact Or.inl (⟨ar_15, kk_15, rfl, N21, ((((Keep.refl h0 []).ext E1).trans K2 (allS (Or.inr sz_b1) all0)).trans K15 all0), sz_ar_15, p15_1, p15_2⟩)
    · refine st2 _ ?_
      refine XS.istore X2.here hx rfl (hb hby d10_12) rfl (l' := #[rv r0, iv 0, iv 2, rv b1, iv 1, .unset]) rfl ?_
      refine oIl X2 hx hby d10_14 rfl (oIn X2 hx hby d10_16 rfl ?_)
      refine XS.icmpNo X2.here hx rfl (hb hby d10_17) rfl (feq (by decide : ¬ ((1 : Int32) = (2 : Int32)))).1 ?_
      refine oAn X2 hx hby d10_20 rfl rfl (oIn X2 hx hby d10_21 rfl (oIn X2 hx hby d10_22 rfl ?_))
      refine st15 _ ?_
      refine XS.astore X15.here hx rfl (hb hby d10_26) rfl rfl (l' := #[rv r0, iv 0, iv 2, rv b1, iv 1, rv ar_15]) rfl ?_
      refine oAl X15 hx hby d10_28 rfl rfl (oIl X15 hx hby d10_30 rfl ?_)
      refine st21 _ ?_
      refine XS.sipush X21.here hx rfl (hb hby d10_35) ?_
      refine XS.icmpYes X21.here hx rfl (pc0 := 38) (pc' := 54) rfl (hb hby d10_38) rfl (tlt p2_2).2.2.1 (by decide) (by decide) ?_
      refine oAl X21 hx hby d10_54 rfl rfl ?_
      jvm_step X21.here [X21.here.top, hx, (hb hby d10_56), X21.method', Bd.returns, Value.isRef, FieldType.isReference]
      first | (intro acts; rw [hr _ acts rfl rfl rfl]) | rw [hr _ _ rfl rfl rfl]
      exact Steps.refl _
  · have pl2 := (allS (P := fun x => ∃ cell : Cell, h1[x]? = some cell ∧ cell.vm.isStatics = false) (own_ns EA1) all0)
    have N2 := Fr.app N0 N2q
    have f25 := (EA1.keep K2)
    refine own_out X2 Bd.notSynchronized Bd.returns (some (.ref b1)) nofun (by decide) (by decide) ?_ fun fs hr => k4 _ ?_
    · exact Or.inr ((⟨b1, k1, rfl, N2, (((Keep.refl h0 []).ext E1).trans K2 (allS (Or.inr sz_b1) all0)), sz_b1, p2_0, f25, p2_1, p2_2⟩))
    · refine st2 _ ?_
      refine XS.istore X2.here hx rfl (hb hby d10_12) rfl (l' := #[rv r0, iv 0, iv 2, rv b1, iv 2, .unset]) rfl ?_
      refine oIl X2 hx hby d10_14 rfl (oIn X2 hx hby d10_16 rfl ?_)
      refine XS.icmpYes X2.here hx rfl (pc0 := 17) (pc' := 57) rfl (hb hby d10_17) rfl (teq (by decide : (2 : Int32) = (2 : Int32))).1 (by decide) (by decide) ?_
      refine oAn X2 hx hby d10_57 rfl rfl ?_
      jvm_step X2.here [X2.here.top, hx, (hb hby d10_58), X2.method', Bd.returns, Value.isRef, FieldType.isReference]
      first | (intro acts; rw [hr _ acts rfl rfl rfl]) | rw [hr _ _ rfl rfl rfl]
      exact Steps.refl _
def Q_Cd_2_2 (Z : State) (r0 : Addr) (kB : ClassId) (vs : List Value) (h0 : Heap) (n0 : Nat) (v : Option Value) (h : Heap) (L : List Loc) : Prop := v = some (.int 0) ∧ Fr n0 L ∧ h = h0
theorem rmCd_2_2 (l : Launch) (Z : State) (a0 : Array Value) (hw : own_HW a0 Z) (ws : List Jvm.Cond) (r0 : Addr) (kB : ClassId) (vs : List Value) (h0 : Heap) (n0 : Nat) (Z0 : n0 ≤ h0.size) (V_r0 : Arv Z h0 r0 kB .byte (2 : Int32) vs (.int 0)) :
    own_M l Z (⟨cS0, "coderFromArrayLen", "([BI)B"⟩ : MethodName) jdk_52_method_15_code 2 (some .byte) ws ({ frames := 0, cells := 0, slots := 0, locals := 0 } : Room) #[(.ref r0), (.int 2)] h0 (Q_Cd_2_2 Z r0 kB vs h0 n0) := by
  refine own_in cS0 rfl (plainFor_of_name pn_java_lang_StringUTF16) ?_
  intro p e s m below meth c s₁ Bd hml hZ hh hx hby hown X0 e0
  have N0 := Fr.nil n0
  have k0 := own_k (p := p) (e := e) (below := below) (T := s₁) (ef_12 m r0 (2 : Int32))
  obtain ⟨cl_z1, Ar_z1, q_z1, S_z1, N_z1, H_z1, G_z1⟩ := id V_r0
  refine own_out X0 Bd.notSynchronized Bd.returns (some (.int 0)) nofun (by decide) (by decide) ?_ fun fs hr => k0 _ ?_
  · rw [e0]; exact ⟨rfl, N0, rfl⟩
  · show OwnS p e below s₁ (mkF m 0 #[rv r0, iv 2] []) _
    refine oIn X0 hx hby d12_0 rfl (oAn X0 hx hby d12_1 rfl rfl ?_)
    refine X0.arraylength hx (by rw [e0]; exact Ar_z1.1) (State.isArrayOf_alike hZ.alike Ar_z1.2.1) (g := (mkF m 2 #[rv r0, iv 2] [(.ref r0), (.int 2)])) rfl rfl (hb hby d12_2) _ ?_
    rw [len_of S_z1 N_z1]
    refine XS.isub X0.here hx rfl (hb hby d12_3) rfl ?_
    refine oBp X0 hx hby d12_4 ?_
    refine XS.iushr X0.here hx rfl (hb hby d12_6) rfl ?_
    refine XS.i2b X0.here hx rfl (hb hby d12_7) rfl ?_
    exact retN X0 hx (t := .byte) Bd.returns (by simp) (hb hby d12_8) hr
def Q_Cd_2_4 (Z : State) (r0 : Addr) (kB : ClassId) (vs : List Value) (h0 : Heap) (n0 : Nat) (v : Option Value) (h : Heap) (L : List Loc) : Prop := v = some (.int 1) ∧ Fr n0 L ∧ h = h0
theorem rmCd_2_4 (l : Launch) (Z : State) (a0 : Array Value) (hw : own_HW a0 Z) (ws : List Jvm.Cond) (r0 : Addr) (kB : ClassId) (vs : List Value) (h0 : Heap) (n0 : Nat) (Z0 : n0 ≤ h0.size) (V_r0 : Arv Z h0 r0 kB .byte (4 : Int32) vs (.int 0)) :
    own_M l Z (⟨cS0, "coderFromArrayLen", "([BI)B"⟩ : MethodName) jdk_52_method_15_code 2 (some .byte) ws ({ frames := 0, cells := 0, slots := 0, locals := 0 } : Room) #[(.ref r0), (.int 2)] h0 (Q_Cd_2_4 Z r0 kB vs h0 n0) := by
  refine own_in cS0 rfl (plainFor_of_name pn_java_lang_StringUTF16) ?_
  intro p e s m below meth c s₁ Bd hml hZ hh hx hby hown X0 e0
  have N0 := Fr.nil n0
  have k0 := own_k (p := p) (e := e) (below := below) (T := s₁) (ef_12 m r0 (2 : Int32))
  obtain ⟨cl_z1, Ar_z1, q_z1, S_z1, N_z1, H_z1, G_z1⟩ := id V_r0
  refine own_out X0 Bd.notSynchronized Bd.returns (some (.int 1)) nofun (by decide) (by decide) ?_ fun fs hr => k0 _ ?_
  · rw [e0]; exact ⟨rfl, N0, rfl⟩
  · show OwnS p e below s₁ (mkF m 0 #[rv r0, iv 2] []) _
    refine oIn X0 hx hby d12_0 rfl (oAn X0 hx hby d12_1 rfl rfl ?_)
    refine X0.arraylength hx (by rw [e0]; exact Ar_z1.1) (State.isArrayOf_alike hZ.alike Ar_z1.2.1) (g := (mkF m 2 #[rv r0, iv 2] [(.ref r0), (.int 2)])) rfl rfl (hb hby d12_2) _ ?_
    rw [len_of S_z1 N_z1]
    refine XS.isub X0.here hx rfl (hb hby d12_3) rfl ?_
    refine oBp X0 hx hby d12_4 ?_
    refine XS.iushr X0.here hx rfl (hb hby d12_6) rfl ?_
    refine XS.i2b X0.here hx rfl (hb hby d12_7) rfl ?_
    exact retN X0 hx (t := .byte) Bd.returns (by simp) (hb hby d12_8) hr
def Q_I2_2 (Z : State) (r0 r1 : Addr) (w_CS : Int32) (kC : ClassId) (x0 x1 : Int32) (u_coder_r0 u_value_r0 u_coder_r0 u_value_r0 : Value) (h0 : Heap) (n0 : Nat) (v : Option Value) (h : Heap) (L : List Loc) : Prop := v = none ∧ Fr n0 L ∧ Keep h0 h [r0] ∧ own_S2 Z h r0 x0 x1 ∧ Exa Z h r0 cS1
theorem rmI2_2 (l : Launch) (Z : State) (a0 : Array Value) (hw : own_HW a0 Z) (ws : List Jvm.Cond) (r0 r1 : Addr) (w_CS : Int32) (kC : ClassId) (x0 x1 : Int32) (u_coder_r0 u_value_r0 u_coder_r0 u_value_r0 : Value) (h0 : Heap) (n0 : Nat) (Z0 : n0 ≤ h0.size) (S_CS : Sta Z h0 cS1 cS10 "Z" (.int w_CS)) (hcs : ¬ (w_CS = (0 : Int32))) (S_AD : Sta Z h0 cS0 cS5 "Z" (.int 1)) (S_HI : Sta Z h0 cS0 cS7 "I" (.int 0)) (S_LO : Sta Z h0 cS0 cS8 "I" (.int 8)) (E_r0 : Exa Z h0 r0 cS1) (V_r1 : Arv Z h0 r1 kC .char (2 : Int32) [(.int x0), (.int x1)] (.int 0)) (hch_x0 : own_ch x0) (hch_x1 : own_ch x1) (F_coder_r0 : Fld Z h0 r0 cS1 "coder" "B" u_coder_r0) (ge_r0 : n0 ≤ r0) (F_value_r0 : Fld Z h0 r0 cS1 "value" "[B" u_value_r0) :
    own_M l Z (⟨cS1, "<init>", "([CIILjava/lang/Void;)V"⟩ : MethodName) jdk_42_method_149_code 6 none ws ({ frames := 4, cells := 2, slots := 6, locals := 57 } : Room) #[(.ref r0), (.ref r1), (.int 0), (.int 2), .null] h0 (Q_I2_2 Z r0 r1 w_CS kC x0 x1 u_coder_r0 u_value_r0 u_coder_r0 u_value_r0 h0 n0) := by
  refine own_in cS1 rfl (plainFor_of_name pn_java_lang_String) ?_
  intro p e s m below meth c s₁ Bd hml hZ hh hx hby hown X0 e0
  have N0 := Fr.nil n0
  have hnm := (name_of_methodNamed Bd.named Bd.method).1
  have k0 := own_k (p := p) (e := e) (below := below) (T := s₁) (ef_4n4 m r0 r1 (0 : Int32) (2 : Int32))
  obtain ⟨T1, X1, e1, st1⟩ := initO X0 hx hZ hown (own_at hw 20 rfl) (own_at hw 21 rfl) (own_at hw 22 rfl) e0 (g := (mkF m 1 #[rv r0, rv r1, iv 0, iv 2, .val .null, .unset] [(.ref r0)])) rfl (by rw [hml]; rfl) rfl (hb hby d4_1) (by decide) (W := 0) (Nat.le_refl _) (by decide)
  obtain ⟨T2, X2, e2, st2⟩ := getS2 X1 hx hZ hown (host := "") (Or.inl (own_at hw 45 rfl)) Via.refl e1 S_CS (g := (mkF m 27 #[rv r0, rv r1, iv 0, iv 2, .val .null, .unset] [])) rfl (hb hby d4_27)
  obtain ⟨_, T3, L3, X3, hQ3, st3⟩ := own_cS 0 (rmC1_2 l Z a0 hw [] r1 kC x0 x1 h0 n0 Z0 S_AD S_HI S_LO V_r1 hch_x0 hch_x1) X2 hx hZ hown hw 49 50 51 52 rfl rfl rfl rfl 36 #[rv r0, rv r1, iv 0, iv 2, .val .null, .unset] [(.ref r1), (.int 0), (.int 2)] [] (hb hby d4_36) hml (lenOf pd_5 rfl) e2 rfl (Nat.le_refl _) (by decide)
  have k4 : ∀ t, OwnS p e below T2 (mkF m 36 #[rv r0, rv r1, iv 0, iv 2, .val .null, .unset] [(.int 2), (.int 0), (.ref r1)]) t → OwnS p e below s₁ (entryFrame m #[(.ref r0), (.ref r1), (.int 0), (.int 2), .null] 6) t := fun t q => by
   refine k0 t ?_
   show OwnS p e below s₁ (mkF m 0 #[rv r0, rv r1, iv 0, iv 2, .val .null, .unset] []) _
   refine oAn X0 hx hby d4_0 rfl rfl ?_
   refine st1 _ ?_
   refine oIn X1 hx hby d4_4 rfl ?_
   refine XS.ifYes X1.here hx rfl (pc0 := 5) (pc' := 27) rfl (hb hby d4_5) rfl ((if0 _ _).trans (feq (by decide : ¬ ((2 : Int32) = (0 : Int32)))).2) (by decide) (by decide) ?_
   refine st2 _ ?_
   refine XS.ifNo X2.here hx rfl (hb hby d4_30) rfl ((if0 _ _).trans (feq hcs).1) ?_
   refine oAn X2 hx hby d4_33 rfl rfl (oIn X2 hx hby d4_34 rfl (oIn X2 hx hby d4_35 rfl ?_))
   exact q
  rcases hQ3 with ⟨ar_3, kk_3, rfl, N3q, K3, p3_0, p3_1, p3_2⟩ | ⟨ar_3, kk_3, rfl, N3q, K3, p3_0, p3_1, p3_2, p3_3, p3_4⟩
  · have g_ar_3 : n0 ≤ ar_3 := Nat.le_trans Z0 p3_0
    have sz_ar_3 : h0.size ≤ ar_3 := Nat.le_trans (Keep.refl h0 []).1 p3_0
    have N3 := Fr.app N0 N3q
    obtain ⟨_, T5, L5, X5, hQ5, st5⟩ := own_cS 1 (rmCd_2_4 l Z a0 hw [] ar_3 kk_3 [(.int (((x0 >>> ((0 : Int32) &&& 31)).toInt8.toInt32).toInt8.toInt32)), (.int (((x0 >>> ((8 : Int32) &&& 31)).toInt8.toInt32).toInt8.toInt32)), (.int (((x1 >>> ((0 : Int32) &&& 31)).toInt8.toInt32).toInt8.toInt32)), (.int (((x1 >>> ((8 : Int32) &&& 31)).toInt8.toInt32).toInt8.toInt32))] T3.heap n0 (Nat.le_trans Z0 K3.1) p3_1) X3 hx hZ hown hw 56 57 51 58 rfl rfl rfl rfl 45 #[rv r0, rv r1, iv 0, iv 2, .val .null, rv ar_3] [(.ref ar_3), (.int 2)] [(.ref r0)] (hb hby d4_45) hml (lenOf pd_7 rfl) rfl rfl (Nat.le_refl _) (by decide)
    obtain ⟨rfl, N5q, e5⟩ := hQ5
    have N5 := Fr.app N3 N5q
    have f6 := (E_r0.keep K3)
    have f7 := (F_coder_r0.keep K3 nin0)
    obtain ⟨T8, h8, X8, e8, W8, st8⟩ := putFN X5 hx hZ hown (own_at hw 30 rfl) Via.refl e5 f7 f6 (Or.inr ⟨(own_at hw 26 rfl), rfl, hnm⟩) (own_at hw 11 rfl) (ty := .byte) (v' := (.int 1)) (by decide) rfl rfl (g := (mkF m 48 #[rv r0, rv r1, iv 0, iv 2, .val .null, rv ar_3] [(.int 1), (.ref r0)])) rfl rfl (hb hby d4_48)
    have Fw8 : Fld Z h8 r0 cS1 "coder" "B" (.int 1) := f7.same W8
    have N8 := Fr.snoc X8 N5 ge_r0
    have f9 := (f6.wr W8)
    have f10 := ((F_value_r0.keep K3 nin0).other W8 (Or.inr (slot_ne (Or.inr (own_at hw 25 rfl)) (Or.inr (own_at hw 26 rfl)) (by decide) (t := (.array .byte)) (t' := .byte) (by decide) (by decide))))
    obtain ⟨T11, h11, X11, e11, W11, st11⟩ := putF X8 hx hZ hown (host := "") (Or.inl (own_at hw 29 rfl)) Via.refl e8 f10 f9 (Or.inr ⟨(own_at hw 25 rfl), rfl, hnm⟩) (own_at hw 11 rfl) (ty := (.array .byte)) (by decide) rfl rfl (g := (mkF m 54 #[rv r0, rv r1, iv 0, iv 2, .val .null, rv ar_3] [(.ref ar_3), (.ref r0)])) rfl rfl (hb hby d4_54)
    have Fw11 : Fld Z h11 r0 cS1 "value" "[B" (.ref ar_3) := f10.same W11
    have N11 := Fr.snoc X11 N8 ge_r0
    have f12 := ((p3_1.other W8 (Ne.symm (Nat.ne_of_lt (Nat.lt_of_lt_of_le E_r0.lt p3_0)))).other W11 (Ne.symm (Nat.ne_of_lt (Nat.lt_of_lt_of_le E_r0.lt p3_0))))
    have f14 := (f9.wr W11)
    have f15 := (Fw8.other W11 (Or.inr (slot_ne (Or.inr (own_at hw 26 rfl)) (Or.inr (own_at hw 25 rfl)) (by decide) (t := .byte) (t' := (.array .byte)) (by decide) (by decide))))
    have P13 : own_S2 Z h11 r0 x0 x1 := ⟨f14, Or.inr ⟨ar_3, kk_3, f15, Fw11, f12⟩⟩
    refine own_out X11 Bd.notSynchronized Bd.returns (none) (fun _ => rfl) (by decide) (by decide) ?_ fun fs hr => k4 _ ?_
    · rw [e11]; exact ⟨rfl, N11, ((((Keep.refl h0 [r0]).trans K3 all0).wr W8 (Or.inl (List.mem_of_getElem? (i := 0) rfl))).wr W11 (Or.inl (List.mem_of_getElem? (i := 0) rfl))), P13, f14⟩
    · refine st3 _ ?_
      refine XS.astore X3.here hx rfl (hb hby d4_39) rfl rfl (l' := #[rv r0, rv r1, iv 0, iv 2, .val .null, rv ar_3]) rfl ?_
      refine oAn X3 hx hby d4_41 rfl rfl (oAl X3 hx hby d4_42 rfl rfl (oIn X3 hx hby d4_44 rfl ?_))
      refine st5 _ ?_
      refine st8 _ ?_
      refine oAn X8 hx hby d4_51 rfl rfl (oAl X8 hx hby d4_52 rfl rfl ?_)
      refine st11 _ ?_
      exact X11.returnOut hx Bd.returns (hb hby d4_57) hr
  · have g_ar_3 : n0 ≤ ar_3 := Nat.le_trans Z0 p3_0
    have sz_ar_3 : h0.size ≤ ar_3 := Nat.le_trans (Keep.refl h0 []).1 p3_0
    have N3 := Fr.app N0 N3q
    obtain ⟨_, T16, L16, X16, hQ16, st16⟩ := own_cS 1 (rmCd_2_2 l Z a0 hw [] ar_3 kk_3 [(.int ((x0.toInt8.toInt32).toInt8.toInt32)), (.int ((x1.toInt8.toInt32).toInt8.toInt32))] T3.heap n0 (Nat.le_trans Z0 K3.1) p3_1) X3 hx hZ hown hw 56 57 51 58 rfl rfl rfl rfl 45 #[rv r0, rv r1, iv 0, iv 2, .val .null, rv ar_3] [(.ref ar_3), (.int 2)] [(.ref r0)] (hb hby d4_45) hml (lenOf pd_7 rfl) rfl rfl (Nat.le_refl _) (by decide)
    obtain ⟨rfl, N16q, e16⟩ := hQ16
    have N16 := Fr.app N3 N16q
    have f17 := (E_r0.keep K3)
    have f18 := (F_coder_r0.keep K3 nin0)
    obtain ⟨T19, h19, X19, e19, W19, st19⟩ := putFN X16 hx hZ hown (own_at hw 30 rfl) Via.refl e16 f18 f17 (Or.inr ⟨(own_at hw 26 rfl), rfl, hnm⟩) (own_at hw 11 rfl) (ty := .byte) (v' := (.int 0)) (by decide) rfl rfl (g := (mkF m 48 #[rv r0, rv r1, iv 0, iv 2, .val .null, rv ar_3] [(.int 0), (.ref r0)])) rfl rfl (hb hby d4_48)
    have Fw19 : Fld Z h19 r0 cS1 "coder" "B" (.int 0) := f18.same W19
    have N19 := Fr.snoc X19 N16 ge_r0
    have f20 := (f17.wr W19)
    have f21 := ((F_value_r0.keep K3 nin0).other W19 (Or.inr (slot_ne (Or.inr (own_at hw 25 rfl)) (Or.inr (own_at hw 26 rfl)) (by decide) (t := (.array .byte)) (t' := .byte) (by decide) (by decide))))
    obtain ⟨T22, h22, X22, e22, W22, st22⟩ := putF X19 hx hZ hown (host := "") (Or.inl (own_at hw 29 rfl)) Via.refl e19 f21 f20 (Or.inr ⟨(own_at hw 25 rfl), rfl, hnm⟩) (own_at hw 11 rfl) (ty := (.array .byte)) (by decide) rfl rfl (g := (mkF m 54 #[rv r0, rv r1, iv 0, iv 2, .val .null, rv ar_3] [(.ref ar_3), (.ref r0)])) rfl rfl (hb hby d4_54)
    have Fw22 : Fld Z h22 r0 cS1 "value" "[B" (.ref ar_3) := f21.same W22
    have N22 := Fr.snoc X22 N19 ge_r0
    have f23 := ((p3_1.other W19 (Ne.symm (Nat.ne_of_lt (Nat.lt_of_lt_of_le E_r0.lt p3_0)))).other W22 (Ne.symm (Nat.ne_of_lt (Nat.lt_of_lt_of_le E_r0.lt p3_0))))
    have f25 := (f20.wr W22)
    have f26 := (Fw19.other W22 (Or.inr (slot_ne (Or.inr (own_at hw 26 rfl)) (Or.inr (own_at hw 25 rfl)) (by decide) (t := .byte) (t' := (.array .byte)) (by decide) (by decide))))
    have P24 : own_S2 Z h22 r0 x0 x1 := ⟨f25, Or.inl ⟨ar_3, kk_3, f26, Fw22, f23, p3_3, p3_4⟩⟩
    refine own_out X22 Bd.notSynchronized Bd.returns (none) (fun _ => rfl) (by decide) (by decide) ?_ fun fs hr => k4 _ ?_
    · rw [e22]; exact ⟨rfl, N22, ((((Keep.refl h0 [r0]).trans K3 all0).wr W19 (Or.inl (List.mem_of_getElem? (i := 0) rfl))).wr W22 (Or.inl (List.mem_of_getElem? (i := 0) rfl))), P24, f25⟩
    · refine st3 _ ?_
      refine XS.astore X3.here hx rfl (hb hby d4_39) rfl rfl (l' := #[rv r0, rv r1, iv 0, iv 2, .val .null, rv ar_3]) rfl ?_
      refine oAn X3 hx hby d4_41 rfl rfl (oAl X3 hx hby d4_42 rfl rfl (oIn X3 hx hby d4_44 rfl ?_))
      refine st16 _ ?_
      refine st19 _ ?_
      refine oAn X19 hx hby d4_51 rfl rfl (oAl X19 hx hby d4_52 rfl rfl ?_)
      refine st22 _ ?_
      exact X22.returnOut hx Bd.returns (hb hby d4_57) hr
def Q_I1_2 (Z : State) (r0 r1 : Addr) (w_CS : Int32) (kC : ClassId) (x0 x1 : Int32) (u_coder_r0 u_value_r0 : Value) (h0 : Heap) (n0 : Nat) (v : Option Value) (h : Heap) (L : List Loc) : Prop := v = none ∧ Fr n0 L ∧ Keep h0 h [r0] ∧ own_S2 Z h r0 x0 x1 ∧ Exa Z h r0 cS1
theorem rmI1_2 (l : Launch) (Z : State) (a0 : Array Value) (hw : own_HW a0 Z) (ws : List Jvm.Cond) (r0 r1 : Addr) (w_CS : Int32) (kC : ClassId) (x0 x1 : Int32) (u_coder_r0 u_value_r0 : Value) (h0 : Heap) (n0 : Nat) (Z0 : n0 ≤ h0.size) (S_CS : Sta Z h0 cS1 cS10 "Z" (.int w_CS)) (hcs : ¬ (w_CS = (0 : Int32))) (S_AD : Sta Z h0 cS0 cS5 "Z" (.int 1)) (S_HI : Sta Z h0 cS0 cS7 "I" (.int 0)) (S_LO : Sta Z h0 cS0 cS8 "I" (.int 8)) (E_r0 : Exa Z h0 r0 cS1) (V_r1 : Arv Z h0 r1 kC .char (2 : Int32) [(.int x0), (.int x1)] (.int 0)) (hch_x0 : own_ch x0) (hch_x1 : own_ch x1) (F_coder_r0 : Fld Z h0 r0 cS1 "coder" "B" u_coder_r0) (ge_r0 : n0 ≤ r0) (F_value_r0 : Fld Z h0 r0 cS1 "value" "[B" u_value_r0) :
    own_M l Z (⟨cS1, "<init>", "([C)V"⟩ : MethodName) jdk_42_method_3_code 2 none ws ({ frames := 5, cells := 2, slots := 6, locals := 74 } : Room) #[(.ref r0), (.ref r1)] h0 (Q_I1_2 Z r0 r1 w_CS kC x0 x1 u_coder_r0 u_value_r0 h0 n0) := by
  refine own_in cS1 rfl (plainFor_of_name pn_java_lang_String) ?_
  intro p e s m below meth c s₁ Bd hml hZ hh hx hby hown X0 e0
  have N0 := Fr.nil n0
  have k0 := own_k (p := p) (e := e) (below := below) (T := s₁) (ef_3 m r0 r1)
  obtain ⟨cl_z1, Ar_z1, q_z1, S_z1, N_z1, H_z1, G_z1⟩ := id V_r1
  obtain ⟨_, _, ⟨T2, L2, j2, i2⟩, -, X2, ⟨Lc2, hQ2, l2, y2, z2⟩, st2⟩ := X0.specialBack hx (y := (⟨cS1, "<init>", "([CIILjava/lang/Void;)V"⟩ : MethodName)) rfl hown (mvT hZ (own_at hw 16 rfl)) (mvT hZ (own_at hw 17 rfl)) (mvT hZ (own_at hw 19 rfl)) (by decide) (backOf (W := 0) (rmI2_2 l Z a0 hw [] r0 r1 w_CS kC x0 x1 u_coder_r0 u_value_r0 u_coder_r0 u_value_r0 h0 n0 Z0 S_CS hcs S_AD S_HI S_LO E_r0 V_r1 hch_x0 hch_x1 F_coder_r0 ge_r0 F_value_r0) hZ (own_at hw 19 rfl) (own_at hw 12 rfl) (by decide) (by decide)) (g := (mkF m 6 #[rv r0, rv r1] [.null, (.int 2), (.int 0), (.ref r1), (.ref r0)])) rfl (by rw [hml]; rfl) (Steps.refl _) (a := r0) (argsL := [(.ref r1), (.int 0), (.int 2), .null]) (rest := []) (lenOf pd_8 rfl) rfl (Nat.le_refl _) (hb hby d3_6) (fun _ _ => ⟨rfl, e0, (by decide : 0 + 2 ≤ _), (by decide : 0 + 6 ≤ _)⟩)
  dsimp only [Pt.U, Pt.locs, Pt.cells, Pt.slots] at X2 l2 y2 z2 st2 hQ2
  subst l2 y2 z2
  obtain ⟨rfl, N2q, K2, p2_0, p2_1⟩ := hQ2
  have pl2 := (allS (P := fun x => ∃ cell : Cell, h0[x]? = some cell ∧ cell.vm.isStatics = false) (own_ns E_r0) all0)
  have N2 := Fr.app N0 N2q
  refine own_out X2 Bd.notSynchronized Bd.returns (none) (fun _ => rfl) (by decide) (by decide) ?_ fun fs hr => k0 _ ?_
  · exact ⟨rfl, N2, ((Keep.refl h0 [r0]).trans K2 (allS (Or.inl (List.mem_of_getElem? (i := 0) rfl)) all0)), p2_0, p2_1⟩
  · show OwnS p e below s₁ (mkF m 0 #[rv r0, rv r1] []) _
    refine oAn X0 hx hby d3_0 rfl rfl (oAn X0 hx hby d3_1 rfl rfl (oIc X0 hx hby d3_2 (oAn X0 hx hby d3_3 rfl rfl ?_)))
    refine X0.arraylength hx (by rw [e0]; exact Ar_z1.1) (State.isArrayOf_alike hZ.alike Ar_z1.2.1) (g := (mkF m 4 #[rv r0, rv r1] [(.ref r1), (.int 0), (.ref r1), (.ref r0)])) rfl rfl (hb hby d3_4) _ ?_
    rw [len_of S_z1 N_z1]
    refine XS.aconstNull X0.here hx rfl (hb hby d3_5) ?_
    refine st2.trans ?_
    exact X2.returnOut hx Bd.returns (hb hby d3_9) hr
def Q_UL_3 (Z : State) (r0 : Addr) (kB : ClassId) (vs : List Value) (h0 : Heap) (n0 : Nat) (v : Option Value) (h : Heap) (L : List Loc) : Prop := v = some (.int 3) ∧ Fr n0 L ∧ h = h0
theorem rmUL_3 (l : Launch) (Z : State) (a0 : Array Value) (hw : own_HW a0 Z) (ws : List Jvm.Cond) (r0 : Addr) (kB : ClassId) (vs : List Value) (h0 : Heap) (n0 : Nat) (Z0 : n0 ≤ h0.size) (V_r0 : Arv Z h0 r0 kB .byte (6 : Int32) vs (.int 0)) :
    own_M l Z (⟨cS0, "length", "([B)I"⟩ : MethodName) jdk_52_method_6_code 1 (some .int) ws ({ frames := 0, cells := 0, slots := 0, locals := 0 } : Room) #[(.ref r0)] h0 (Q_UL_3 Z r0 kB vs h0 n0) := by
  refine own_in cS0 rfl (plainFor_of_name pn_java_lang_StringUTF16) ?_
  intro p e s m below meth c s₁ Bd hml hZ hh hx hby hown X0 e0
  have N0 := Fr.nil n0
  have k0 := own_k (p := p) (e := e) (below := below) (T := s₁) (ef_26 m r0)
  obtain ⟨cl_z1, Ar_z1, q_z1, S_z1, N_z1, H_z1, G_z1⟩ := id V_r0
  refine own_out X0 Bd.notSynchronized Bd.returns (some (.int 3)) nofun (by decide) (by decide) ?_ fun fs hr => k0 _ ?_
  · rw [e0]; exact ⟨rfl, N0, rfl⟩
  · show OwnS p e below s₁ (mkF m 0 #[rv r0] []) _
    refine oAn X0 hx hby d26_0 rfl rfl ?_
    refine X0.arraylength hx (by rw [e0]; exact Ar_z1.1) (State.isArrayOf_alike hZ.alike Ar_z1.2.1) (g := (mkF m 1 #[rv r0] [(.ref r0)])) rfl rfl (hb hby d26_1) _ ?_
    rw [len_of S_z1 N_z1]
    refine oIc X0 hx hby d26_2 ?_
    refine XS.ishr X0.here hx rfl (hb hby d26_3) rfl ?_
    exact retI X0 hx Bd.returns (hb hby d26_4) hr
def Q_NL_3 (Z : State)  (h0 : Heap) (n0 : Nat) (v : Option Value) (h : Heap) (L : List Loc) : Prop := v = some (.int 6) ∧ Fr n0 L ∧ h = h0
theorem rmNL_3 (l : Launch) (Z : State) (a0 : Array Value) (hw : own_HW a0 Z) (ws : List Jvm.Cond)  (h0 : Heap) (n0 : Nat) (Z0 : n0 ≤ h0.size) :
    own_M l Z (⟨cS0, "newBytesLength", "(I)I"⟩ : MethodName) jdk_52_method_3_code 1 (some .int) ws ({ frames := 0, cells := 0, slots := 0, locals := 0 } : Room) #[(.int 3)] h0 (Q_NL_3 Z  h0 n0) := by
  refine own_in cS0 rfl (plainFor_of_name pn_java_lang_StringUTF16) ?_
  intro p e s m below meth c s₁ Bd hml hZ hh hx hby hown X0 e0
  have N0 := Fr.nil n0
  have k0 := own_k (p := p) (e := e) (below := below) (T := s₁) (ef_21 m (3 : Int32))
  refine own_out X0 Bd.notSynchronized Bd.returns (some (.int 6)) nofun (by decide) (by decide) ?_ fun fs hr => k0 _ ?_
  · rw [e0]; exact ⟨rfl, N0, rfl⟩
  · show OwnS p e below s₁ (mkF m 0 #[iv 3] []) _
    refine oIn X0 hx hby d21_0 rfl ?_
    refine XS.ifYes X0.here hx rfl (pc0 := 1) (pc' := 12) rfl (hb hby d21_1) rfl ((if0 _ _).trans (flt (by decide : ¬ ((3 : Int32) < (0 : Int32)))).2.1) (by decide) (by decide) ?_
    refine oIn X0 hx hby d21_12 rfl ?_
    refine X0.ldcInt hx hown (mvT hZ (own_at hw 93 rfl)) (g := (mkF m 13 #[iv 3] [(.int 3)])) rfl (hb hby d21_13) _ ?_
    refine XS.icmpYes X0.here hx rfl (pc0 := 15) (pc' := 55) rfl (hb hby d21_15) rfl (tlt (by decide : (3 : Int32) < (1073741823 : Int32))).1 (by decide) (by decide) ?_
    refine oIn X0 hx hby d21_55 rfl (oIc X0 hx hby d21_56 ?_)
    refine XS.ishl X0.here hx rfl (hb hby d21_57) rfl ?_
    exact retI X0 hx Bd.returns (hb hby d21_58) hr
def Q_NF_3 (Z : State)  (h0 : Heap) (n0 : Nat) (v : Option Value) (h : Heap) (L : List Loc) : Prop := ∃ ar : Addr, ∃ kk : ClassId, v = some (.ref ar) ∧ Fr n0 L ∧ Keep h0 h [] ∧ h0.size ≤ ar ∧ Arv Z h ar kk .byte (6 : Int32) [(.int 0), (.int 0), (.int 0), (.int 0), (.int 0), (.int 0)] (.int 0) ∧ Exa Z h ar "[B"
theorem rmNF_3 (l : Launch) (Z : State) (a0 : Array Value) (hw : own_HW a0 Z) (ws : List Jvm.Cond)  (h0 : Heap) (n0 : Nat) (Z0 : n0 ≤ h0.size) :
    own_M l Z (⟨cS0, "newBytesFor", "(I)[B"⟩ : MethodName) jdk_52_method_2_code 1 (some (.array .byte)) ws ({ frames := 1, cells := 1, slots := 6, locals := 12 } : Room) #[(.int 3)] h0 (Q_NF_3 Z  h0 n0) := by
  refine own_in cS0 rfl (plainFor_of_name pn_java_lang_StringUTF16) ?_
  intro p e s m below meth c s₁ Bd hml hZ hh hx hby hown X0 e0
  have N0 := Fr.nil n0
  have k0 := own_k (p := p) (e := e) (below := below) (T := s₁) (ef_20 m (3 : Int32))
  obtain ⟨_, T1, L1, X1, hQ1, st1⟩ := own_cS 0 (rmNL_3 l Z a0 hw []  h0 n0 Z0 ) X0 hx hZ hown hw 90 91 51 92 rfl rfl rfl rfl 1 #[iv 3] [(.int 3)] [] (hb hby d20_1) hml (lenOf pd_1 rfl) e0 rfl (Nat.le_refl _) (by decide)
  obtain ⟨rfl, N1q, e1⟩ := hQ1
  have N1 := Fr.app N0 N1q
  obtain ⟨T2, h2, k2, X2, e2, E2, A2, EA2, st2⟩ := newPE X1 hx hZ (own_at hw 24 rfl) e1 (g := (mkF m 4 #[iv 3] [(.int 6)])) rfl (hb hby d20_4) rfl (by decide) (cap := 6) (by decide) (by decide) (by decide) (by decide) (ad := "[B") (by decide)
  obtain ⟨b2, g2⟩ : ∃ z, z = h0.size := ⟨_, rfl⟩
  rw [← g2] at A2 EA2 st2
  have g_b2 : n0 ≤ b2 := Nat.le_trans Z0 (Nat.le_of_eq g2.symm)
  have sz_b2 : h0.size ≤ b2 := Nat.le_trans (Keep.refl h0 []).1 (Nat.le_of_eq g2.symm)
  have V_b2 : Arv Z h2 b2 k2 .byte (6 : Int32) [(.int 0), (.int 0), (.int 0), (.int 0), (.int 0), (.int 0)] (.int 0) := (Arv.new A2 (by decide)).pad (pad_rep [] (.int 0) 6)
  refine own_out X2 Bd.notSynchronized Bd.returns (some (.ref b2)) nofun (by decide) (by decide) ?_ fun fs hr => k0 _ ?_
  · rw [e2]; exact ⟨b2, k2, rfl, N1, ((Keep.refl h0 []).ext E2), sz_b2, V_b2, EA2⟩
  · show OwnS p e below s₁ (mkF m 0 #[iv 3] []) _
    refine oIn X0 hx hby d20_0 rfl ?_
    refine st1 _ ?_
    refine st2 _ ?_
    jvm_step X2.here [X2.here.top, hx, (hb hby d20_6), X2.method', Bd.returns, Value.isRef, FieldType.isReference]
    first | (intro acts; rw [hr _ acts rfl rfl rfl]) | rw [hr _ _ rfl rfl rfl]
    exact Steps.refl _
def Q_PC_3_0 (Z : State) (r0 : Addr) (x : Int32) (kB : ClassId) (b0 b1 b2 b3 b4 b5 : Int32) (h0 : Heap) (n0 : Nat) (v : Option Value) (h : Heap) (L : List Loc) : Prop := v = none ∧ Fr n0 L ∧ Keep h0 h [r0] ∧ Arv Z h r0 kB .byte (6 : Int32) [(.int (((x >>> ((0 : Int32) &&& 31)).toInt8.toInt32).toInt8.toInt32)), (.int (((x >>> ((8 : Int32) &&& 31)).toInt8.toInt32).toInt8.toInt32)), (.int b2), (.int b3), (.int b4), (.int b5)] (.int 0)
theorem rmPC_3_0 (l : Launch) (Z : State) (a0 : Array Value) (hw : own_HW a0 Z) (ws : List Jvm.Cond) (r0 : Addr) (x : Int32) (kB : ClassId) (b0 b1 b2 b3 b4 b5 : Int32) (h0 : Heap) (n0 : Nat) (Z0 : n0 ≤ h0.size) (S_AD : Sta Z h0 cS0 cS5 "Z" (.int 1)) (S_HI : Sta Z h0 cS0 cS7 "I" (.int 0)) (S_LO : Sta Z h0 cS0 cS8 "I" (.int 8)) (V_r0 : Arv Z h0 r0 kB .byte (6 : Int32) [(.int b0), (.int b1), (.int b2), (.int b3), (.int b4), (.int b5)] (.int 0)) (E_r0 : Exa Z h0 r0 "[B") (ge_r0 : n0 ≤ r0) :
    own_M l Z (⟨cS0, "putChar", "([BII)V"⟩ : MethodName) jdk_52_method_4_code 3 none ws ({ frames := 0, cells := 0, slots := 0, locals := 0 } : Room) #[(.ref r0), (.int 0), (.int x)] h0 (Q_PC_3_0 Z r0 x kB b0 b1 b2 b3 b4 b5 h0 n0) := by
  refine own_in cS0 rfl (plainFor_of_name pn_java_lang_StringUTF16) ?_
  intro p e s m below meth c s₁ Bd hml hZ hh hx hby hown X0 e0
  have N0 := Fr.nil n0
  have k0 := own_k (p := p) (e := e) (below := below) (T := s₁) (ef_22 m r0 (0 : Int32) x)
  obtain ⟨T1, X1, e1, st1⟩ := getS2 X0 hx hZ hown (host := "") (Or.inl (own_at hw 97 rfl)) Via.refl e0 S_AD (g := (mkF m 0 #[rv r0, iv 0, iv x] [])) rfl (hb hby d22_0)
  obtain ⟨T2, X2, e2, st2⟩ := getS2 X1 hx hZ hown (host := "") (Or.inl (own_at hw 98 rfl)) Via.refl e1 S_HI (g := (mkF m 38 #[rv r0, iv 1, iv x] [(.int x), (.int 0), (.ref r0)])) rfl (hb hby d22_38)
  obtain ⟨cl_z3, Ar_z3, q_z3, S_z3, N_z3, H_z3, G_z3⟩ := id V_r0
  have hin4 : ¬ ((0 : Int32) < 0 ∨ cl_z3.slots.size ≤ ((0 : Int32)).toNatClampNeg) := inb_of S_z3 ⟨by decide, by decide⟩
  obtain ⟨T5, h5, X5, e5, W5, st5⟩ := stB X2 hx hZ e2 Ar_z3 (j := (0 : Int32)) hin4 (g := (mkF m 43 #[rv r0, iv 1, iv x] [(.int ((x >>> ((0 : Int32) &&& 31)).toInt8.toInt32)), (.int 0), (.ref r0)])) rfl rfl (hb hby d22_43)
  have V5 : Arv Z h5 r0 kB .byte (6 : Int32) [(.int (((x >>> ((0 : Int32) &&& 31)).toInt8.toInt32).toInt8.toInt32)), (.int b1), (.int b2), (.int b3), (.int b4), (.int b5)] (.int 0) := Arv.set Ar_z3 q_z3 S_z3 N_z3 H_z3 G_z3 (fits_nar_byte _) W5 0 rfl (Nat.le_of_ble_eq_true rfl)
  have N5 := Fr.snoc X5 N0 ge_r0
  have f6 := (S_LO.wr W5)
  obtain ⟨T7, X7, e7, st7⟩ := getS2 X5 hx hZ hown (host := "") (Or.inl (own_at hw 99 rfl)) Via.refl e5 f6 (g := (mkF m 47 #[rv r0, iv 1, iv x] [(.int x), (.int 1), (.ref r0)])) rfl (hb hby d22_47)
  obtain ⟨cl_z8, Ar_z8, q_z8, S_z8, N_z8, H_z8, G_z8⟩ := id V5
  have hin9 : ¬ ((1 : Int32) < 0 ∨ cl_z8.slots.size ≤ ((1 : Int32)).toNatClampNeg) := inb_of S_z8 ⟨by decide, by decide⟩
  obtain ⟨T10, h10, X10, e10, W10, st10⟩ := stB X7 hx hZ e7 Ar_z8 (j := (1 : Int32)) hin9 (g := (mkF m 52 #[rv r0, iv 1, iv x] [(.int ((x >>> ((8 : Int32) &&& 31)).toInt8.toInt32)), (.int 1), (.ref r0)])) rfl rfl (hb hby d22_52)
  have V10 : Arv Z h10 r0 kB .byte (6 : Int32) [(.int (((x >>> ((0 : Int32) &&& 31)).toInt8.toInt32).toInt8.toInt32)), (.int (((x >>> ((8 : Int32) &&& 31)).toInt8.toInt32).toInt8.toInt32)), (.int b2), (.int b3), (.int b4), (.int b5)] (.int 0) := Arv.set Ar_z8 q_z8 S_z8 N_z8 H_z8 G_z8 (fits_nar_byte _) W10 1 rfl (Nat.le_of_ble_eq_true rfl)
  have N10 := Fr.snoc X10 N5 ge_r0
  refine own_out X10 Bd.notSynchronized Bd.returns (none) (fun _ => rfl) (by decide) (by decide) ?_ fun fs hr => k0 _ ?_
  · rw [e10]; exact ⟨rfl, N10, (((Keep.refl h0 [r0]).wr W5 (Or.inl (List.mem_of_getElem? (i := 0) rfl))).wr W10 (Or.inl (List.mem_of_getElem? (i := 0) rfl))), V10⟩
  · show OwnS p e below s₁ (mkF m 0 #[rv r0, iv 0, iv x] []) _
    refine st1 _ ?_
    refine XS.ifYes X1.here hx rfl (pc0 := 3) (pc' := 28) rfl (hb hby d22_3) rfl ((if0 _ _).trans (feq (by decide : ¬ ((1 : Int32) = (0 : Int32)))).2) (by decide) (by decide) ?_
    refine oIn X1 hx hby d22_28 rfl (oIc X1 hx hby d22_29 ?_)
    refine XS.ishl X1.here hx rfl (hb hby d22_30) rfl ?_
    refine XS.istoreN X1.here hx rfl (hb hby d22_31) rfl (l' := #[rv r0, iv 0, iv x]) rfl ?_
    refine oAn X1 hx hby d22_32 rfl rfl (oIn X1 hx hby d22_33 rfl ?_)
    refine XS.iinc X1.here hx rfl (hb hby d22_34) rfl (l' := #[rv r0, iv 1, iv x]) rfl ?_
    refine oIn X1 hx hby d22_37 rfl ?_
    refine st2 _ ?_
    refine XS.ishr X2.here hx rfl (hb hby d22_41) rfl ?_
    refine XS.i2b X2.here hx rfl (hb hby d22_42) rfl ?_
    refine st5 _ ?_
    refine oAn X5 hx hby d22_44 rfl rfl (oIn X5 hx hby d22_45 rfl (oIn X5 hx hby d22_46 rfl ?_))
    refine st7 _ ?_
    refine XS.ishr X7.here hx rfl (hb hby d22_50) rfl ?_
    refine XS.i2b X7.here hx rfl (hb hby d22_51) rfl ?_
    refine st10 _ ?_
    exact X10.returnOut hx Bd.returns (hb hby d22_53) hr
def Q_PC_3_1 (Z : State) (r0 : Addr) (x : Int32) (kB : ClassId) (b0 b1 b2 b3 b4 b5 : Int32) (h0 : Heap) (n0 : Nat) (v : Option Value) (h : Heap) (L : List Loc) : Prop := v = none ∧ Fr n0 L ∧ Keep h0 h [r0] ∧ Arv Z h r0 kB .byte (6 : Int32) [(.int b0), (.int b1), (.int (((x >>> ((0 : Int32) &&& 31)).toInt8.toInt32).toInt8.toInt32)), (.int (((x >>> ((8 : Int32) &&& 31)).toInt8.toInt32).toInt8.toInt32)), (.int b4), (.int b5)] (.int 0)
theorem rmPC_3_1 (l : Launch) (Z : State) (a0 : Array Value) (hw : own_HW a0 Z) (ws : List Jvm.Cond) (r0 : Addr) (x : Int32) (kB : ClassId) (b0 b1 b2 b3 b4 b5 : Int32) (h0 : Heap) (n0 : Nat) (Z0 : n0 ≤ h0.size) (S_AD : Sta Z h0 cS0 cS5 "Z" (.int 1)) (S_HI : Sta Z h0 cS0 cS7 "I" (.int 0)) (S_LO : Sta Z h0 cS0 cS8 "I" (.int 8)) (V_r0 : Arv Z h0 r0 kB .byte (6 : Int32) [(.int b0), (.int b1), (.int b2), (.int b3), (.int b4), (.int b5)] (.int 0)) (E_r0 : Exa Z h0 r0 "[B") (ge_r0 : n0 ≤ r0) :
    own_M l Z (⟨cS0, "putChar", "([BII)V"⟩ : MethodName) jdk_52_method_4_code 3 none ws ({ frames := 0, cells := 0, slots := 0, locals := 0 } : Room) #[(.ref r0), (.int 1), (.int x)] h0 (Q_PC_3_1 Z r0 x kB b0 b1 b2 b3 b4 b5 h0 n0) := by
  refine own_in cS0 rfl (plainFor_of_name pn_java_lang_StringUTF16) ?_
  intro p e s m below meth c s₁ Bd hml hZ hh hx hby hown X0 e0
  have N0 := Fr.nil n0
  have k0 := own_k (p := p) (e := e) (below := below) (T := s₁) (ef_22 m r0 (1 : Int32) x)
  obtain ⟨T1, X1, e1, st1⟩ := getS2 X0 hx hZ hown (host := "") (Or.inl (own_at hw 97 rfl)) Via.refl e0 S_AD (g := (mkF m 0 #[rv r0, iv 1, iv x] [])) rfl (hb hby d22_0)
  obtain ⟨T2, X2, e2, st2⟩ := getS2 X1 hx hZ hown (host := "") (Or.inl (own_at hw 98 rfl)) Via.refl e1 S_HI (g := (mkF m 38 #[rv r0, iv 3, iv x] [(.int x), (.int 2), (.ref r0)])) rfl (hb hby d22_38)
  obtain ⟨cl_z3, Ar_z3, q_z3, S_z3, N_z3, H_z3, G_z3⟩ := id V_r0
  have hin4 : ¬ ((2 : Int32) < 0 ∨ cl_z3.slots.size ≤ ((2 : Int32)).toNatClampNeg) := inb_of S_z3 ⟨by decide, by decide⟩
  obtain ⟨T5, h5, X5, e5, W5, st5⟩ := stB X2 hx hZ e2 Ar_z3 (j := (2 : Int32)) hin4 (g := (mkF m 43 #[rv r0, iv 3, iv x] [(.int ((x >>> ((0 : Int32) &&& 31)).toInt8.toInt32)), (.int 2), (.ref r0)])) rfl rfl (hb hby d22_43)
  have V5 : Arv Z h5 r0 kB .byte (6 : Int32) [(.int b0), (.int b1), (.int (((x >>> ((0 : Int32) &&& 31)).toInt8.toInt32).toInt8.toInt32)), (.int b3), (.int b4), (.int b5)] (.int 0) := Arv.set Ar_z3 q_z3 S_z3 N_z3 H_z3 G_z3 (fits_nar_byte _) W5 2 rfl (Nat.le_of_ble_eq_true rfl)
  have N5 := Fr.snoc X5 N0 ge_r0
  have f6 := (S_LO.wr W5)
  obtain ⟨T7, X7, e7, st7⟩ := getS2 X5 hx hZ hown (host := "") (Or.inl (own_at hw 99 rfl)) Via.refl e5 f6 (g := (mkF m 47 #[rv r0, iv 3, iv x] [(.int x), (.int 3), (.ref r0)])) rfl (hb hby d22_47)
  obtain ⟨cl_z8, Ar_z8, q_z8, S_z8, N_z8, H_z8, G_z8⟩ := id V5
  have hin9 : ¬ ((3 : Int32) < 0 ∨ cl_z8.slots.size ≤ ((3 : Int32)).toNatClampNeg) := inb_of S_z8 ⟨by decide, by decide⟩
  obtain ⟨T10, h10, X10, e10, W10, st10⟩ := stB X7 hx hZ e7 Ar_z8 (j := (3 : Int32)) hin9 (g := (mkF m 52 #[rv r0, iv 3, iv x] [(.int ((x >>> ((8 : Int32) &&& 31)).toInt8.toInt32)), (.int 3), (.ref r0)])) rfl rfl (hb hby d22_52)
  have V10 : Arv Z h10 r0 kB .byte (6 : Int32) [(.int b0), (.int b1), (.int (((x >>> ((0 : Int32) &&& 31)).toInt8.toInt32).toInt8.toInt32)), (.int (((x >>> ((8 : Int32) &&& 31)).toInt8.toInt32).toInt8.toInt32)), (.int b4), (.int b5)] (.int 0) := Arv.set Ar_z8 q_z8 S_z8 N_z8 H_z8 G_z8 (fits_nar_byte _) W10 3 rfl (Nat.le_of_ble_eq_true rfl)
  have N10 := Fr.snoc X10 N5 ge_r0
  refine own_out X10 Bd.notSynchronized Bd.returns (none) (fun _ => rfl) (by decide) (by decide) ?_ fun fs hr => k0 _ ?_
  · rw [e10]; exact ⟨rfl, N10, (((Keep.refl h0 [r0]).wr W5 (Or.inl (List.mem_of_getElem? (i := 0) rfl))).wr W10 (Or.inl (List.mem_of_getElem? (i := 0) rfl))), V10⟩
  · show OwnS p e below s₁ (mkF m 0 #[rv r0, iv 1, iv x] []) _
    refine st1 _ ?_
    refine XS.ifYes X1.here hx rfl (pc0 := 3) (pc' := 28) rfl (hb hby d22_3) rfl ((if0 _ _).trans (feq (by decide : ¬ ((1 : Int32) = (0 : Int32)))).2) (by decide) (by decide) ?_
    refine oIn X1 hx hby d22_28 rfl (oIc X1 hx hby d22_29 ?_)
    refine XS.ishl X1.here hx rfl (hb hby d22_30) rfl ?_
    refine XS.istoreN X1.here hx rfl (hb hby d22_31) rfl (l' := #[rv r0, iv 2, iv x]) rfl ?_
    refine oAn X1 hx hby d22_32 rfl rfl (oIn X1 hx hby d22_33 rfl ?_)
    refine XS.iinc X1.here hx rfl (hb hby d22_34) rfl (l' := #[rv r0, iv 3, iv x]) rfl ?_
    refine oIn X1 hx hby d22_37 rfl ?_
    refine st2 _ ?_
    refine XS.ishr X2.here hx rfl (hb hby d22_41) rfl ?_
    refine XS.i2b X2.here hx rfl (hb hby d22_42) rfl ?_
    refine st5 _ ?_
    refine oAn X5 hx hby d22_44 rfl rfl (oIn X5 hx hby d22_45 rfl (oIn X5 hx hby d22_46 rfl ?_))
    refine st7 _ ?_
    refine XS.ishr X7.here hx rfl (hb hby d22_50) rfl ?_
    refine XS.i2b X7.here hx rfl (hb hby d22_51) rfl ?_
    refine st10 _ ?_
    exact X10.returnOut hx Bd.returns (hb hby d22_53) hr
def Q_PC_3_2 (Z : State) (r0 : Addr) (x : Int32) (kB : ClassId) (b0 b1 b2 b3 b4 b5 : Int32) (h0 : Heap) (n0 : Nat) (v : Option Value) (h : Heap) (L : List Loc) : Prop := v = none ∧ Fr n0 L ∧ Keep h0 h [r0] ∧ Arv Z h r0 kB .byte (6 : Int32) [(.int b0), (.int b1), (.int b2), (.int b3), (.int (((x >>> ((0 : Int32) &&& 31)).toInt8.toInt32).toInt8.toInt32)), (.int (((x >>> ((8 : Int32) &&& 31)).toInt8.toInt32).toInt8.toInt32))] (.int 0)
theorem rmPC_3_2 (l : Launch) (Z : State) (a0 : Array Value) (hw : own_HW a0 Z) (ws : List Jvm.Cond) (r0 : Addr) (x : Int32) (kB : ClassId) (b0 b1 b2 b3 b4 b5 : Int32) (h0 : Heap) (n0 : Nat) (Z0 : n0 ≤ h0.size) (S_AD : Sta Z h0 cS0 cS5 "Z" (.int 1)) (S_HI : Sta Z h0 cS0 cS7 "I" (.int 0)) (S_LO : Sta Z h0 cS0 cS8 "I" (.int 8)) (V_r0 : Arv Z h0 r0 kB .byte (6 : Int32) [(.int b0), (.int b1), (.int b2), (.int b3), (.int b4), (.int b5)] (.int 0)) (E_r0 : Exa Z h0 r0 "[B") (ge_r0 : n0 ≤ r0) :
    own_M l Z (⟨cS0, "putChar", "([BII)V"⟩ : MethodName) jdk_52_method_4_code 3 none ws ({ frames := 0, cells := 0, slots := 0, locals := 0 } : Room) #[(.ref r0), (.int 2), (.int x)] h0 (Q_PC_3_2 Z r0 x kB b0 b1 b2 b3 b4 b5 h0 n0) := by
  refine own_in cS0 rfl (plainFor_of_name pn_java_lang_StringUTF16) ?_
  intro p e s m below meth c s₁ Bd hml hZ hh hx hby hown X0 e0
  have N0 := Fr.nil n0
  have k0 := own_k (p := p) (e := e) (below := below) (T := s₁) (ef_22 m r0 (2 : Int32) x)
  obtain ⟨T1, X1, e1, st1⟩ := getS2 X0 hx hZ hown (host := "") (Or.inl (own_at hw 97 rfl)) Via.refl e0 S_AD (g := (mkF m 0 #[rv r0, iv 2, iv x] [])) rfl (hb hby d22_0)
  obtain ⟨T2, X2, e2, st2⟩ := getS2 X1 hx hZ hown (host := "") (Or.inl (own_at hw 98 rfl)) Via.refl e1 S_HI (g := (mkF m 38 #[rv r0, iv 5, iv x] [(.int x), (.int 4), (.ref r0)])) rfl (hb hby d22_38)
  obtain ⟨cl_z3, Ar_z3, q_z3, S_z3, N_z3, H_z3, G_z3⟩ := id V_r0
  have hin4 : ¬ ((4 : Int32) < 0 ∨ cl_z3.slots.size ≤ ((4 : Int32)).toNatClampNeg) := inb_of S_z3 ⟨by decide, by decide⟩
  obtain ⟨T5, h5, X5, e5, W5, st5⟩ := stB X2 hx hZ e2 Ar_z3 (j := (4 : Int32)) hin4 (g := (mkF m 43 #[rv r0, iv 5, iv x] [(.int ((x >>> ((0 : Int32) &&& 31)).toInt8.toInt32)), (.int 4), (.ref r0)])) rfl rfl (hb hby d22_43)
  have V5 : Arv Z h5 r0 kB .byte (6 : Int32) [(.int b0), (.int b1), (.int b2), (.int b3), (.int (((x >>> ((0 : Int32) &&& 31)).toInt8.toInt32).toInt8.toInt32)), (.int b5)] (.int 0) := Arv.set Ar_z3 q_z3 S_z3 N_z3 H_z3 G_z3 (fits_nar_byte _) W5 4 rfl (Nat.le_of_ble_eq_true rfl)
  have N5 := Fr.snoc X5 N0 ge_r0
  have f6 := (S_LO.wr W5)
  obtain ⟨T7, X7, e7, st7⟩ := getS2 X5 hx hZ hown (host := "") (Or.inl (own_at hw 99 rfl)) Via.refl e5 f6 (g := (mkF m 47 #[rv r0, iv 5, iv x] [(.int x), (.int 5), (.ref r0)])) rfl (hb hby d22_47)
  obtain ⟨cl_z8, Ar_z8, q_z8, S_z8, N_z8, H_z8, G_z8⟩ := id V5
  have hin9 : ¬ ((5 : Int32) < 0 ∨ cl_z8.slots.size ≤ ((5 : Int32)).toNatClampNeg) := inb_of S_z8 ⟨by decide, by decide⟩
  obtain ⟨T10, h10, X10, e10, W10, st10⟩ := stB X7 hx hZ e7 Ar_z8 (j := (5 : Int32)) hin9 (g := (mkF m 52 #[rv r0, iv 5, iv x] [(.int ((x >>> ((8 : Int32) &&& 31)).toInt8.toInt32)), (.int 5), (.ref r0)])) rfl rfl (hb hby d22_52)
  have V10 : Arv Z h10 r0 kB .byte (6 : Int32) [(.int b0), (.int b1), (.int b2), (.int b3), (.int (((x >>> ((0 : Int32) &&& 31)).toInt8.toInt32).toInt8.toInt32)), (.int (((x >>> ((8 : Int32) &&& 31)).toInt8.toInt32).toInt8.toInt32))] (.int 0) := Arv.set Ar_z8 q_z8 S_z8 N_z8 H_z8 G_z8 (fits_nar_byte _) W10 5 rfl (Nat.le_of_ble_eq_true rfl)
  have N10 := Fr.snoc X10 N5 ge_r0
  refine own_out X10 Bd.notSynchronized Bd.returns (none) (fun _ => rfl) (by decide) (by decide) ?_ fun fs hr => k0 _ ?_
  · rw [e10]; exact ⟨rfl, N10, (((Keep.refl h0 [r0]).wr W5 (Or.inl (List.mem_of_getElem? (i := 0) rfl))).wr W10 (Or.inl (List.mem_of_getElem? (i := 0) rfl))), V10⟩
  · show OwnS p e below s₁ (mkF m 0 #[rv r0, iv 2, iv x] []) _
    refine st1 _ ?_
    refine XS.ifYes X1.here hx rfl (pc0 := 3) (pc' := 28) rfl (hb hby d22_3) rfl ((if0 _ _).trans (feq (by decide : ¬ ((1 : Int32) = (0 : Int32)))).2) (by decide) (by decide) ?_
    refine oIn X1 hx hby d22_28 rfl (oIc X1 hx hby d22_29 ?_)
    refine XS.ishl X1.here hx rfl (hb hby d22_30) rfl ?_
    refine XS.istoreN X1.here hx rfl (hb hby d22_31) rfl (l' := #[rv r0, iv 4, iv x]) rfl ?_
    refine oAn X1 hx hby d22_32 rfl rfl (oIn X1 hx hby d22_33 rfl ?_)
    refine XS.iinc X1.here hx rfl (hb hby d22_34) rfl (l' := #[rv r0, iv 5, iv x]) rfl ?_
    refine oIn X1 hx hby d22_37 rfl ?_
    refine st2 _ ?_
    refine XS.ishr X2.here hx rfl (hb hby d22_41) rfl ?_
    refine XS.i2b X2.here hx rfl (hb hby d22_42) rfl ?_
    refine st5 _ ?_
    refine oAn X5 hx hby d22_44 rfl rfl (oIn X5 hx hby d22_45 rfl (oIn X5 hx hby d22_46 rfl ?_))
    refine st7 _ ?_
    refine XS.ishr X7.here hx rfl (hb hby d22_50) rfl ?_
    refine XS.i2b X7.here hx rfl (hb hby d22_51) rfl ?_
    refine st10 _ ?_
    exact X10.returnOut hx Bd.returns (hb hby d22_53) hr
def Q_TB_3 (Z : State) (r0 : Addr) (kC : ClassId) (x0 x1 x2 : Int32) (h0 : Heap) (n0 : Nat) (v : Option Value) (h : Heap) (L : List Loc) : Prop := ∃ ar : Addr, ∃ kk : ClassId, v = some (.ref ar) ∧ Fr n0 L ∧ Keep h0 h [] ∧ h0.size ≤ ar ∧ Arv Z h ar kk .byte (6 : Int32) [(.int (((x0 >>> ((0 : Int32) &&& 31)).toInt8.toInt32).toInt8.toInt32)), (.int (((x0 >>> ((8 : Int32) &&& 31)).toInt8.toInt32).toInt8.toInt32)), (.int (((x1 >>> ((0 : Int32) &&& 31)).toInt8.toInt32).toInt8.toInt32)), (.int (((x1 >>> ((8 : Int32) &&& 31)).toInt8.toInt32).toInt8.toInt32)), (.int (((x2 >>> ((0 : Int32) &&& 31)).toInt8.toInt32).toInt8.toInt32)), (.int (((x2 >>> ((8 : Int32) &&& 31)).toInt8.toInt32).toInt8.toInt32))] (.int 0) ∧ Exa Z h ar "[B"
theorem rmTB_3 (l : Launch) (Z : State) (a0 : Array Value) (hw : own_HW a0 Z) (ws : List Jvm.Cond) (r0 : Addr) (kC : ClassId) (x0 x1 x2 : Int32) (h0 : Heap) (n0 : Nat) (Z0 : n0 ≤ h0.size) (S_AD : Sta Z h0 cS0 cS5 "Z" (.int 1)) (S_HI : Sta Z h0 cS0 cS7 "I" (.int 0)) (S_LO : Sta Z h0 cS0 cS8 "I" (.int 8)) (V_r0 : Arv Z h0 r0 kC .char (3 : Int32) [(.int x0), (.int x1), (.int x2)] (.int 0)) :
    own_M l Z (⟨cS0, "toBytes", "([CII)[B"⟩ : MethodName) jdk_52_method_14_code 5 (some (.array .byte)) ws ({ frames := 2, cells := 1, slots := 6, locals := 24 } : Room) #[(.ref r0), (.int 0), (.int 3)] h0 (Q_TB_3 Z r0 kC x0 x1 x2 h0 n0) := by
  refine own_in cS0 rfl (plainFor_of_name pn_java_lang_StringUTF16) ?_
  intro p e s m below meth c s₁ Bd hml hZ hh hx hby hown X0 e0
  have N0 := Fr.nil n0
  have k0 := own_k (p := p) (e := e) (below := below) (T := s₁) (ef_19 m r0 (0 : Int32) (3 : Int32))
  obtain ⟨_, T1, L1, X1, hQ1, st1⟩ := own_cS 0 (rmNF_3 l Z a0 hw []  h0 n0 Z0 ) X0 hx hZ hown hw 87 88 51 89 rfl rfl rfl rfl 1 #[rv r0, iv 0, iv 3, .unset, .unset] [(.int 3)] [] (hb hby d19_1) hml (lenOf pd_2 rfl) e0 rfl (Nat.le_refl _) (by decide)
  obtain ⟨ar_1, kk_1, rfl, N1q, K1, p1_0, p1_1, p1_2⟩ := hQ1
  have g_ar_1 : n0 ≤ ar_1 := Nat.le_trans Z0 p1_0
  have sz_ar_1 : h0.size ≤ ar_1 := Nat.le_trans (Keep.refl h0 []).1 p1_0
  have N1 := Fr.app N0 N1q
  have f2 := (V_r0.keep K1 nin0)
  obtain ⟨cl_z3, Ar_z3, q_z3, S_z3, N_z3, H_z3, G_z3⟩ := id f2
  have hin4 : ¬ ((0 : Int32) < 0 ∨ cl_z3.slots.size ≤ ((0 : Int32)).toNatClampNeg) := inb_of S_z3 ⟨by decide, by decide⟩
  have f6 := (own_sta_keep S_AD K1 all0)
  have f7 := (own_sta_keep S_HI K1 all0)
  have f8 := (own_sta_keep S_LO K1 all0)
  obtain ⟨_, T5, L5, X5, hQ5, st5⟩ := own_cS 0 (rmPC_3_0 l Z a0 hw [] ar_1 x0 kk_1 (0 : Int32) (0 : Int32) (0 : Int32) (0 : Int32) (0 : Int32) (0 : Int32) T1.heap n0 (Nat.le_trans Z0 K1.1) f6 f7 f8 p1_1 p1_2 g_ar_1) X1 hx hZ hown hw 94 95 51 96 rfl rfl rfl rfl 20 #[rv r0, iv 0, iv 3, rv ar_1, iv 0] [(.ref ar_1), (.int 0), (.int x0)] [] (hb hby d19_20) hml (lenOf pd_3 rfl) rfl rfl (Nat.le_refl _) (by decide)
  obtain ⟨rfl, N5q, K5, p5_0⟩ := hQ5
  have pl5 := (allS (P := fun x => ∃ cell : Cell, T1.heap[x]? = some cell ∧ cell.vm.isStatics = false) (own_ns p1_2) all0)
  have N5 := Fr.app N1 N5q
  have f9 := (f2.keep K5 (ninS (Nat.ne_of_lt (Nat.lt_of_lt_of_le V_r0.lt p1_0)) nin0))
  obtain ⟨cl_z10, Ar_z10, q_z10, S_z10, N_z10, H_z10, G_z10⟩ := id f9
  have hin11 : ¬ ((1 : Int32) < 0 ∨ cl_z10.slots.size ≤ ((1 : Int32)).toNatClampNeg) := inb_of S_z10 ⟨by decide, by decide⟩
  have f13 := (own_sta_keep f6 K5 pl5)
  have f14 := (own_sta_keep f7 K5 pl5)
  have f15 := (own_sta_keep f8 K5 pl5)
  have f16 := (p1_2.keep K5)
  obtain ⟨_, T12, L12, X12, hQ12, st12⟩ := own_cS 0 (rmPC_3_1 l Z a0 hw [] ar_1 x1 kk_1 (((x0 >>> ((0 : Int32) &&& 31)).toInt8.toInt32).toInt8.toInt32) (((x0 >>> ((8 : Int32) &&& 31)).toInt8.toInt32).toInt8.toInt32) (0 : Int32) (0 : Int32) (0 : Int32) (0 : Int32) T5.heap n0 (Nat.le_trans (Nat.le_trans Z0 K1.1) K5.1) f13 f14 f15 p5_0 f16 g_ar_1) X5 hx hZ hown hw 94 95 51 96 rfl rfl rfl rfl 20 #[rv r0, iv 1, iv 3, rv ar_1, iv 1] [(.ref ar_1), (.int 1), (.int x1)] [] (hb hby d19_20) hml (lenOf pd_3 rfl) rfl rfl (Nat.le_refl _) (by decide)
  obtain ⟨rfl, N12q, K12, p12_0⟩ := hQ12
  have pl12 := (allS (P := fun x => ∃ cell : Cell, T5.heap[x]? = some cell ∧ cell.vm.isStatics = false) (own_ns f16) all0)
  have N12 := Fr.app N5 N12q
  have f17 := (f9.keep K12 (ninS (Nat.ne_of_lt (Nat.lt_of_lt_of_le V_r0.lt p1_0)) nin0))
  obtain ⟨cl_z18, Ar_z18, q_z18, S_z18, N_z18, H_z18, G_z18⟩ := id f17
  have hin19 : ¬ ((2 : Int32) < 0 ∨ cl_z18.slots.size ≤ ((2 : Int32)).toNatClampNeg) := inb_of S_z18 ⟨by decide, by decide⟩
  have f21 := (own_sta_keep f13 K12 pl12)
  have f22 := (own_sta_keep f14 K12 pl12)
  have f23 := (own_sta_keep f15 K12 pl12)
  have f24 := (f16.keep K12)
  obtain ⟨_, T20, L20, X20, hQ20, st20⟩ := own_cS 0 (rmPC_3_2 l Z a0 hw [] ar_1 x2 kk_1 (((x0 >>> ((0 : Int32) &&& 31)).toInt8.toInt32).toInt8.toInt32) (((x0 >>> ((8 : Int32) &&& 31)).toInt8.toInt32).toInt8.toInt32) (((x1 >>> ((0 : Int32) &&& 31)).toInt8.toInt32).toInt8.toInt32) (((x1 >>> ((8 : Int32) &&& 31)).toInt8.toInt32).toInt8.toInt32) (0 : Int32) (0 : Int32) T12.heap n0 (Nat.le_trans (Nat.le_trans (Nat.le_trans Z0 K1.1) K5.1) K12.1) f21 f22 f23 p12_0 f24 g_ar_1) X12 hx hZ hown hw 94 95 51 96 rfl rfl rfl rfl 20 #[rv r0, iv 2, iv 3, rv ar_1, iv 2] [(.ref ar_1), (.int 2), (.int x2)] [] (hb hby d19_20) hml (lenOf pd_3 rfl) rfl rfl (Nat.le_refl _) (by decide)
  obtain ⟨rfl, N20q, K20, p20_0⟩ := hQ20
  have pl20 := (allS (P := fun x => ∃ cell : Cell, T12.heap[x]? = some cell ∧ cell.vm.isStatics = false) (own_ns f24) all0)
  have N20 := Fr.app N12 N20q
  have f25 := (f24.keep K20)
  refine own_out X20 Bd.notSynchronized Bd.returns (some (.ref ar_1)) nofun (by decide) (by decide) ?_ fun fs hr => k0 _ ?_
  · exact ⟨ar_1, kk_1, rfl, N20, (((((Keep.refl h0 []).trans K1 all0).trans K5 (allS (Or.inr sz_ar_1) all0)).trans K12 (allS (Or.inr sz_ar_1) all0)).trans K20 (allS (Or.inr sz_ar_1) all0)), sz_ar_1, p20_0, f25⟩
  · show OwnS p e below s₁ (mkF m 0 #[rv r0, iv 0, iv 3, .unset, .unset] []) _
    refine oIn X0 hx hby d19_0 rfl ?_
    refine st1 _ ?_
    refine XS.astoreN X1.here hx rfl (hb hby d19_4) rfl rfl (l' := #[rv r0, iv 0, iv 3, rv ar_1, .unset]) rfl ?_
    refine oIc X1 hx hby d19_5 ?_
    refine XS.istore X1.here hx rfl (hb hby d19_6) rfl (l' := #[rv r0, iv 0, iv 3, rv ar_1, iv 0]) rfl ?_
    refine oIl X1 hx hby d19_8 rfl (oIn X1 hx hby d19_10 rfl ?_)
    refine XS.icmpNo X1.here hx rfl (hb hby d19_11) rfl (tlt (by decide : (0 : Int32) < (3 : Int32))).2.1 ?_
    refine oAn X1 hx hby d19_14 rfl rfl (oIl X1 hx hby d19_15 rfl (oAn X1 hx hby d19_17 rfl rfl (oIn X1 hx hby d19_18 rfl ?_)))
    refine X1.caload hx (j := (0 : Int32)) (v := (.int x0)) (Ar_z3.1) (State.isArrayOf_alike hZ.alike Ar_z3.2.1) Ar_z3.2.2 hin4 (Has.at H_z3 hin4 rfl) (g := (mkF m 19 #[rv r0, iv 0, iv 3, rv ar_1, iv 0] [(.int 0), (.ref r0), (.int 0), (.ref ar_1)])) rfl rfl (hb hby d19_19) _ ?_
    refine st5 _ ?_
    refine XS.iinc X5.here hx rfl (hb hby d19_23) rfl (l' := #[rv r0, iv 1, iv 3, rv ar_1, iv 0]) rfl ?_
    refine XS.iinc X5.here hx rfl (hb hby d19_26) rfl (l' := #[rv r0, iv 1, iv 3, rv ar_1, iv 1]) rfl ?_
    refine oGo X5 hx hby 29 8 d19_29 (by decide) (by decide) (oIl X5 hx hby d19_8 rfl (oIn X5 hx hby d19_10 rfl ?_))
    refine XS.icmpNo X5.here hx rfl (hb hby d19_11) rfl (tlt (by decide : (1 : Int32) < (3 : Int32))).2.1 ?_
    refine oAn X5 hx hby d19_14 rfl rfl (oIl X5 hx hby d19_15 rfl (oAn X5 hx hby d19_17 rfl rfl (oIn X5 hx hby d19_18 rfl ?_)))
    refine X5.caload hx (j := (1 : Int32)) (v := (.int x1)) (Ar_z10.1) (State.isArrayOf_alike hZ.alike Ar_z10.2.1) Ar_z10.2.2 hin11 (Has.at H_z10 hin11 rfl) (g := (mkF m 19 #[rv r0, iv 1, iv 3, rv ar_1, iv 1] [(.int 1), (.ref r0), (.int 1), (.ref ar_1)])) rfl rfl (hb hby d19_19) _ ?_
    refine st12 _ ?_
    refine XS.iinc X12.here hx rfl (hb hby d19_23) rfl (l' := #[rv r0, iv 2, iv 3, rv ar_1, iv 1]) rfl ?_
    refine XS.iinc X12.here hx rfl (hb hby d19_26) rfl (l' := #[rv r0, iv 2, iv 3, rv ar_1, iv 2]) rfl ?_
    refine oGo X12 hx hby 29 8 d19_29 (by decide) (by decide) (oIl X12 hx hby d19_8 rfl (oIn X12 hx hby d19_10 rfl ?_))
    refine XS.icmpNo X12.here hx rfl (hb hby d19_11) rfl (tlt (by decide : (2 : Int32) < (3 : Int32))).2.1 ?_
    refine oAn X12 hx hby d19_14 rfl rfl (oIl X12 hx hby d19_15 rfl (oAn X12 hx hby d19_17 rfl rfl (oIn X12 hx hby d19_18 rfl ?_)))
    refine X12.caload hx (j := (2 : Int32)) (v := (.int x2)) (Ar_z18.1) (State.isArrayOf_alike hZ.alike Ar_z18.2.1) Ar_z18.2.2 hin19 (Has.at H_z18 hin19 rfl) (g := (mkF m 19 #[rv r0, iv 2, iv 3, rv ar_1, iv 2] [(.int 2), (.ref r0), (.int 2), (.ref ar_1)])) rfl rfl (hb hby d19_19) _ ?_
    refine st20 _ ?_
    refine XS.iinc X20.here hx rfl (hb hby d19_23) rfl (l' := #[rv r0, iv 3, iv 3, rv ar_1, iv 2]) rfl ?_
    refine XS.iinc X20.here hx rfl (hb hby d19_26) rfl (l' := #[rv r0, iv 3, iv 3, rv ar_1, iv 3]) rfl ?_
    show OwnS p e below T20 (mkF m 29 #[rv r0, iv 3, iv 3, rv ar_1, iv 3] []) _
    refine oGo X20 hx hby 29 8 d19_29 (by decide) (by decide) (oIl X20 hx hby d19_8 rfl (oIn X20 hx hby d19_10 rfl ?_))
    refine XS.icmpYes X20.here hx rfl (pc0 := 11) (pc' := 32) rfl (hb hby d19_11) rfl (flt (by decide : ¬ ((3 : Int32) < (3 : Int32)))).2.1 (by decide) (by decide) ?_
    refine oAn X20 hx hby d19_32 rfl rfl ?_
    jvm_step X20.here [X20.here.top, hx, (hb hby d19_33), X20.method', Bd.returns, Value.isRef, FieldType.isReference]
    first | (intro acts; rw [hr _ acts rfl rfl rfl]) | rw [hr _ _ rfl rfl rfl]
    exact Steps.refl _
def Q_GC_3_0 (Z : State) (r0 : Addr) (kB : ClassId) (x0 x1 x2 : Int32) (h0 : Heap) (n0 : Nat) (v : Option Value) (h : Heap) (L : List Loc) : Prop := v = some (.int x0) ∧ Fr n0 L ∧ h = h0
theorem rmGC_3_0 (l : Launch) (Z : State) (a0 : Array Value) (hw : own_HW a0 Z) (ws : List Jvm.Cond) (r0 : Addr) (kB : ClassId) (x0 x1 x2 : Int32) (h0 : Heap) (n0 : Nat) (Z0 : n0 ≤ h0.size) (S_AD : Sta Z h0 cS0 cS5 "Z" (.int 1)) (S_HI : Sta Z h0 cS0 cS7 "I" (.int 0)) (S_LO : Sta Z h0 cS0 cS8 "I" (.int 8)) (V_r0 : Arv Z h0 r0 kB .byte (6 : Int32) [(.int (((x0 >>> ((0 : Int32) &&& 31)).toInt8.toInt32).toInt8.toInt32)), (.int (((x0 >>> ((8 : Int32) &&& 31)).toInt8.toInt32).toInt8.toInt32)), (.int (((x1 >>> ((0 : Int32) &&& 31)).toInt8.toInt32).toInt8.toInt32)), (.int (((x1 >>> ((8 : Int32) &&& 31)).toInt8.toInt32).toInt8.toInt32)), (.int (((x2 >>> ((0 : Int32) &&& 31)).toInt8.toInt32).toInt8.toInt32)), (.int (((x2 >>> ((8 : Int32) &&& 31)).toInt8.toInt32).toInt8.toInt32))] (.int 0)) (hch_x0 : own_ch x0) :
    own_M l Z (⟨cS0, "getChar", "([BI)C"⟩ : MethodName) jdk_52_method_5_code 2 (some .char) ws ({ frames := 0, cells := 0, slots := 0, locals := 0 } : Room) #[(.ref r0), (.int 0)] h0 (Q_GC_3_0 Z r0 kB x0 x1 x2 h0 n0) := by
  refine own_in cS0 rfl (plainFor_of_name pn_java_lang_StringUTF16) ?_
  intro p e s m below meth c s₁ Bd hml hZ hh hx hby hown X0 e0
  have N0 := Fr.nil n0
  have k0 := own_k (p := p) (e := e) (below := below) (T := s₁) (ef_23 m r0 (0 : Int32))
  obtain ⟨T1, X1, e1, st1⟩ := getS2 X0 hx hZ hown (host := "") (Or.inl (own_at hw 97 rfl)) Via.refl e0 S_AD (g := (mkF m 0 #[rv r0, iv 0] [])) rfl (hb hby d23_0)
  obtain ⟨cl_z2, Ar_z2, q_z2, S_z2, N_z2, H_z2, G_z2⟩ := id V_r0
  have hin3 : ¬ ((0 : Int32) < 0 ∨ cl_z2.slots.size ≤ ((0 : Int32)).toNatClampNeg) := inb_of S_z2 ⟨by decide, by decide⟩
  obtain ⟨T4, X4, e4, st4⟩ := getS2 X1 hx hZ hown (host := "") (Or.inl (own_at hw 98 rfl)) Via.refl e1 S_HI (g := (mkF m 42 #[rv r0, iv 1] [(.int ((((x0 >>> ((0 : Int32) &&& 31)).toInt8.toInt32).toInt8.toInt32) &&& (255 : Int32)))])) rfl (hb hby d23_42)
  have hin5 : ¬ ((1 : Int32) < 0 ∨ cl_z2.slots.size ≤ ((1 : Int32)).toNatClampNeg) := inb_of S_z2 ⟨by decide, by decide⟩
  obtain ⟨T6, X6, e6, st6⟩ := getS2 X4 hx hZ hown (host := "") (Or.inl (own_at hw 99 rfl)) Via.refl e4 S_LO (g := (mkF m 53 #[rv r0, iv 1] [(.int ((((x0 >>> ((8 : Int32) &&& 31)).toInt8.toInt32).toInt8.toInt32) &&& (255 : Int32))), (.int (((((x0 >>> ((0 : Int32) &&& 31)).toInt8.toInt32).toInt8.toInt32) &&& (255 : Int32)) <<< ((0 : Int32) &&& 31)))])) rfl (hb hby d23_53)
  refine own_out X6 Bd.notSynchronized Bd.returns (some (.int ((((((((x0 >>> ((0 : Int32) &&& 31)).toInt8.toInt32).toInt8.toInt32) &&& (255 : Int32)) <<< ((0 : Int32) &&& 31)) ||| (((((x0 >>> ((8 : Int32) &&& 31)).toInt8.toInt32).toInt8.toInt32) &&& (255 : Int32)) <<< ((8 : Int32) &&& 31))).toUInt32.toUInt16.toUInt32.toInt32).toUInt32.toUInt16.toUInt32.toInt32))) nofun (by decide) (by decide) ?_ fun fs hr => k0 _ ?_
  · rw [e6]; exact ⟨(congrArg some (congrArg Value.int (own_u16c hch_x0))), N0, rfl⟩
  · show OwnS p e below s₁ (mkF m 0 #[rv r0, iv 0] []) _
    refine st1 _ ?_
    refine XS.ifYes X1.here hx rfl (pc0 := 3) (pc' := 28) rfl (hb hby d23_3) rfl ((if0 _ _).trans (feq (by decide : ¬ ((1 : Int32) = (0 : Int32)))).2) (by decide) (by decide) ?_
    refine oIn X1 hx hby d23_28 rfl (oIc X1 hx hby d23_29 ?_)
    refine XS.ishl X1.here hx rfl (hb hby d23_30) rfl ?_
    refine XS.istoreN X1.here hx rfl (hb hby d23_31) rfl (l' := #[rv r0, iv 0]) rfl ?_
    refine oAn X1 hx hby d23_32 rfl rfl (oIn X1 hx hby d23_33 rfl ?_)
    refine XS.iinc X1.here hx rfl (hb hby d23_34) rfl (l' := #[rv r0, iv 1]) rfl ?_
    refine X1.baloadBytes hx (j := (0 : Int32)) (v := (.int (((x0 >>> ((0 : Int32) &&& 31)).toInt8.toInt32).toInt8.toInt32))) (by rw [e1]; exact Ar_z2.1) (State.isArrayOf_alike hZ.alike Ar_z2.2.1) Ar_z2.2.2 hin3 (Has.at H_z2 hin3 rfl) (g := (mkF m 37 #[rv r0, iv 1] [(.int 0), (.ref r0)])) rfl rfl (hb hby d23_37) _ ?_
    refine XS.sipush X1.here hx rfl (hb hby d23_38) ?_
    refine XS.iand X1.here hx rfl (hb hby d23_41) rfl ?_
    refine st4 _ ?_
    refine XS.ishl X4.here hx rfl (hb hby d23_45) rfl ?_
    refine oAn X4 hx hby d23_46 rfl rfl (oIn X4 hx hby d23_47 rfl ?_)
    refine X4.baloadBytes hx (j := (1 : Int32)) (v := (.int (((x0 >>> ((8 : Int32) &&& 31)).toInt8.toInt32).toInt8.toInt32))) (by rw [e4]; exact Ar_z2.1) (State.isArrayOf_alike hZ.alike Ar_z2.2.1) Ar_z2.2.2 hin5 (Has.at H_z2 hin5 rfl) (g := (mkF m 48 #[rv r0, iv 1] [(.int 1), (.ref r0), (.int (((((x0 >>> ((0 : Int32) &&& 31)).toInt8.toInt32).toInt8.toInt32) &&& (255 : Int32)) <<< ((0 : Int32) &&& 31)))])) rfl rfl (hb hby d23_48) _ ?_
    refine XS.sipush X4.here hx rfl (hb hby d23_49) ?_
    refine XS.iand X4.here hx rfl (hb hby d23_52) rfl ?_
    refine st6 _ ?_
    refine XS.ishl X6.here hx rfl (hb hby d23_56) rfl ?_
    refine XS.ior X6.here hx rfl (hb hby d23_57) rfl ?_
    refine XS.i2c X6.here hx rfl (hb hby d23_58) rfl ?_
    exact retN X6 hx (t := .char) Bd.returns (by simp) (hb hby d23_59) hr
def Q_GC_3_1 (Z : State) (r0 : Addr) (kB : ClassId) (x0 x1 x2 : Int32) (h0 : Heap) (n0 : Nat) (v : Option Value) (h : Heap) (L : List Loc) : Prop := v = some (.int x1) ∧ Fr n0 L ∧ h = h0
theorem rmGC_3_1 (l : Launch) (Z : State) (a0 : Array Value) (hw : own_HW a0 Z) (ws : List Jvm.Cond) (r0 : Addr) (kB : ClassId) (x0 x1 x2 : Int32) (h0 : Heap) (n0 : Nat) (Z0 : n0 ≤ h0.size) (S_AD : Sta Z h0 cS0 cS5 "Z" (.int 1)) (S_HI : Sta Z h0 cS0 cS7 "I" (.int 0)) (S_LO : Sta Z h0 cS0 cS8 "I" (.int 8)) (V_r0 : Arv Z h0 r0 kB .byte (6 : Int32) [(.int (((x0 >>> ((0 : Int32) &&& 31)).toInt8.toInt32).toInt8.toInt32)), (.int (((x0 >>> ((8 : Int32) &&& 31)).toInt8.toInt32).toInt8.toInt32)), (.int (((x1 >>> ((0 : Int32) &&& 31)).toInt8.toInt32).toInt8.toInt32)), (.int (((x1 >>> ((8 : Int32) &&& 31)).toInt8.toInt32).toInt8.toInt32)), (.int (((x2 >>> ((0 : Int32) &&& 31)).toInt8.toInt32).toInt8.toInt32)), (.int (((x2 >>> ((8 : Int32) &&& 31)).toInt8.toInt32).toInt8.toInt32))] (.int 0)) (hch_x1 : own_ch x1) :
    own_M l Z (⟨cS0, "getChar", "([BI)C"⟩ : MethodName) jdk_52_method_5_code 2 (some .char) ws ({ frames := 0, cells := 0, slots := 0, locals := 0 } : Room) #[(.ref r0), (.int 1)] h0 (Q_GC_3_1 Z r0 kB x0 x1 x2 h0 n0) := by
  refine own_in cS0 rfl (plainFor_of_name pn_java_lang_StringUTF16) ?_
  intro p e s m below meth c s₁ Bd hml hZ hh hx hby hown X0 e0
  have N0 := Fr.nil n0
  have k0 := own_k (p := p) (e := e) (below := below) (T := s₁) (ef_23 m r0 (1 : Int32))
  obtain ⟨T1, X1, e1, st1⟩ := getS2 X0 hx hZ hown (host := "") (Or.inl (own_at hw 97 rfl)) Via.refl e0 S_AD (g := (mkF m 0 #[rv r0, iv 1] [])) rfl (hb hby d23_0)
  obtain ⟨cl_z2, Ar_z2, q_z2, S_z2, N_z2, H_z2, G_z2⟩ := id V_r0
  have hin3 : ¬ ((2 : Int32) < 0 ∨ cl_z2.slots.size ≤ ((2 : Int32)).toNatClampNeg) := inb_of S_z2 ⟨by decide, by decide⟩
  obtain ⟨T4, X4, e4, st4⟩ := getS2 X1 hx hZ hown (host := "") (Or.inl (own_at hw 98 rfl)) Via.refl e1 S_HI (g := (mkF m 42 #[rv r0, iv 3] [(.int ((((x1 >>> ((0 : Int32) &&& 31)).toInt8.toInt32).toInt8.toInt32) &&& (255 : Int32)))])) rfl (hb hby d23_42)
  have hin5 : ¬ ((3 : Int32) < 0 ∨ cl_z2.slots.size ≤ ((3 : Int32)).toNatClampNeg) := inb_of S_z2 ⟨by decide, by decide⟩
  obtain ⟨T6, X6, e6, st6⟩ := getS2 X4 hx hZ hown (host := "") (Or.inl (own_at hw 99 rfl)) Via.refl e4 S_LO (g := (mkF m 53 #[rv r0, iv 3] [(.int ((((x1 >>> ((8 : Int32) &&& 31)).toInt8.toInt32).toInt8.toInt32) &&& (255 : Int32))), (.int (((((x1 >>> ((0 : Int32) &&& 31)).toInt8.toInt32).toInt8.toInt32) &&& (255 : Int32)) <<< ((0 : Int32) &&& 31)))])) rfl (hb hby d23_53)
  refine own_out X6 Bd.notSynchronized Bd.returns (some (.int ((((((((x1 >>> ((0 : Int32) &&& 31)).toInt8.toInt32).toInt8.toInt32) &&& (255 : Int32)) <<< ((0 : Int32) &&& 31)) ||| (((((x1 >>> ((8 : Int32) &&& 31)).toInt8.toInt32).toInt8.toInt32) &&& (255 : Int32)) <<< ((8 : Int32) &&& 31))).toUInt32.toUInt16.toUInt32.toInt32).toUInt32.toUInt16.toUInt32.toInt32))) nofun (by decide) (by decide) ?_ fun fs hr => k0 _ ?_
  · rw [e6]; exact ⟨(congrArg some (congrArg Value.int (own_u16c hch_x1))), N0, rfl⟩
  · show OwnS p e below s₁ (mkF m 0 #[rv r0, iv 1] []) _
    refine st1 _ ?_
    refine XS.ifYes X1.here hx rfl (pc0 := 3) (pc' := 28) rfl (hb hby d23_3) rfl ((if0 _ _).trans (feq (by decide : ¬ ((1 : Int32) = (0 : Int32)))).2) (by decide) (by decide) ?_
    refine oIn X1 hx hby d23_28 rfl (oIc X1 hx hby d23_29 ?_)
    refine XS.ishl X1.here hx rfl (hb hby d23_30) rfl ?_
    refine XS.istoreN X1.here hx rfl (hb hby d23_31) rfl (l' := #[rv r0, iv 2]) rfl ?_
    refine oAn X1 hx hby d23_32 rfl rfl (oIn X1 hx hby d23_33 rfl ?_)
    refine XS.iinc X1.here hx rfl (hb hby d23_34) rfl (l' := #[rv r0, iv 3]) rfl ?_
    refine X1.baloadBytes hx (j := (2 : Int32)) (v := (.int (((x1 >>> ((0 : Int32) &&& 31)).toInt8.toInt32).toInt8.toInt32))) (by rw [e1]; exact Ar_z2.1) (State.isArrayOf_alike hZ.alike Ar_z2.2.1) Ar_z2.2.2 hin3 (Has.at H_z2 hin3 rfl) (g := (mkF m 37 #[rv r0, iv 3] [(.int 2), (.ref r0)])) rfl rfl (hb hby d23_37) _ ?_
    refine XS.sipush X1.here hx rfl (hb hby d23_38) ?_
    refine XS.iand X1.here hx rfl (hb hby d23_41) rfl ?_
    refine st4 _ ?_
    refine XS.ishl X4.here hx rfl (hb hby d23_45) rfl ?_
    refine oAn X4 hx hby d23_46 rfl rfl (oIn X4 hx hby d23_47 rfl ?_)
    refine X4.baloadBytes hx (j := (3 : Int32)) (v := (.int (((x1 >>> ((8 : Int32) &&& 31)).toInt8.toInt32).toInt8.toInt32))) (by rw [e4]; exact Ar_z2.1) (State.isArrayOf_alike hZ.alike Ar_z2.2.1) Ar_z2.2.2 hin5 (Has.at H_z2 hin5 rfl) (g := (mkF m 48 #[rv r0, iv 3] [(.int 3), (.ref r0), (.int (((((x1 >>> ((0 : Int32) &&& 31)).toInt8.toInt32).toInt8.toInt32) &&& (255 : Int32)) <<< ((0 : Int32) &&& 31)))])) rfl rfl (hb hby d23_48) _ ?_
    refine XS.sipush X4.here hx rfl (hb hby d23_49) ?_
    refine XS.iand X4.here hx rfl (hb hby d23_52) rfl ?_
    refine st6 _ ?_
    refine XS.ishl X6.here hx rfl (hb hby d23_56) rfl ?_
    refine XS.ior X6.here hx rfl (hb hby d23_57) rfl ?_
    refine XS.i2c X6.here hx rfl (hb hby d23_58) rfl ?_
    exact retN X6 hx (t := .char) Bd.returns (by simp) (hb hby d23_59) hr
def Q_GC_3_2 (Z : State) (r0 : Addr) (kB : ClassId) (x0 x1 x2 : Int32) (h0 : Heap) (n0 : Nat) (v : Option Value) (h : Heap) (L : List Loc) : Prop := v = some (.int x2) ∧ Fr n0 L ∧ h = h0
theorem rmGC_3_2 (l : Launch) (Z : State) (a0 : Array Value) (hw : own_HW a0 Z) (ws : List Jvm.Cond) (r0 : Addr) (kB : ClassId) (x0 x1 x2 : Int32) (h0 : Heap) (n0 : Nat) (Z0 : n0 ≤ h0.size) (S_AD : Sta Z h0 cS0 cS5 "Z" (.int 1)) (S_HI : Sta Z h0 cS0 cS7 "I" (.int 0)) (S_LO : Sta Z h0 cS0 cS8 "I" (.int 8)) (V_r0 : Arv Z h0 r0 kB .byte (6 : Int32) [(.int (((x0 >>> ((0 : Int32) &&& 31)).toInt8.toInt32).toInt8.toInt32)), (.int (((x0 >>> ((8 : Int32) &&& 31)).toInt8.toInt32).toInt8.toInt32)), (.int (((x1 >>> ((0 : Int32) &&& 31)).toInt8.toInt32).toInt8.toInt32)), (.int (((x1 >>> ((8 : Int32) &&& 31)).toInt8.toInt32).toInt8.toInt32)), (.int (((x2 >>> ((0 : Int32) &&& 31)).toInt8.toInt32).toInt8.toInt32)), (.int (((x2 >>> ((8 : Int32) &&& 31)).toInt8.toInt32).toInt8.toInt32))] (.int 0)) (hch_x2 : own_ch x2) :
    own_M l Z (⟨cS0, "getChar", "([BI)C"⟩ : MethodName) jdk_52_method_5_code 2 (some .char) ws ({ frames := 0, cells := 0, slots := 0, locals := 0 } : Room) #[(.ref r0), (.int 2)] h0 (Q_GC_3_2 Z r0 kB x0 x1 x2 h0 n0) := by
  refine own_in cS0 rfl (plainFor_of_name pn_java_lang_StringUTF16) ?_
  intro p e s m below meth c s₁ Bd hml hZ hh hx hby hown X0 e0
  have N0 := Fr.nil n0
  have k0 := own_k (p := p) (e := e) (below := below) (T := s₁) (ef_23 m r0 (2 : Int32))
  obtain ⟨T1, X1, e1, st1⟩ := getS2 X0 hx hZ hown (host := "") (Or.inl (own_at hw 97 rfl)) Via.refl e0 S_AD (g := (mkF m 0 #[rv r0, iv 2] [])) rfl (hb hby d23_0)
  obtain ⟨cl_z2, Ar_z2, q_z2, S_z2, N_z2, H_z2, G_z2⟩ := id V_r0
  have hin3 : ¬ ((4 : Int32) < 0 ∨ cl_z2.slots.size ≤ ((4 : Int32)).toNatClampNeg) := inb_of S_z2 ⟨by decide, by decide⟩
  obtain ⟨T4, X4, e4, st4⟩ := getS2 X1 hx hZ hown (host := "") (Or.inl (own_at hw 98 rfl)) Via.refl e1 S_HI (g := (mkF m 42 #[rv r0, iv 5] [(.int ((((x2 >>> ((0 : Int32) &&& 31)).toInt8.toInt32).toInt8.toInt32) &&& (255 : Int32)))])) rfl (hb hby d23_42)
  have hin5 : ¬ ((5 : Int32) < 0 ∨ cl_z2.slots.size ≤ ((5 : Int32)).toNatClampNeg) := inb_of S_z2 ⟨by decide, by decide⟩
  obtain ⟨T6, X6, e6, st6⟩ := getS2 X4 hx hZ hown (host := "") (Or.inl (own_at hw 99 rfl)) Via.refl e4 S_LO (g := (mkF m 53 #[rv r0, iv 5] [(.int ((((x2 >>> ((8 : Int32) &&& 31)).toInt8.toInt32).toInt8.toInt32) &&& (255 : Int32))), (.int (((((x2 >>> ((0 : Int32) &&& 31)).toInt8.toInt32).toInt8.toInt32) &&& (255 : Int32)) <<< ((0 : Int32) &&& 31)))])) rfl (hb hby d23_53)
  refine own_out X6 Bd.notSynchronized Bd.returns (some (.int ((((((((x2 >>> ((0 : Int32) &&& 31)).toInt8.toInt32).toInt8.toInt32) &&& (255 : Int32)) <<< ((0 : Int32) &&& 31)) ||| (((((x2 >>> ((8 : Int32) &&& 31)).toInt8.toInt32).toInt8.toInt32) &&& (255 : Int32)) <<< ((8 : Int32) &&& 31))).toUInt32.toUInt16.toUInt32.toInt32).toUInt32.toUInt16.toUInt32.toInt32))) nofun (by decide) (by decide) ?_ fun fs hr => k0 _ ?_
  · rw [e6]; exact ⟨(congrArg some (congrArg Value.int (own_u16c hch_x2))), N0, rfl⟩
  · show OwnS p e below s₁ (mkF m 0 #[rv r0, iv 2] []) _
    refine st1 _ ?_
    refine XS.ifYes X1.here hx rfl (pc0 := 3) (pc' := 28) rfl (hb hby d23_3) rfl ((if0 _ _).trans (feq (by decide : ¬ ((1 : Int32) = (0 : Int32)))).2) (by decide) (by decide) ?_
    refine oIn X1 hx hby d23_28 rfl (oIc X1 hx hby d23_29 ?_)
    refine XS.ishl X1.here hx rfl (hb hby d23_30) rfl ?_
    refine XS.istoreN X1.here hx rfl (hb hby d23_31) rfl (l' := #[rv r0, iv 4]) rfl ?_
    refine oAn X1 hx hby d23_32 rfl rfl (oIn X1 hx hby d23_33 rfl ?_)
    refine XS.iinc X1.here hx rfl (hb hby d23_34) rfl (l' := #[rv r0, iv 5]) rfl ?_
    refine X1.baloadBytes hx (j := (4 : Int32)) (v := (.int (((x2 >>> ((0 : Int32) &&& 31)).toInt8.toInt32).toInt8.toInt32))) (by rw [e1]; exact Ar_z2.1) (State.isArrayOf_alike hZ.alike Ar_z2.2.1) Ar_z2.2.2 hin3 (Has.at H_z2 hin3 rfl) (g := (mkF m 37 #[rv r0, iv 5] [(.int 4), (.ref r0)])) rfl rfl (hb hby d23_37) _ ?_
    refine XS.sipush X1.here hx rfl (hb hby d23_38) ?_
    refine XS.iand X1.here hx rfl (hb hby d23_41) rfl ?_
    refine st4 _ ?_
    refine XS.ishl X4.here hx rfl (hb hby d23_45) rfl ?_
    refine oAn X4 hx hby d23_46 rfl rfl (oIn X4 hx hby d23_47 rfl ?_)
    refine X4.baloadBytes hx (j := (5 : Int32)) (v := (.int (((x2 >>> ((8 : Int32) &&& 31)).toInt8.toInt32).toInt8.toInt32))) (by rw [e4]; exact Ar_z2.1) (State.isArrayOf_alike hZ.alike Ar_z2.2.1) Ar_z2.2.2 hin5 (Has.at H_z2 hin5 rfl) (g := (mkF m 48 #[rv r0, iv 5] [(.int 5), (.ref r0), (.int (((((x2 >>> ((0 : Int32) &&& 31)).toInt8.toInt32).toInt8.toInt32) &&& (255 : Int32)) <<< ((0 : Int32) &&& 31)))])) rfl rfl (hb hby d23_48) _ ?_
    refine XS.sipush X4.here hx rfl (hb hby d23_49) ?_
    refine XS.iand X4.here hx rfl (hb hby d23_52) rfl ?_
    refine st6 _ ?_
    refine XS.ishl X6.here hx rfl (hb hby d23_56) rfl ?_
    refine XS.ior X6.here hx rfl (hb hby d23_57) rfl ?_
    refine XS.i2c X6.here hx rfl (hb hby d23_58) rfl ?_
    exact retN X6 hx (t := .char) Bd.returns (by simp) (hb hby d23_59) hr
def Q_C2_3 (Z : State) (r0 r2 : Addr) (kC kB : ClassId) (x0 x1 x2 : Int32) (h0 : Heap) (n0 : Nat) (v : Option Value) (h : Heap) (L : List Loc) : Prop := (v = some (.int 0) ∧ Fr n0 L ∧ Keep h0 h [r2] ∧ Arv Z h r2 kB .byte (3 : Int32) [(.int 0), (.int 0), (.int 0)] (.int 0) ∧ (255 : Int32) < x0) ∨ (v = some (.int 1) ∧ Fr n0 L ∧ Keep h0 h [r2] ∧ Arv Z h r2 kB .byte (3 : Int32) [(.int ((x0.toInt8.toInt32).toInt8.toInt32)), (.int 0), (.int 0)] (.int 0) ∧ ¬ ((255 : Int32) < x0) ∧ (255 : Int32) < x1) ∨ (v = some (.int 2) ∧ Fr n0 L ∧ Keep h0 h [r2] ∧ Arv Z h r2 kB .byte (3 : Int32) [(.int ((x0.toInt8.toInt32).toInt8.toInt32)), (.int ((x1.toInt8.toInt32).toInt8.toInt32)), (.int 0)] (.int 0) ∧ ¬ ((255 : Int32) < x0) ∧ ¬ ((255 : Int32) < x1) ∧ (255 : Int32) < x2) ∨ (v = some (.int 3) ∧ Fr n0 L ∧ Keep h0 h [r2] ∧ Arv Z h r2 kB .byte (3 : Int32) [(.int ((x0.toInt8.toInt32).toInt8.toInt32)), (.int ((x1.toInt8.toInt32).toInt8.toInt32)), (.int ((x2.toInt8.toInt32).toInt8.toInt32))] (.int 0) ∧ ¬ ((255 : Int32) < x0) ∧ ¬ ((255 : Int32) < x1) ∧ ¬ ((255 : Int32) < x2))
theorem rmC2_3 (l : Launch) (Z : State) (a0 : Array Value) (hw : own_HW a0 Z) (ws : List Jvm.Cond) (r0 r2 : Addr) (kC kB : ClassId) (x0 x1 x2 : Int32) (h0 : Heap) (n0 : Nat) (Z0 : n0 ≤ h0.size) (V_r0 : Arv Z h0 r0 kC .char (3 : Int32) [(.int x0), (.int x1), (.int x2)] (.int 0)) (V_r2 : Arv Z h0 r2 kB .byte (3 : Int32) [(.int 0), (.int 0), (.int 0)] (.int 0)) (E_r2 : Exa Z h0 r2 "[B") (ge_r2 : n0 ≤ r2) (ne_r0_r2 : r0 ≠ r2) :
    own_M l Z (⟨cS0, "compress", "([CI[BII)I"⟩ : MethodName) jdk_52_method_21_code 7 (some .int) ws ({ frames := 0, cells := 0, slots := 0, locals := 0 } : Room) #[(.ref r0), (.int 0), (.ref r2), (.int 0), (.int 3)] h0 (Q_C2_3 Z r0 r2 kC kB x0 x1 x2 h0 n0) := by
  refine own_in cS0 rfl (plainFor_of_name pn_java_lang_StringUTF16) ?_
  intro p e s m below meth c s₁ Bd hml hZ hh hx hby hown X0 e0
  have N0 := Fr.nil n0
  have k0 := own_k (p := p) (e := e) (below := below) (T := s₁) (ef_11 m r0 (0 : Int32) r2 (0 : Int32) (3 : Int32))
  obtain ⟨cl_z1, Ar_z1, q_z1, S_z1, N_z1, H_z1, G_z1⟩ := id V_r0
  have hin2 : ¬ ((0 : Int32) < 0 ∨ cl_z1.slots.size ≤ ((0 : Int32)).toNatClampNeg) := inb_of S_z1 ⟨by decide, by decide⟩
  have k4 : ∀ t, OwnS p e below s₁ (mkF m 20 #[rv r0, iv 0, rv r2, iv 0, iv 3, iv 0, iv x0] [(.int 255), (.int x0)]) t → OwnS p e below s₁ (entryFrame m #[(.ref r0), (.int 0), (.ref r2), (.int 0), (.int 3)] 7) t := fun t q => by
   refine k0 t ?_
   show OwnS p e below s₁ (mkF m 0 #[rv r0, iv 0, rv r2, iv 0, iv 3, .unset, .unset] []) _
   refine oIc X0 hx hby d11_0 ?_
   refine XS.istore X0.here hx rfl (hb hby d11_1) rfl (l' := #[rv r0, iv 0, rv r2, iv 0, iv 3, iv 0, .unset]) rfl ?_
   refine oIl X0 hx hby d11_3 rfl (oIl X0 hx hby d11_5 rfl ?_)
   refine XS.icmpNo X0.here hx rfl (hb hby d11_7) rfl (tlt (by decide : (0 : Int32) < (3 : Int32))).2.1 ?_
   refine oAn X0 hx hby d11_10 rfl rfl (oIn X0 hx hby d11_11 rfl ?_)
   refine X0.caload hx (j := (0 : Int32)) (v := (.int x0)) (by rw [e0]; exact Ar_z1.1) (State.isArrayOf_alike hZ.alike Ar_z1.2.1) Ar_z1.2.2 hin2 (Has.at H_z1 hin2 rfl) (g := (mkF m 12 #[rv r0, iv 0, rv r2, iv 0, iv 3, iv 0, .unset] [(.int 0), (.ref r0)])) rfl rfl (hb hby d11_12) _ ?_
   refine XS.istore X0.here hx rfl (hb hby d11_13) rfl (l' := #[rv r0, iv 0, rv r2, iv 0, iv 3, iv 0, iv x0]) rfl ?_
   refine oIl X0 hx hby d11_15 rfl ?_
   refine XS.sipush X0.here hx rfl (hb hby d11_17) ?_
   exact q
  by_cases hc20_3 : (255 : Int32) < x0
  · refine own_out X0 Bd.notSynchronized Bd.returns (some (.int 0)) nofun (by decide) (by decide) ?_ fun fs hr => k4 _ ?_
    · rw [e0]; exact Or.inl (⟨rfl, N0, (Keep.refl h0 [r2]), V_r2, hc20_3⟩)
    · refine XS.icmpNo X0.here hx rfl (hb hby d11_20) rfl (tlt hc20_3).2.2.2 ?_
      refine oIl X0 hx hby d11_23 rfl ?_
      exact retI X0 hx Bd.returns (hb hby d11_25) hr
  · obtain ⟨cl_z5, Ar_z5, q_z5, S_z5, N_z5, H_z5, G_z5⟩ := id V_r2
    have hin6 : ¬ ((0 : Int32) < 0 ∨ cl_z5.slots.size ≤ ((0 : Int32)).toNatClampNeg) := inb_of S_z5 ⟨by decide, by decide⟩
    obtain ⟨T7, h7, X7, e7, W7, st7⟩ := stB X0 hx hZ e0 Ar_z5 (j := (0 : Int32)) hin6 (g := (mkF m 31 #[rv r0, iv 0, rv r2, iv 0, iv 3, iv 0, iv x0] [(.int (x0.toInt8.toInt32)), (.int 0), (.ref r2)])) rfl rfl (hb hby d11_31)
    have V7 : Arv Z h7 r2 kB .byte (3 : Int32) [(.int ((x0.toInt8.toInt32).toInt8.toInt32)), (.int 0), (.int 0)] (.int 0) := Arv.set Ar_z5 q_z5 S_z5 N_z5 H_z5 G_z5 (fits_nar_byte _) W7 0 rfl (Nat.le_of_ble_eq_true rfl)
    have N7 := Fr.snoc X7 N0 ge_r2
    have f8 := (V_r0.other W7 ne_r0_r2)
    obtain ⟨cl_z9, Ar_z9, q_z9, S_z9, N_z9, H_z9, G_z9⟩ := id f8
    have hin10 : ¬ ((1 : Int32) < 0 ∨ cl_z9.slots.size ≤ ((1 : Int32)).toNatClampNeg) := inb_of S_z9 ⟨by decide, by decide⟩
    have k12 : ∀ t, OwnS p e below T7 (mkF m 20 #[rv r0, iv 1, rv r2, iv 1, iv 3, iv 1, iv x1] [(.int 255), (.int x1)]) t → OwnS p e below s₁ (entryFrame m #[(.ref r0), (.int 0), (.ref r2), (.int 0), (.int 3)] 7) t := fun t q => by
     refine k4 t ?_
     refine XS.icmpYes X0.here hx rfl (pc0 := 20) (pc' := 26) rfl (hb hby d11_20) rfl (flt hc20_3).2.2.2 (by decide) (by decide) ?_
     refine oAn X0 hx hby d11_26 rfl rfl (oIn X0 hx hby d11_27 rfl (oIl X0 hx hby d11_28 rfl ?_))
     refine XS.i2b X0.here hx rfl (hb hby d11_30) rfl ?_
     refine st7 _ ?_
     refine XS.iinc X7.here hx rfl (hb hby d11_32) rfl (l' := #[rv r0, iv 1, rv r2, iv 0, iv 3, iv 0, iv x0]) rfl ?_
     refine XS.iinc X7.here hx rfl (hb hby d11_35) rfl (l' := #[rv r0, iv 1, rv r2, iv 1, iv 3, iv 0, iv x0]) rfl ?_
     refine XS.iinc X7.here hx rfl (hb hby d11_38) rfl (l' := #[rv r0, iv 1, rv r2, iv 1, iv 3, iv 1, iv x0]) rfl ?_
     refine oGo X7 hx hby 41 3 d11_41 (by decide) (by decide) (oIl X7 hx hby d11_3 rfl (oIl X7 hx hby d11_5 rfl ?_))
     refine XS.icmpNo X7.here hx rfl (hb hby d11_7) rfl (tlt (by decide : (1 : Int32) < (3 : Int32))).2.1 ?_
     refine oAn X7 hx hby d11_10 rfl rfl (oIn X7 hx hby d11_11 rfl ?_)
     refine X7.caload hx (j := (1 : Int32)) (v := (.int x1)) (by rw [e7]; exact Ar_z9.1) (State.isArrayOf_alike hZ.alike Ar_z9.2.1) Ar_z9.2.2 hin10 (Has.at H_z9 hin10 rfl) (g := (mkF m 12 #[rv r0, iv 1, rv r2, iv 1, iv 3, iv 1, iv x0] [(.int 1), (.ref r0)])) rfl rfl (hb hby d11_12) _ ?_
     refine XS.istore X7.here hx rfl (hb hby d11_13) rfl (l' := #[rv r0, iv 1, rv r2, iv 1, iv 3, iv 1, iv x1]) rfl ?_
     refine oIl X7 hx hby d11_15 rfl ?_
     refine XS.sipush X7.here hx rfl (hb hby d11_17) ?_
     exact q
    by_cases hc20_11 : (255 : Int32) < x1
    · refine own_out X7 Bd.notSynchronized Bd.returns (some (.int 1)) nofun (by decide) (by decide) ?_ fun fs hr => k12 _ ?_
      · rw [e7]; exact Or.inr (Or.inl (⟨rfl, N7, ((Keep.refl h0 [r2]).wr W7 (Or.inl (List.mem_of_getElem? (i := 0) rfl))), V7, hc20_3, hc20_11⟩))
      · refine XS.icmpNo X7.here hx rfl (hb hby d11_20) rfl (tlt hc20_11).2.2.2 ?_
        refine oIl X7 hx hby d11_23 rfl ?_
        exact retI X7 hx Bd.returns (hb hby d11_25) hr
    · obtain ⟨cl_z13, Ar_z13, q_z13, S_z13, N_z13, H_z13, G_z13⟩ := id V7
      have hin14 : ¬ ((1 : Int32) < 0 ∨ cl_z13.slots.size ≤ ((1 : Int32)).toNatClampNeg) := inb_of S_z13 ⟨by decide, by decide⟩
      obtain ⟨T15, h15, X15, e15, W15, st15⟩ := stB X7 hx hZ e7 Ar_z13 (j := (1 : Int32)) hin14 (g := (mkF m 31 #[rv r0, iv 1, rv r2, iv 1, iv 3, iv 1, iv x1] [(.int (x1.toInt8.toInt32)), (.int 1), (.ref r2)])) rfl rfl (hb hby d11_31)
      have V15 : Arv Z h15 r2 kB .byte (3 : Int32) [(.int ((x0.toInt8.toInt32).toInt8.toInt32)), (.int ((x1.toInt8.toInt32).toInt8.toInt32)), (.int 0)] (.int 0) := Arv.set Ar_z13 q_z13 S_z13 N_z13 H_z13 G_z13 (fits_nar_byte _) W15 1 rfl (Nat.le_of_ble_eq_true rfl)
      have N15 := Fr.snoc X15 N7 ge_r2
      have f16 := (f8.other W15 ne_r0_r2)
      obtain ⟨cl_z17, Ar_z17, q_z17, S_z17, N_z17, H_z17, G_z17⟩ := id f16
      have hin18 : ¬ ((2 : Int32) < 0 ∨ cl_z17.slots.size ≤ ((2 : Int32)).toNatClampNeg) := inb_of S_z17 ⟨by decide, by decide⟩
      have k20 : ∀ t, OwnS p e below T15 (mkF m 20 #[rv r0, iv 2, rv r2, iv 2, iv 3, iv 2, iv x2] [(.int 255), (.int x2)]) t → OwnS p e below s₁ (entryFrame m #[(.ref r0), (.int 0), (.ref r2), (.int 0), (.int 3)] 7) t := fun t q => by
       refine k12 t ?_
       refine XS.icmpYes X7.here hx rfl (pc0 := 20) (pc' := 26) rfl (hb hby d11_20) rfl (flt hc20_11).2.2.2 (by decide) (by decide) ?_
       refine oAn X7 hx hby d11_26 rfl rfl (oIn X7 hx hby d11_27 rfl (oIl X7 hx hby d11_28 rfl ?_))
       refine XS.i2b X7.here hx rfl (hb hby d11_30) rfl ?_
       refine st15 _ ?_
       refine XS.iinc X15.here hx rfl (hb hby d11_32) rfl (l' := #[rv r0, iv 2, rv r2, iv 1, iv 3, iv 1, iv x1]) rfl ?_
       refine XS.iinc X15.here hx rfl (hb hby d11_35) rfl (l' := #[rv r0, iv 2, rv r2, iv 2, iv 3, iv 1, iv x1]) rfl ?_
       refine XS.iinc X15.here hx rfl (hb hby d11_38) rfl (l' := #[rv r0, iv 2, rv r2, iv 2, iv 3, iv 2, iv x1]) rfl ?_
       refine oGo X15 hx hby 41 3 d11_41 (by decide) (by decide) (oIl X15 hx hby d11_3 rfl (oIl X15 hx hby d11_5 rfl ?_))
       refine XS.icmpNo X15.here hx rfl (hb hby d11_7) rfl (tlt (by decide : (2 : Int32) < (3 : Int32))).2.1 ?_
       refine oAn X15 hx hby d11_10 rfl rfl (oIn X15 hx hby d11_11 rfl ?_)
       refine X15.caload hx (j := (2 : Int32)) (v := (.int x2)) (by rw [e15]; exact Ar_z17.1) (State.isArrayOf_alike hZ.alike Ar_z17.2.1) Ar_z17.2.2 hin18 (Has.at H_z17 hin18 rfl) (g := (mkF m 12 #[rv r0, iv 2, rv r2, iv 2, iv 3, iv 2, iv x1] [(.int 2), (.ref r0)])) rfl rfl (hb hby d11_12) _ ?_
       refine XS.istore X15.here hx rfl (hb hby d11_13) rfl (l' := #[rv r0, iv 2, rv r2, iv 2, iv 3, iv 2, iv x2]) rfl ?_
       refine oIl X15 hx hby d11_15 rfl ?_
       refine XS.sipush X15.here hx rfl (hb hby d11_17) ?_
       exact q
      by_cases hc20_19 : (255 : Int32) < x2
      · refine own_out X15 Bd.notSynchronized Bd.returns (some (.int 2)) nofun (by decide) (by decide) ?_ fun fs hr => k20 _ ?_
        · rw [e15]; exact Or.inr (Or.inr (Or.inl (⟨rfl, N15, (((Keep.refl h0 [r2]).wr W7 (Or.inl (List.mem_of_getElem? (i := 0) rfl))).wr W15 (Or.inl (List.mem_of_getElem? (i := 0) rfl))), V15, hc20_3, hc20_11, hc20_19⟩)))
        · refine XS.icmpNo X15.here hx rfl (hb hby d11_20) rfl (tlt hc20_19).2.2.2 ?_
          refine oIl X15 hx hby d11_23 rfl ?_
          exact retI X15 hx Bd.returns (hb hby d11_25) hr
      · obtain ⟨cl_z21, Ar_z21, q_z21, S_z21, N_z21, H_z21, G_z21⟩ := id V15
        have hin22 : ¬ ((2 : Int32) < 0 ∨ cl_z21.slots.size ≤ ((2 : Int32)).toNatClampNeg) := inb_of S_z21 ⟨by decide, by decide⟩
        obtain ⟨T23, h23, X23, e23, W23, st23⟩ := stB X15 hx hZ e15 Ar_z21 (j := (2 : Int32)) hin22 (g := (mkF m 31 #[rv r0, iv 2, rv r2, iv 2, iv 3, iv 2, iv x2] [(.int (x2.toInt8.toInt32)), (.int 2), (.ref r2)])) rfl rfl (hb hby d11_31)
        have V23 : Arv Z h23 r2 kB .byte (3 : Int32) [(.int ((x0.toInt8.toInt32).toInt8.toInt32)), (.int ((x1.toInt8.toInt32).toInt8.toInt32)), (.int ((x2.toInt8.toInt32).toInt8.toInt32))] (.int 0) := Arv.set Ar_z21 q_z21 S_z21 N_z21 H_z21 G_z21 (fits_nar_byte _) W23 2 rfl (Nat.le_of_ble_eq_true rfl)
        have N23 := Fr.snoc X23 N15 ge_r2
        refine own_out X23 Bd.notSynchronized Bd.returns (some (.int 3)) nofun (by decide) (by decide) ?_ fun fs hr => k20 _ ?_
        · rw [e23]; exact Or.inr (Or.inr (Or.inr ((⟨rfl, N23, ((((Keep.refl h0 [r2]).wr W7 (Or.inl (List.mem_of_getElem? (i := 0) rfl))).wr W15 (Or.inl (List.mem_of_getElem? (i := 0) rfl))).wr W23 (Or.inl (List.mem_of_getElem? (i := 0) rfl))), V23, hc20_3, hc20_11, hc20_19⟩))))
        · refine XS.icmpYes X15.here hx rfl (pc0 := 20) (pc' := 26) rfl (hb hby d11_20) rfl (flt hc20_19).2.2.2 (by decide) (by decide) ?_
          refine oAn X15 hx hby d11_26 rfl rfl (oIn X15 hx hby d11_27 rfl (oIl X15 hx hby d11_28 rfl ?_))
          refine XS.i2b X15.here hx rfl (hb hby d11_30) rfl ?_
          refine st23 _ ?_
          refine XS.iinc X23.here hx rfl (hb hby d11_32) rfl (l' := #[rv r0, iv 3, rv r2, iv 2, iv 3, iv 2, iv x2]) rfl ?_
          refine XS.iinc X23.here hx rfl (hb hby d11_35) rfl (l' := #[rv r0, iv 3, rv r2, iv 3, iv 3, iv 2, iv x2]) rfl ?_
          refine XS.iinc X23.here hx rfl (hb hby d11_38) rfl (l' := #[rv r0, iv 3, rv r2, iv 3, iv 3, iv 3, iv x2]) rfl ?_
          refine oGo X23 hx hby 41 3 d11_41 (by decide) (by decide) (oIl X23 hx hby d11_3 rfl (oIl X23 hx hby d11_5 rfl ?_))
          refine XS.icmpYes X23.here hx rfl (pc0 := 7) (pc' := 44) rfl (hb hby d11_7) rfl (flt (by decide : ¬ ((3 : Int32) < (3 : Int32)))).2.1 (by decide) (by decide) ?_
          refine oIl X23 hx hby d11_44 rfl ?_
          exact retI X23 hx Bd.returns (hb hby d11_46) hr
def Q_C1_3 (Z : State) (r0 : Addr) (kC : ClassId) (x0 x1 x2 : Int32) (h0 : Heap) (n0 : Nat) (v : Option Value) (h : Heap) (L : List Loc) : Prop := (∃ ar : Addr, ∃ kk : ClassId, v = some (.ref ar) ∧ Fr n0 L ∧ Keep h0 h [] ∧ h0.size ≤ ar ∧ Arv Z h ar kk .byte (6 : Int32) [(.int (((x0 >>> ((0 : Int32) &&& 31)).toInt8.toInt32).toInt8.toInt32)), (.int (((x0 >>> ((8 : Int32) &&& 31)).toInt8.toInt32).toInt8.toInt32)), (.int (((x1 >>> ((0 : Int32) &&& 31)).toInt8.toInt32).toInt8.toInt32)), (.int (((x1 >>> ((8 : Int32) &&& 31)).toInt8.toInt32).toInt8.toInt32)), (.int (((x2 >>> ((0 : Int32) &&& 31)).toInt8.toInt32).toInt8.toInt32)), (.int (((x2 >>> ((8 : Int32) &&& 31)).toInt8.toInt32).toInt8.toInt32))] (.int 0) ∧ Exa Z h ar "[B") ∨ (∃ ar : Addr, ∃ kk : ClassId, v = some (.ref ar) ∧ Fr n0 L ∧ Keep h0 h [] ∧ h0.size ≤ ar ∧ Arv Z h ar kk .byte (3 : Int32) [(.int ((x0.toInt8.toInt32).toInt8.toInt32)), (.int ((x1.toInt8.toInt32).toInt8.toInt32)), (.int ((x2.toInt8.toInt32).toInt8.toInt32))] (.int 0) ∧ Exa Z h ar "[B" ∧ ¬ ((255 : Int32) < x0) ∧ ¬ ((255 : Int32) < x1) ∧ ¬ ((255 : Int32) < x2))
theorem rmC1_3 (l : Launch) (Z : State) (a0 : Array Value) (hw : own_HW a0 Z) (ws : List Jvm.Cond) (r0 : Addr) (kC : ClassId) (x0 x1 x2 : Int32) (h0 : Heap) (n0 : Nat) (Z0 : n0 ≤ h0.size) (S_AD : Sta Z h0 cS0 cS5 "Z" (.int 1)) (S_HI : Sta Z h0 cS0 cS7 "I" (.int 0)) (S_LO : Sta Z h0 cS0 cS8 "I" (.int 8)) (V_r0 : Arv Z h0 r0 kC .char (3 : Int32) [(.int x0), (.int x1), (.int x2)] (.int 0)) (hch_x0 : own_ch x0) (hch_x1 : own_ch x1) (hch_x2 : own_ch x2) :
    own_M l Z (⟨cS0, "compress", "([CII)[B"⟩ : MethodName) jdk_52_method_16_code 6 (some (.array .byte)) ws ({ frames := 3, cells := 2, slots := 9, locals := 40 } : Room) #[(.ref r0), (.int 0), (.int 3)] h0 (Q_C1_3 Z r0 kC x0 x1 x2 h0 n0) := by
  refine own_in cS0 rfl (plainFor_of_name pn_java_lang_StringUTF16) ?_
  intro p e s m below meth c s₁ Bd hml hZ hh hx hby hown X0 e0
  have N0 := Fr.nil n0
  have k0 := own_k (p := p) (e := e) (below := below) (T := s₁) (ef_10 m r0 (0 : Int32) (3 : Int32))
  obtain ⟨T1, h1, k1, X1, e1, E1, A1, EA1, st1⟩ := newPE X0 hx hZ (own_at hw 24 rfl) e0 (g := (mkF m 1 #[rv r0, iv 0, iv 3, .unset, .unset, .unset] [(.int 3)])) rfl (hb hby d10_1) rfl (by decide) (cap := 3) (by decide) (by decide) (by decide) (by decide) (ad := "[B") (by decide)
  obtain ⟨b1, g1⟩ : ∃ z, z = h0.size := ⟨_, rfl⟩
  rw [← g1] at A1 EA1 st1
  have g_b1 : n0 ≤ b1 := Nat.le_trans Z0 (Nat.le_of_eq g1.symm)
  have sz_b1 : h0.size ≤ b1 := Nat.le_trans (Keep.refl h0 []).1 (Nat.le_of_eq g1.symm)
  have V_b1 : Arv Z h1 b1 k1 .byte (3 : Int32) [(.int 0), (.int 0), (.int 0)] (.int 0) := (Arv.new A1 (by decide)).pad (pad_rep [] (.int 0) 3)
  have f3 := (V_r0.ext E1)
  obtain ⟨_, T2, L2, X2, hQ2, st2⟩ := own_cS 0 (rmC2_3 l Z a0 hw [] r0 b1 kC k1 x0 x1 x2 h1 n0 (Nat.le_trans Z0 E1.1) f3 V_b1 EA1 g_b1 (Nat.ne_of_lt (Nat.lt_of_lt_of_le V_r0.lt (Nat.le_of_eq g1.symm)))) X1 hx hZ hown hw 53 54 51 55 rfl rfl rfl rfl 9 #[rv r0, iv 0, iv 3, rv b1, .unset, .unset] [(.ref r0), (.int 0), (.ref b1), (.int 0), (.int 3)] [] (hb hby d10_9) hml (lenOf pd_4 rfl) e1 rfl (Nat.le_refl _) (by decide)
  have k4 : ∀ t, OwnS p e below T1 (mkF m 9 #[rv r0, iv 0, iv 3, rv b1, .unset, .unset] [(.int 3), (.int 0), (.ref b1), (.int 0), (.ref r0)]) t → OwnS p e below s₁ (entryFrame m #[(.ref r0), (.int 0), (.int 3)] 6) t := fun t q => by
   refine k0 t ?_
   show OwnS p e below s₁ (mkF m 0 #[rv r0, iv 0, iv 3, .unset, .unset, .unset] []) _
   refine oIn X0 hx hby d10_0 rfl ?_
   refine st1 _ ?_
   refine XS.astoreN X1.here hx rfl (hb hby d10_3) rfl rfl (l' := #[rv r0, iv 0, iv 3, rv b1, .unset, .unset]) rfl ?_
   refine oAn X1 hx hby d10_4 rfl rfl (oIn X1 hx hby d10_5 rfl (oAn X1 hx hby d10_6 rfl rfl (oIc X1 hx hby d10_7 (oIn X1 hx hby d10_8 rfl ?_))))
   exact q
  rcases hQ2 with ⟨rfl, N2q, K2, p2_0, p2_1⟩ | ⟨rfl, N2q, K2, p2_0, p2_1, p2_2⟩ | ⟨rfl, N2q, K2, p2_0, p2_1, p2_2, p2_3⟩ | ⟨rfl, N2q, K2, p2_0, p2_1, p2_2, p2_3⟩
  · have pl2 := (allS (P := fun x => ∃ cell : Cell, h1[x]? = some cell ∧ cell.vm.isStatics = false) (own_ns EA1) all0)
    have N2 := Fr.app N0 N2q
    have f6 := (own_sta_keep (S_AD.ext E1) K2 pl2)
    have f7 := (own_sta_keep (S_HI.ext E1) K2 pl2)
    have f8 := (own_sta_keep (S_LO.ext E1) K2 pl2)
    have f9 := (f3.keep K2 (ninS (Nat.ne_of_lt (Nat.lt_of_lt_of_le V_r0.lt (Nat.le_of_eq g1.symm))) nin0))
    obtain ⟨_, T5, L5, X5, hQ5, st5⟩ := own_cS 0 (rmTB_3 l Z a0 hw [] r0 kC x0 x1 x2 T2.heap n0 (Nat.le_trans (Nat.le_trans Z0 E1.1) K2.1) f6 f7 f8 f9) X2 hx hZ hown hw 84 85 51 86 rfl rfl rfl rfl 23 #[rv r0, iv 0, iv 3, rv b1, iv 0, .unset] [(.ref r0), (.int 0), (.int 3)] [] (hb hby d10_23) hml (lenOf pd_5 rfl) rfl rfl (Nat.le_refl _) (by decide)
    have f10 := (EA1.keep K2)
    obtain ⟨ar_5, kk_5, rfl, N5q, K5, p5_0, p5_1, p5_2⟩ := hQ5
    have g_ar_5 : n0 ≤ ar_5 := Nat.le_trans (Nat.le_trans (Nat.le_trans Z0 E1.1) K2.1) p5_0
    have sz_ar_5 : h0.size ≤ ar_5 := Nat.le_trans (((Keep.refl h0 []).ext E1).trans K2 (allS (Or.inr sz_b1) all0)).1 p5_0
    have N5 := Fr.app N2 N5q
    have f12 := (own_sta_keep f6 K5 all0)
    have f13 := (own_sta_keep f7 K5 all0)
    have f14 := (own_sta_keep f8 K5 all0)
    obtain ⟨_, T11, L11, X11, hQ11, st11⟩ := own_cS 0 (rmGC_3_0 l Z a0 hw [] ar_5 kk_5 x0 x1 x2 T5.heap n0 (Nat.le_trans (Nat.le_trans (Nat.le_trans Z0 E1.1) K2.1) K5.1) f12 f13 f14 p5_1 hch_x0) X5 hx hZ hown hw 100 101 51 102 rfl rfl rfl rfl 32 #[rv r0, iv 0, iv 3, rv b1, iv 0, rv ar_5] [(.ref ar_5), (.int 0)] [] (hb hby d10_32) hml (lenOf pd_6 rfl) rfl rfl (Nat.le_refl _) (by decide)
    obtain ⟨rfl, N11q, e11⟩ := hQ11
    have N11 := Fr.app N5 N11q
    refine own_out X11 Bd.notSynchronized Bd.returns (some (.ref ar_5)) nofun (by decide) (by decide) ?_ fun fs hr => k4 _ ?_
    · rw [e11]; exact Or.inl (⟨ar_5, kk_5, rfl, N11, ((((Keep.refl h0 []).ext E1).trans K2 (allS (Or.inr sz_b1) all0)).trans K5 all0), sz_ar_5, p5_1, p5_2⟩)
    · refine st2 _ ?_
      refine XS.istore X2.here hx rfl (hb hby d10_12) rfl (l' := #[rv r0, iv 0, iv 3, rv b1, iv 0, .unset]) rfl ?_
      refine oIl X2 hx hby d10_14 rfl (oIn X2 hx hby d10_16 rfl ?_)
      refine XS.icmpNo X2.here hx rfl (hb hby d10_17) rfl (feq (by decide : ¬ ((0 : Int32) = (3 : Int32)))).1 ?_
      refine oAn X2 hx hby d10_20 rfl rfl (oIn X2 hx hby d10_21 rfl (oIn X2 hx hby d10_22 rfl ?_))
      refine st5 _ ?_
      refine XS.astore X5.here hx rfl (hb hby d10_26) rfl rfl (l' := #[rv r0, iv 0, iv 3, rv b1, iv 0, rv ar_5]) rfl ?_
      refine oAl X5 hx hby d10_28 rfl rfl (oIl X5 hx hby d10_30 rfl ?_)
      refine st11 _ ?_
      refine XS.sipush X11.here hx rfl (hb hby d10_35) ?_
      refine XS.icmpYes X11.here hx rfl (pc0 := 38) (pc' := 54) rfl (hb hby d10_38) rfl (tlt p2_1).2.2.1 (by decide) (by decide) ?_
      refine oAl X11 hx hby d10_54 rfl rfl ?_
      jvm_step X11.here [X11.here.top, hx, (hb hby d10_56), X11.method', Bd.returns, Value.isRef, FieldType.isReference]
      first | (intro acts; rw [hr _ acts rfl rfl rfl]) | rw [hr _ _ rfl rfl rfl]
      exact Steps.refl _
  · have pl2 := (allS (P := fun x => ∃ cell : Cell, h1[x]? = some cell ∧ cell.vm.isStatics = false) (own_ns EA1) all0)
    have N2 := Fr.app N0 N2q
    have f16 := (own_sta_keep (S_AD.ext E1) K2 pl2)
    have f17 := (own_sta_keep (S_HI.ext E1) K2 pl2)
    have f18 := (own_sta_keep (S_LO.ext E1) K2 pl2)
    have f19 := (f3.keep K2 (ninS (Nat.ne_of_lt (Nat.lt_of_lt_of_le V_r0.lt (Nat.le_of_eq g1.symm))) nin0))
    obtain ⟨_, T15, L15, X15, hQ15, st15⟩ := own_cS 0 (rmTB_3 l Z a0 hw [] r0 kC x0 x1 x2 T2.heap n0 (Nat.le_trans (Nat.le_trans Z0 E1.1) K2.1) f16 f17 f18 f19) X2 hx hZ hown hw 84 85 51 86 rfl rfl rfl rfl 23 #[rv r0, iv 0, iv 3, rv b1, iv 1, .unset] [(.ref r0), (.int 0), (.int 3)] [] (hb hby d10_23) hml (lenOf pd_5 rfl) rfl rfl (Nat.le_refl _) (by decide)
    have f20 := (EA1.keep K2)
    obtain ⟨ar_15, kk_15, rfl, N15q, K15, p15_0, p15_1, p15_2⟩ := hQ15
    have g_ar_15 : n0 ≤ ar_15 := Nat.le_trans (Nat.le_trans (Nat.le_trans Z0 E1.1) K2.1) p15_0
    have sz_ar_15 : h0.size ≤ ar_15 := Nat.le_trans (((Keep.refl h0 []).ext E1).trans K2 (allS (Or.inr sz_b1) all0)).1 p15_0
    have N15 := Fr.app N2 N15q
    have f22 := (own_sta_keep f16 K15 all0)
    have f23 := (own_sta_keep f17 K15 all0)
    have f24 := (own_sta_keep f18 K15 all0)
    obtain ⟨_, T21, L21, X21, hQ21, st21⟩ := own_cS 0 (rmGC_3_1 l Z a0 hw [] ar_15 kk_15 x0 x1 x2 T15.heap n0 (Nat.le_trans (Nat.le_trans (Nat.le_trans Z0 E1.1) K2.1) K15.1) f22 f23 f24 p15_1 hch_x1) X15 hx hZ hown hw 100 101 51 102 rfl rfl rfl rfl 32 #[rv r0, iv 0, iv 3, rv b1, iv 1, rv ar_15] [(.ref ar_15), (.int 1)] [] (hb hby d10_32) hml (lenOf pd_6 rfl) rfl rfl (Nat.le_refl _) (by decide)
    obtain ⟨rfl, N21q, e21⟩ := hQ21
    have N21 := Fr.app N15 N21q
    refine own_out X21 Bd.notSynchronized Bd.returns (some (.ref ar_15)) nofun (by decide) (by decide) ?_ fun fs hr => k4 _ ?_
    · rw [e21]; exact Or.inl (⟨ar_15, kk_15, rfl, N21, ((((Keep.refl h0 []).ext E1).trans K2 (allS (Or.inr sz_b1) all0)).trans K15 all0), sz_ar_15, p15_1, p15_2⟩)
    · refine st2 _ ?_
      refine XS.istore X2.here hx rfl (hb hby d10_12) rfl (l' := #[rv r0, iv 0, iv 3, rv b1, iv 1, .unset]) rfl ?_
      refine oIl X2 hx hby d10_14 rfl (oIn X2 hx hby d10_16 rfl ?_)
      refine XS.icmpNo X2.here hx rfl (hb hby d10_17) rfl (feq (by decide : ¬ ((1 : Int32) = (3 : Int32)))).1 ?_
      refine oAn X2 hx hby d10_20 rfl rfl (oIn X2 hx hby d10_21 rfl (oIn X2 hx hby d10_22 rfl ?_))
      refine st15 _ ?_
      refine XS.astore X15.here hx rfl (hb hby d10_26) rfl rfl (l' := #[rv r0, iv 0, iv 3, rv b1, iv 1, rv ar_15]) rfl ?_
      refine oAl X15 hx hby d10_28 rfl rfl (oIl X15 hx hby d10_30 rfl ?_)
      refine st21 _ ?_
      refine XS.sipush X21.here hx rfl (hb hby d10_35) ?_
      refine XS.icmpYes X21.here hx rfl (pc0 := 38) (pc' := 54) rfl (hb hby d10_38) rfl (tlt p2_2).2.2.1 (by decide) (by decide) ?_
      refine oAl X21 hx hby d10_54 rfl rfl ?_
      jvm_step X21.here [X21.here.top, hx, (hb hby d10_56), X21.method', Bd.returns, Value.isRef, FieldType.isReference]
      first | (intro acts; rw [hr _ acts rfl rfl rfl]) | rw [hr _ _ rfl rfl rfl]
      exact Steps.refl _
  · have pl2 := (allS (P := fun x => ∃ cell : Cell, h1[x]? = some cell ∧ cell.vm.isStatics = false) (own_ns EA1) all0)
    have N2 := Fr.app N0 N2q
    have f26 := (own_sta_keep (S_AD.ext E1) K2 pl2)
    have f27 := (own_sta_keep (S_HI.ext E1) K2 pl2)
    have f28 := (own_sta_keep (S_LO.ext E1) K2 pl2)
    have f29 := (f3.keep K2 (ninS (Nat.ne_of_lt (Nat.lt_of_lt_of_le V_r0.lt (Nat.le_of_eq g1.symm))) nin0))
    obtain ⟨_, T25, L25, X25, hQ25, st25⟩ := own_cS 0 (rmTB_3 l Z a0 hw [] r0 kC x0 x1 x2 T2.heap n0 (Nat.le_trans (Nat.le_trans Z0 E1.1) K2.1) f26 f27 f28 f29) X2 hx hZ hown hw 84 85 51 86 rfl rfl rfl rfl 23 #[rv r0, iv 0, iv 3, rv b1, iv 2, .unset] [(.ref r0), (.int 0), (.int 3)] [] (hb hby d10_23) hml (lenOf pd_5 rfl) rfl rfl (Nat.le_refl _) (by decide)
    have f30 := (EA1.keep K2)
    obtain ⟨ar_25, kk_25, rfl, N25q, K25, p25_0, p25_1, p25_2⟩ := hQ25
    have g_ar_25 : n0 ≤ ar_25 := Nat.le_trans (Nat.le_trans (Nat.le_trans Z0 E1.1) K2.1) p25_0
    have sz_ar_25 : h0.size ≤ ar_25 := Nat.le_trans (((Keep.refl h0 []).ext E1).trans K2 (allS (Or.inr sz_b1) all0)).1 p25_0
    have N25 := Fr.app N2 N25q
    have f32 := (own_sta_keep f26 K25 all0)
    have f33 := (own_sta_keep f27 K25 all0)
    have f34 := (own_sta_keep f28 K25 all0)
    obtain ⟨_, T31, L31, X31, hQ31, st31⟩ := own_cS 0 (rmGC_3_2 l Z a0 hw [] ar_25 kk_25 x0 x1 x2 T25.heap n0 (Nat.le_trans (Nat.le_trans (Nat.le_trans Z0 E1.1) K2.1) K25.1) f32 f33 f34 p25_1 hch_x2) X25 hx hZ hown hw 100 101 51 102 rfl rfl rfl rfl 32 #[rv r0, iv 0, iv 3, rv b1, iv 2, rv ar_25] [(.ref ar_25), (.int 2)] [] (hb hby d10_32) hml (lenOf pd_6 rfl) rfl rfl (Nat.le_refl _) (by decide)
    obtain ⟨rfl, N31q, e31⟩ := hQ31
    have N31 := Fr.app N25 N31q
    refine own_out X31 Bd.notSynchronized Bd.returns (some (.ref ar_25)) nofun (by decide) (by decide) ?_ fun fs hr => k4 _ ?_
    · rw [e31]; exact Or.inl (⟨ar_25, kk_25, rfl, N31, ((((Keep.refl h0 []).ext E1).trans K2 (allS (Or.inr sz_b1) all0)).trans K25 all0), sz_ar_25, p25_1, p25_2⟩)
    · refine st2 _ ?_
      refine XS.istore X2.here hx rfl (hb hby d10_12) rfl (l' := #[rv r0, iv 0, iv 3, rv b1, iv 2, .unset]) rfl ?_
      refine oIl X2 hx hby d10_14 rfl (oIn X2 hx hby d10_16 rfl ?_)
      refine XS.icmpNo X2.here hx rfl (hb hby d10_17) rfl (feq (by decide : ¬ ((2 : Int32) = (3 : Int32)))).1 ?_
      refine oAn X2 hx hby d10_20 rfl rfl (oIn X2 hx hby d10_21 rfl (oIn X2 hx hby d10_22 rfl ?_))
      refine st25 _ ?_
      refine XS.astore X25.here hx rfl (hb hby d10_26) rfl rfl (l' := #[rv r0, iv 0, iv 3, rv b1, iv 2, rv ar_25]) rfl ?_
      refine oAl X25 hx hby d10_28 rfl rfl (oIl X25 hx hby d10_30 rfl ?_)
      refine st31 _ ?_
      refine XS.sipush X31.here hx rfl (hb hby d10_35) ?_
      refine XS.icmpYes X31.here hx rfl (pc0 := 38) (pc' := 54) rfl (hb hby d10_38) rfl (tlt p2_3).2.2.1 (by decide) (by decide) ?_
      refine oAl X31 hx hby d10_54 rfl rfl ?_
      jvm_step X31.here [X31.here.top, hx, (hb hby d10_56), X31.method', Bd.returns, Value.isRef, FieldType.isReference]
      first | (intro acts; rw [hr _ acts rfl rfl rfl]) | rw [hr _ _ rfl rfl rfl]
      exact Steps.refl _
  · have pl2 := (allS (P := fun x => ∃ cell : Cell, h1[x]? = some cell ∧ cell.vm.isStatics = false) (own_ns EA1) all0)
    have N2 := Fr.app N0 N2q
    have f35 := (EA1.keep K2)
    refine own_out X2 Bd.notSynchronized Bd.returns (some (.ref b1)) nofun (by decide) (by decide) ?_ fun fs hr => k4 _ ?_
    · exact Or.inr ((⟨b1, k1, rfl, N2, (((Keep.refl h0 []).ext E1).trans K2 (allS (Or.inr sz_b1) all0)), sz_b1, p2_0, f35, p2_1, p2_2, p2_3⟩))
    · refine st2 _ ?_
      refine XS.istore X2.here hx rfl (hb hby d10_12) rfl (l' := #[rv r0, iv 0, iv 3, rv b1, iv 3, .unset]) rfl ?_
      refine oIl X2 hx hby d10_14 rfl (oIn X2 hx hby d10_16 rfl ?_)
      refine XS.icmpYes X2.here hx rfl (pc0 := 17) (pc' := 57) rfl (hb hby d10_17) rfl (teq (by decide : (3 : Int32) = (3 : Int32))).1 (by decide) (by decide) ?_
      refine oAn X2 hx hby d10_57 rfl rfl ?_
      jvm_step X2.here [X2.here.top, hx, (hb hby d10_58), X2.method', Bd.returns, Value.isRef, FieldType.isReference]
      first | (intro acts; rw [hr _ acts rfl rfl rfl]) | rw [hr _ _ rfl rfl rfl]
      exact Steps.refl _
def Q_Cd_3_3 (Z : State) (r0 : Addr) (kB : ClassId) (vs : List Value) (h0 : Heap) (n0 : Nat) (v : Option Value) (h : Heap) (L : List Loc) : Prop := v = some (.int 0) ∧ Fr n0 L ∧ h = h0
theorem rmCd_3_3 (l : Launch) (Z : State) (a0 : Array Value) (hw : own_HW a0 Z) (ws : List Jvm.Cond) (r0 : Addr) (kB : ClassId) (vs : List Value) (h0 : Heap) (n0 : Nat) (Z0 : n0 ≤ h0.size) (V_r0 : Arv Z h0 r0 kB .byte (3 : Int32) vs (.int 0)) :
    own_M l Z (⟨cS0, "coderFromArrayLen", "([BI)B"⟩ : MethodName) jdk_52_method_15_code 2 (some .byte) ws ({ frames := 0, cells := 0, slots := 0, locals := 0 } : Room) #[(.ref r0), (.int 3)] h0 (Q_Cd_3_3 Z r0 kB vs h0 n0) := by
  refine own_in cS0 rfl (plainFor_of_name pn_java_lang_StringUTF16) ?_
  intro p e s m below meth c s₁ Bd hml hZ hh hx hby hown X0 e0
  have N0 := Fr.nil n0
  have k0 := own_k (p := p) (e := e) (below := below) (T := s₁) (ef_12 m r0 (3 : Int32))
  obtain ⟨cl_z1, Ar_z1, q_z1, S_z1, N_z1, H_z1, G_z1⟩ := id V_r0
  refine own_out X0 Bd.notSynchronized Bd.returns (some (.int 0)) nofun (by decide) (by decide) ?_ fun fs hr => k0 _ ?_
  · rw [e0]; exact ⟨rfl, N0, rfl⟩
  · show OwnS p e below s₁ (mkF m 0 #[rv r0, iv 3] []) _
    refine oIn X0 hx hby d12_0 rfl (oAn X0 hx hby d12_1 rfl rfl ?_)
    refine X0.arraylength hx (by rw [e0]; exact Ar_z1.1) (State.isArrayOf_alike hZ.alike Ar_z1.2.1) (g := (mkF m 2 #[rv r0, iv 3] [(.ref r0), (.int 3)])) rfl rfl (hb hby d12_2) _ ?_
    rw [len_of S_z1 N_z1]
    refine XS.isub X0.here hx rfl (hb hby d12_3) rfl ?_
    refine oBp X0 hx hby d12_4 ?_
    refine XS.iushr X0.here hx rfl (hb hby d12_6) rfl ?_
    refine XS.i2b X0.here hx rfl (hb hby d12_7) rfl ?_
    exact retN X0 hx (t := .byte) Bd.returns (by simp) (hb hby d12_8) hr
def Q_Cd_3_6 (Z : State) (r0 : Addr) (kB : ClassId) (vs : List Value) (h0 : Heap) (n0 : Nat) (v : Option Value) (h : Heap) (L : List Loc) : Prop := v = some (.int 1) ∧ Fr n0 L ∧ h = h0
theorem rmCd_3_6 (l : Launch) (Z : State) (a0 : Array Value) (hw : own_HW a0 Z) (ws : List Jvm.Cond) (r0 : Addr) (kB : ClassId) (vs : List Value) (h0 : Heap) (n0 : Nat) (Z0 : n0 ≤ h0.size) (V_r0 : Arv Z h0 r0 kB .byte (6 : Int32) vs (.int 0)) :
    own_M l Z (⟨cS0, "coderFromArrayLen", "([BI)B"⟩ : MethodName) jdk_52_method_15_code 2 (some .byte) ws ({ frames := 0, cells := 0, slots := 0, locals := 0 } : Room) #[(.ref r0), (.int 3)] h0 (Q_Cd_3_6 Z r0 kB vs h0 n0) := by
  refine own_in cS0 rfl (plainFor_of_name pn_java_lang_StringUTF16) ?_
  intro p e s m below meth c s₁ Bd hml hZ hh hx hby hown X0 e0
  have N0 := Fr.nil n0
  have k0 := own_k (p := p) (e := e) (below := below) (T := s₁) (ef_12 m r0 (3 : Int32))
  obtain ⟨cl_z1, Ar_z1, q_z1, S_z1, N_z1, H_z1, G_z1⟩ := id V_r0
  refine own_out X0 Bd.notSynchronized Bd.returns (some (.int 1)) nofun (by decide) (by decide) ?_ fun fs hr => k0 _ ?_
  · rw [e0]; exact ⟨rfl, N0, rfl⟩
  · show OwnS p e below s₁ (mkF m 0 #[rv r0, iv 3] []) _
    refine oIn X0 hx hby d12_0 rfl (oAn X0 hx hby d12_1 rfl rfl ?_)
    refine X0.arraylength hx (by rw [e0]; exact Ar_z1.1) (State.isArrayOf_alike hZ.alike Ar_z1.2.1) (g := (mkF m 2 #[rv r0, iv 3] [(.ref r0), (.int 3)])) rfl rfl (hb hby d12_2) _ ?_
    rw [len_of S_z1 N_z1]
    refine XS.isub X0.here hx rfl (hb hby d12_3) rfl ?_
    refine oBp X0 hx hby d12_4 ?_
    refine XS.iushr X0.here hx rfl (hb hby d12_6) rfl ?_
    refine XS.i2b X0.here hx rfl (hb hby d12_7) rfl ?_
    exact retN X0 hx (t := .byte) Bd.returns (by simp) (hb hby d12_8) hr
def Q_I2_3 (Z : State) (r0 r1 : Addr) (w_CS : Int32) (kC : ClassId) (x0 x1 x2 : Int32) (u_coder_r0 u_value_r0 u_coder_r0 u_value_r0 : Value) (h0 : Heap) (n0 : Nat) (v : Option Value) (h : Heap) (L : List Loc) : Prop := v = none ∧ Fr n0 L ∧ Keep h0 h [r0] ∧ own_S3 Z h r0 x0 x1 x2 ∧ Exa Z h r0 cS1
theorem rmI2_3 (l : Launch) (Z : State) (a0 : Array Value) (hw : own_HW a0 Z) (ws : List Jvm.Cond) (r0 r1 : Addr) (w_CS : Int32) (kC : ClassId) (x0 x1 x2 : Int32) (u_coder_r0 u_value_r0 u_coder_r0 u_value_r0 : Value) (h0 : Heap) (n0 : Nat) (Z0 : n0 ≤ h0.size) (S_CS : Sta Z h0 cS1 cS10 "Z" (.int w_CS)) (hcs : ¬ (w_CS = (0 : Int32))) (S_AD : Sta Z h0 cS0 cS5 "Z" (.int 1)) (S_HI : Sta Z h0 cS0 cS7 "I" (.int 0)) (S_LO : Sta Z h0 cS0 cS8 "I" (.int 8)) (E_r0 : Exa Z h0 r0 cS1) (V_r1 : Arv Z h0 r1 kC .char (3 : Int32) [(.int x0), (.int x1), (.int x2)] (.int 0)) (hch_x0 : own_ch x0) (hch_x1 : own_ch x1) (hch_x2 : own_ch x2) (F_coder_r0 : Fld Z h0 r0 cS1 "coder" "B" u_coder_r0) (ge_r0 : n0 ≤ r0) (F_value_r0 : Fld Z h0 r0 cS1 "value" "[B" u_value_r0) :
    own_M l Z (⟨cS1, "<init>", "([CIILjava/lang/Void;)V"⟩ : MethodName) jdk_42_method_149_code 6 none ws ({ frames := 4, cells := 2, slots := 9, locals := 57 } : Room) #[(.ref r0), (.ref r1), (.int 0), (.int 3), .null] h0 (Q_I2_3 Z r0 r1 w_CS kC x0 x1 x2 u_coder_r0 u_value_r0 u_coder_r0 u_value_r0 h0 n0) := by
  refine own_in cS1 rfl (plainFor_of_name pn_java_lang_String) ?_
  intro p e s m below meth c s₁ Bd hml hZ hh hx hby hown X0 e0
  have N0 := Fr.nil n0
  have hnm := (name_of_methodNamed Bd.named Bd.method).1
  have k0 := own_k (p := p) (e := e) (below := below) (T := s₁) (ef_4n4 m r0 r1 (0 : Int32) (3 : Int32))
  obtain ⟨T1, X1, e1, st1⟩ := initO X0 hx hZ hown (own_at hw 20 rfl) (own_at hw 21 rfl) (own_at hw 22 rfl) e0 (g := (mkF m 1 #[rv r0, rv r1, iv 0, iv 3, .val .null, .unset] [(.ref r0)])) rfl (by rw [hml]; rfl) rfl (hb hby d4_1) (by decide) (W := 0) (Nat.le_refl _) (by decide)
  obtain ⟨T2, X2, e2, st2⟩ := getS2 X1 hx hZ hown (host := "") (Or.inl (own_at hw 45 rfl)) Via.refl e1 S_CS (g := (mkF m 27 #[rv r0, rv r1, iv 0, iv 3, .val .null, .unset] [])) rfl (hb hby d4_27)
  obtain ⟨_, T3, L3, X3, hQ3, st3⟩ := own_cS 0 (rmC1_3 l Z a0 hw [] r1 kC x0 x1 x2 h0 n0 Z0 S_AD S_HI S_LO V_r1 hch_x0 hch_x1 hch_x2) X2 hx hZ hown hw 49 50 51 52 rfl rfl rfl rfl 36 #[rv r0, rv r1, iv 0, iv 3, .val .null, .unset] [(.ref r1), (.int 0), (.int 3)] [] (hb hby d4_36) hml (lenOf pd_5 rfl) e2 rfl (Nat.le_refl _) (by decide)
  have k4 : ∀ t, OwnS p e below T2 (mkF m 36 #[rv r0, rv r1, iv 0, iv 3, .val .null, .unset] [(.int 3), (.int 0), (.ref r1)]) t → OwnS p e below s₁ (entryFrame m #[(.ref r0), (.ref r1), (.int 0), (.int 3), .null] 6) t := fun t q => by
   refine k0 t ?_
   show OwnS p e below s₁ (mkF m 0 #[rv r0, rv r1, iv 0, iv 3, .val .null, .unset] []) _
   refine oAn X0 hx hby d4_0 rfl rfl ?_
   refine st1 _ ?_
   refine oIn X1 hx hby d4_4 rfl ?_
   refine XS.ifYes X1.here hx rfl (pc0 := 5) (pc' := 27) rfl (hb hby d4_5) rfl ((if0 _ _).trans (feq (by decide : ¬ ((3 : Int32) = (0 : Int32)))).2) (by decide) (by decide) ?_
   refine st2 _ ?_
   refine XS.ifNo X2.here hx rfl (hb hby d4_30) rfl ((if0 _ _).trans (feq hcs).1) ?_
   refine oAn X2 hx hby d4_33 rfl rfl (oIn X2 hx hby d4_34 rfl (oIn X2 hx hby d4_35 rfl ?_))
   exact q
  rcases hQ3 with ⟨ar_3, kk_3, rfl, N3q, K3, p3_0, p3_1, p3_2⟩ | ⟨ar_3, kk_3, rfl, N3q, K3, p3_0, p3_1, p3_2, p3_3, p3_4, p3_5⟩
  · have g_ar_3 : n0 ≤ ar_3 := Nat.le_trans Z0 p3_0
    have sz_ar_3 : h0.size ≤ ar_3 := Nat.le_trans (Keep.refl h0 []).1 p3_0
    have N3 := Fr.app N0 N3q
    obtain ⟨_, T5, L5, X5, hQ5, st5⟩ := own_cS 1 (rmCd_3_6 l Z a0 hw [] ar_3 kk_3 [(.int (((x0 >>> ((0 : Int32) &&& 31)).toInt8.toInt32).toInt8.toInt32)), (.int (((x0 >>> ((8 : Int32) &&& 31)).toInt8.toInt32).toInt8.toInt32)), (.int (((x1 >>> ((0 : Int32) &&& 31)).toInt8.toInt32).toInt8.toInt32)), (.int (((x1 >>> ((8 : Int32) &&& 31)).toInt8.toInt32).toInt8.toInt32)), (.int (((x2 >>> ((0 : Int32) &&& 31)).toInt8.toInt32).toInt8.toInt32)), (.int (((x2 >>> ((8 : Int32) &&& 31)).toInt8.toInt32).toInt8.toInt32))] T3.heap n0 (Nat.le_trans Z0 K3.1) p3_1) X3 hx hZ hown hw 56 57 51 58 rfl rfl rfl rfl 45 #[rv r0, rv r1, iv 0, iv 3, .val .null, rv ar_3] [(.ref ar_3), (.int 3)] [(.ref r0)] (hb hby d4_45) hml (lenOf pd_7 rfl) rfl rfl (Nat.le_refl _) (by decide)
    obtain ⟨rfl, N5q, e5⟩ := hQ5
    have N5 := Fr.app N3 N5q
    have f6 := (E_r0.keep K3)
    have f7 := (F_coder_r0.keep K3 nin0)
    obtain ⟨T8, h8, X8, e8, W8, st8⟩ := putFN X5 hx hZ hown (own_at hw 30 rfl) Via.refl e5 f7 f6 (Or.inr ⟨(own_at hw 26 rfl), rfl, hnm⟩) (own_at hw 11 rfl) (ty := .byte) (v' := (.int 1)) (by decide) rfl rfl (g := (mkF m 48 #[rv r0, rv r1, iv 0, iv 3, .val .null, rv ar_3] [(.int 1), (.ref r0)])) rfl rfl (hb hby d4_48)
    have Fw8 : Fld Z h8 r0 cS1 "coder" "B" (.int 1) := f7.same W8
    have N8 := Fr.snoc X8 N5 ge_r0
    have f9 := (f6.wr W8)
    have f10 := ((F_value_r0.keep K3 nin0).other W8 (Or.inr (slot_ne (Or.inr (own_at hw 25 rfl)) (Or.inr (own_at hw 26 rfl)) (by decide) (t := (.array .byte)) (t' := .byte) (by decide) (by decide))))
    obtain ⟨T11, h11, X11, e11, W11, st11⟩ := putF X8 hx hZ hown (host := "") (Or.inl (own_at hw 29 rfl)) Via.refl e8 f10 f9 (Or.inr ⟨(own_at hw 25 rfl), rfl, hnm⟩) (own_at hw 11 rfl) (ty := (.array .byte)) (by decide) rfl rfl (g := (mkF m 54 #[rv r0, rv r1, iv 0, iv 3, .val .null, rv ar_3] [(.ref ar_3), (.ref r0)])) rfl rfl (hb hby d4_54)
    have Fw11 : Fld Z h11 r0 cS1 "value" "[B" (.ref ar_3) := f10.same W11
    have N11 := Fr.snoc X11 N8 ge_r0
    have f12 := ((p3_1.other W8 (Ne.symm (Nat.ne_of_lt (Nat.lt_of_lt_of_le E_r0.lt p3_0)))).other W11 (Ne.symm (Nat.ne_of_lt (Nat.lt_of_lt_of_le E_r0.lt p3_0))))
    have f14 := (f9.wr W11)
    have f15 := (Fw8.other W11 (Or.inr (slot_ne (Or.inr (own_at hw 26 rfl)) (Or.inr (own_at hw 25 rfl)) (by decide) (t := .byte) (t' := (.array .byte)) (by decide) (by decide))))
    have P13 : own_S3 Z h11 r0 x0 x1 x2 := ⟨f14, Or.inr ⟨ar_3, kk_3, f15, Fw11, f12⟩⟩
    refine own_out X11 Bd.notSynchronized Bd.returns (none) (fun _ => rfl) (by decide) (by decide) ?_ fun fs hr => k4 _ ?_
    · rw [e11]; exact ⟨rfl, N11, ((((Keep.refl h0 [r0]).trans K3 all0).wr W8 (Or.inl (List.mem_of_getElem? (i := 0) rfl))).wr W11 (Or.inl (List.mem_of_getElem? (i := 0) rfl))), P13, f14⟩
    · refine st3 _ ?_
      refine XS.astore X3.here hx rfl (hb hby d4_39) rfl rfl (l' := #[rv r0, rv r1, iv 0, iv 3, .val .null, rv ar_3]) rfl ?_
      refine oAn X3 hx hby d4_41 rfl rfl (oAl X3 hx hby d4_42 rfl rfl (oIn X3 hx hby d4_44 rfl ?_))
      refine st5 _ ?_
      refine st8 _ ?_
      refine oAn X8 hx hby d4_51 rfl rfl (oAl X8 hx hby d4_52 rfl rfl ?_)
      refine st11 _ ?_
      exact X11.returnOut hx Bd.returns (hb hby d4_57) hr
  · have g_ar_3 : n0 ≤ ar_3 := Nat.le_trans Z0 p3_0
    have sz_ar_3 : h0.size ≤ ar_3 := Nat.le_trans (Keep.refl h0 []).1 p3_0
    have N3 := Fr.app N0 N3q
    obtain ⟨_, T16, L16, X16, hQ16, st16⟩ := own_cS 1 (rmCd_3_3 l Z a0 hw [] ar_3 kk_3 [(.int ((x0.toInt8.toInt32).toInt8.toInt32)), (.int ((x1.toInt8.toInt32).toInt8.toInt32)), (.int ((x2.toInt8.toInt32).toInt8.toInt32))] T3.heap n0 (Nat.le_trans Z0 K3.1) p3_1) X3 hx hZ hown hw 56 57 51 58 rfl rfl rfl rfl 45 #[rv r0, rv r1, iv 0, iv 3, .val .null, rv ar_3] [(.ref ar_3), (.int 3)] [(.ref r0)] (hb hby d4_45) hml (lenOf pd_7 rfl) rfl rfl (Nat.le_refl _) (by decide)
    obtain ⟨rfl, N16q, e16⟩ := hQ16
    have N16 := Fr.app N3 N16q
    have f17 := (E_r0.keep K3)
    have f18 := (F_coder_r0.keep K3 nin0)
    obtain ⟨T19, h19, X19, e19, W19, st19⟩ := putFN X16 hx hZ hown (own_at hw 30 rfl) Via.refl e16 f18 f17 (Or.inr ⟨(own_at hw 26 rfl), rfl, hnm⟩) (own_at hw 11 rfl) (ty := .byte) (v' := (.int 0)) (by decide) rfl rfl (g := (mkF m 48 #[rv r0, rv r1, iv 0, iv 3, .val .null, rv ar_3] [(.int 0), (.ref r0)])) rfl rfl (hb hby d4_48)
    have Fw19 : Fld Z h19 r0 cS1 "coder" "B" (.int 0) := f18.same W19
    have N19 := Fr.snoc X19 N16 ge_r0
    have f20 := (f17.wr W19)
    have f21 := ((F_value_r0.keep K3 nin0).other W19 (Or.inr (slot_ne (Or.inr (own_at hw 25 rfl)) (Or.inr (own_at hw 26 rfl)) (by decide) (t := (.array .byte)) (t' := .byte) (by decide) (by decide))))
    obtain ⟨T22, h22, X22, e22, W22, st22⟩ := putF X19 hx hZ hown (host := "") (Or.inl (own_at hw 29 rfl)) Via.refl e19 f21 f20 (Or.inr ⟨(own_at hw 25 rfl), rfl, hnm⟩) (own_at hw 11 rfl) (ty := (.array .byte)) (by decide) rfl rfl (g := (mkF m 54 #[rv r0, rv r1, iv 0, iv 3, .val .null, rv ar_3] [(.ref ar_3), (.ref r0)])) rfl rfl (hb hby d4_54)
    have Fw22 : Fld Z h22 r0 cS1 "value" "[B" (.ref ar_3) := f21.same W22
    have N22 := Fr.snoc X22 N19 ge_r0
    have f23 := ((p3_1.other W19 (Ne.symm (Nat.ne_of_lt (Nat.lt_of_lt_of_le E_r0.lt p3_0)))).other W22 (Ne.symm (Nat.ne_of_lt (Nat.lt_of_lt_of_le E_r0.lt p3_0))))
    have f25 := (f20.wr W22)
    have f26 := (Fw19.other W22 (Or.inr (slot_ne (Or.inr (own_at hw 26 rfl)) (Or.inr (own_at hw 25 rfl)) (by decide) (t := .byte) (t' := (.array .byte)) (by decide) (by decide))))
    have P24 : own_S3 Z h22 r0 x0 x1 x2 := ⟨f25, Or.inl ⟨ar_3, kk_3, f26, Fw22, f23, p3_3, p3_4, p3_5⟩⟩
    refine own_out X22 Bd.notSynchronized Bd.returns (none) (fun _ => rfl) (by decide) (by decide) ?_ fun fs hr => k4 _ ?_
    · rw [e22]; exact ⟨rfl, N22, ((((Keep.refl h0 [r0]).trans K3 all0).wr W19 (Or.inl (List.mem_of_getElem? (i := 0) rfl))).wr W22 (Or.inl (List.mem_of_getElem? (i := 0) rfl))), P24, f25⟩
    · refine st3 _ ?_
      refine XS.astore X3.here hx rfl (hb hby d4_39) rfl rfl (l' := #[rv r0, rv r1, iv 0, iv 3, .val .null, rv ar_3]) rfl ?_
      refine oAn X3 hx hby d4_41 rfl rfl (oAl X3 hx hby d4_42 rfl rfl (oIn X3 hx hby d4_44 rfl ?_))
      refine st16 _ ?_
      refine st19 _ ?_
      refine oAn X19 hx hby d4_51 rfl rfl (oAl X19 hx hby d4_52 rfl rfl ?_)
      refine st22 _ ?_
      exact X22.returnOut hx Bd.returns (hb hby d4_57) hr
def Q_I1_3 (Z : State) (r0 r1 : Addr) (w_CS : Int32) (kC : ClassId) (x0 x1 x2 : Int32) (u_coder_r0 u_value_r0 : Value) (h0 : Heap) (n0 : Nat) (v : Option Value) (h : Heap) (L : List Loc) : Prop := v = none ∧ Fr n0 L ∧ Keep h0 h [r0] ∧ own_S3 Z h r0 x0 x1 x2 ∧ Exa Z h r0 cS1
theorem rmI1_3 (l : Launch) (Z : State) (a0 : Array Value) (hw : own_HW a0 Z) (ws : List Jvm.Cond) (r0 r1 : Addr) (w_CS : Int32) (kC : ClassId) (x0 x1 x2 : Int32) (u_coder_r0 u_value_r0 : Value) (h0 : Heap) (n0 : Nat) (Z0 : n0 ≤ h0.size) (S_CS : Sta Z h0 cS1 cS10 "Z" (.int w_CS)) (hcs : ¬ (w_CS = (0 : Int32))) (S_AD : Sta Z h0 cS0 cS5 "Z" (.int 1)) (S_HI : Sta Z h0 cS0 cS7 "I" (.int 0)) (S_LO : Sta Z h0 cS0 cS8 "I" (.int 8)) (E_r0 : Exa Z h0 r0 cS1) (V_r1 : Arv Z h0 r1 kC .char (3 : Int32) [(.int x0), (.int x1), (.int x2)] (.int 0)) (hch_x0 : own_ch x0) (hch_x1 : own_ch x1) (hch_x2 : own_ch x2) (F_coder_r0 : Fld Z h0 r0 cS1 "coder" "B" u_coder_r0) (ge_r0 : n0 ≤ r0) (F_value_r0 : Fld Z h0 r0 cS1 "value" "[B" u_value_r0) :
    own_M l Z (⟨cS1, "<init>", "([C)V"⟩ : MethodName) jdk_42_method_3_code 2 none ws ({ frames := 5, cells := 2, slots := 9, locals := 74 } : Room) #[(.ref r0), (.ref r1)] h0 (Q_I1_3 Z r0 r1 w_CS kC x0 x1 x2 u_coder_r0 u_value_r0 h0 n0) := by
  refine own_in cS1 rfl (plainFor_of_name pn_java_lang_String) ?_
  intro p e s m below meth c s₁ Bd hml hZ hh hx hby hown X0 e0
  have N0 := Fr.nil n0
  have k0 := own_k (p := p) (e := e) (below := below) (T := s₁) (ef_3 m r0 r1)
  obtain ⟨cl_z1, Ar_z1, q_z1, S_z1, N_z1, H_z1, G_z1⟩ := id V_r1
  obtain ⟨_, _, ⟨T2, L2, j2, i2⟩, -, X2, ⟨Lc2, hQ2, l2, y2, z2⟩, st2⟩ := X0.specialBack hx (y := (⟨cS1, "<init>", "([CIILjava/lang/Void;)V"⟩ : MethodName)) rfl hown (mvT hZ (own_at hw 16 rfl)) (mvT hZ (own_at hw 17 rfl)) (mvT hZ (own_at hw 19 rfl)) (by decide) (backOf (W := 0) (rmI2_3 l Z a0 hw [] r0 r1 w_CS kC x0 x1 x2 u_coder_r0 u_value_r0 u_coder_r0 u_value_r0 h0 n0 Z0 S_CS hcs S_AD S_HI S_LO E_r0 V_r1 hch_x0 hch_x1 hch_x2 F_coder_r0 ge_r0 F_value_r0) hZ (own_at hw 19 rfl) (own_at hw 12 rfl) (by decide) (by decide)) (g := (mkF m 6 #[rv r0, rv r1] [.null, (.int 3), (.int 0), (.ref r1), (.ref r0)])) rfl (by rw [hml]; rfl) (Steps.refl _) (a := r0) (argsL := [(.ref r1), (.int 0), (.int 3), .null]) (rest := []) (lenOf pd_8 rfl) rfl (Nat.le_refl _) (hb hby d3_6) (fun _ _ => ⟨rfl, e0, (by decide : 0 + 2 ≤ _), (by decide : 0 + 9 ≤ _)⟩)
  dsimp only [Pt.U, Pt.locs, Pt.cells, Pt.slots] at X2 l2 y2 z2 st2 hQ2
  subst l2 y2 z2
  obtain ⟨rfl, N2q, K2, p2_0, p2_1⟩ := hQ2
  have pl2 := (allS (P := fun x => ∃ cell : Cell, h0[x]? = some cell ∧ cell.vm.isStatics = false) (own_ns E_r0) all0)
  have N2 := Fr.app N0 N2q
  refine own_out X2 Bd.notSynchronized Bd.returns (none) (fun _ => rfl) (by decide) (by decide) ?_ fun fs hr => k0 _ ?_
  · exact ⟨rfl, N2, ((Keep.refl h0 [r0]).trans K2 (allS (Or.inl (List.mem_of_getElem? (i := 0) rfl)) all0)), p2_0, p2_1⟩
  · show OwnS p e below s₁ (mkF m 0 #[rv r0, rv r1] []) _
    refine oAn X0 hx hby d3_0 rfl rfl (oAn X0 hx hby d3_1 rfl rfl (oIc X0 hx hby d3_2 (oAn X0 hx hby d3_3 rfl rfl ?_)))
    refine X0.arraylength hx (by rw [e0]; exact Ar_z1.1) (State.isArrayOf_alike hZ.alike Ar_z1.2.1) (g := (mkF m 4 #[rv r0, rv r1] [(.ref r1), (.int 0), (.ref r1), (.ref r0)])) rfl rfl (hb hby d3_4) _ ?_
    rw [len_of S_z1 N_z1]
    refine XS.aconstNull X0.here hx rfl (hb hby d3_5) ?_
    refine st2.trans ?_
    exact X2.returnOut hx Bd.returns (hb hby d3_9) hr
def Q_UL_4 (Z : State) (r0 : Addr) (kB : ClassId) (vs : List Value) (h0 : Heap) (n0 : Nat) (v : Option Value) (h : Heap) (L : List Loc) : Prop := v = some (.int 4) ∧ Fr n0 L ∧ h = h0
theorem rmUL_4 (l : Launch) (Z : State) (a0 : Array Value) (hw : own_HW a0 Z) (ws : List Jvm.Cond) (r0 : Addr) (kB : ClassId) (vs : List Value) (h0 : Heap) (n0 : Nat) (Z0 : n0 ≤ h0.size) (V_r0 : Arv Z h0 r0 kB .byte (8 : Int32) vs (.int 0)) :
    own_M l Z (⟨cS0, "length", "([B)I"⟩ : MethodName) jdk_52_method_6_code 1 (some .int) ws ({ frames := 0, cells := 0, slots := 0, locals := 0 } : Room) #[(.ref r0)] h0 (Q_UL_4 Z r0 kB vs h0 n0) := by
  refine own_in cS0 rfl (plainFor_of_name pn_java_lang_StringUTF16) ?_
  intro p e s m below meth c s₁ Bd hml hZ hh hx hby hown X0 e0
  have N0 := Fr.nil n0
  have k0 := own_k (p := p) (e := e) (below := below) (T := s₁) (ef_26 m r0)
  obtain ⟨cl_z1, Ar_z1, q_z1, S_z1, N_z1, H_z1, G_z1⟩ := id V_r0
  refine own_out X0 Bd.notSynchronized Bd.returns (some (.int 4)) nofun (by decide) (by decide) ?_ fun fs hr => k0 _ ?_
  · rw [e0]; exact ⟨rfl, N0, rfl⟩
  · show OwnS p e below s₁ (mkF m 0 #[rv r0] []) _
    refine oAn X0 hx hby d26_0 rfl rfl ?_
    refine X0.arraylength hx (by rw [e0]; exact Ar_z1.1) (State.isArrayOf_alike hZ.alike Ar_z1.2.1) (g := (mkF m 1 #[rv r0] [(.ref r0)])) rfl rfl (hb hby d26_1) _ ?_
    rw [len_of S_z1 N_z1]
    refine oIc X0 hx hby d26_2 ?_
    refine XS.ishr X0.here hx rfl (hb hby d26_3) rfl ?_
    exact retI X0 hx Bd.returns (hb hby d26_4) hr
def Q_NL_4 (Z : State)  (h0 : Heap) (n0 : Nat) (v : Option Value) (h : Heap) (L : List Loc) : Prop := v = some (.int 8) ∧ Fr n0 L ∧ h = h0
theorem rmNL_4 (l : Launch) (Z : State) (a0 : Array Value) (hw : own_HW a0 Z) (ws : List Jvm.Cond)  (h0 : Heap) (n0 : Nat) (Z0 : n0 ≤ h0.size) :
    own_M l Z (⟨cS0, "newBytesLength", "(I)I"⟩ : MethodName) jdk_52_method_3_code 1 (some .int) ws ({ frames := 0, cells := 0, slots := 0, locals := 0 } : Room) #[(.int 4)] h0 (Q_NL_4 Z  h0 n0) := by
  refine own_in cS0 rfl (plainFor_of_name pn_java_lang_StringUTF16) ?_
  intro p e s m below meth c s₁ Bd hml hZ hh hx hby hown X0 e0
  have N0 := Fr.nil n0
  have k0 := own_k (p := p) (e := e) (below := below) (T := s₁) (ef_21 m (4 : Int32))
  refine own_out X0 Bd.notSynchronized Bd.returns (some (.int 8)) nofun (by decide) (by decide) ?_ fun fs hr => k0 _ ?_
  · rw [e0]; exact ⟨rfl, N0, rfl⟩
  · show OwnS p e below s₁ (mkF m 0 #[iv 4] []) _
    refine oIn X0 hx hby d21_0 rfl ?_
    refine XS.ifYes X0.here hx rfl (pc0 := 1) (pc' := 12) rfl (hb hby d21_1) rfl ((if0 _ _).trans (flt (by decide : ¬ ((4 : Int32) < (0 : Int32)))).2.1) (by decide) (by decide) ?_
    refine oIn X0 hx hby d21_12 rfl ?_
    refine X0.ldcInt hx hown (mvT hZ (own_at hw 93 rfl)) (g := (mkF m 13 #[iv 4] [(.int 4)])) rfl (hb hby d21_13) _ ?_
    refine XS.icmpYes X0.here hx rfl (pc0 := 15) (pc' := 55) rfl (hb hby d21_15) rfl (tlt (by decide : (4 : Int32) < (1073741823 : Int32))).1 (by decide) (by decide) ?_
    refine oIn X0 hx hby d21_55 rfl (oIc X0 hx hby d21_56 ?_)
    refine XS.ishl X0.here hx rfl (hb hby d21_57) rfl ?_
    exact retI X0 hx Bd.returns (hb hby d21_58) hr
def Q_NF_4 (Z : State)  (h0 : Heap) (n0 : Nat) (v : Option Value) (h : Heap) (L : List Loc) : Prop := ∃ ar : Addr, ∃ kk : ClassId, v = some (.ref ar) ∧ Fr n0 L ∧ Keep h0 h [] ∧ h0.size ≤ ar ∧ Arv Z h ar kk .byte (8 : Int32) [(.int 0), (.int 0), (.int 0), (.int 0), (.int 0), (.int 0), (.int 0), (.int 0)] (.int 0) ∧ Exa Z h ar "[B"
theorem rmNF_4 (l : Launch) (Z : State) (a0 : Array Value) (hw : own_HW a0 Z) (ws : List Jvm.Cond)  (h0 : Heap) (n0 : Nat) (Z0 : n0 ≤ h0.size) :
    own_M l Z (⟨cS0, "newBytesFor", "(I)[B"⟩ : MethodName) jdk_52_method_2_code 1 (some (.array .byte)) ws ({ frames := 1, cells := 1, slots := 8, locals := 12 } : Room) #[(.int 4)] h0 (Q_NF_4 Z  h0 n0) := by
  refine own_in cS0 rfl (plainFor_of_name pn_java_lang_StringUTF16) ?_
  intro p e s m below meth c s₁ Bd hml hZ hh hx hby hown X0 e0
  have N0 := Fr.nil n0
  have k0 := own_k (p := p) (e := e) (below := below) (T := s₁) (ef_20 m (4 : Int32))
  obtain ⟨_, T1, L1, X1, hQ1, st1⟩ := own_cS 0 (rmNL_4 l Z a0 hw []  h0 n0 Z0 ) X0 hx hZ hown hw 90 91 51 92 rfl rfl rfl rfl 1 #[iv 4] [(.int 4)] [] (hb hby d20_1) hml (lenOf pd_1 rfl) e0 rfl (Nat.le_refl _) (by decide)
  obtain ⟨rfl, N1q, e1⟩ := hQ1
  have N1 := Fr.app N0 N1q
  obtain ⟨T2, h2, k2, X2, e2, E2, A2, EA2, st2⟩ := newPE X1 hx hZ (own_at hw 24 rfl) e1 (g := (mkF m 4 #[iv 4] [(.int 8)])) rfl (hb hby d20_4) rfl (by decide) (cap := 8) (by decide) (by decide) (by decide) (by decide) (ad := "[B") (by decide)
  obtain ⟨b2, g2⟩ : ∃ z, z = h0.size := ⟨_, rfl⟩
  rw [← g2] at A2 EA2 st2
  have g_b2 : n0 ≤ b2 := Nat.le_trans Z0 (Nat.le_of_eq g2.symm)
  have sz_b2 : h0.size ≤ b2 := Nat.le_trans (Keep.refl h0 []).1 (Nat.le_of_eq g2.symm)
  have V_b2 : Arv Z h2 b2 k2 .byte (8 : Int32) [(.int 0), (.int 0), (.int 0), (.int 0), (.int 0), (.int 0), (.int 0), (.int 0)] (.int 0) := (Arv.new A2 (by decide)).pad (pad_rep [] (.int 0) 8)
  refine own_out X2 Bd.notSynchronized Bd.returns (some (.ref b2)) nofun (by decide) (by decide) ?_ fun fs hr => k0 _ ?_
  · rw [e2]; exact ⟨b2, k2, rfl, N1, ((Keep.refl h0 []).ext E2), sz_b2, V_b2, EA2⟩
  · show OwnS p e below s₁ (mkF m 0 #[iv 4] []) _
    refine oIn X0 hx hby d20_0 rfl ?_
    refine st1 _ ?_
    refine st2 _ ?_
    jvm_step X2.here [X2.here.top, hx, (hb hby d20_6), X2.method', Bd.returns, Value.isRef, FieldType.isReference]
    first | (intro acts; rw [hr _ acts rfl rfl rfl]) | rw [hr _ _ rfl rfl rfl]
    exact Steps.refl _
def Q_PC_4_0 (Z : State) (r0 : Addr) (x : Int32) (kB : ClassId) (b0 b1 b2 b3 b4 b5 b6 b7 : Int32) (h0 : Heap) (n0 : Nat) (v : Option Value) (h : Heap) (L : List Loc) : Prop := v = none ∧ Fr n0 L ∧ Keep h0 h [r0] ∧ Arv Z h r0 kB .byte (8 : Int32) [(.int (((x >>> ((0 : Int32) &&& 31)).toInt8.toInt32).toInt8.toInt32)), (.int (((x >>> ((8 : Int32) &&& 31)).toInt8.toInt32).toInt8.toInt32)), (.int b2), (.int b3), (.int b4), (.int b5), (.int b6), (.int b7)] (.int 0)
theorem rmPC_4_0 (l : Launch) (Z : State) (a0 : Array Value) (hw : own_HW a0 Z) (ws : List Jvm.Cond) (r0 : Addr) (x : Int32) (kB : ClassId) (b0 b1 b2 b3 b4 b5 b6 b7 : Int32) (h0 : Heap) (n0 : Nat) (Z0 : n0 ≤ h0.size) (S_AD : Sta Z h0 cS0 cS5 "Z" (.int 1)) (S_HI : Sta Z h0 cS0 cS7 "I" (.int 0)) (S_LO : Sta Z h0 cS0 cS8 "I" (.int 8)) (V_r0 : Arv Z h0 r0 kB .byte (8 : Int32) [(.int b0), (.int b1), (.int b2), (.int b3), (.int b4), (.int b5), (.int b6), (.int b7)] (.int 0)) (E_r0 : Exa Z h0 r0 "[B") (ge_r0 : n0 ≤ r0) :
    own_M l Z (⟨cS0, "putChar", "([BII)V"⟩ : MethodName) jdk_52_method_4_code 3 none ws ({ frames := 0, cells := 0, slots := 0, locals := 0 } : Room) #[(.ref r0), (.int 0), (.int x)] h0 (Q_PC_4_0 Z r0 x kB b0 b1 b2 b3 b4 b5 b6 b7 h0 n0) := by
  refine own_in cS0 rfl (plainFor_of_name pn_java_lang_StringUTF16) ?_
  intro p e s m below meth c s₁ Bd hml hZ hh hx hby hown X0 e0
  have N0 := Fr.nil n0
  have k0 := own_k (p := p) (e := e) (below := below) (T := s₁) (ef_22 m r0 (0 : Int32) x)
  obtain ⟨T1, X1, e1, st1⟩ := getS2 X0 hx hZ hown (host := "") (Or.inl (own_at hw 97 rfl)) Via.refl e0 S_AD (g := (mkF m 0 #[rv r0, iv 0, iv x] [])) rfl (hb hby d22_0)
  obtain ⟨T2, X2, e2, st2⟩ := getS2 X1 hx hZ hown (host := "") (Or.inl (own_at hw 98 rfl)) Via.refl e1 S_HI (g := (mkF m 38 #[rv r0, iv 1, iv x] [(.int x), (.int 0), (.ref r0)])) rfl (hb hby d22_38)
  obtain ⟨cl_z3, Ar_z3, q_z3, S_z3, N_z3, H_z3, G_z3⟩ := id V_r0
  have hin4 : ¬ ((0 : Int32) < 0 ∨ cl_z3.slots.size ≤ ((0 : Int32)).toNatClampNeg) := inb_of S_z3 ⟨by decide, by decide⟩
  obtain ⟨T5, h5, X5, e5, W5, st5⟩ := stB X2 hx hZ e2 Ar_z3 (j := (0 : Int32)) hin4 (g := (mkF m 43 #[rv r0, iv 1, iv x] [(.int ((x >>> ((0 : Int32) &&& 31)).toInt8.toInt32)), (.int 0), (.ref r0)])) rfl rfl (hb hby d22_43)
  have V5 : Arv Z h5 r0 kB .byte (8 : Int32) [(.int (((x >>> ((0 : Int32) &&& 31)).toInt8.toInt32).toInt8.toInt32)), (.int b1), (.int b2), (.int b3), (.int b4), (.int b5), (.int b6), (.int b7)] (.int 0) := Arv.set Ar_z3 q_z3 S_z3 N_z3 H_z3 G_z3 (fits_nar_byte _) W5 0 rfl (Nat.le_of_ble_eq_true rfl)
  have N5 := Fr.snoc X5 N0 ge_r0
  have f6 := (S_LO.wr W5)
  obtain ⟨T7, X7, e7, st7⟩ := getS2 X5 hx hZ hown (host := "") (Or.inl (own_at hw 99 rfl)) Via.refl e5 f6 (g := (mkF m 47 #[rv r0, iv 1, iv x] [(.int x), (.int 1), (.ref r0)])) rfl (hb hby d22_47)
  obtain ⟨cl_z8, Ar_z8, q_z8, S_z8, N_z8, H_z8, G_z8⟩ := id V5
  have hin9 : ¬ ((1 : Int32) < 0 ∨ cl_z8.slots.size ≤ ((1 : Int32)).toNatClampNeg) := inb_of S_z8 ⟨by decide, by decide⟩
  obtain ⟨T10, h10, X10, e10, W10, st10⟩ := stB X7 hx hZ e7 Ar_z8 (j := (1 : Int32)) hin9 (g := (mkF m 52 #[rv r0, iv 1, iv x] [(.int ((x >>> ((8 : Int32) &&& 31)).toInt8.toInt32)), (.int 1), (.ref r0)])) rfl rfl (hb hby d22_52)
  have V10 : Arv Z h10 r0 kB .byte (8 : Int32) [(.int (((x >>> ((0 : Int32) &&& 31)).toInt8.toInt32).toInt8.toInt32)), (.int (((x >>> ((8 : Int32) &&& 31)).toInt8.toInt32).toInt8.toInt32)), (.int b2), (.int b3), (.int b4), (.int b5), (.int b6), (.int b7)] (.int 0) := Arv.set Ar_z8 q_z8 S_z8 N_z8 H_z8 G_z8 (fits_nar_byte _) W10 1 rfl (Nat.le_of_ble_eq_true rfl)
  have N10 := Fr.snoc X10 N5 ge_r0
  refine own_out X10 Bd.notSynchronized Bd.returns (none) (fun _ => rfl) (by decide) (by decide) ?_ fun fs hr => k0 _ ?_
  · rw [e10]; exact ⟨rfl, N10, (((Keep.refl h0 [r0]).wr W5 (Or.inl (List.mem_of_getElem? (i := 0) rfl))).wr W10 (Or.inl (List.mem_of_getElem? (i := 0) rfl))), V10⟩
  · show OwnS p e below s₁ (mkF m 0 #[rv r0, iv 0, iv x] []) _
    refine st1 _ ?_
    refine XS.ifYes X1.here hx rfl (pc0 := 3) (pc' := 28) rfl (hb hby d22_3) rfl ((if0 _ _).trans (feq (by decide : ¬ ((1 : Int32) = (0 : Int32)))).2) (by decide) (by decide) ?_
    refine oIn X1 hx hby d22_28 rfl (oIc X1 hx hby d22_29 ?_)
    refine XS.ishl X1.here hx rfl (hb hby d22_30) rfl ?_
    refine XS.istoreN X1.here hx rfl (hb hby d22_31) rfl (l' := #[rv r0, iv 0, iv x]) rfl ?_
    refine oAn X1 hx hby d22_32 rfl rfl (oIn X1 hx hby d22_33 rfl ?_)
    refine XS.iinc X1.here hx rfl (hb hby d22_34) rfl (l' := #[rv r0, iv 1, iv x]) rfl ?_
    refine oIn X1 hx hby d22_37 rfl ?_
    refine st2 _ ?_
    refine XS.ishr X2.here hx rfl (hb hby d22_41) rfl ?_
    refine XS.i2b X2.here hx rfl (hb hby d22_42) rfl ?_
    refine st5 _ ?_
    refine oAn X5 hx hby d22_44 rfl rfl (oIn X5 hx hby d22_45 rfl (oIn X5 hx hby d22_46 rfl ?_))
    refine st7 _ ?_
    refine XS.ishr X7.here hx rfl (hb hby d22_50) rfl ?_
    refine XS.i2b X7.here hx rfl (hb hby d22_51) rfl ?_
    refine st10 _ ?_
    exact X10.returnOut hx Bd.returns (hb hby d22_53) hr
def Q_PC_4_1 (Z : State) (r0 : Addr) (x : Int32) (kB : ClassId) (b0 b1 b2 b3 b4 b5 b6 b7 : Int32) (h0 : Heap) (n0 : Nat) (v : Option Value) (h : Heap) (L : List Loc) : Prop := v = none ∧ Fr n0 L ∧ Keep h0 h [r0] ∧ Arv Z h r0 kB .byte (8 : Int32) [(.int b0), (.int b1), (.int (((x >>> ((0 : Int32) &&& 31)).toInt8.toInt32).toInt8.toInt32)), (.int (((x >>> ((8 : Int32) &&& 31)).toInt8.toInt32).toInt8.toInt32)), (.int b4), (.int b5), (.int b6), (.int b7)] (.int 0)
theorem rmPC_4_1 (l : Launch) (Z : State) (a0 : Array Value) (hw : own_HW a0 Z) (ws : List Jvm.Cond) (r0 : Addr) (x : Int32) (kB : ClassId) (b0 b1 b2 b3 b4 b5 b6 b7 : Int32) (h0 : Heap) (n0 : Nat) (Z0 : n0 ≤ h0.size) (S_AD : Sta Z h0 cS0 cS5 "Z" (.int 1)) (S_HI : Sta Z h0 cS0 cS7 "I" (.int 0)) (S_LO : Sta Z h0 cS0 cS8 "I" (.int 8)) (V_r0 : Arv Z h0 r0 kB .byte (8 : Int32) [(.int b0), (.int b1), (.int b2), (.int b3), (.int b4), (.int b5), (.int b6), (.int b7)] (.int 0)) (E_r0 : Exa Z h0 r0 "[B") (ge_r0 : n0 ≤ r0) :
    own_M l Z (⟨cS0, "putChar", "([BII)V"⟩ : MethodName) jdk_52_method_4_code 3 none ws ({ frames := 0, cells := 0, slots := 0, locals := 0 } : Room) #[(.ref r0), (.int 1), (.int x)] h0 (Q_PC_4_1 Z r0 x kB b0 b1 b2 b3 b4 b5 b6 b7 h0 n0) := by
  refine own_in cS0 rfl (plainFor_of_name pn_java_lang_StringUTF16) ?_
  intro p e s m below meth c s₁ Bd hml hZ hh hx hby hown X0 e0
  have N0 := Fr.nil n0
  have k0 := own_k (p := p) (e := e) (below := below) (T := s₁) (ef_22 m r0 (1 : Int32) x)
  obtain ⟨T1, X1, e1, st1⟩ := getS2 X0 hx hZ hown (host := "") (Or.inl (own_at hw 97 rfl)) Via.refl e0 S_AD (g := (mkF m 0 #[rv r0, iv 1, iv x] [])) rfl (hb hby d22_0)
  obtain ⟨T2, X2, e2, st2⟩ := getS2 X1 hx hZ hown (host := "") (Or.inl (own_at hw 98 rfl)) Via.refl e1 S_HI (g := (mkF m 38 #[rv r0, iv 3, iv x] [(.int x), (.int 2), (.ref r0)])) rfl (hb hby d22_38)
  obtain ⟨cl_z3, Ar_z3, q_z3, S_z3, N_z3, H_z3, G_z3⟩ := id V_r0
  have hin4 : ¬ ((2 : Int32) < 0 ∨ cl_z3.slots.size ≤ ((2 : Int32)).toNatClampNeg) := inb_of S_z3 ⟨by decide, by decide⟩
  obtain ⟨T5, h5, X5, e5, W5, st5⟩ := stB X2 hx hZ e2 Ar_z3 (j := (2 : Int32)) hin4 (g := (mkF m 43 #[rv r0, iv 3, iv x] [(.int ((x >>> ((0 : Int32) &&& 31)).toInt8.toInt32)), (.int 2), (.ref r0)])) rfl rfl (hb hby d22_43)
  have V5 : Arv Z h5 r0 kB .byte (8 : Int32) [(.int b0), (.int b1), (.int (((x >>> ((0 : Int32) &&& 31)).toInt8.toInt32).toInt8.toInt32)), (.int b3), (.int b4), (.int b5), (.int b6), (.int b7)] (.int 0) := Arv.set Ar_z3 q_z3 S_z3 N_z3 H_z3 G_z3 (fits_nar_byte _) W5 2 rfl (Nat.le_of_ble_eq_true rfl)
  have N5 := Fr.snoc X5 N0 ge_r0
  have f6 := (S_LO.wr W5)
  obtain ⟨T7, X7, e7, st7⟩ := getS2 X5 hx hZ hown (host := "") (Or.inl (own_at hw 99 rfl)) Via.refl e5 f6 (g := (mkF m 47 #[rv r0, iv 3, iv x] [(.int x), (.int 3), (.ref r0)])) rfl (hb hby d22_47)
  obtain ⟨cl_z8, Ar_z8, q_z8, S_z8, N_z8, H_z8, G_z8⟩ := id V5
  have hin9 : ¬ ((3 : Int32) < 0 ∨ cl_z8.slots.size ≤ ((3 : Int32)).toNatClampNeg) := inb_of S_z8 ⟨by decide, by decide⟩
  obtain ⟨T10, h10, X10, e10, W10, st10⟩ := stB X7 hx hZ e7 Ar_z8 (j := (3 : Int32)) hin9 (g := (mkF m 52 #[rv r0, iv 3, iv x] [(.int ((x >>> ((8 : Int32) &&& 31)).toInt8.toInt32)), (.int 3), (.ref r0)])) rfl rfl (hb hby d22_52)
  have V10 : Arv Z h10 r0 kB .byte (8 : Int32) [(.int b0), (.int b1), (.int (((x >>> ((0 : Int32) &&& 31)).toInt8.toInt32).toInt8.toInt32)), (.int (((x >>> ((8 : Int32) &&& 31)).toInt8.toInt32).toInt8.toInt32)), (.int b4), (.int b5), (.int b6), (.int b7)] (.int 0) := Arv.set Ar_z8 q_z8 S_z8 N_z8 H_z8 G_z8 (fits_nar_byte _) W10 3 rfl (Nat.le_of_ble_eq_true rfl)
  have N10 := Fr.snoc X10 N5 ge_r0
  refine own_out X10 Bd.notSynchronized Bd.returns (none) (fun _ => rfl) (by decide) (by decide) ?_ fun fs hr => k0 _ ?_
  · rw [e10]; exact ⟨rfl, N10, (((Keep.refl h0 [r0]).wr W5 (Or.inl (List.mem_of_getElem? (i := 0) rfl))).wr W10 (Or.inl (List.mem_of_getElem? (i := 0) rfl))), V10⟩
  · show OwnS p e below s₁ (mkF m 0 #[rv r0, iv 1, iv x] []) _
    refine st1 _ ?_
    refine XS.ifYes X1.here hx rfl (pc0 := 3) (pc' := 28) rfl (hb hby d22_3) rfl ((if0 _ _).trans (feq (by decide : ¬ ((1 : Int32) = (0 : Int32)))).2) (by decide) (by decide) ?_
    refine oIn X1 hx hby d22_28 rfl (oIc X1 hx hby d22_29 ?_)
    refine XS.ishl X1.here hx rfl (hb hby d22_30) rfl ?_
    refine XS.istoreN X1.here hx rfl (hb hby d22_31) rfl (l' := #[rv r0, iv 2, iv x]) rfl ?_
    refine oAn X1 hx hby d22_32 rfl rfl (oIn X1 hx hby d22_33 rfl ?_)
    refine XS.iinc X1.here hx rfl (hb hby d22_34) rfl (l' := #[rv r0, iv 3, iv x]) rfl ?_
    refine oIn X1 hx hby d22_37 rfl ?_
    refine st2 _ ?_
    refine XS.ishr X2.here hx rfl (hb hby d22_41) rfl ?_
    refine XS.i2b X2.here hx rfl (hb hby d22_42) rfl ?_
    refine st5 _ ?_
    refine oAn X5 hx hby d22_44 rfl rfl (oIn X5 hx hby d22_45 rfl (oIn X5 hx hby d22_46 rfl ?_))
    refine st7 _ ?_
    refine XS.ishr X7.here hx rfl (hb hby d22_50) rfl ?_
    refine XS.i2b X7.here hx rfl (hb hby d22_51) rfl ?_
    refine st10 _ ?_
    exact X10.returnOut hx Bd.returns (hb hby d22_53) hr
def Q_PC_4_2 (Z : State) (r0 : Addr) (x : Int32) (kB : ClassId) (b0 b1 b2 b3 b4 b5 b6 b7 : Int32) (h0 : Heap) (n0 : Nat) (v : Option Value) (h : Heap) (L : List Loc) : Prop := v = none ∧ Fr n0 L ∧ Keep h0 h [r0] ∧ Arv Z h r0 kB .byte (8 : Int32) [(.int b0), (.int b1), (.int b2), (.int b3), (.int (((x >>> ((0 : Int32) &&& 31)).toInt8.toInt32).toInt8.toInt32)), (.int (((x >>> ((8 : Int32) &&& 31)).toInt8.toInt32).toInt8.toInt32)), (.int b6), (.int b7)] (.int 0)
theorem rmPC_4_2 (l : Launch) (Z : State) (a0 : Array Value) (hw : own_HW a0 Z) (ws : List Jvm.Cond) (r0 : Addr) (x : Int32) (kB : ClassId) (b0 b1 b2 b3 b4 b5 b6 b7 : Int32) (h0 : Heap) (n0 : Nat) (Z0 : n0 ≤ h0.size) (S_AD : Sta Z h0 cS0 cS5 "Z" (.int 1)) (S_HI : Sta Z h0 cS0 cS7 "I" (.int 0)) (S_LO : Sta Z h0 cS0 cS8 "I" (.int 8)) (V_r0 : Arv Z h0 r0 kB .byte (8 : Int32) [(.int b0), (.int b1), (.int b2), (.int b3), (.int b4), (.int b5), (.int b6), (.int b7)] (.int 0)) (E_r0 : Exa Z h0 r0 "[B") (ge_r0 : n0 ≤ r0) :
    own_M l Z (⟨cS0, "putChar", "([BII)V"⟩ : MethodName) jdk_52_method_4_code 3 none ws ({ frames := 0, cells := 0, slots := 0, locals := 0 } : Room) #[(.ref r0), (.int 2), (.int x)] h0 (Q_PC_4_2 Z r0 x kB b0 b1 b2 b3 b4 b5 b6 b7 h0 n0) := by
  refine own_in cS0 rfl (plainFor_of_name pn_java_lang_StringUTF16) ?_
  intro p e s m below meth c s₁ Bd hml hZ hh hx hby hown X0 e0
  have N0 := Fr.nil n0
  have k0 := own_k (p := p) (e := e) (below := below) (T := s₁) (ef_22 m r0 (2 : Int32) x)
  obtain ⟨T1, X1, e1, st1⟩ := getS2 X0 hx hZ hown (host := "") (Or.inl (own_at hw 97 rfl)) Via.refl e0 S_AD (g := (mkF m 0 #[rv r0, iv 2, iv x] [])) rfl (hb hby d22_0)
  obtain ⟨T2, X2, e2, st2⟩ := getS2 X1 hx hZ hown (host := "") (Or.inl (own_at hw 98 rfl)) Via.refl e1 S_HI (g := (mkF m 38 #[rv r0, iv 5, iv x] [(.int x), (.int 4), (.ref r0)])) rfl (hb hby d22_38)
  obtain ⟨cl_z3, Ar_z3, q_z3, S_z3, N_z3, H_z3, G_z3⟩ := id V_r0
  have hin4 : ¬ ((4 : Int32) < 0 ∨ cl_z3.slots.size ≤ ((4 : Int32)).toNatClampNeg) := inb_of S_z3 ⟨by decide, by decide⟩
  obtain ⟨T5, h5, X5, e5, W5, st5⟩ := stB X2 hx hZ e2 Ar_z3 (j := (4 : Int32)) hin4 (g := (mkF m 43 #[rv r0, iv 5, iv x] [(.int ((x >>> ((0 : Int32) &&& 31)).toInt8.toInt32)), (.int 4), (.ref r0)])) rfl rfl (hb hby d22_43)
  have V5 : Arv Z h5 r0 kB .byte (8 : Int32) [(.int b0), (.int b1), (.int b2), (.int b3), (.int (((x >>> ((0 : Int32) &&& 31)).toInt8.toInt32).toInt8.toInt32)), (.int b5), (.int b6), (.int b7)] (.int 0) := Arv.set Ar_z3 q_z3 S_z3 N_z3 H_z3 G_z3 (fits_nar_byte _) W5 4 rfl (Nat.le_of_ble_eq_true rfl)
  have N5 := Fr.snoc X5 N0 ge_r0
  have f6 := (S_LO.wr W5)
  obtain ⟨T7, X7, e7, st7⟩ := getS2 X5 hx hZ hown (host := "") (Or.inl (own_at hw 99 rfl)) Via.refl e5 f6 (g := (mkF m 47 #[rv r0, iv 5, iv x] [(.int x), (.int 5), (.ref r0)])) rfl (hb hby d22_47)
  obtain ⟨cl_z8, Ar_z8, q_z8, S_z8, N_z8, H_z8, G_z8⟩ := id V5
  have hin9 : ¬ ((5 : Int32) < 0 ∨ cl_z8.slots.size ≤ ((5 : Int32)).toNatClampNeg) := inb_of S_z8 ⟨by decide, by decide⟩
  obtain ⟨T10, h10, X10, e10, W10, st10⟩ := stB X7 hx hZ e7 Ar_z8 (j := (5 : Int32)) hin9 (g := (mkF m 52 #[rv r0, iv 5, iv x] [(.int ((x >>> ((8 : Int32) &&& 31)).toInt8.toInt32)), (.int 5), (.ref r0)])) rfl rfl (hb hby d22_52)
  have V10 : Arv Z h10 r0 kB .byte (8 : Int32) [(.int b0), (.int b1), (.int b2), (.int b3), (.int (((x >>> ((0 : Int32) &&& 31)).toInt8.toInt32).toInt8.toInt32)), (.int (((x >>> ((8 : Int32) &&& 31)).toInt8.toInt32).toInt8.toInt32)), (.int b6), (.int b7)] (.int 0) := Arv.set Ar_z8 q_z8 S_z8 N_z8 H_z8 G_z8 (fits_nar_byte _) W10 5 rfl (Nat.le_of_ble_eq_true rfl)
  have N10 := Fr.snoc X10 N5 ge_r0
  refine own_out X10 Bd.notSynchronized Bd.returns (none) (fun _ => rfl) (by decide) (by decide) ?_ fun fs hr => k0 _ ?_
  · rw [e10]; exact ⟨rfl, N10, (((Keep.refl h0 [r0]).wr W5 (Or.inl (List.mem_of_getElem? (i := 0) rfl))).wr W10 (Or.inl (List.mem_of_getElem? (i := 0) rfl))), V10⟩
  · show OwnS p e below s₁ (mkF m 0 #[rv r0, iv 2, iv x] []) _
    refine st1 _ ?_
    refine XS.ifYes X1.here hx rfl (pc0 := 3) (pc' := 28) rfl (hb hby d22_3) rfl ((if0 _ _).trans (feq (by decide : ¬ ((1 : Int32) = (0 : Int32)))).2) (by decide) (by decide) ?_
    refine oIn X1 hx hby d22_28 rfl (oIc X1 hx hby d22_29 ?_)
    refine XS.ishl X1.here hx rfl (hb hby d22_30) rfl ?_
    refine XS.istoreN X1.here hx rfl (hb hby d22_31) rfl (l' := #[rv r0, iv 4, iv x]) rfl ?_
    refine oAn X1 hx hby d22_32 rfl rfl (oIn X1 hx hby d22_33 rfl ?_)
    refine XS.iinc X1.here hx rfl (hb hby d22_34) rfl (l' := #[rv r0, iv 5, iv x]) rfl ?_
    refine oIn X1 hx hby d22_37 rfl ?_
    refine st2 _ ?_
    refine XS.ishr X2.here hx rfl (hb hby d22_41) rfl ?_
    refine XS.i2b X2.here hx rfl (hb hby d22_42) rfl ?_
    refine st5 _ ?_
    refine oAn X5 hx hby d22_44 rfl rfl (oIn X5 hx hby d22_45 rfl (oIn X5 hx hby d22_46 rfl ?_))
    refine st7 _ ?_
    refine XS.ishr X7.here hx rfl (hb hby d22_50) rfl ?_
    refine XS.i2b X7.here hx rfl (hb hby d22_51) rfl ?_
    refine st10 _ ?_
    exact X10.returnOut hx Bd.returns (hb hby d22_53) hr
def Q_PC_4_3 (Z : State) (r0 : Addr) (x : Int32) (kB : ClassId) (b0 b1 b2 b3 b4 b5 b6 b7 : Int32) (h0 : Heap) (n0 : Nat) (v : Option Value) (h : Heap) (L : List Loc) : Prop := v = none ∧ Fr n0 L ∧ Keep h0 h [r0] ∧ Arv Z h r0 kB .byte (8 : Int32) [(.int b0), (.int b1), (.int b2), (.int b3), (.int b4), (.int b5), (.int (((x >>> ((0 : Int32) &&& 31)).toInt8.toInt32).toInt8.toInt32)), (.int (((x >>> ((8 : Int32) &&& 31)).toInt8.toInt32).toInt8.toInt32))] (.int 0)
theorem rmPC_4_3 (l : Launch) (Z : State) (a0 : Array Value) (hw : own_HW a0 Z) (ws : List Jvm.Cond) (r0 : Addr) (x : Int32) (kB : ClassId) (b0 b1 b2 b3 b4 b5 b6 b7 : Int32) (h0 : Heap) (n0 : Nat) (Z0 : n0 ≤ h0.size) (S_AD : Sta Z h0 cS0 cS5 "Z" (.int 1)) (S_HI : Sta Z h0 cS0 cS7 "I" (.int 0)) (S_LO : Sta Z h0 cS0 cS8 "I" (.int 8)) (V_r0 : Arv Z h0 r0 kB .byte (8 : Int32) [(.int b0), (.int b1), (.int b2), (.int b3), (.int b4), (.int b5), (.int b6), (.int b7)] (.int 0)) (E_r0 : Exa Z h0 r0 "[B") (ge_r0 : n0 ≤ r0) :
    own_M l Z (⟨cS0, "putChar", "([BII)V"⟩ : MethodName) jdk_52_method_4_code 3 none ws ({ frames := 0, cells := 0, slots := 0, locals := 0 } : Room) #[(.ref r0), (.int 3), (.int x)] h0 (Q_PC_4_3 Z r0 x kB b0 b1 b2 b3 b4 b5 b6 b7 h0 n0) := by
  refine own_in cS0 rfl (plainFor_of_name pn_java_lang_StringUTF16) ?_
  intro p e s m below meth c s₁ Bd hml hZ hh hx hby hown X0 e0
  have N0 := Fr.nil n0
  have k0 := own_k (p := p) (e := e) (below := below) (T := s₁) (ef_22 m r0 (3 : Int32) x)
  obtain ⟨T1, X1, e1, st1⟩ := getS2 X0 hx hZ hown (host := "") (Or.inl (own_at hw 97 rfl)) Via.refl e0 S_AD (g := (mkF m 0 #[rv r0, iv 3, iv x] [])) rfl (hb hby d22_0)
  obtain ⟨T2, X2, e2, st2⟩ := getS2 X1 hx hZ hown (host := "") (Or.inl (own_at hw 98 rfl)) Via.refl e1 S_HI (g := (mkF m 38 #[rv r0, iv 7, iv x] [(.int x), (.int 6), (.ref r0)])) rfl (hb hby d22_38)
  obtain ⟨cl_z3, Ar_z3, q_z3, S_z3, N_z3, H_z3, G_z3⟩ := id V_r0
  have hin4 : ¬ ((6 : Int32) < 0 ∨ cl_z3.slots.size ≤ ((6 : Int32)).toNatClampNeg) := inb_of S_z3 ⟨by decide, by decide⟩
  obtain ⟨T5, h5, X5, e5, W5, st5⟩ := stB X2 hx hZ e2 Ar_z3 (j := (6 : Int32)) hin4 (g := (mkF m 43 #[rv r0, iv 7, iv x] [(.int ((x >>> ((0 : Int32) &&& 31)).toInt8.toInt32)), (.int 6), (.ref r0)])) rfl rfl (hb hby d22_43)
  have V5 : Arv Z h5 r0 kB .byte (8 : Int32) [(.int b0), (.int b1), (.int b2), (.int b3), (.int b4), (.int b5), (.int (((x >>> ((0 : Int32) &&& 31)).toInt8.toInt32).toInt8.toInt32)), (.int b7)] (.int 0) := Arv.set Ar_z3 q_z3 S_z3 N_z3 H_z3 G_z3 (fits_nar_byte _) W5 6 rfl (Nat.le_of_ble_eq_true rfl)
  have N5 := Fr.snoc X5 N0 ge_r0
  have f6 := (S_LO.wr W5)
  obtain ⟨T7, X7, e7, st7⟩ := getS2 X5 hx hZ hown (host := "") (Or.inl (own_at hw 99 rfl)) Via.refl e5 f6 (g := (mkF m 47 #[rv r0, iv 7, iv x] [(.int x), (.int 7), (.ref r0)])) rfl (hb hby d22_47)
  obtain ⟨cl_z8, Ar_z8, q_z8, S_z8, N_z8, H_z8, G_z8⟩ := id V5
  have hin9 : ¬ ((7 : Int32) < 0 ∨ cl_z8.slots.size ≤ ((7 : Int32)).toNatClampNeg) := inb_of S_z8 ⟨by decide, by decide⟩
  obtain ⟨T10, h10, X10, e10, W10, st10⟩ := stB X7 hx hZ e7 Ar_z8 (j := (7 : Int32)) hin9 (g := (mkF m 52 #[rv r0, iv 7, iv x] [(.int ((x >>> ((8 : Int32) &&& 31)).toInt8.toInt32)), (.int 7), (.ref r0)])) rfl rfl (hb hby d22_52)
  have V10 : Arv Z h10 r0 kB .byte (8 : Int32) [(.int b0), (.int b1), (.int b2), (.int b3), (.int b4), (.int b5), (.int (((x >>> ((0 : Int32) &&& 31)).toInt8.toInt32).toInt8.toInt32)), (.int (((x >>> ((8 : Int32) &&& 31)).toInt8.toInt32).toInt8.toInt32))] (.int 0) := Arv.set Ar_z8 q_z8 S_z8 N_z8 H_z8 G_z8 (fits_nar_byte _) W10 7 rfl (Nat.le_of_ble_eq_true rfl)
  have N10 := Fr.snoc X10 N5 ge_r0
  refine own_out X10 Bd.notSynchronized Bd.returns (none) (fun _ => rfl) (by decide) (by decide) ?_ fun fs hr => k0 _ ?_
  · rw [e10]; exact ⟨rfl, N10, (((Keep.refl h0 [r0]).wr W5 (Or.inl (List.mem_of_getElem? (i := 0) rfl))).wr W10 (Or.inl (List.mem_of_getElem? (i := 0) rfl))), V10⟩
  · show OwnS p e below s₁ (mkF m 0 #[rv r0, iv 3, iv x] []) _
    refine st1 _ ?_
    refine XS.ifYes X1.here hx rfl (pc0 := 3) (pc' := 28) rfl (hb hby d22_3) rfl ((if0 _ _).trans (feq (by decide : ¬ ((1 : Int32) = (0 : Int32)))).2) (by decide) (by decide) ?_
    refine oIn X1 hx hby d22_28 rfl (oIc X1 hx hby d22_29 ?_)
    refine XS.ishl X1.here hx rfl (hb hby d22_30) rfl ?_
    refine XS.istoreN X1.here hx rfl (hb hby d22_31) rfl (l' := #[rv r0, iv 6, iv x]) rfl ?_
    refine oAn X1 hx hby d22_32 rfl rfl (oIn X1 hx hby d22_33 rfl ?_)
    refine XS.iinc X1.here hx rfl (hb hby d22_34) rfl (l' := #[rv r0, iv 7, iv x]) rfl ?_
    refine oIn X1 hx hby d22_37 rfl ?_
    refine st2 _ ?_
    refine XS.ishr X2.here hx rfl (hb hby d22_41) rfl ?_
    refine XS.i2b X2.here hx rfl (hb hby d22_42) rfl ?_
    refine st5 _ ?_
    refine oAn X5 hx hby d22_44 rfl rfl (oIn X5 hx hby d22_45 rfl (oIn X5 hx hby d22_46 rfl ?_))
    refine st7 _ ?_
    refine XS.ishr X7.here hx rfl (hb hby d22_50) rfl ?_
    refine XS.i2b X7.here hx rfl (hb hby d22_51) rfl ?_
    refine st10 _ ?_
    exact X10.returnOut hx Bd.returns (hb hby d22_53) hr
def Q_TB_4 (Z : State) (r0 : Addr) (kC : ClassId) (x0 x1 x2 x3 : Int32) (h0 : Heap) (n0 : Nat) (v : Option Value) (h : Heap) (L : List Loc) : Prop := ∃ ar : Addr, ∃ kk : ClassId, v = some (.ref ar) ∧ Fr n0 L ∧ Keep h0 h [] ∧ h0.size ≤ ar ∧ Arv Z h ar kk .byte (8 : Int32) [(.int (((x0 >>> ((0 : Int32) &&& 31)).toInt8.toInt32).toInt8.toInt32)), (.int (((x0 >>> ((8 : Int32) &&& 31)).toInt8.toInt32).toInt8.toInt32)), (.int (((x1 >>> ((0 : Int32) &&& 31)).toInt8.toInt32).toInt8.toInt32)), (.int (((x1 >>> ((8 : Int32) &&& 31)).toInt8.toInt32).toInt8.toInt32)), (.int (((x2 >>> ((0 : Int32) &&& 31)).toInt8.toInt32).toInt8.toInt32)), (.int (((x2 >>> ((8 : Int32) &&& 31)).toInt8.toInt32).toInt8.toInt32)), (.int (((x3 >>> ((0 : Int32) &&& 31)).toInt8.toInt32).toInt8.toInt32)), (.int (((x3 >>> ((8 : Int32) &&& 31)).toInt8.toInt32).toInt8.toInt32))] (.int 0) ∧ Exa Z h ar "[B"
theorem rmTB_4 (l : Launch) (Z : State) (a0 : Array Value) (hw : own_HW a0 Z) (ws : List Jvm.Cond) (r0 : Addr) (kC : ClassId) (x0 x1 x2 x3 : Int32) (h0 : Heap) (n0 : Nat) (Z0 : n0 ≤ h0.size) (S_AD : Sta Z h0 cS0 cS5 "Z" (.int 1)) (S_HI : Sta Z h0 cS0 cS7 "I" (.int 0)) (S_LO : Sta Z h0 cS0 cS8 "I" (.int 8)) (V_r0 : Arv Z h0 r0 kC .char (4 : Int32) [(.int x0), (.int x1), (.int x2), (.int x3)] (.int 0)) :
    own_M l Z (⟨cS0, "toBytes", "([CII)[B"⟩ : MethodName) jdk_52_method_14_code 5 (some (.array .byte)) ws ({ frames := 2, cells := 1, slots := 8, locals := 24 } : Room) #[(.ref r0), (.int 0), (.int 4)] h0 (Q_TB_4 Z r0 kC x0 x1 x2 x3 h0 n0) := by
  refine own_in cS0 rfl (plainFor_of_name pn_java_lang_StringUTF16) ?_
  intro p e s m below meth c s₁ Bd hml hZ hh hx hby hown X0 e0
  have N0 := Fr.nil n0
  have k0 := own_k (p := p) (e := e) (below := below) (T := s₁) (ef_19 m r0 (0 : Int32) (4 : Int32))
  obtain ⟨_, T1, L1, X1, hQ1, st1⟩ := own_cS 0 (rmNF_4 l Z a0 hw []  h0 n0 Z0 ) X0 hx hZ hown hw 87 88 51 89 rfl rfl rfl rfl 1 #[rv r0, iv 0, iv 4, .unset, .unset] [(.int 4)] [] (hb hby d19_1) hml (lenOf pd_2 rfl) e0 rfl (Nat.le_refl _) (by decide)
  obtain ⟨ar_1, kk_1, rfl, N1q, K1, p1_0, p1_1, p1_2⟩ := hQ1
  have g_ar_1 : n0 ≤ ar_1 := Nat.le_trans Z0 p1_0
  have sz_ar_1 : h0.size ≤ ar_1 := Nat.le_trans (Keep.refl h0 []).1 p1_0
  have N1 := Fr.app N0 N1q
  have f2 := (V_r0.keep K1 nin0)
  obtain ⟨cl_z3, Ar_z3, q_z3, S_z3, N_z3, H_z3, G_z3⟩ := id f2
  have hin4 : ¬ ((0 : Int32) < 0 ∨ cl_z3.slots.size ≤ ((0 : Int32)).toNatClampNeg) := inb_of S_z3 ⟨by decide, by decide⟩
  have f6 := (own_sta_keep S_AD K1 all0)
  have f7 := (own_sta_keep S_HI K1 all0)
  have f8 := (own_sta_keep S_LO K1 all0)
  obtain ⟨_, T5, L5, X5, hQ5, st5⟩ := own_cS 0 (rmPC_4_0 l Z a0 hw [] ar_1 x0 kk_1 (0 : Int32) (0 : Int32) (0 : Int32) (0 : Int32) (0 : Int32) (0 : Int32) (0 : Int32) (0 : Int32) T1.heap n0 (Nat.le_trans Z0 K1.1) f6 f7 f8 p1_1 p1_2 g_ar_1) X1 hx hZ hown hw 94 95 51 96 rfl rfl rfl rfl 20 #[rv r0, iv 0, iv 4, rv ar_1, iv 0] [(.ref ar_1), (.int 0), (.int x0)] [] (hb hby d19_20) hml (lenOf pd_3 rfl) rfl rfl (Nat.le_refl _) (by decide)
  obtain ⟨rfl, N5q, K5, p5_0⟩ := hQ5
  have pl5 := (allS (P := fun x => ∃ cell : Cell, T1.heap[x]? = some cell ∧ cell.vm.isStatics = false) (own_ns p1_2) all0)
  have N5 := Fr.app N1 N5q
  have f9 := (f2.keep K5 (ninS (Nat.ne_of_lt (Nat.lt_of_lt_of_le V_r0.lt p1_0)) nin0))
  obtain ⟨cl_z10, Ar_z10, q_z10, S_z10, N_z10, H_z10, G_z10⟩ := id f9
  have hin11 : ¬ ((1 : Int32) < 0 ∨ cl_z10.slots.size ≤ ((1 : Int32)).toNatClampNeg) := inb_of S_z10 ⟨by decide, by decide⟩
  have f13 := (own_sta_keep f6 K5 pl5)
  have f14 := (own_sta_keep f7 K5 pl5)
  have f15 := (own_sta_keep f8 K5 pl5)
  have f16 := (p1_2.keep K5)
  obtain ⟨_, T12, L12, X12, hQ12, st12⟩ := own_cS 0 (rmPC_4_1 l Z a0 hw [] ar_1 x1 kk_1 (((x0 >>> ((0 : Int32) &&& 31)).toInt8.toInt32).toInt8.toInt32) (((x0 >>> ((8 : Int32) &&& 31)).toInt8.toInt32).toInt8.toInt32) (0 : Int32) (0 : Int32) (0 : Int32) (0 : Int32) (0 : Int32) (0 : Int32) T5.heap n0 (Nat.le_trans (Nat.le_trans Z0 K1.1) K5.1) f13 f14 f15 p5_0 f16 g_ar_1) X5 hx hZ hown hw 94 95 51 96 rfl rfl rfl rfl 20 #[rv r0, iv 1, iv 4, rv ar_1, iv 1] [(.ref ar_1), (.int 1), (.int x1)] [] (hb hby d19_20) hml (lenOf pd_3 rfl) rfl rfl (Nat.le_refl _) (by decide)
  obtain ⟨rfl, N12q, K12, p12_0⟩ := hQ12
  have pl12 := (allS (P := fun x => ∃ cell : Cell, T5.heap[x]? = some cell ∧ cell.vm.isStatics = false) (own_ns f16) all0)
  have N12 := Fr.app N5 N12q
  have f17 := (f9.keep K12 (ninS (Nat.ne_of_lt (Nat.lt_of_lt_of_le V_r0.lt p1_0)) nin0))
  obtain ⟨cl_z18, Ar_z18, q_z18, S_z18, N_z18, H_z18, G_z18⟩ := id f17
  have hin19 : ¬ ((2 : Int32) < 0 ∨ cl_z18.slots.size ≤ ((2 : Int32)).toNatClampNeg) := inb_of S_z18 ⟨by decide, by decide⟩
  have f21 := (own_sta_keep f13 K12 pl12)
  have f22 := (own_sta_keep f14 K12 pl12)
  have f23 := (own_sta_keep f15 K12 pl12)
  have f24 := (f16.keep K12)
  obtain ⟨_, T20, L20, X20, hQ20, st20⟩ := own_cS 0 (rmPC_4_2 l Z a0 hw [] ar_1 x2 kk_1 (((x0 >>> ((0 : Int32) &&& 31)).toInt8.toInt32).toInt8.toInt32) (((x0 >>> ((8 : Int32) &&& 31)).toInt8.toInt32).toInt8.toInt32) (((x1 >>> ((0 : Int32) &&& 31)).toInt8.toInt32).toInt8.toInt32) (((x1 >>> ((8 : Int32) &&& 31)).toInt8.toInt32).toInt8.toInt32) (0 : Int32) (0 : Int32) (0 : Int32) (0 : Int32) T12.heap n0 (Nat.le_trans (Nat.le_trans (Nat.le_trans Z0 K1.1) K5.1) K12.1) f21 f22 f23 p12_0 f24 g_ar_1) X12 hx hZ hown hw 94 95 51 96 rfl rfl rfl rfl 20 #[rv r0, iv 2, iv 4, rv ar_1, iv 2] [(.ref ar_1), (.int 2), (.int x2)] [] (hb hby d19_20) hml (lenOf pd_3 rfl) rfl rfl (Nat.le_refl _) (by decide)
  obtain ⟨rfl, N20q, K20, p20_0⟩ := hQ20
  have pl20 := (allS (P := fun x => ∃ cell : Cell, T12.heap[x]? = some cell ∧ cell.vm.isStatics = false) (own_ns f24) all0)
  have N20 := Fr.app N12 N20q
  have f25 := (f17.keep K20 (ninS (Nat.ne_of_lt (Nat.lt_of_lt_of_le V_r0.lt p1_0)) nin0))
  obtain ⟨cl_z26, Ar_z26, q_z26, S_z26, N_z26, H_z26, G_z26⟩ := id f25
  have hin27 : ¬ ((3 : Int32) < 0 ∨ cl_z26.slots.size ≤ ((3 : Int32)).toNatClampNeg) := inb_of S_z26 ⟨by decide, by decide⟩
  have f29 := (own_sta_keep f21 K20 pl20)
  have f30 := (own_sta_keep f22 K20 pl20)
  have f31 := (own_sta_keep f23 K20 pl20)
  have f32 := (f24.keep K20)
  obtain ⟨_, T28, L28, X28, hQ28, st28⟩ := own_cS 0 (rmPC_4_3 l Z a0 hw [] ar_1 x3 kk_1 (((x0 >>> ((0 : Int32) &&& 31)).toInt8.toInt32).toInt8.toInt32) (((x0 >>> ((8 : Int32) &&& 31)).toInt8.toInt32).toInt8.toInt32) (((x1 >>> ((0 : Int32) &&& 31)).toInt8.toInt32).toInt8.toInt32) (((x1 >>> ((8 : Int32) &&& 31)).toInt8.toInt32).toInt8.toInt32) (((x2 >>> ((0 : Int32) &&& 31)).toInt8.toInt32).toInt8.toInt32) (((x2 >>> ((8 : Int32) &&& 31)).toInt8.toInt32).toInt8.toInt32) (0 : Int32) (0 : Int32) T20.heap n0 (Nat.le_trans (Nat.le_trans (Nat.le_trans (Nat.le_trans Z0 K1.1) K5.1) K12.1) K20.1) f29 f30 f31 p20_0 f32 g_ar_1) X20 hx hZ hown hw 94 95 51 96 rfl rfl rfl rfl 20 #[rv r0, iv 3, iv 4, rv ar_1, iv 3] [(.ref ar_1), (.int 3), (.int x3)] [] (hb hby d19_20) hml (lenOf pd_3 rfl) rfl rfl (Nat.le_refl _) (by decide)
  obtain ⟨rfl, N28q, K28, p28_0⟩ := hQ28
  have pl28 := (allS (P := fun x => ∃ cell : Cell, T20.heap[x]? = some cell ∧ cell.vm.isStatics = false) (own_ns f32) all0)
  have N28 := Fr.app N20 N28q
  have f33 := (f32.keep K28)
  refine own_out X28 Bd.notSynchronized Bd.returns (some (.ref ar_1)) nofun (by decide) (by decide) ?_ fun fs hr => k0 _ ?_
  · exact ⟨ar_1, kk_1, rfl, N28, ((((((Keep.refl h0 []).trans K1 all0).trans K5 (allS (Or.inr sz_ar_1) all0)).trans K12 (allS (Or.inr sz_ar_1) all0)).trans K20 (allS (Or.inr sz_ar_1) all0)).trans K28 (allS (Or.inr sz_ar_1) all0)), sz_ar_1, p28_0, f33⟩
  · show OwnS p e below s₁ (mkF m 0 #[rv r0, iv 0, iv 4, .unset, .unset] []) _
    refine oIn X0 hx hby d19_0 rfl ?_
    refine st1 _ ?_
    refine XS.astoreN X1.here hx rfl (hb hby d19_4) rfl rfl (l' := #[rv r0, iv 0, iv 4, rv ar_1, .unset]) rfl ?_
    refine oIc X1 hx hby d19_5 ?_
    refine XS.istore X1.here hx rfl (hb hby d19_6) rfl (l' := #[rv r0, iv 0, iv 4, rv ar_1, iv 0]) rfl ?_
    refine oIl X1 hx hby d19_8 rfl (oIn X1 hx hby d19_10 rfl ?_)
    refine XS.icmpNo X1.here hx rfl (hb hby d19_11) rfl (tlt (by decide : (0 : Int32) < (4 : Int32))).2.1 ?_
    refine oAn X1 hx hby d19_14 rfl rfl (oIl X1 hx hby d19_15 rfl (oAn X1 hx hby d19_17 rfl rfl (oIn X1 hx hby d19_18 rfl ?_)))
    refine X1.caload hx (j := (0 : Int32)) (v := (.int x0)) (Ar_z3.1) (State.isArrayOf_alike hZ.alike Ar_z3.2.1) Ar_z3.2.2 hin4 (Has.at H_z3 hin4 rfl) (g := (mkF m 19 #[rv r0, iv 0, iv 4, rv ar_1, iv 0] [(.int 0), (.ref r0), (.int 0), (.ref ar_1)])) rfl rfl (hb hby d19_19) _ ?_
    refine st5 _ ?_
    refine XS.iinc X5.here hx rfl (hb hby d19_23) rfl (l' := #[rv r0, iv 1, iv 4, rv ar_1, iv 0]) rfl ?_
    refine XS.iinc X5.here hx rfl (hb hby d19_26) rfl (l' := #[rv r0, iv 1, iv 4, rv ar_1, iv 1]) rfl ?_
    refine oGo X5 hx hby 29 8 d19_29 (by decide) (by decide) (oIl X5 hx hby d19_8 rfl (oIn X5 hx hby d19_10 rfl ?_))
    refine XS.icmpNo X5.here hx rfl (hb hby d19_11) rfl (tlt (by decide : (1 : Int32) < (4 : Int32))).2.1 ?_
    refine oAn X5 hx hby d19_14 rfl rfl (oIl X5 hx hby d19_15 rfl (oAn X5 hx hby d19_17 rfl rfl (oIn X5 hx hby d19_18 rfl ?_)))
    refine X5.caload hx (j := (1 : Int32)) (v := (.int x1)) (Ar_z10.1) (State.isArrayOf_alike hZ.alike Ar_z10.2.1) Ar_z10.2.2 hin11 (Has.at H_z10 hin11 rfl) (g := (mkF m 19 #[rv r0, iv 1, iv 4, rv ar_1, iv 1] [(.int 1), (.ref r0), (.int 1), (.ref ar_1)])) rfl rfl (hb hby d19_19) _ ?_
    refine st12 _ ?_
    refine XS.iinc X12.here hx rfl (hb hby d19_23) rfl (l' := #[rv r0, iv 2, iv 4, rv ar_1, iv 1]) rfl ?_
    refine XS.iinc X12.here hx rfl (hb hby d19_26) rfl (l' := #[rv r0, iv 2, iv 4, rv ar_1, iv 2]) rfl ?_
    refine oGo X12 hx hby 29 8 d19_29 (by decide) (by decide) (oIl X12 hx hby d19_8 rfl (oIn X12 hx hby d19_10 rfl ?_))
    refine XS.icmpNo X12.here hx rfl (hb hby d19_11) rfl (tlt (by decide : (2 : Int32) < (4 : Int32))).2.1 ?_
    refine oAn X12 hx hby d19_14 rfl rfl (oIl X12 hx hby d19_15 rfl (oAn X12 hx hby d19_17 rfl rfl (oIn X12 hx hby d19_18 rfl ?_)))
    refine X12.caload hx (j := (2 : Int32)) (v := (.int x2)) (Ar_z18.1) (State.isArrayOf_alike hZ.alike Ar_z18.2.1) Ar_z18.2.2 hin19 (Has.at H_z18 hin19 rfl) (g := (mkF m 19 #[rv r0, iv 2, iv 4, rv ar_1, iv 2] [(.int 2), (.ref r0), (.int 2), (.ref ar_1)])) rfl rfl (hb hby d19_19) _ ?_
    refine st20 _ ?_
    refine XS.iinc X20.here hx rfl (hb hby d19_23) rfl (l' := #[rv r0, iv 3, iv 4, rv ar_1, iv 2]) rfl ?_
    refine XS.iinc X20.here hx rfl (hb hby d19_26) rfl (l' := #[rv r0, iv 3, iv 4, rv ar_1, iv 3]) rfl ?_
    show OwnS p e below T20 (mkF m 29 #[rv r0, iv 3, iv 4, rv ar_1, iv 3] []) _
    refine oGo X20 hx hby 29 8 d19_29 (by decide) (by decide) (oIl X20 hx hby d19_8 rfl (oIn X20 hx hby d19_10 rfl ?_))
    refine XS.icmpNo X20.here hx rfl (hb hby d19_11) rfl (tlt (by decide : (3 : Int32) < (4 : Int32))).2.1 ?_
    refine oAn X20 hx hby d19_14 rfl rfl (oIl X20 hx hby d19_15 rfl (oAn X20 hx hby d19_17 rfl rfl (oIn X20 hx hby d19_18 rfl ?_)))
    refine X20.caload hx (j := (3 : Int32)) (v := (.int x3)) (Ar_z26.1) (State.isArrayOf_alike hZ.alike Ar_z26.2.1) Ar_z26.2.2 hin27 (Has.at H_z26 hin27 rfl) (g := (mkF m 19 #[rv r0, iv 3, iv 4, rv ar_1, iv 3] [(.int 3), (.ref r0), (.int 3), (.ref ar_1)])) rfl rfl (hb hby d19_19) _ ?_
    refine st28 _ ?_
    refine XS.iinc X28.here hx rfl (hb hby d19_23) rfl (l' := #[rv r0, iv 4, iv 4, rv ar_1, iv 3]) rfl ?_
    refine XS.iinc X28.here hx rfl (hb hby d19_26) rfl (l' := #[rv r0, iv 4, iv 4, rv ar_1, iv 4]) rfl ?_
    refine oGo X28 hx hby 29 8 d19_29 (by decide) (by decide) (oIl X28 hx hby d19_8 rfl (oIn X28 hx hby d19_10 rfl ?_))
    refine XS.icmpYes X28.here hx rfl (pc0 := 11) (pc' := 32) rfl (hb hby d19_11) rfl (flt (by decide : ¬ ((4 : Int32) < (4 : Int32)))).2.1 (by decide) (by decide) ?_
    refine oAn X28 hx hby d19_32 rfl rfl ?_
    jvm_step X28.here [X28.here.top, hx, (hb hby d19_33), X28.method', Bd.returns, Value.isRef, FieldType.isReference]
    first | (intro acts; rw [hr _ acts rfl rfl rfl]) | rw [hr _ _ rfl rfl rfl]
    exact Steps.refl _
def Q_GC_4_0 (Z : State) (r0 : Addr) (kB : ClassId) (x0 x1 x2 x3 : Int32) (h0 : Heap) (n0 : Nat) (v : Option Value) (h : Heap) (L : List Loc) : Prop := v = some (.int x0) ∧ Fr n0 L ∧ h = h0
theorem rmGC_4_0 (l : Launch) (Z : State) (a0 : Array Value) (hw : own_HW a0 Z) (ws : List Jvm.Cond) (r0 : Addr) (kB : ClassId) (x0 x1 x2 x3 : Int32) (h0 : Heap) (n0 : Nat) (Z0 : n0 ≤ h0.size) (S_AD : Sta Z h0 cS0 cS5 "Z" (.int 1)) (S_HI : Sta Z h0 cS0 cS7 "I" (.int 0)) (S_LO : Sta Z h0 cS0 cS8 "I" (.int 8)) (V_r0 : Arv Z h0 r0 kB .byte (8 : Int32) [(.int (((x0 >>> ((0 : Int32) &&& 31)).toInt8.toInt32).toInt8.toInt32)), (.int (((x0 >>> ((8 : Int32) &&& 31)).toInt8.toInt32).toInt8.toInt32)), (.int (((x1 >>> ((0 : Int32) &&& 31)).toInt8.toInt32).toInt8.toInt32)), (.int (((x1 >>> ((8 : Int32) &&& 31)).toInt8.toInt32).toInt8.toInt32)), (.int (((x2 >>> ((0 : Int32) &&& 31)).toInt8.toInt32).toInt8.toInt32)), (.int (((x2 >>> ((8 : Int32) &&& 31)).toInt8.toInt32).toInt8.toInt32)), (.int (((x3 >>> ((0 : Int32) &&& 31)).toInt8.toInt32).toInt8.toInt32)), (.int (((x3 >>> ((8 : Int32) &&& 31)).toInt8.toInt32).toInt8.toInt32))] (.int 0)) (hch_x0 : own_ch x0) :
    own_M l Z (⟨cS0, "getChar", "([BI)C"⟩ : MethodName) jdk_52_method_5_code 2 (some .char) ws ({ frames := 0, cells := 0, slots := 0, locals := 0 } : Room) #[(.ref r0), (.int 0)] h0 (Q_GC_4_0 Z r0 kB x0 x1 x2 x3 h0 n0) := by
  refine own_in cS0 rfl (plainFor_of_name pn_java_lang_StringUTF16) ?_
  intro p e s m below meth c s₁ Bd hml hZ hh hx hby hown X0 e0
  have N0 := Fr.nil n0
  have k0 := own_k (p := p) (e := e) (below := below) (T := s₁) (ef_23 m r0 (0 : Int32))
  obtain ⟨T1, X1, e1, st1⟩ := getS2 X0 hx hZ hown (host := "") (Or.inl (own_at hw 97 rfl)) Via.refl e0 S_AD (g := (mkF m 0 #[rv r0, iv 0] [])) rfl (hb hby d23_0)
  obtain ⟨cl_z2, Ar_z2, q_z2, S_z2, N_z2, H_z2, G_z2⟩ := id V_r0
  have hin3 : ¬ ((0 : Int32) < 0 ∨ cl_z2.slots.size ≤ ((0 : Int32)).toNatClampNeg) := inb_of S_z2 ⟨by decide, by decide⟩
  obtain ⟨T4, X4, e4, st4⟩ := getS2 X1 hx hZ hown (host := "") (Or.inl (own_at hw 98 rfl)) Via.refl e1 S_HI (g := (mkF m 42 #[rv r0, iv 1] [(.int ((((x0 >>> ((0 : Int32) &&& 31)).toInt8.toInt32).toInt8.toInt32) &&& (255 : Int32)))])) rfl (hb hby d23_42)
  have hin5 : ¬ ((1 : Int32) < 0 ∨ cl_z2.slots.size ≤ ((1 : Int32)).toNatClampNeg) := inb_of S_z2 ⟨by decide, by decide⟩
  obtain ⟨T6, X6, e6, st6⟩ := getS2 X4 hx hZ hown (host := "") (Or.inl (own_at hw 99 rfl)) Via.refl e4 S_LO (g := (mkF m 53 #[rv r0, iv 1] [(.int ((((x0 >>> ((8 : Int32) &&& 31)).toInt8.toInt32).toInt8.toInt32) &&& (255 : Int32))), (.int (((((x0 >>> ((0 : Int32) &&& 31)).toInt8.toInt32).toInt8.toInt32) &&& (255 : Int32)) <<< ((0 : Int32) &&& 31)))])) rfl (hb hby d23_53)
  refine own_out X6 Bd.notSynchronized Bd.returns (some (.int ((((((((x0 >>> ((0 : Int32) &&& 31)).toInt8.toInt32).toInt8.toInt32) &&& (255 : Int32)) <<< ((0 : Int32) &&& 31)) ||| (((((x0 >>> ((8 : Int32) &&& 31)).toInt8.toInt32).toInt8.toInt32) &&& (255 : Int32)) <<< ((8 : Int32) &&& 31))).toUInt32.toUInt16.toUInt32.toInt32).toUInt32.toUInt16.toUInt32.toInt32))) nofun (by decide) (by decide) ?_ fun fs hr => k0 _ ?_
  · rw [e6]; exact ⟨(congrArg some (congrArg Value.int (own_u16c hch_x0))), N0, rfl⟩
  · show OwnS p e below s₁ (mkF m 0 #[rv r0, iv 0] []) _
    refine st1 _ ?_
    refine XS.ifYes X1.here hx rfl (pc0 := 3) (pc' := 28) rfl (hb hby d23_3) rfl ((if0 _ _).trans (feq (by decide : ¬ ((1 : Int32) = (0 : Int32)))).2) (by decide) (by decide) ?_
    refine oIn X1 hx hby d23_28 rfl (oIc X1 hx hby d23_29 ?_)
    refine XS.ishl X1.here hx rfl (hb hby d23_30) rfl ?_
    refine XS.istoreN X1.here hx rfl (hb hby d23_31) rfl (l' := #[rv r0, iv 0]) rfl ?_
    refine oAn X1 hx hby d23_32 rfl rfl (oIn X1 hx hby d23_33 rfl ?_)
    refine XS.iinc X1.here hx rfl (hb hby d23_34) rfl (l' := #[rv r0, iv 1]) rfl ?_
    refine X1.baloadBytes hx (j := (0 : Int32)) (v := (.int (((x0 >>> ((0 : Int32) &&& 31)).toInt8.toInt32).toInt8.toInt32))) (by rw [e1]; exact Ar_z2.1) (State.isArrayOf_alike hZ.alike Ar_z2.2.1) Ar_z2.2.2 hin3 (Has.at H_z2 hin3 rfl) (g := (mkF m 37 #[rv r0, iv 1] [(.int 0), (.ref r0)])) rfl rfl (hb hby d23_37) _ ?_
    refine XS.sipush X1.here hx rfl (hb hby d23_38) ?_
    refine XS.iand X1.here hx rfl (hb hby d23_41) rfl ?_
    refine st4 _ ?_
    refine XS.ishl X4.here hx rfl (hb hby d23_45) rfl ?_
    refine oAn X4 hx hby d23_46 rfl rfl (oIn X4 hx hby d23_47 rfl ?_)
    refine X4.baloadBytes hx (j := (1 : Int32)) (v := (.int (((x0 >>> ((8 : Int32) &&& 31)).toInt8.toInt32).toInt8.toInt32))) (by rw [e4]; exact Ar_z2.1) (State.isArrayOf_alike hZ.alike Ar_z2.2.1) Ar_z2.2.2 hin5 (Has.at H_z2 hin5 rfl) (g := (mkF m 48 #[rv r0, iv 1] [(.int 1), (.ref r0), (.int (((((x0 >>> ((0 : Int32) &&& 31)).toInt8.toInt32).toInt8.toInt32) &&& (255 : Int32)) <<< ((0 : Int32) &&& 31)))])) rfl rfl (hb hby d23_48) _ ?_
    refine XS.sipush X4.here hx rfl (hb hby d23_49) ?_
    refine XS.iand X4.here hx rfl (hb hby d23_52) rfl ?_
    refine st6 _ ?_
    refine XS.ishl X6.here hx rfl (hb hby d23_56) rfl ?_
    refine XS.ior X6.here hx rfl (hb hby d23_57) rfl ?_
    refine XS.i2c X6.here hx rfl (hb hby d23_58) rfl ?_
    exact retN X6 hx (t := .char) Bd.returns (by simp) (hb hby d23_59) hr
def Q_GC_4_1 (Z : State) (r0 : Addr) (kB : ClassId) (x0 x1 x2 x3 : Int32) (h0 : Heap) (n0 : Nat) (v : Option Value) (h : Heap) (L : List Loc) : Prop := v = some (.int x1) ∧ Fr n0 L ∧ h = h0
theorem rmGC_4_1 (l : Launch) (Z : State) (a0 : Array Value) (hw : own_HW a0 Z) (ws : List Jvm.Cond) (r0 : Addr) (kB : ClassId) (x0 x1 x2 x3 : Int32) (h0 : Heap) (n0 : Nat) (Z0 : n0 ≤ h0.size) (S_AD : Sta Z h0 cS0 cS5 "Z" (.int 1)) (S_HI : Sta Z h0 cS0 cS7 "I" (.int 0)) (S_LO : Sta Z h0 cS0 cS8 "I" (.int 8)) (V_r0 : Arv Z h0 r0 kB .byte (8 : Int32) [(.int (((x0 >>> ((0 : Int32) &&& 31)).toInt8.toInt32).toInt8.toInt32)), (.int (((x0 >>> ((8 : Int32) &&& 31)).toInt8.toInt32).toInt8.toInt32)), (.int (((x1 >>> ((0 : Int32) &&& 31)).toInt8.toInt32).toInt8.toInt32)), (.int (((x1 >>> ((8 : Int32) &&& 31)).toInt8.toInt32).toInt8.toInt32)), (.int (((x2 >>> ((0 : Int32) &&& 31)).toInt8.toInt32).toInt8.toInt32)), (.int (((x2 >>> ((8 : Int32) &&& 31)).toInt8.toInt32).toInt8.toInt32)), (.int (((x3 >>> ((0 : Int32) &&& 31)).toInt8.toInt32).toInt8.toInt32)), (.int (((x3 >>> ((8 : Int32) &&& 31)).toInt8.toInt32).toInt8.toInt32))] (.int 0)) (hch_x1 : own_ch x1) :
    own_M l Z (⟨cS0, "getChar", "([BI)C"⟩ : MethodName) jdk_52_method_5_code 2 (some .char) ws ({ frames := 0, cells := 0, slots := 0, locals := 0 } : Room) #[(.ref r0), (.int 1)] h0 (Q_GC_4_1 Z r0 kB x0 x1 x2 x3 h0 n0) := by
  refine own_in cS0 rfl (plainFor_of_name pn_java_lang_StringUTF16) ?_
  intro p e s m below meth c s₁ Bd hml hZ hh hx hby hown X0 e0
  have N0 := Fr.nil n0
  have k0 := own_k (p := p) (e := e) (below := below) (T := s₁) (ef_23 m r0 (1 : Int32))
  obtain ⟨T1, X1, e1, st1⟩ := getS2 X0 hx hZ hown (host := "") (Or.inl (own_at hw 97 rfl)) Via.refl e0 S_AD (g := (mkF m 0 #[rv r0, iv 1] [])) rfl (hb hby d23_0)
  obtain ⟨cl_z2, Ar_z2, q_z2, S_z2, N_z2, H_z2, G_z2⟩ := id V_r0
  have hin3 : ¬ ((2 : Int32) < 0 ∨ cl_z2.slots.size ≤ ((2 : Int32)).toNatClampNeg) := inb_of S_z2 ⟨by decide, by decide⟩
  obtain ⟨T4, X4, e4, st4⟩ := getS2 X1 hx hZ hown (host := "") (Or.inl (own_at hw 98 rfl)) Via.refl e1 S_HI (g := (mkF m 42 #[rv r0, iv 3] [(.int ((((x1 >>> ((0 : Int32) &&& 31)).toInt8.toInt32).toInt8.toInt32) &&& (255 : Int32)))])) rfl (hb hby d23_42)
  have hin5 : ¬ ((3 : Int32) < 0 ∨ cl_z2.slots.size ≤ ((3 : Int32)).toNatClampNeg) := inb_of S_z2 ⟨by decide, by decide⟩
  obtain ⟨T6, X6, e6, st6⟩ := getS2 X4 hx hZ hown (host := "") (Or.inl (own_at hw 99 rfl)) Via.refl e4 S_LO (g := (mkF m 53 #[rv r0, iv 3] [(.int ((((x1 >>> ((8 : Int32) &&& 31)).toInt8.toInt32).toInt8.toInt32) &&& (255 : Int32))), (.int (((((x1 >>> ((0 : Int32) &&& 31)).toInt8.toInt32).toInt8.toInt32) &&& (255 : Int32)) <<< ((0 : Int32) &&& 31)))])) rfl (hb hby d23_53)
  refine own_out X6 Bd.notSynchronized Bd.returns (some (.int ((((((((x1 >>> ((0 : Int32) &&& 31)).toInt8.toInt32).toInt8.toInt32) &&& (255 : Int32)) <<< ((0 : Int32) &&& 31)) ||| (((((x1 >>> ((8 : Int32) &&& 31)).toInt8.toInt32).toInt8.toInt32) &&& (255 : Int32)) <<< ((8 : Int32) &&& 31))).toUInt32.toUInt16.toUInt32.toInt32).toUInt32.toUInt16.toUInt32.toInt32))) nofun (by decide) (by decide) ?_ fun fs hr => k0 _ ?_
  · rw [e6]; exact ⟨(congrArg some (congrArg Value.int (own_u16c hch_x1))), N0, rfl⟩
  · show OwnS p e below s₁ (mkF m 0 #[rv r0, iv 1] []) _
    refine st1 _ ?_
    refine XS.ifYes X1.here hx rfl (pc0 := 3) (pc' := 28) rfl (hb hby d23_3) rfl ((if0 _ _).trans (feq (by decide : ¬ ((1 : Int32) = (0 : Int32)))).2) (by decide) (by decide) ?_
    refine oIn X1 hx hby d23_28 rfl (oIc X1 hx hby d23_29 ?_)
    refine XS.ishl X1.here hx rfl (hb hby d23_30) rfl ?_
    refine XS.istoreN X1.here hx rfl (hb hby d23_31) rfl (l' := #[rv r0, iv 2]) rfl ?_
    refine oAn X1 hx hby d23_32 rfl rfl (oIn X1 hx hby d23_33 rfl ?_)
    refine XS.iinc X1.here hx rfl (hb hby d23_34) rfl (l' := #[rv r0, iv 3]) rfl ?_
    refine X1.baloadBytes hx (j := (2 : Int32)) (v := (.int (((x1 >>> ((0 : Int32) &&& 31)).toInt8.toInt32).toInt8.toInt32))) (by rw [e1]; exact Ar_z2.1) (State.isArrayOf_alike hZ.alike Ar_z2.2.1) Ar_z2.2.2 hin3 (Has.at H_z2 hin3 rfl) (g := (mkF m 37 #[rv r0, iv 3] [(.int 2), (.ref r0)])) rfl rfl (hb hby d23_37) _ ?_
    refine XS.sipush X1.here hx rfl (hb hby d23_38) ?_
    refine XS.iand X1.here hx rfl (hb hby d23_41) rfl ?_
    refine st4 _ ?_
    refine XS.ishl X4.here hx rfl (hb hby d23_45) rfl ?_
    refine oAn X4 hx hby d23_46 rfl rfl (oIn X4 hx hby d23_47 rfl ?_)
    refine X4.baloadBytes hx (j := (3 : Int32)) (v := (.int (((x1 >>> ((8 : Int32) &&& 31)).toInt8.toInt32).toInt8.toInt32))) (by rw [e4]; exact Ar_z2.1) (State.isArrayOf_alike hZ.alike Ar_z2.2.1) Ar_z2.2.2 hin5 (Has.at H_z2 hin5 rfl) (g := (mkF m 48 #[rv r0, iv 3] [(.int 3), (.ref r0), (.int (((((x1 >>> ((0 : Int32) &&& 31)).toInt8.toInt32).toInt8.toInt32) &&& (255 : Int32)) <<< ((0 : Int32) &&& 31)))])) rfl rfl (hb hby d23_48) _ ?_
    refine XS.sipush X4.here hx rfl (hb hby d23_49) ?_
    refine XS.iand X4.here hx rfl (hb hby d23_52) rfl ?_
    refine st6 _ ?_
    refine XS.ishl X6.here hx rfl (hb hby d23_56) rfl ?_
    refine XS.ior X6.here hx rfl (hb hby d23_57) rfl ?_
    refine XS.i2c X6.here hx rfl (hb hby d23_58) rfl ?_
    exact retN X6 hx (t := .char) Bd.returns (by simp) (hb hby d23_59) hr
def Q_GC_4_2 (Z : State) (r0 : Addr) (kB : ClassId) (x0 x1 x2 x3 : Int32) (h0 : Heap) (n0 : Nat) (v : Option Value) (h : Heap) (L : List Loc) : Prop := v = some (.int x2) ∧ Fr n0 L ∧ h = h0
theorem rmGC_4_2 (l : Launch) (Z : State) (a0 : Array Value) (hw : own_HW a0 Z) (ws : List Jvm.Cond) (r0 : Addr) (kB : ClassId) (x0 x1 x2 x3 : Int32) (h0 : Heap) (n0 : Nat) (Z0 : n0 ≤ h0.size) (S_AD : Sta Z h0 cS0 cS5 "Z" (.int 1)) (S_HI : Sta Z h0 cS0 cS7 "I" (.int 0)) (S_LO : Sta Z h0 cS0 cS8 "I" (.int 8)) (V_r0 : Arv Z h0 r0 kB .byte (8 : Int32) [(.int (((x0 >>> ((0 : Int32) &&& 31)).toInt8.toInt32).toInt8.toInt32)), (.int (((x0 >>> ((8 : Int32) &&& 31)).toInt8.toInt32).toInt8.toInt32)), (.int (((x1 >>> ((0 : Int32) &&& 31)).toInt8.toInt32).toInt8.toInt32)), (.int (((x1 >>> ((8 : Int32) &&& 31)).toInt8.toInt32).toInt8.toInt32)), (.int (((x2 >>> ((0 : Int32) &&& 31)).toInt8.toInt32).toInt8.toInt32)), (.int (((x2 >>> ((8 : Int32) &&& 31)).toInt8.toInt32).toInt8.toInt32)), (.int (((x3 >>> ((0 : Int32) &&& 31)).toInt8.toInt32).toInt8.toInt32)), (.int (((x3 >>> ((8 : Int32) &&& 31)).toInt8.toInt32).toInt8.toInt32))] (.int 0)) (hch_x2 : own_ch x2) :
    own_M l Z (⟨cS0, "getChar", "([BI)C"⟩ : MethodName) jdk_52_method_5_code 2 (some .char) ws ({ frames := 0, cells := 0, slots := 0, locals := 0 } : Room) #[(.ref r0), (.int 2)] h0 (Q_GC_4_2 Z r0 kB x0 x1 x2 x3 h0 n0) := by
  refine own_in cS0 rfl (plainFor_of_name pn_java_lang_StringUTF16) ?_
  intro p e s m below meth c s₁ Bd hml hZ hh hx hby hown X0 e0
  have N0 := Fr.nil n0
  have k0 := own_k (p := p) (e := e) (below := below) (T := s₁) (ef_23 m r0 (2 : Int32))
  obtain ⟨T1, X1, e1, st1⟩ := getS2 X0 hx hZ hown (host := "") (Or.inl (own_at hw 97 rfl)) Via.refl e0 S_AD (g := (mkF m 0 #[rv r0, iv 2] [])) rfl (hb hby d23_0)
  obtain ⟨cl_z2, Ar_z2, q_z2, S_z2, N_z2, H_z2, G_z2⟩ := id V_r0
  have hin3 : ¬ ((4 : Int32) < 0 ∨ cl_z2.slots.size ≤ ((4 : Int32)).toNatClampNeg) := inb_of S_z2 ⟨by decide, by decide⟩
  obtain ⟨T4, X4, e4, st4⟩ := getS2 X1 hx hZ hown (host := "") (Or.inl (own_at hw 98 rfl)) Via.refl e1 S_HI (g := (mkF m 42 #[rv r0, iv 5] [(.int ((((x2 >>> ((0 : Int32) &&& 31)).toInt8.toInt32).toInt8.toInt32) &&& (255 : Int32)))])) rfl (hb hby d23_42)
  have hin5 : ¬ ((5 : Int32) < 0 ∨ cl_z2.slots.size ≤ ((5 : Int32)).toNatClampNeg) := inb_of S_z2 ⟨by decide, by decide⟩
  obtain ⟨T6, X6, e6, st6⟩ := getS2 X4 hx hZ hown (host := "") (Or.inl (own_at hw 99 rfl)) Via.refl e4 S_LO (g := (mkF m 53 #[rv r0, iv 5] [(.int ((((x2 >>> ((8 : Int32) &&& 31)).toInt8.toInt32).toInt8.toInt32) &&& (255 : Int32))), (.int (((((x2 >>> ((0 : Int32) &&& 31)).toInt8.toInt32).toInt8.toInt32) &&& (255 : Int32)) <<< ((0 : Int32) &&& 31)))])) rfl (hb hby d23_53)
  refine own_out X6 Bd.notSynchronized Bd.returns (some (.int ((((((((x2 >>> ((0 : Int32) &&& 31)).toInt8.toInt32).toInt8.toInt32) &&& (255 : Int32)) <<< ((0 : Int32) &&& 31)) ||| (((((x2 >>> ((8 : Int32) &&& 31)).toInt8.toInt32).toInt8.toInt32) &&& (255 : Int32)) <<< ((8 : Int32) &&& 31))).toUInt32.toUInt16.toUInt32.toInt32).toUInt32.toUInt16.toUInt32.toInt32))) nofun (by decide) (by decide) ?_ fun fs hr => k0 _ ?_
  · rw [e6]; exact ⟨(congrArg some (congrArg Value.int (own_u16c hch_x2))), N0, rfl⟩
  · show OwnS p e below s₁ (mkF m 0 #[rv r0, iv 2] []) _
    refine st1 _ ?_
    refine XS.ifYes X1.here hx rfl (pc0 := 3) (pc' := 28) rfl (hb hby d23_3) rfl ((if0 _ _).trans (feq (by decide : ¬ ((1 : Int32) = (0 : Int32)))).2) (by decide) (by decide) ?_
    refine oIn X1 hx hby d23_28 rfl (oIc X1 hx hby d23_29 ?_)
    refine XS.ishl X1.here hx rfl (hb hby d23_30) rfl ?_
    refine XS.istoreN X1.here hx rfl (hb hby d23_31) rfl (l' := #[rv r0, iv 4]) rfl ?_
    refine oAn X1 hx hby d23_32 rfl rfl (oIn X1 hx hby d23_33 rfl ?_)
    refine XS.iinc X1.here hx rfl (hb hby d23_34) rfl (l' := #[rv r0, iv 5]) rfl ?_
    refine X1.baloadBytes hx (j := (4 : Int32)) (v := (.int (((x2 >>> ((0 : Int32) &&& 31)).toInt8.toInt32).toInt8.toInt32))) (by rw [e1]; exact Ar_z2.1) (State.isArrayOf_alike hZ.alike Ar_z2.2.1) Ar_z2.2.2 hin3 (Has.at H_z2 hin3 rfl) (g := (mkF m 37 #[rv r0, iv 5] [(.int 4), (.ref r0)])) rfl rfl (hb hby d23_37) _ ?_
    refine XS.sipush X1.here hx rfl (hb hby d23_38) ?_
    refine XS.iand X1.here hx rfl (hb hby d23_41) rfl ?_
    refine st4 _ ?_
    refine XS.ishl X4.here hx rfl (hb hby d23_45) rfl ?_
    refine oAn X4 hx hby d23_46 rfl rfl (oIn X4 hx hby d23_47 rfl ?_)
    refine X4.baloadBytes hx (j := (5 : Int32)) (v := (.int (((x2 >>> ((8 : Int32) &&& 31)).toInt8.toInt32).toInt8.toInt32))) (by rw [e4]; exact Ar_z2.1) (State.isArrayOf_alike hZ.alike Ar_z2.2.1) Ar_z2.2.2 hin5 (Has.at H_z2 hin5 rfl) (g := (mkF m 48 #[rv r0, iv 5] [(.int 5), (.ref r0), (.int (((((x2 >>> ((0 : Int32) &&& 31)).toInt8.toInt32).toInt8.toInt32) &&& (255 : Int32)) <<< ((0 : Int32) &&& 31)))])) rfl rfl (hb hby d23_48) _ ?_
    refine XS.sipush X4.here hx rfl (hb hby d23_49) ?_
    refine XS.iand X4.here hx rfl (hb hby d23_52) rfl ?_
    refine st6 _ ?_
    refine XS.ishl X6.here hx rfl (hb hby d23_56) rfl ?_
    refine XS.ior X6.here hx rfl (hb hby d23_57) rfl ?_
    refine XS.i2c X6.here hx rfl (hb hby d23_58) rfl ?_
    exact retN X6 hx (t := .char) Bd.returns (by simp) (hb hby d23_59) hr
def Q_GC_4_3 (Z : State) (r0 : Addr) (kB : ClassId) (x0 x1 x2 x3 : Int32) (h0 : Heap) (n0 : Nat) (v : Option Value) (h : Heap) (L : List Loc) : Prop := v = some (.int x3) ∧ Fr n0 L ∧ h = h0
theorem rmGC_4_3 (l : Launch) (Z : State) (a0 : Array Value) (hw : own_HW a0 Z) (ws : List Jvm.Cond) (r0 : Addr) (kB : ClassId) (x0 x1 x2 x3 : Int32) (h0 : Heap) (n0 : Nat) (Z0 : n0 ≤ h0.size) (S_AD : Sta Z h0 cS0 cS5 "Z" (.int 1)) (S_HI : Sta Z h0 cS0 cS7 "I" (.int 0)) (S_LO : Sta Z h0 cS0 cS8 "I" (.int 8)) (V_r0 : Arv Z h0 r0 kB .byte (8 : Int32) [(.int (((x0 >>> ((0 : Int32) &&& 31)).toInt8.toInt32).toInt8.toInt32)), (.int (((x0 >>> ((8 : Int32) &&& 31)).toInt8.toInt32).toInt8.toInt32)), (.int (((x1 >>> ((0 : Int32) &&& 31)).toInt8.toInt32).toInt8.toInt32)), (.int (((x1 >>> ((8 : Int32) &&& 31)).toInt8.toInt32).toInt8.toInt32)), (.int (((x2 >>> ((0 : Int32) &&& 31)).toInt8.toInt32).toInt8.toInt32)), (.int (((x2 >>> ((8 : Int32) &&& 31)).toInt8.toInt32).toInt8.toInt32)), (.int (((x3 >>> ((0 : Int32) &&& 31)).toInt8.toInt32).toInt8.toInt32)), (.int (((x3 >>> ((8 : Int32) &&& 31)).toInt8.toInt32).toInt8.toInt32))] (.int 0)) (hch_x3 : own_ch x3) :
    own_M l Z (⟨cS0, "getChar", "([BI)C"⟩ : MethodName) jdk_52_method_5_code 2 (some .char) ws ({ frames := 0, cells := 0, slots := 0, locals := 0 } : Room) #[(.ref r0), (.int 3)] h0 (Q_GC_4_3 Z r0 kB x0 x1 x2 x3 h0 n0) := by
  refine own_in cS0 rfl (plainFor_of_name pn_java_lang_StringUTF16) ?_
  intro p e s m below meth c s₁ Bd hml hZ hh hx hby hown X0 e0
  have N0 := Fr.nil n0
  have k0 := own_k (p := p) (e := e) (below := below) (T := s₁) (ef_23 m r0 (3 : Int32))
  obtain ⟨T1, X1, e1, st1⟩ := getS2 X0 hx hZ hown (host := "") (Or.inl (own_at hw 97 rfl)) Via.refl e0 S_AD (g := (mkF m 0 #[rv r0, iv 3] [])) rfl (hb hby d23_0)
  obtain ⟨cl_z2, Ar_z2, q_z2, S_z2, N_z2, H_z2, G_z2⟩ := id V_r0
  have hin3 : ¬ ((6 : Int32) < 0 ∨ cl_z2.slots.size ≤ ((6 : Int32)).toNatClampNeg) := inb_of S_z2 ⟨by decide, by decide⟩
  obtain ⟨T4, X4, e4, st4⟩ := getS2 X1 hx hZ hown (host := "") (Or.inl (own_at hw 98 rfl)) Via.refl e1 S_HI (g := (mkF m 42 #[rv r0, iv 7] [(.int ((((x3 >>> ((0 : Int32) &&& 31)).toInt8.toInt32).toInt8.toInt32) &&& (255 : Int32)))])) rfl (hb hby d23_42)
  have hin5 : ¬ ((7 : Int32) < 0 ∨ cl_z2.slots.size ≤ ((7 : Int32)).toNatClampNeg) := inb_of S_z2 ⟨by decide, by decide⟩
  obtain ⟨T6, X6, e6, st6⟩ := getS2 X4 hx hZ hown (host := "") (Or.inl (own_at hw 99 rfl)) Via.refl e4 S_LO (g := (mkF m 53 #[rv r0, iv 7] [(.int ((((x3 >>> ((8 : Int32) &&& 31)).toInt8.toInt32).toInt8.toInt32) &&& (255 : Int32))), (.int (((((x3 >>> ((0 : Int32) &&& 31)).toInt8.toInt32).toInt8.toInt32) &&& (255 : Int32)) <<< ((0 : Int32) &&& 31)))])) rfl (hb hby d23_53)
  refine own_out X6 Bd.notSynchronized Bd.returns (some (.int ((((((((x3 >>> ((0 : Int32) &&& 31)).toInt8.toInt32).toInt8.toInt32) &&& (255 : Int32)) <<< ((0 : Int32) &&& 31)) ||| (((((x3 >>> ((8 : Int32) &&& 31)).toInt8.toInt32).toInt8.toInt32) &&& (255 : Int32)) <<< ((8 : Int32) &&& 31))).toUInt32.toUInt16.toUInt32.toInt32).toUInt32.toUInt16.toUInt32.toInt32))) nofun (by decide) (by decide) ?_ fun fs hr => k0 _ ?_
  · rw [e6]; exact ⟨(congrArg some (congrArg Value.int (own_u16c hch_x3))), N0, rfl⟩
  · show OwnS p e below s₁ (mkF m 0 #[rv r0, iv 3] []) _
    refine st1 _ ?_
    refine XS.ifYes X1.here hx rfl (pc0 := 3) (pc' := 28) rfl (hb hby d23_3) rfl ((if0 _ _).trans (feq (by decide : ¬ ((1 : Int32) = (0 : Int32)))).2) (by decide) (by decide) ?_
    refine oIn X1 hx hby d23_28 rfl (oIc X1 hx hby d23_29 ?_)
    refine XS.ishl X1.here hx rfl (hb hby d23_30) rfl ?_
    refine XS.istoreN X1.here hx rfl (hb hby d23_31) rfl (l' := #[rv r0, iv 6]) rfl ?_
    refine oAn X1 hx hby d23_32 rfl rfl (oIn X1 hx hby d23_33 rfl ?_)
    refine XS.iinc X1.here hx rfl (hb hby d23_34) rfl (l' := #[rv r0, iv 7]) rfl ?_
    refine X1.baloadBytes hx (j := (6 : Int32)) (v := (.int (((x3 >>> ((0 : Int32) &&& 31)).toInt8.toInt32).toInt8.toInt32))) (by rw [e1]; exact Ar_z2.1) (State.isArrayOf_alike hZ.alike Ar_z2.2.1) Ar_z2.2.2 hin3 (Has.at H_z2 hin3 rfl) (g := (mkF m 37 #[rv r0, iv 7] [(.int 6), (.ref r0)])) rfl rfl (hb hby d23_37) _ ?_
    refine XS.sipush X1.here hx rfl (hb hby d23_38) ?_
    refine XS.iand X1.here hx rfl (hb hby d23_41) rfl ?_
    refine st4 _ ?_
    refine XS.ishl X4.here hx rfl (hb hby d23_45) rfl ?_
    refine oAn X4 hx hby d23_46 rfl rfl (oIn X4 hx hby d23_47 rfl ?_)
    refine X4.baloadBytes hx (j := (7 : Int32)) (v := (.int (((x3 >>> ((8 : Int32) &&& 31)).toInt8.toInt32).toInt8.toInt32))) (by rw [e4]; exact Ar_z2.1) (State.isArrayOf_alike hZ.alike Ar_z2.2.1) Ar_z2.2.2 hin5 (Has.at H_z2 hin5 rfl) (g := (mkF m 48 #[rv r0, iv 7] [(.int 7), (.ref r0), (.int (((((x3 >>> ((0 : Int32) &&& 31)).toInt8.toInt32).toInt8.toInt32) &&& (255 : Int32)) <<< ((0 : Int32) &&& 31)))])) rfl rfl (hb hby d23_48) _ ?_
    refine XS.sipush X4.here hx rfl (hb hby d23_49) ?_
    refine XS.iand X4.here hx rfl (hb hby d23_52) rfl ?_
    refine st6 _ ?_
    refine XS.ishl X6.here hx rfl (hb hby d23_56) rfl ?_
    refine XS.ior X6.here hx rfl (hb hby d23_57) rfl ?_
    refine XS.i2c X6.here hx rfl (hb hby d23_58) rfl ?_
    exact retN X6 hx (t := .char) Bd.returns (by simp) (hb hby d23_59) hr
def Q_C2_4 (Z : State) (r0 r2 : Addr) (kC kB : ClassId) (x0 x1 x2 x3 : Int32) (h0 : Heap) (n0 : Nat) (v : Option Value) (h : Heap) (L : List Loc) : Prop := (v = some (.int 0) ∧ Fr n0 L ∧ Keep h0 h [r2] ∧ Arv Z h r2 kB .byte (4 : Int32) [(.int 0), (.int 0), (.int 0), (.int 0)] (.int 0) ∧ (255 : Int32) < x0) ∨ (v = some (.int 1) ∧ Fr n0 L ∧ Keep h0 h [r2] ∧ Arv Z h r2 kB .byte (4 : Int32) [(.int ((x0.toInt8.toInt32).toInt8.toInt32)), (.int 0), (.int 0), (.int 0)] (.int 0) ∧ ¬ ((255 : Int32) < x0) ∧ (255 : Int32) < x1) ∨ (v = some (.int 2) ∧ Fr n0 L ∧ Keep h0 h [r2] ∧ Arv Z h r2 kB .byte (4 : Int32) [(.int ((x0.toInt8.toInt32).toInt8.toInt32)), (.int ((x1.toInt8.toInt32).toInt8.toInt32)), (.int 0), (.int 0)] (.int 0) ∧ ¬ ((255 : Int32) < x0) ∧ ¬ ((255 : Int32) < x1) ∧ (255 : Int32) < x2) ∨ (v = some (.int 3) ∧ Fr n0 L ∧ Keep h0 h [r2] ∧ Arv Z h r2 kB .byte (4 : Int32) [(.int ((x0.toInt8.toInt32).toInt8.toInt32)), (.int ((x1.toInt8.toInt32).toInt8.toInt32)), (.int ((x2.toInt8.toInt32).toInt8.toInt32)), (.int 0)] (.int 0) ∧ ¬ ((255 : Int32) < x0) ∧ ¬ ((255 : Int32) < x1) ∧ ¬ ((255 : Int32) < x2) ∧ (255 : Int32) < x3) ∨ (v = some (.int 4) ∧ Fr n0 L ∧ Keep h0 h [r2] ∧ Arv Z h r2 kB .byte (4 : Int32) [(.int ((x0.toInt8.toInt32).toInt8.toInt32)), (.int ((x1.toInt8.toInt32).toInt8.toInt32)), (.int ((x2.toInt8.toInt32).toInt8.toInt32)), (.int ((x3.toInt8.toInt32).toInt8.toInt32))] (.int 0) ∧ ¬ ((255 : Int32) < x0) ∧ ¬ ((255 : Int32) < x1) ∧ ¬ ((255 : Int32) < x2) ∧ ¬ ((255 : Int32) < x3))
theorem rmC2_4 (l : Launch) (Z : State) (a0 : Array Value) (hw : own_HW a0 Z) (ws : List Jvm.Cond) (r0 r2 : Addr) (kC kB : ClassId) (x0 x1 x2 x3 : Int32) (h0 : Heap) (n0 : Nat) (Z0 : n0 ≤ h0.size) (V_r0 : Arv Z h0 r0 kC .char (4 : Int32) [(.int x0), (.int x1), (.int x2), (.int x3)] (.int 0)) (V_r2 : Arv Z h0 r2 kB .byte (4 : Int32) [(.int 0), (.int 0), (.int 0), (.int 0)] (.int 0)) (E_r2 : Exa Z h0 r2 "[B") (ge_r2 : n0 ≤ r2) (ne_r0_r2 : r0 ≠ r2) :
    own_M l Z (⟨cS0, "compress", "([CI[BII)I"⟩ : MethodName) jdk_52_method_21_code 7 (some .int) ws ({ frames := 0, cells := 0, slots := 0, locals := 0 } : Room) #[(.ref r0), (.int 0), (.ref r2), (.int 0), (.int 4)] h0 (Q_C2_4 Z r0 r2 kC kB x0 x1 x2 x3 h0 n0) := by
  refine own_in cS0 rfl (plainFor_of_name pn_java_lang_StringUTF16) ?_
  intro p e s m below meth c s₁ Bd hml hZ hh hx hby hown X0 e0
  have N0 := Fr.nil n0
  have k0 := own_k (p := p) (e := e) (below := below) (T := s₁) (ef_11 m r0 (0 : Int32) r2 (0 : Int32) (4 : Int32))
  obtain ⟨cl_z1, Ar_z1, q_z1, S_z1, N_z1, H_z1, G_z1⟩ := id V_r0
  have hin2 : ¬ ((0 : Int32) < 0 ∨ cl_z1.slots.size ≤ ((0 : Int32)).toNatClampNeg) := inb_of S_z1 ⟨by decide, by decide⟩
  have k4 : ∀ t, OwnS p e below s₁ (mkF m 20 #[rv r0, iv 0, rv r2, iv 0, iv 4, iv 0, iv x0] [(.int 255), (.int x0)]) t → OwnS p e below s₁ (entryFrame m #[(.ref r0), (.int 0), (.ref r2), (.int 0), (.int 4)] 7) t := fun t q => by
   refine k0 t ?_
   show OwnS p e below s₁ (mkF m 0 #[rv r0, iv 0, rv r2, iv 0, iv 4, .unset, .unset] []) _
   refine oIc X0 hx hby d11_0 ?_
   refine XS.istore X0.here hx rfl (hb hby d11_1) rfl (l' := #[rv r0, iv 0, rv r2, iv 0, iv 4, iv 0, .unset]) rfl ?_
   refine oIl X0 hx hby d11_3 rfl (oIl X0 hx hby d11_5 rfl ?_)
   refine XS.icmpNo X0.here hx rfl (hb hby d11_7) rfl (tlt (by decide : (0 : Int32) < (4 : Int32))).2.1 ?_
   refine oAn X0 hx hby d11_10 rfl rfl (oIn X0 hx hby d11_11 rfl ?_)
   refine X0.caload hx (j := (0 : Int32)) (v := (.int x0)) (by rw [e0]; exact Ar_z1.1) (State.isArrayOf_alike hZ.alike Ar_z1.2.1) Ar_z1.2.2 hin2 (Has.at H_z1 hin2 rfl) (g := (mkF m 12 #[rv r0, iv 0, rv r2, iv 0, iv 4, iv 0, .unset] [(.int 0), (.ref r0)])) rfl rfl (hb hby d11_12) _ ?_
   refine XS.istore X0.here hx rfl (hb hby d11_13) rfl (l' := #[rv r0, iv 0, rv r2, iv 0, iv 4, iv 0, iv x0]) rfl ?_
   refine oIl X0 hx hby d11_15 rfl ?_
   refine XS.sipush X0.here hx rfl (hb hby d11_17) ?_
   exact q
  by_cases hc20_3 : (255 : Int32) < x0
  · refine own_out X0 Bd.notSynchronized Bd.returns (some (.int 0)) nofun (by decide) (by decide) ?_ fun fs hr => k4 _ ?_
    · rw [e0]; exact Or.inl (⟨rfl, N0, (Keep.refl h0 [r2]), V_r2, hc20_3⟩)
    · refine XS.icmpNo X0.here hx rfl (hb hby d11_20) rfl (tlt hc20_3).2.2.2 ?_
      refine oIl X0 hx hby d11_23 rfl ?_
      exact retI X0 hx Bd.returns (hb hby d11_25) hr
  · obtain ⟨cl_z5, Ar_z5, q_z5, S_z5, N_z5, H_z5, G_z5⟩ := id V_r2
    have hin6 : ¬ ((0 : Int32) < 0 ∨ cl_z5.slots.size ≤ ((0 : Int32)).toNatClampNeg) := inb_of S_z5 ⟨by decide, by decide⟩
    obtain ⟨T7, h7, X7, e7, W7, st7⟩ := stB X0 hx hZ e0 Ar_z5 (j := (0 : Int32)) hin6 (g := (mkF m 31 #[rv r0, iv 0, rv r2, iv 0, iv 4, iv 0, iv x0] [(.int (x0.toInt8.toInt32)), (.int 0), (.ref r2)])) rfl rfl (hb hby d11_31)
    have V7 : Arv Z h7 r2 kB .byte (4 : Int32) [(.int ((x0.toInt8.toInt32).toInt8.toInt32)), (.int 0), (.int 0), (.int 0)] (.int 0) := Arv.set Ar_z5 q_z5 S_z5 N_z5 H_z5 G_z5 (fits_nar_byte _) W7 0 rfl (Nat.le_of_ble_eq_true rfl)
    have N7 := Fr.snoc X7 N0 ge_r2
    have f8 := (V_r0.other W7 ne_r0_r2)
    obtain ⟨cl_z9, Ar_z9, q_z9, S_z9, N_z9, H_z9, G_z9⟩ := id f8
    have hin10 : ¬ ((1 : Int32) < 0 ∨ cl_z9.slots.size ≤ ((1 : Int32)).toNatClampNeg) := inb_of S_z9 ⟨by decide, by decide⟩
    have k12 : ∀ t, OwnS p e below T7 (mkF m 20 #[rv r0, iv 1, rv r2, iv 1, iv 4, iv 1, iv x1] [(.int 255), (.int x1)]) t → OwnS p e below s₁ (entryFrame m #[(.ref r0), (.int 0), (.ref r2), (.int 0), (.int 4)] 7) t := fun t q => by
     refine k4 t ?_
     refine XS.icmpYes X0.here hx rfl (pc0 := 20) (pc' := 26) rfl (hb hby d11_20) rfl (flt hc20_3).2.2.2 (by decide) (by decide) ?_
     refine oAn X0 hx hby d11_26 rfl rfl (oIn X0 hx hby d11_27 rfl (oIl X0 hx hby d11_28 rfl ?_))
     refine XS.i2b X0.here hx rfl (hb hby d11_30) rfl ?_
     refine st7 _ ?_
     refine XS.iinc X7.here hx rfl (hb hby d11_32) rfl (l' := #[rv r0, iv 1, rv r2, iv 0, iv 4, iv 0, iv x0]) rfl ?_
     refine XS.iinc X7.here hx rfl (hb hby d11_35) rfl (l' := #[rv r0, iv 1, rv r2, iv 1, iv 4, iv 0, iv x0]) rfl ?_
     refine XS.iinc X7.here hx rfl (hb hby d11_38) rfl (l' := #[rv r0, iv 1, rv r2, iv 1, iv 4, iv 1, iv x0]) rfl ?_
     refine oGo X7 hx hby 41 3 d11_41 (by decide) (by decide) (oIl X7 hx hby d11_3 rfl (oIl X7 hx hby d11_5 rfl ?_))
     refine XS.icmpNo X7.here hx rfl (hb hby d11_7) rfl (tlt (by decide : (1 : Int32) < (4 : Int32))).2.1 ?_
     refine oAn X7 hx hby d11_10 rfl rfl (oIn X7 hx hby d11_11 rfl ?_)
     refine X7.caload hx (j := (1 : Int32)) (v := (.int x1)) (by rw [e7]; exact Ar_z9.1) (State.isArrayOf_alike hZ.alike Ar_z9.2.1) Ar_z9.2.2 hin10 (Has.at H_z9 hin10 rfl) (g := (mkF m 12 #[rv r0, iv 1, rv r2, iv 1, iv 4, iv 1, iv x0] [(.int 1), (.ref r0)])) rfl rfl (hb hby d11_12) _ ?_
     refine XS.istore X7.here hx rfl (hb hby d11_13) rfl (l' := #[rv r0, iv 1, rv r2, iv 1, iv 4, iv 1, iv x1]) rfl ?_
     refine oIl X7 hx hby d11_15 rfl ?_
     refine XS.sipush X7.here hx rfl (hb hby d11_17) ?_
     exact q
    by_cases hc20_11 : (255 : Int32) < x1
    · refine own_out X7 Bd.notSynchronized Bd.returns (some (.int 1)) nofun (by decide) (by decide) ?_ fun fs hr => k12 _ ?_
      · rw [e7]; exact Or.inr (Or.inl (⟨rfl, N7, ((Keep.refl h0 [r2]).wr W7 (Or.inl (List.mem_of_getElem? (i := 0) rfl))), V7, hc20_3, hc20_11⟩))
      · refine XS.icmpNo X7.here hx rfl (hb hby d11_20) rfl (tlt hc20_11).2.2.2 ?_
        refine oIl X7 hx hby d11_23 rfl ?_
        exact retI X7 hx Bd.returns (hb hby d11_25) hr
    · obtain ⟨cl_z13, Ar_z13, q_z13, S_z13, N_z13, H_z13, G_z13⟩ := id V7
      have hin14 : ¬ ((1 : Int32) < 0 ∨ cl_z13.slots.size ≤ ((1 : Int32)).toNatClampNeg) := inb_of S_z13 ⟨by decide, by decide⟩
      obtain ⟨T15, h15, X15, e15, W15, st15⟩ := stB X7 hx hZ e7 Ar_z13 (j := (1 : Int32)) hin14 (g := (mkF m 31 #[rv r0, iv 1, rv r2, iv 1, iv 4, iv 1, iv x1] [(.int (x1.toInt8.toInt32)), (.int 1), (.ref r2)])) rfl rfl (hb hby d11_31)
      have V15 : Arv Z h15 r2 kB .byte (4 : Int32) [(.int ((x0.toInt8.toInt32).toInt8.toInt32)), (.int ((x1.toInt8.toInt32).toInt8.toInt32)), (.int 0), (.int 0)] (.int 0) := Arv.set Ar_z13 q_z13 S_z13 N_z13 H_z13 G_z13 (fits_nar_byte _) W15 1 rfl (Nat.le_of_ble_eq_true rfl)
      have N15 := Fr.snoc X15 N7 ge_r2
      have f16 := (f8.other W15 ne_r0_r2)
      obtain ⟨cl_z17, Ar_z17, q_z17, S_z17, N_z17, H_z17, G_z17⟩ := id f16
      have hin18 : ¬ ((2 : Int32) < 0 ∨ cl_z17.slots.size ≤ ((2 : Int32)).toNatClampNeg) := inb_of S_z17 ⟨by decide, by decide⟩
      have k20 : ∀ t, OwnS p e below T15 (mkF m 20 #[rv r0, iv 2, rv r2, iv 2, iv 4, iv 2, iv x2] [(.int 255), (.int x2)]) t → OwnS p e below s₁ (entryFrame m #[(.ref r0), (.int 0), (.ref r2), (.int 0), (.int 4)] 7) t := fun t q => by
       refine k12 t ?_
       refine XS.icmpYes X7.here hx rfl (pc0 := 20) (pc' := 26) rfl (hb hby d11_20) rfl (flt hc20_11).2.2.2 (by decide) (by decide) ?_
       refine oAn X7 hx hby d11_26 rfl rfl (oIn X7 hx hby d11_27 rfl (oIl X7 hx hby d11_28 rfl ?_))
       refine XS.i2b X7.here hx rfl (hb hby d11_30) rfl ?_
       refine st15 _ ?_
       refine XS.iinc X15.here hx rfl (hb hby d11_32) rfl (l' := #[rv r0, iv 2, rv r2, iv 1, iv 4, iv 1, iv x1]) rfl ?_
       refine XS.iinc X15.here hx rfl (hb hby d11_35) rfl (l' := #[rv r0, iv 2, rv r2, iv 2, iv 4, iv 1, iv x1]) rfl ?_
       refine XS.iinc X15.here hx rfl (hb hby d11_38) rfl (l' := #[rv r0, iv 2, rv r2, iv 2, iv 4, iv 2, iv x1]) rfl ?_
       refine oGo X15 hx hby 41 3 d11_41 (by decide) (by decide) (oIl X15 hx hby d11_3 rfl (oIl X15 hx hby d11_5 rfl ?_))
       refine XS.icmpNo X15.here hx rfl (hb hby d11_7) rfl (tlt (by decide : (2 : Int32) < (4 : Int32))).2.1 ?_
       refine oAn X15 hx hby d11_10 rfl rfl (oIn X15 hx hby d11_11 rfl ?_)
       refine X15.caload hx (j := (2 : Int32)) (v := (.int x2)) (by rw [e15]; exact Ar_z17.1) (State.isArrayOf_alike hZ.alike Ar_z17.2.1) Ar_z17.2.2 hin18 (Has.at H_z17 hin18 rfl) (g := (mkF m 12 #[rv r0, iv 2, rv r2, iv 2, iv 4, iv 2, iv x1] [(.int 2), (.ref r0)])) rfl rfl (hb hby d11_12) _ ?_
       refine XS.istore X15.here hx rfl (hb hby d11_13) rfl (l' := #[rv r0, iv 2, rv r2, iv 2, iv 4, iv 2, iv x2]) rfl ?_
       refine oIl X15 hx hby d11_15 rfl ?_
       refine XS.sipush X15.here hx rfl (hb hby d11_17) ?_
       exact q
      by_cases hc20_19 : (255 : Int32) < x2
      · refine own_out X15 Bd.notSynchronized Bd.returns (some (.int 2)) nofun (by decide) (by decide) ?_ fun fs hr => k20 _ ?_
        · rw [e15]; exact Or.inr (Or.inr (Or.inl (⟨rfl, N15, (((Keep.refl h0 [r2]).wr W7 (Or.inl (List.mem_of_getElem? (i := 0) rfl))).wr W15 (Or.inl (List.mem_of_getElem? (i := 0) rfl))), V15, hc20_3, hc20_11, hc20_19⟩)))
        · refine XS.icmpNo X15.here hx rfl (hb hby d11_20) rfl (tlt hc20_19).2.2.2 ?_
          refine oIl X15 hx hby d11_23 rfl ?_
          exact retI X15 hx Bd.returns (hb hby d11_25) hr
      · obtain ⟨cl_z21, Ar_z21, q_z21, S_z21, N_z21, H_z21, G_z21⟩ := id V15
        have hin22 : ¬ ((2 : Int32) < 0 ∨ cl_z21.slots.size ≤ ((2 : Int32)).toNatClampNeg) := inb_of S_z21 ⟨by decide, by decide⟩
        obtain ⟨T23, h23, X23, e23, W23, st23⟩ := stB X15 hx hZ e15 Ar_z21 (j := (2 : Int32)) hin22 (g := (mkF m 31 #[rv r0, iv 2, rv r2, iv 2, iv 4, iv 2, iv x2] [(.int (x2.toInt8.toInt32)), (.int 2), (.ref r2)])) rfl rfl (hb hby d11_31)
        have V23 : Arv Z h23 r2 kB .byte (4 : Int32) [(.int ((x0.toInt8.toInt32).toInt8.toInt32)), (.int ((x1.toInt8.toInt32).toInt8.toInt32)), (.int ((x2.toInt8.toInt32).toInt8.toInt32)), (.int 0)] (.int 0) := Arv.set Ar_z21 q_z21 S_z21 N_z21 H_z21 G_z21 (fits_nar_byte _) W23 2 rfl (Nat.le_of_ble_eq_true rfl)
        have N23 := Fr.snoc X23 N15 ge_r2
        have f24 := (f16.other W23 ne_r0_r2)
        obtain ⟨cl_z25, Ar_z25, q_z25, S_z25, N_z25, H_z25, G_z25⟩ := id f24
        have hin26 : ¬ ((3 : Int32) < 0 ∨ cl_z25.slots.size ≤ ((3 : Int32)).toNatClampNeg) := inb_of S_z25 ⟨by decide, by decide⟩
        have k28 : ∀ t, OwnS p e below T23 (mkF m 20 #[rv r0, iv 3, rv r2, iv 3, iv 4, iv 3, iv x3] [(.int 255), (.int x3)]) t → OwnS p e below s₁ (entryFrame m #[(.ref r0), (.int 0), (.ref r2), (.int 0), (.int 4)] 7) t := fun t q => by
         refine k20 t ?_
         refine XS.icmpYes X15.here hx rfl (pc0 := 20) (pc' := 26) rfl (hb hby d11_20) rfl (flt hc20_19).2.2.2 (by decide) (by decide) ?_
         refine oAn X15 hx hby d11_26 rfl rfl (oIn X15 hx hby d11_27 rfl (oIl X15 hx hby d11_28 rfl ?_))
         refine XS.i2b X15.here hx rfl (hb hby d11_30) rfl ?_
         refine st23 _ ?_
         refine XS.iinc X23.here hx rfl (hb hby d11_32) rfl (l' := #[rv r0, iv 3, rv r2, iv 2, iv 4, iv 2, iv x2]) rfl ?_
         refine XS.iinc X23.here hx rfl (hb hby d11_35) rfl (l' := #[rv r0, iv 3, rv r2, iv 3, iv 4, iv 2, iv x2]) rfl ?_
         refine XS.iinc X23.here hx rfl (hb hby d11_38) rfl (l' := #[rv r0, iv 3, rv r2, iv 3, iv 4, iv 3, iv x2]) rfl ?_
         refine oGo X23 hx hby 41 3 d11_41 (by decide) (by decide) (oIl X23 hx hby d11_3 rfl (oIl X23 hx hby d11_5 rfl ?_))
         refine XS.icmpNo X23.here hx rfl (hb hby d11_7) rfl (tlt (by decide : (3 : Int32) < (4 : Int32))).2.1 ?_
         refine oAn X23 hx hby d11_10 rfl rfl (oIn X23 hx hby d11_11 rfl ?_)
         refine X23.caload hx (j := (3 : Int32)) (v := (.int x3)) (by rw [e23]; exact Ar_z25.1) (State.isArrayOf_alike hZ.alike Ar_z25.2.1) Ar_z25.2.2 hin26 (Has.at H_z25 hin26 rfl) (g := (mkF m 12 #[rv r0, iv 3, rv r2, iv 3, iv 4, iv 3, iv x2] [(.int 3), (.ref r0)])) rfl rfl (hb hby d11_12) _ ?_
         refine XS.istore X23.here hx rfl (hb hby d11_13) rfl (l' := #[rv r0, iv 3, rv r2, iv 3, iv 4, iv 3, iv x3]) rfl ?_
         refine oIl X23 hx hby d11_15 rfl ?_
         refine XS.sipush X23.here hx rfl (hb hby d11_17) ?_
         exact q
        by_cases hc20_27 : (255 : Int32) < x3
        · refine own_out X23 Bd.notSynchronized Bd.returns (some (.int 3)) nofun (by decide) (by decide) ?_ fun fs hr => k28 _ ?_
          · rw [e23]; exact Or.inr (Or.inr (Or.inr (Or.inl (⟨rfl, N23, ((((Keep.refl h0 [r2]).wr W7 (Or.inl (List.mem_of_getElem? (i := 0) rfl))).wr W15 (Or.inl (List.mem_of_getElem? (i := 0) rfl))).wr W23 (Or.inl (List.mem_of_getElem? (i := 0) rfl))), V23, hc20_3, hc20_11, hc20_19, hc20_27⟩))))
          · refine XS.icmpNo X23.here hx rfl (hb hby d11_20) rfl (tlt hc20_27).2.2.2 ?_
            refine oIl X23 hx hby d11_23 rfl ?_
            exact retI X23 hx Bd.returns (hb hby d11_25) hr
        · obtain ⟨cl_z29, Ar_z29, q_z29, S_z29, N_z29, H_z29, G_z29⟩ := id V23
          have hin30 : ¬ ((3 : Int32) < 0 ∨ cl_z29.slots.size ≤ ((3 : Int32)).toNatClampNeg) := inb_of S_z29 ⟨by decide, by decide⟩
          obtain ⟨T31, h31, X31, e31, W31, st31⟩ := stB X23 hx hZ e23 Ar_z29 (j := (3 : Int32)) hin30 (g := (mkF m 31 #[rv r0, iv 3, rv r2, iv 3, iv 4, iv 3, iv x3] [(.int (x3.toInt8.toInt32)), (.int 3), (.ref r2)])) rfl rfl (hb hby d11_31)
          have V31 : Arv Z h31 r2 kB .byte (4 : Int32) [(.int ((x0.toInt8.toInt32).toInt8.toInt32)), (.int ((x1.toInt8.toInt32).toInt8.toInt32)), (.int ((x2.toInt8.toInt32).toInt8.toInt32)), (.int ((x3.toInt8.toInt32).toInt8.toInt32))] (.int 0) := Arv.set Ar_z29 q_z29 S_z29 N_z29 H_z29 G_z29 (fits_nar_byte _) W31 3 rfl (Nat.le_of_ble_eq_true rfl)
          have N31 := Fr.snoc X31 N23 ge_r2
          refine own_out X31 Bd.notSynchronized Bd.returns (some (.int 4)) nofun (by decide) (by decide) ?_ fun fs hr => k28 _ ?_
          · rw [e31]; exact Or.inr (Or.inr (Or.inr (Or.inr ((⟨rfl, N31, (((((Keep.refl h0 [r2]).wr W7 (Or.inl (List.mem_of_getElem? (i := 0) rfl))).wr W15 (Or.inl (List.mem_of_getElem? (i := 0) rfl))).wr W23 (Or.inl (List.mem_of_getElem? (i := 0) rfl))).wr W31 (Or.inl (List.mem_of_getElem? (i := 0) rfl))), V31, hc20_3, hc20_11, hc20_19, hc20_27⟩)))))
          · refine XS.icmpYes X23.here hx rfl (pc0 := 20) (pc' := 26) rfl (hb hby d11_20) rfl (flt hc20_27).2.2.2 (by decide) (by decide) ?_
            refine oAn X23 hx hby d11_26 rfl rfl (oIn X23 hx hby d11_27 rfl (oIl X23 hx hby d11_28 rfl ?_))
            refine XS.i2b X23.here hx rfl (hb hby d11_30) rfl ?_
            refine st31 _ ?_
            refine XS.iinc X31.here hx rfl (hb hby d11_32) rfl (l' := #[rv r0, iv 4, rv r2, iv 3, iv 4, iv 3, iv x3]) rfl ?_
            refine XS.iinc X31.here hx rfl (hb hby d11_35) rfl (l' := #[rv r0, iv 4, rv r2, iv 4, iv 4, iv 3, iv x3]) rfl ?_
            refine XS.iinc X31.here hx rfl (hb hby d11_38) rfl (l' := #[rv r0, iv 4, rv r2, iv 4, iv 4, iv 4, iv x3]) rfl ?_
            refine oGo X31 hx hby 41 3 d11_41 (by decide) (by decide) (oIl X31 hx hby d11_3 rfl (oIl X31 hx hby d11_5 rfl ?_))
            refine XS.icmpYes X31.here hx rfl (pc0 := 7) (pc' := 44) rfl (hb hby d11_7) rfl (flt (by decide : ¬ ((4 : Int32) < (4 : Int32)))).2.1 (by decide) (by decide) ?_
            refine oIl X31 hx hby d11_44 rfl ?_
            exact retI X31 hx Bd.returns (hb hby d11_46) hr
def Q_C1_4 (Z : State) (r0 : Addr) (kC : ClassId) (x0 x1 x2 x3 : Int32) (h0 : Heap) (n0 : Nat) (v : Option Value) (h : Heap) (L : List Loc) : Prop := (∃ ar : Addr, ∃ kk : ClassId, v = some (.ref ar) ∧ Fr n0 L ∧ Keep h0 h [] ∧ h0.size ≤ ar ∧ Arv Z h ar kk .byte (8 : Int32) [(.int (((x0 >>> ((0 : Int32) &&& 31)).toInt8.toInt32).toInt8.toInt32)), (.int (((x0 >>> ((8 : Int32) &&& 31)).toInt8.toInt32).toInt8.toInt32)), (.int (((x1 >>> ((0 : Int32) &&& 31)).toInt8.toInt32).toInt8.toInt32)), (.int (((x1 >>> ((8 : Int32) &&& 31)).toInt8.toInt32).toInt8.toInt32)), (.int (((x2 >>> ((0 : Int32) &&& 31)).toInt8.toInt32).toInt8.toInt32)), (.int (((x2 >>> ((8 : Int32) &&& 31)).toInt8.toInt32).toInt8.toInt32)), (.int (((x3 >>> ((0 : Int32) &&& 31)).toInt8.toInt32).toInt8.toInt32)), (.int (((x3 >>> ((8 : Int32) &&& 31)).toInt8.toInt32).toInt8.toInt32))] (.int 0) ∧ Exa Z h ar "[B") ∨ (∃ ar : Addr, ∃ kk : ClassId, v = some (.ref ar) ∧ Fr n0 L ∧ Keep h0 h [] ∧ h0.size ≤ ar ∧ Arv Z h ar kk .byte (4 : Int32) [(.int ((x0.toInt8.toInt32).toInt8.toInt32)), (.int ((x1.toInt8.toInt32).toInt8.toInt32)), (.int ((x2.toInt8.toInt32).toInt8.toInt32)), (.int ((x3.toInt8.toInt32).toInt8.toInt32))] (.int 0) ∧ Exa Z h ar "[B" ∧ ¬ ((255 : Int32) < x0) ∧ ¬ ((255 : Int32) < x1) ∧ ¬ ((255 : Int32) < x2) ∧ ¬ ((255 : Int32) < x3))
theorem rmC1_4 (l : Launch) (Z : State) (a0 : Array Value) (hw : own_HW a0 Z) (ws : List Jvm.Cond) (r0 : Addr) (kC : ClassId) (x0 x1 x2 x3 : Int32) (h0 : Heap) (n0 : Nat) (Z0 : n0 ≤ h0.size) (S_AD : Sta Z h0 cS0 cS5 "Z" (.int 1)) (S_HI : Sta Z h0 cS0 cS7 "I" (.int 0)) (S_LO : Sta Z h0 cS0 cS8 "I" (.int 8)) (V_r0 : Arv Z h0 r0 kC .char (4 : Int32) [(.int x0), (.int x1), (.int x2), (.int x3)] (.int 0)) (hch_x0 : own_ch x0) (hch_x1 : own_ch x1) (hch_x2 : own_ch x2) (hch_x3 : own_ch x3) :
    own_M l Z (⟨cS0, "compress", "([CII)[B"⟩ : MethodName) jdk_52_method_16_code 6 (some (.array .byte)) ws ({ frames := 3, cells := 2, slots := 12, locals := 40 } : Room) #[(.ref r0), (.int 0), (.int 4)] h0 (Q_C1_4 Z r0 kC x0 x1 x2 x3 h0 n0) := by
  refine own_in cS0 rfl (plainFor_of_name pn_java_lang_StringUTF16) ?_
  intro p e s m below meth c s₁ Bd hml hZ hh hx hby hown X0 e0
  have N0 := Fr.nil n0
  have k0 := own_k (p := p) (e := e) (below := below) (T := s₁) (ef_10 m r0 (0 : Int32) (4 : Int32))
  obtain ⟨T1, h1, k1, X1, e1, E1, A1, EA1, st1⟩ := newPE X0 hx hZ (own_at hw 24 rfl) e0 (g := (mkF m 1 #[rv r0, iv 0, iv 4, .unset, .unset, .unset] [(.int 4)])) rfl (hb hby d10_1) rfl (by decide) (cap := 4) (by decide) (by decide) (by decide) (by decide) (ad := "[B") (by decide)
  obtain ⟨b1, g1⟩ : ∃ z, z = h0.size := ⟨_, rfl⟩
  rw [← g1] at A1 EA1 st1
  have g_b1 : n0 ≤ b1 := Nat.le_trans Z0 (Nat.le_of_eq g1.symm)
  have sz_b1 : h0.size ≤ b1 := Nat.le_trans (Keep.refl h0 []).1 (Nat.le_of_eq g1.symm)
  have V_b1 : Arv Z h1 b1 k1 .byte (4 : Int32) [(.int 0), (.int 0), (.int 0), (.int 0)] (.int 0) := (Arv.new A1 (by decide)).pad (pad_rep [] (.int 0) 4)
  have f3 := (V_r0.ext E1)
  obtain ⟨_, T2, L2, X2, hQ2, st2⟩ := own_cS 0 (rmC2_4 l Z a0 hw [] r0 b1 kC k1 x0 x1 x2 x3 h1 n0 (Nat.le_trans Z0 E1.1) f3 V_b1 EA1 g_b1 (Nat.ne_of_lt (Nat.lt_of_lt_of_le V_r0.lt (Nat.le_of_eq g1.symm)))) X1 hx hZ hown hw 53 54 51 55 rfl rfl rfl rfl 9 #[rv r0, iv 0, iv 4, rv b1, .unset, .unset] [(.ref r0), (.int 0), (.ref b1), (.int 0), (.int 4)] [] (hb hby d10_9) hml (lenOf pd_4 rfl) e1 rfl (Nat.le_refl _) (by decide)
  have k4 : ∀ t, OwnS p e below T1 (mkF m 9 #[rv r0, iv 0, iv 4, rv b1, .unset, .unset] [(.int 4), (.int 0), (.ref b1), (.int 0), (.ref r0)]) t → OwnS p e below s₁ (entryFrame m #[(.ref r0), (.int 0), (.int 4)] 6) t := fun t q => by
   refine k0 t ?_
   show OwnS p e below s₁ (mkF m 0 #[rv r0, iv 0, iv 4, .unset, .unset, .unset] []) _
   refine oIn X0 hx hby d10_0 rfl ?_
   refine st1 _ ?_
   refine XS.astoreN X1.here hx rfl (hb hby d10_3) rfl rfl (l' := #[rv r0, iv 0, iv 4, rv b1, .unset, .unset]) rfl ?_
   refine oAn X1 hx hby d10_4 rfl rfl (oIn X1 hx hby d10_5 rfl (oAn X1 hx hby d10_6 rfl rfl (oIc X1 hx hby d10_7 (oIn X1 hx hby d10_8 rfl ?_))))
   exact q
  rcases hQ2 with ⟨rfl, N2q, K2, p2_0, p2_1⟩ | ⟨rfl, N2q, K2, p2_0, p2_1, p2_2⟩ | ⟨rfl, N2q, K2, p2_0, p2_1, p2_2, p2_3⟩ | ⟨rfl, N2q, K2, p2_0, p2_1, p2_2, p2_3, p2_4⟩ | ⟨rfl, N2q, K2, p2_0, p2_1, p2_2, p2_3, p2_4⟩
  · have pl2 := (allS (P := fun x => ∃ cell : Cell, h1[x]? = some cell ∧ cell.vm.isStatics = false) (own_ns EA1) all0)
    have N2 := Fr.app N0 N2q
    have f6 := (own_sta_keep (S_AD.ext E1) K2 pl2)
    have f7 := (own_sta_keep (S_HI.ext E1) K2 pl2)
    have f8 := (own_sta_keep (S_LO.ext E1) K2 pl2)
    have f9 := (f3.keep K2 (ninS (Nat.ne_of_lt (Nat.lt_of_lt_of_le V_r0.lt (Nat.le_of_eq g1.symm))) nin0))
    obtain ⟨_, T5, L5, X5, hQ5, st5⟩ := own_cS 0 (rmTB_4 l Z a0 hw [] r0 kC x0 x1 x2 x3 T2.heap n0 (Nat.le_trans (Nat.le_trans Z0 E1.1) K2.1) f6 f7 f8 f9) X2 hx hZ hown hw 84 85 51 86 rfl rfl rfl rfl 23 #[rv r0, iv 0, iv 4, rv b1, iv 0, .unset] [(.ref r0), (.int 0), (.int 4)] [] (hb hby d10_23) hml (lenOf pd_5 rfl) rfl rfl (Nat.le_refl _) (by decide)
    have f10 := (EA1.keep K2)
    obtain ⟨ar_5, kk_5, rfl, N5q, K5, p5_0, p5_1, p5_2⟩ := hQ5
    have g_ar_5 : n0 ≤ ar_5 := Nat.le_trans (Nat.le_trans (Nat.le_trans Z0 E1.1) K2.1) p5_0
    have sz_ar_5 : h0.size ≤ ar_5 := Nat.le_trans (((Keep.refl h0 []).ext E1).trans K2 (allS (Or.inr sz_b1) all0)).1 p5_0
    have N5 := Fr.app N2 N5q
    have f12 := (own_sta_keep f6 K5 all0)
    have f13 := (own_sta_keep f7 K5 all0)
    have f14 := (own_sta_keep f8 K5 all0)
    obtain ⟨_, T11, L11, X11, hQ11, st11⟩ := own_cS 0 (rmGC_4_0 l Z a0 hw [] ar_5 kk_5 x0 x1 x2 x3 T5.heap n0 (Nat.le_trans (Nat.le_trans (Nat.le_trans Z0 E1.1) K2.1) K5.1) f12 f13 f14 p5_1 hch_x0) X5 hx hZ hown hw 100 101 51 102 rfl rfl rfl rfl 32 #[rv r0, iv 0, iv 4, rv b1, iv 0, rv ar_5] [(.ref ar_5), (.int 0)] [] (hb hby d10_32) hml (lenOf pd_6 rfl) rfl rfl (Nat.le_refl _) (by decide)
    obtain ⟨rfl, N11q, e11⟩ := hQ11
    have N11 := Fr.app N5 N11q
    refine own_out X11 Bd.notSynchronized Bd.returns (some (.ref ar_5)) nofun (by decide) (by decide) ?_ fun fs hr => k4 _ ?_
    · rw [e11]; exact Or.inl (⟨ar_5, kk_5, rfl, N11, ((((Keep.refl h0 []).ext E1).trans K2 (allS (Or.inr sz_b1) all0)).trans K5 all0), sz_ar_5, p5_1, p5_2⟩)
    · refine st2 _ ?_
      refine XS.istore X2.here hx rfl (hb hby d10_12) rfl (l' := #[rv r0, iv 0, iv 4, rv b1, iv 0, .unset]) rfl ?_
      refine oIl X2 hx hby d10_14 rfl (oIn X2 hx hby d10_16 rfl ?_)
      refine XS.icmpNo X2.here hx rfl (hb hby d10_17) rfl (feq (by decide : ¬ ((0 : Int32) = (4 : Int32)))).1 ?_
      refine oAn X2 hx hby d10_20 rfl rfl (oIn X2 hx hby d10_21 rfl (oIn X2 hx hby d10_22 rfl ?_))
      refine st5 _ ?_
      refine XS.astore X5.here hx rfl (hb hby d10_26) rfl rfl (l' := #[rv r0, iv 0, iv 4, rv b1, iv 0, rv ar_5]) rfl ?_
      refine oAl X5 hx hby d10_28 rfl rfl (oIl X5 hx hby d10_30 rfl ?_)
      refine st11 _ ?_
      refine XS.sipush X11.here hx rfl (hb hby d10_35) ?_
      refine XS.icmpYes X11.here hx rfl (pc0 := 38) (pc' := 54) rfl (hb hby d10_38) rfl (tlt p2_1).2.2.1 (by decide) (by decide) ?_
      refine oAl X11 hx hby d10_54 rfl rfl ?_
      jvm_step X11.here [X11.here.top, hx, (hb hby d10_56), X11.method', Bd.returns, Value.isRef, FieldType.isReference]
      first | (intro acts; rw [hr _ acts rfl rfl rfl]) | rw [hr _ _ rfl rfl rfl]
      exact Steps.refl _
  · have pl2 := (allS (P := fun x => ∃ cell : Cell, h1[x]? = some cell ∧ cell.vm.isStatics = false) (own_ns EA1) all0)
    have N2 := Fr.app N0 N2q
    have f16 := (own_sta_keep (S_AD.ext E1) K2 pl2)
    have f17 := (own_sta_keep (S_HI.ext E1) K2 pl2)
    have f18 := (own_sta_keep (S_LO.ext E1) K2 pl2)
    have f19 := (f3.keep K2 (ninS (Nat.ne_of_lt (Nat.lt_of_lt_of_le V_r0.lt (Nat.le_of_eq g1.symm))) nin0))
    obtain ⟨_, T15, L15, X15, hQ15, st15⟩ := own_cS 0 (rmTB_4 l Z a0 hw [] r0 kC x0 x1 x2 x3 T2.heap n0 (Nat.le_trans (Nat.le_trans Z0 E1.1) K2.1) f16 f17 f18 f19) X2 hx hZ hown hw 84 85 51 86 rfl rfl rfl rfl 23 #[rv r0, iv 0, iv 4, rv b1, iv 1, .unset] [(.ref r0), (.int 0), (.int 4)] [] (hb hby d10_23) hml (lenOf pd_5 rfl) rfl rfl (Nat.le_refl _) (by decide)
    have f20 := (EA1.keep K2)
    obtain ⟨ar_15, kk_15, rfl, N15q, K15, p15_0, p15_1, p15_2⟩ := hQ15
    have g_ar_15 : n0 ≤ ar_15 := Nat.le_trans (Nat.le_trans (Nat.le_trans Z0 E1.1) K2.1) p15_0
    have sz_ar_15 : h0.size ≤ ar_15 := Nat.le_trans (((Keep.refl h0 []).ext E1).trans K2 (allS (Or.inr sz_b1) all0)).1 p15_0
    have N15 := Fr.app N2 N15q
    have f22 := (own_sta_keep f16 K15 all0)
    have f23 := (own_sta_keep f17 K15 all0)
    have f24 := (own_sta_keep f18 K15 all0)
    obtain ⟨_, T21, L21, X21, hQ21, st21⟩ := own_cS 0 (rmGC_4_1 l Z a0 hw [] ar_15 kk_15 x0 x1 x2 x3 T15.heap n0 (Nat.le_trans (Nat.le_trans (Nat.le_trans Z0 E1.1) K2.1) K15.1) f22 f23 f24 p15_1 hch_x1) X15 hx hZ hown hw 100 101 51 102 rfl rfl rfl rfl 32 #[rv r0, iv 0, iv 4, rv b1, iv 1, rv ar_15] [(.ref ar_15), (.int 1)] [] (hb hby d10_32) hml (lenOf pd_6 rfl) rfl rfl (Nat.le_refl _) (by decide)
    obtain ⟨rfl, N21q, e21⟩ := hQ21
    have N21 := Fr.app N15 N21q
    refine own_out X21 Bd.notSynchronized Bd.returns (some (.ref ar_15)) nofun (by decide) (by decide) ?_ fun fs hr => k4 _ ?_
    · rw [e21]; exact Or.inl (⟨ar_15, kk_15, rfl, N21, ((((Keep.refl h0 []).ext E1).trans K2 (allS (Or.inr sz_b1) all0)).trans K15 all0), sz_ar_15, p15_1, p15_2⟩)
    · refine st2 _ ?_
      refine XS.istore X2.here hx rfl (hb hby d10_12) rfl (l' := #[rv r0, iv 0, iv 4, rv b1, iv 1, .unset]) rfl ?_
      refine oIl X2 hx hby d10_14 rfl (oIn X2 hx hby d10_16 rfl ?_)
      refine XS.icmpNo X2.here hx rfl (hb hby d10_17) rfl (feq (by decide : ¬ ((1 : Int32) = (4 : Int32)))).1 ?_
      refine oAn X2 hx hby d10_20 rfl rfl (oIn X2 hx hby d10_21 rfl (oIn X2 hx hby d10_22 rfl ?_))
      refine st15 _ ?_
      refine XS.astore X15.here hx rfl (hb hby d10_26) rfl rfl (l' := #[rv r0, iv 0, iv 4, rv b1, iv 1, rv ar_15]) rfl ?_
      refine oAl X15 hx hby d10_28 rfl rfl (oIl X15 hx hby d10_30 rfl ?_)
      refine st21 _ ?_
      refine XS.sipush X21.here hx rfl (hb hby d10_35) ?_
      refine XS.icmpYes X21.here hx rfl (pc0 := 38) (pc' := 54) rfl (hb hby d10_38) rfl (tlt p2_2).2.2.1 (by decide) (by decide) ?_
      refine oAl X21 hx hby d10_54 rfl rfl ?_
      jvm_step X21.here [X21.here.top, hx, (hb hby d10_56), X21.method', Bd.returns, Value.isRef, FieldType.isReference]
      first | (intro acts; rw [hr _ acts rfl rfl rfl]) | rw [hr _ _ rfl rfl rfl]
      exact Steps.refl _
  · have pl2 := (allS (P := fun x => ∃ cell : Cell, h1[x]? = some cell ∧ cell.vm.isStatics = false) (own_ns EA1) all0)
    have N2 := Fr.app N0 N2q
    have f26 := (own_sta_keep (S_AD.ext E1) K2 pl2)
    have f27 := (own_sta_keep (S_HI.ext E1) K2 pl2)
    have f28 := (own_sta_keep (S_LO.ext E1) K2 pl2)
    have f29 := (f3.keep K2 (ninS (Nat.ne_of_lt (Nat.lt_of_lt_of_le V_r0.lt (Nat.le_of_eq g1.symm))) nin0))
    obtain ⟨_, T25, L25, X25, hQ25, st25⟩ := own_cS 0 (rmTB_4 l Z a0 hw [] r0 kC x0 x1 x2 x3 T2.heap n0 (Nat.le_trans (Nat.le_trans Z0 E1.1) K2.1) f26 f27 f28 f29) X2 hx hZ hown hw 84 85 51 86 rfl rfl rfl rfl 23 #[rv r0, iv 0, iv 4, rv b1, iv 2, .unset] [(.ref r0), (.int 0), (.int 4)] [] (hb hby d10_23) hml (lenOf pd_5 rfl) rfl rfl (Nat.le_refl _) (by decide)
    have f30 := (EA1.keep K2)
    obtain ⟨ar_25, kk_25, rfl, N25q, K25, p25_0, p25_1, p25_2⟩ := hQ25
    have g_ar_25 : n0 ≤ ar_25 := Nat.le_trans (Nat.le_trans (Nat.le_trans Z0 E1.1) K2.1) p25_0
    have sz_ar_25 : h0.size ≤ ar_25 := Nat.le_trans (((Keep.refl h0 []).ext E1).trans K2 (allS (Or.inr sz_b1) all0)).1 p25_0
    have N25 := Fr.app N2 N25q
    have f32 := (own_sta_keep f26 K25 all0)
    have f33 := (own_sta_keep f27 K25 all0)
    have f34 := (own_sta_keep f28 K25 all0)
    obtain ⟨_, T31, L31, X31, hQ31, st31⟩ := own_cS 0 (rmGC_4_2 l Z a0 hw [] ar_25 kk_25 x0 x1 x2 x3 T25.heap n0 (Nat.le_trans (Nat.le_trans (Nat.le_trans Z0 E1.1) K2.1) K25.1) f32 f33 f34 p25_1 hch_x2) X25 hx hZ hown hw 100 101 51 102 rfl rfl rfl rfl 32 #[rv r0, iv 0, iv 4, rv b1, iv 2, rv ar_25] [(.ref ar_25), (.int 2)] [] (hb hby d10_32) hml (lenOf pd_6 rfl) rfl rfl (Nat.le_refl _) (by decide)
    obtain ⟨rfl, N31q, e31⟩ := hQ31
    have N31 := Fr.app N25 N31q
    refine own_out X31 Bd.notSynchronized Bd.returns (some (.ref ar_25)) nofun (by decide) (by decide) ?_ fun fs hr => k4 _ ?_
    · rw [e31]; exact Or.inl (⟨ar_25, kk_25, rfl, N31, ((((Keep.refl h0 []).ext E1).trans K2 (allS (Or.inr sz_b1) all0)).trans K25 all0), sz_ar_25, p25_1, p25_2⟩)
    · refine st2 _ ?_
      refine XS.istore X2.here hx rfl (hb hby d10_12) rfl (l' := #[rv r0, iv 0, iv 4, rv b1, iv 2, .unset]) rfl ?_
      refine oIl X2 hx hby d10_14 rfl (oIn X2 hx hby d10_16 rfl ?_)
      refine XS.icmpNo X2.here hx rfl (hb hby d10_17) rfl (feq (by decide : ¬ ((2 : Int32) = (4 : Int32)))).1 ?_
      refine oAn X2 hx hby d10_20 rfl rfl (oIn X2 hx hby d10_21 rfl (oIn X2 hx hby d10_22 rfl ?_))
      refine st25 _ ?_
      refine XS.astore X25.here hx rfl (hb hby d10_26) rfl rfl (l' := #[rv r0, iv 0, iv 4, rv b1, iv 2, rv ar_25]) rfl ?_
      refine oAl X25 hx hby d10_28 rfl rfl (oIl X25 hx hby d10_30 rfl ?_)
      refine st31 _ ?_
      refine XS.sipush X31.here hx rfl (hb hby d10_35) ?_
      refine XS.icmpYes X31.here hx rfl (pc0 := 38) (pc' := 54) rfl (hb hby d10_38) rfl (tlt p2_3).2.2.1 (by decide) (by decide) ?_
      refine oAl X31 hx hby d10_54 rfl rfl ?_
      jvm_step X31.here [X31.here.top, hx, (hb hby d10_56), X31.method', Bd.returns, Value.isRef, FieldType.isReference]
      first | (intro acts; rw [hr _ acts rfl rfl rfl]) | rw [hr _ _ rfl rfl rfl]
      exact Steps.refl _
  · have pl2 := (allS (P := fun x => ∃ cell : Cell, h1[x]? = some cell ∧ cell.vm.isStatics = false) (own_ns EA1) all0)
    have N2 := Fr.app N0 N2q
    have f36 := (own_sta_keep (S_AD.ext E1) K2 pl2)
    have f37 := (own_sta_keep (S_HI.ext E1) K2 pl2)
    have f38 := (own_sta_keep (S_LO.ext E1) K2 pl2)
    have f39 := (f3.keep K2 (ninS (Nat.ne_of_lt (Nat.lt_of_lt_of_le V_r0.lt (Nat.le_of_eq g1.symm))) nin0))
    obtain ⟨_, T35, L35, X35, hQ35, st35⟩ := own_cS 0 (rmTB_4 l Z a0 hw [] r0 kC x0 x1 x2 x3 T2.heap n0 (Nat.le_trans (Nat.le_trans Z0 E1.1) K2.1) f36 f37 f38 f39) X2 hx hZ hown hw 84 85 51 86 rfl rfl rfl rfl 23 #[rv r0, iv 0, iv 4, rv b1, iv 3, .unset] [(.ref r0), (.int 0), (.int 4)] [] (hb hby d10_23) hml (lenOf pd_5 rfl) rfl rfl (Nat.le_refl _) (by decide)
    have f40 := (EA1.keep K2)
    obtain ⟨ar_35, kk_35, rfl, N35q, K35, p35_0, p35_1, p35_2⟩ := hQ35
    have g_ar_35 : n0 ≤ ar_35 := Nat.le_trans (Nat.le_trans (Nat.le_trans Z0 E1.1) K2.1) p35_0
    have sz_ar_35 : h0.size ≤ ar_35 := Nat.le_trans (((Keep.refl h0 []).ext E1).trans K2 (allS (Or.inr sz_b1) all0)).1 p35_0
    have N35 := Fr.app N2 N35q
    have f42 := (own_sta_keep f36 K35 all0)
    have f43 := (own_sta_keep f37 K35 all0)
    have f44 := (own_sta_keep f38 K35 all0)
    obtain ⟨_, T41, L41, X41, hQ41, st41⟩ := own_cS 0 (rmGC_4_3 l Z a0 hw [] ar_35 kk_35 x0 x1 x2 x3 T35.heap n0 (Nat.le_trans (Nat.le_trans (Nat.le_trans Z0 E1.1) K2.1) K35.1) f42 f43 f44 p35_1 hch_x3) X35 hx hZ hown hw 100 101 51 102 rfl rfl rfl rfl 32 #[rv r0, iv 0, iv 4, rv b1, iv 3, rv ar_35] [(.ref ar_35), (.int 3)] [] (hb hby d10_32) hml (lenOf pd_6 rfl) rfl rfl (Nat.le_refl _) (by decide)
    obtain ⟨rfl, N41q, e41⟩ := hQ41
    have N41 := Fr.app N35 N41q
    refine own_out X41 Bd.notSynchronized Bd.returns (some (.ref ar_35)) nofun (by decide) (by decide) ?_ fun fs hr => k4 _ ?_
    · rw [e41]; exact Or.inl (⟨ar_35, kk_35, rfl, N41, ((((Keep.refl h0 []).ext E1).trans K2 (allS (Or.inr sz_b1) all0)).trans K35 all0), sz_ar_35, p35_1, p35_2⟩)
    · refine st2 _ ?_
      refine XS.istore X2.here hx rfl (hb hby d10_12) rfl (l' := #[rv r0, iv 0, iv 4, rv b1, iv 3, .unset]) rfl ?_
      refine oIl X2 hx hby d10_14 rfl (oIn X2 hx hby d10_16 rfl ?_)
      refine XS.icmpNo X2.here hx rfl (hb hby d10_17) rfl (feq (by decide : ¬ ((3 : Int32) = (4 : Int32)))).1 ?_
      refine oAn X2 hx hby d10_20 rfl rfl (oIn X2 hx hby d10_21 rfl (oIn X2 hx hby d10_22 rfl ?_))
      refine st35 _ ?_
      refine XS.astore X35.here hx rfl (hb hby d10_26) rfl rfl (l' := #[rv r0, iv 0, iv 4, rv b1, iv 3, rv ar_35]) rfl ?_
      refine oAl X35 hx hby d10_28 rfl rfl (oIl X35 hx hby d10_30 rfl ?_)
      refine st41 _ ?_
      refine XS.sipush X41.here hx rfl (hb hby d10_35) ?_
      refine XS.icmpYes X41.here hx rfl (pc0 := 38) (pc' := 54) rfl (hb hby d10_38) rfl (tlt p2_4).2.2.1 (by decide) (by decide) ?_
      refine oAl X41 hx hby d10_54 rfl rfl ?_
      jvm_step X41.here [X41.here.top, hx, (hb hby d10_56), X41.method', Bd.returns, Value.isRef, FieldType.isReference]
      first | (intro acts; rw [hr _ acts rfl rfl rfl]) | rw [hr _ _ rfl rfl rfl]
      exact Steps.refl _
  · have pl2 := (allS (P := fun x => ∃ cell : Cell, h1[x]? = some cell ∧ cell.vm.isStatics = false) (own_ns EA1) all0)
    have N2 := Fr.app N0 N2q
    have f45 := (EA1.keep K2)
    refine own_out X2 Bd.notSynchronized Bd.returns (some (.ref b1)) nofun (by decide) (by decide) ?_ fun fs hr => k4 _ ?_
    · exact Or.inr ((⟨b1, k1, rfl, N2, (((Keep.refl h0 []).ext E1).trans K2 (allS (Or.inr sz_b1) all0)), sz_b1, p2_0, f45, p2_1, p2_2, p2_3, p2_4⟩))
    · refine st2 _ ?_
      refine XS.istore X2.here hx rfl (hb hby d10_12) rfl (l' := #[rv r0, iv 0, iv 4, rv b1, iv 4, .unset]) rfl ?_
      refine oIl X2 hx hby d10_14 rfl (oIn X2 hx hby d10_16 rfl ?_)
      refine XS.icmpYes X2.here hx rfl (pc0 := 17) (pc' := 57) rfl (hb hby d10_17) rfl (teq (by decide : (4 : Int32) = (4 : Int32))).1 (by decide) (by decide) ?_
      refine oAn X2 hx hby d10_57 rfl rfl ?_
      jvm_step X2.here [X2.here.top, hx, (hb hby d10_58), X2.method', Bd.returns, Value.isRef, FieldType.isReference]
      first | (intro acts; rw [hr _ acts rfl rfl rfl]) | rw [hr _ _ rfl rfl rfl]
      exact Steps.refl _
def Q_Cd_4_4 (Z : State) (r0 : Addr) (kB : ClassId) (vs : List Value) (h0 : Heap) (n0 : Nat) (v : Option Value) (h : Heap) (L : List Loc) : Prop := v = some (.int 0) ∧ Fr n0 L ∧ h = h0
theorem rmCd_4_4 (l : Launch) (Z : State) (a0 : Array Value) (hw : own_HW a0 Z) (ws : List Jvm.Cond) (r0 : Addr) (kB : ClassId) (vs : List Value) (h0 : Heap) (n0 : Nat) (Z0 : n0 ≤ h0.size) (V_r0 : Arv Z h0 r0 kB .byte (4 : Int32) vs (.int 0)) :
    own_M l Z (⟨cS0, "coderFromArrayLen", "([BI)B"⟩ : MethodName) jdk_52_method_15_code 2 (some .byte) ws ({ frames := 0, cells := 0, slots := 0, locals := 0 } : Room) #[(.ref r0), (.int 4)] h0 (Q_Cd_4_4 Z r0 kB vs h0 n0) := by
  refine own_in cS0 rfl (plainFor_of_name pn_java_lang_StringUTF16) ?_
  intro p e s m below meth c s₁ Bd hml hZ hh hx hby hown X0 e0
  have N0 := Fr.nil n0
  have k0 := own_k (p := p) (e := e) (below := below) (T := s₁) (ef_12 m r0 (4 : Int32))
  obtain ⟨cl_z1, Ar_z1, q_z1, S_z1, N_z1, H_z1, G_z1⟩ := id V_r0
  refine own_out X0 Bd.notSynchronized Bd.returns (some (.int 0)) nofun (by decide) (by decide) ?_ fun fs hr => k0 _ ?_
  · rw [e0]; exact ⟨rfl, N0, rfl⟩
  · show OwnS p e below s₁ (mkF m 0 #[rv r0, iv 4] []) _
    refine oIn X0 hx hby d12_0 rfl (oAn X0 hx hby d12_1 rfl rfl ?_)
    refine X0.arraylength hx (by rw [e0]; exact Ar_z1.1) (State.isArrayOf_alike hZ.alike Ar_z1.2.1) (g := (mkF m 2 #[rv r0, iv 4] [(.ref r0), (.int 4)])) rfl rfl (hb hby d12_2) _ ?_
    rw [len_of S_z1 N_z1]
    refine XS.isub X0.here hx rfl (hb hby d12_3) rfl ?_
    refine oBp X0 hx hby d12_4 ?_
    refine XS.iushr X0.here hx rfl (hb hby d12_6) rfl ?_
    refine XS.i2b X0.here hx rfl (hb hby d12_7) rfl ?_
    exact retN X0 hx (t := .byte) Bd.returns (by simp) (hb hby d12_8) hr
def Q_Cd_4_8 (Z : State) (r0 : Addr) (kB : ClassId) (vs : List Value) (h0 : Heap) (n0 : Nat) (v : Option Value) (h : Heap) (L : List Loc) : Prop := v = some (.int 1) ∧ Fr n0 L ∧ h = h0
theorem rmCd_4_8 (l : Launch) (Z : State) (a0 : Array Value) (hw : own_HW a0 Z) (ws : List Jvm.Cond) (r0 : Addr) (kB : ClassId) (vs : List Value) (h0 : Heap) (n0 : Nat) (Z0 : n0 ≤ h0.size) (V_r0 : Arv Z h0 r0 kB .byte (8 : Int32) vs (.int 0)) :
    own_M l Z (⟨cS0, "coderFromArrayLen", "([BI)B"⟩ : MethodName) jdk_52_method_15_code 2 (some .byte) ws ({ frames := 0, cells := 0, slots := 0, locals := 0 } : Room) #[(.ref r0), (.int 4)] h0 (Q_Cd_4_8 Z r0 kB vs h0 n0) := by
  refine own_in cS0 rfl (plainFor_of_name pn_java_lang_StringUTF16) ?_
  intro p e s m below meth c s₁ Bd hml hZ hh hx hby hown X0 e0
  have N0 := Fr.nil n0
  have k0 := own_k (p := p) (e := e) (below := below) (T := s₁) (ef_12 m r0 (4 : Int32))
  obtain ⟨cl_z1, Ar_z1, q_z1, S_z1, N_z1, H_z1, G_z1⟩ := id V_r0
  refine own_out X0 Bd.notSynchronized Bd.returns (some (.int 1)) nofun (by decide) (by decide) ?_ fun fs hr => k0 _ ?_
  · rw [e0]; exact ⟨rfl, N0, rfl⟩
  · show OwnS p e below s₁ (mkF m 0 #[rv r0, iv 4] []) _
    refine oIn X0 hx hby d12_0 rfl (oAn X0 hx hby d12_1 rfl rfl ?_)
    refine X0.arraylength hx (by rw [e0]; exact Ar_z1.1) (State.isArrayOf_alike hZ.alike Ar_z1.2.1) (g := (mkF m 2 #[rv r0, iv 4] [(.ref r0), (.int 4)])) rfl rfl (hb hby d12_2) _ ?_
    rw [len_of S_z1 N_z1]
    refine XS.isub X0.here hx rfl (hb hby d12_3) rfl ?_
    refine oBp X0 hx hby d12_4 ?_
    refine XS.iushr X0.here hx rfl (hb hby d12_6) rfl ?_
    refine XS.i2b X0.here hx rfl (hb hby d12_7) rfl ?_
    exact retN X0 hx (t := .byte) Bd.returns (by simp) (hb hby d12_8) hr
def Q_I2_4 (Z : State) (r0 r1 : Addr) (w_CS : Int32) (kC : ClassId) (x0 x1 x2 x3 : Int32) (u_coder_r0 u_value_r0 u_coder_r0 u_value_r0 : Value) (h0 : Heap) (n0 : Nat) (v : Option Value) (h : Heap) (L : List Loc) : Prop := v = none ∧ Fr n0 L ∧ Keep h0 h [r0] ∧ own_S4 Z h r0 x0 x1 x2 x3 ∧ Exa Z h r0 cS1
theorem rmI2_4 (l : Launch) (Z : State) (a0 : Array Value) (hw : own_HW a0 Z) (ws : List Jvm.Cond) (r0 r1 : Addr) (w_CS : Int32) (kC : ClassId) (x0 x1 x2 x3 : Int32) (u_coder_r0 u_value_r0 u_coder_r0 u_value_r0 : Value) (h0 : Heap) (n0 : Nat) (Z0 : n0 ≤ h0.size) (S_CS : Sta Z h0 cS1 cS10 "Z" (.int w_CS)) (hcs : ¬ (w_CS = (0 : Int32))) (S_AD : Sta Z h0 cS0 cS5 "Z" (.int 1)) (S_HI : Sta Z h0 cS0 cS7 "I" (.int 0)) (S_LO : Sta Z h0 cS0 cS8 "I" (.int 8)) (E_r0 : Exa Z h0 r0 cS1) (V_r1 : Arv Z h0 r1 kC .char (4 : Int32) [(.int x0), (.int x1), (.int x2), (.int x3)] (.int 0)) (hch_x0 : own_ch x0) (hch_x1 : own_ch x1) (hch_x2 : own_ch x2) (hch_x3 : own_ch x3) (F_coder_r0 : Fld Z h0 r0 cS1 "coder" "B" u_coder_r0) (ge_r0 : n0 ≤ r0) (F_value_r0 : Fld Z h0 r0 cS1 "value" "[B" u_value_r0) :
    own_M l Z (⟨cS1, "<init>", "([CIILjava/lang/Void;)V"⟩ : MethodName) jdk_42_method_149_code 6 none ws ({ frames := 4, cells := 2, slots := 12, locals := 57 } : Room) #[(.ref r0), (.ref r1), (.int 0), (.int 4), .null] h0 (Q_I2_4 Z r0 r1 w_CS kC x0 x1 x2 x3 u_coder_r0 u_value_r0 u_coder_r0 u_value_r0 h0 n0) := by
  refine own_in cS1 rfl (plainFor_of_name pn_java_lang_String) ?_
  intro p e s m below meth c s₁ Bd hml hZ hh hx hby hown X0 e0
  have N0 := Fr.nil n0
  have hnm := (name_of_methodNamed Bd.named Bd.method).1
  have k0 := own_k (p := p) (e := e) (below := below) (T := s₁) (ef_4n4 m r0 r1 (0 : Int32) (4 : Int32))
  obtain ⟨T1, X1, e1, st1⟩ := initO X0 hx hZ hown (own_at hw 20 rfl) (own_at hw 21 rfl) (own_at hw 22 rfl) e0 (g := (mkF m 1 #[rv r0, rv r1, iv 0, iv 4, .val .null, .unset] [(.ref r0)])) rfl (by rw [hml]; rfl) rfl (hb hby d4_1) (by decide) (W := 0) (Nat.le_refl _) (by decide)
  obtain ⟨T2, X2, e2, st2⟩ := getS2 X1 hx hZ hown (host := "") (Or.inl (own_at hw 45 rfl)) Via.refl e1 S_CS (g := (mkF m 27 #[rv r0, rv r1, iv 0, iv 4, .val .null, .unset] [])) rfl (hb hby d4_27)
  obtain ⟨_, T3, L3, X3, hQ3, st3⟩ := own_cS 0 (rmC1_4 l Z a0 hw [] r1 kC x0 x1 x2 x3 h0 n0 Z0 S_AD S_HI S_LO V_r1 hch_x0 hch_x1 hch_x2 hch_x3) X2 hx hZ hown hw 49 50 51 52 rfl rfl rfl rfl 36 #[rv r0, rv r1, iv 0, iv 4, .val .null, .unset] [(.ref r1), (.int 0), (.int 4)] [] (hb hby d4_36) hml (lenOf pd_5 rfl) e2 rfl (Nat.le_refl _) (by decide)
  have k4 : ∀ t, OwnS p e below T2 (mkF m 36 #[rv r0, rv r1, iv 0, iv 4, .val .null, .unset] [(.int 4), (.int 0), (.ref r1)]) t → OwnS p e below s₁ (entryFrame m #[(.ref r0), (.ref r1), (.int 0), (.int 4), .null] 6) t := fun t q => by
   refine k0 t ?_
   show OwnS p e below s₁ (mkF m 0 #[rv r0, rv r1, iv 0, iv 4, .val .null, .unset] []) _
   refine oAn X0 hx hby d4_0 rfl rfl ?_
   refine st1 _ ?_
   refine oIn X1 hx hby d4_4 rfl ?_
   refine XS.ifYes X1.here hx rfl (pc0 := 5) (pc' := 27) rfl (hb hby d4_5) rfl ((if0 _ _).trans (feq (by decide : ¬ ((4 : Int32) = (0 : Int32)))).2) (by decide) (by decide) ?_
   refine st2 _ ?_
   refine XS.ifNo X2.here hx rfl (hb hby d4_30) rfl ((if0 _ _).trans (feq hcs).1) ?_
   refine oAn X2 hx hby d4_33 rfl rfl (oIn X2 hx hby d4_34 rfl (oIn X2 hx hby d4_35 rfl ?_))
   exact q
  rcases hQ3 with ⟨ar_3, kk_3, rfl, N3q, K3, p3_0, p3_1, p3_2⟩ | ⟨ar_3, kk_3, rfl, N3q, K3, p3_0, p3_1, p3_2, p3_3, p3_4, p3_5, p3_6⟩
  · have g_ar_3 : n0 ≤ ar_3 := Nat.le_trans Z0 p3_0
    have sz_ar_3 : h0.size ≤ ar_3 := Nat.le_trans (Keep.refl h0 []).1 p3_0
    have N3 := Fr.app N0 N3q
    obtain ⟨_, T5, L5, X5, hQ5, st5⟩ := own_cS 1 (rmCd_4_8 l Z a0 hw [] ar_3 kk_3 [(.int (((x0 >>> ((0 : Int32) &&& 31)).toInt8.toInt32).toInt8.toInt32)), (.int (((x0 >>> ((8 : Int32) &&& 31)).toInt8.toInt32).toInt8.toInt32)), (.int (((x1 >>> ((0 : Int32) &&& 31)).toInt8.toInt32).toInt8.toInt32)), (.int (((x1 >>> ((8 : Int32) &&& 31)).toInt8.toInt32).toInt8.toInt32)), (.int (((x2 >>> ((0 : Int32) &&& 31)).toInt8.toInt32).toInt8.toInt32)), (.int (((x2 >>> ((8 : Int32) &&& 31)).toInt8.toInt32).toInt8.toInt32)), (.int (((x3 >>> ((0 : Int32) &&& 31)).toInt8.toInt32).toInt8.toInt32)), (.int (((x3 >>> ((8 : Int32) &&& 31)).toInt8.toInt32).toInt8.toInt32))] T3.heap n0 (Nat.le_trans Z0 K3.1) p3_1) X3 hx hZ hown hw 56 57 51 58 rfl rfl rfl rfl 45 #[rv r0, rv r1, iv 0, iv 4, .val .null, rv ar_3] [(.ref ar_3), (.int 4)] [(.ref r0)] (hb hby d4_45) hml (lenOf pd_7 rfl) rfl rfl (Nat.le_refl _) (by decide)
    obtain ⟨rfl, N5q, e5⟩ := hQ5
    have N5 := Fr.app N3 N5q
    have f6 := (E_r0.keep K3)
    have f7 := (F_coder_r0.keep K3 nin0)
    obtain ⟨T8, h8, X8, e8, W8, st8⟩ := putFN X5 hx hZ hown (own_at hw 30 rfl) Via.refl e5 f7 f6 (Or.inr ⟨(own_at hw 26 rfl), rfl, hnm⟩) (own_at hw 11 rfl) (ty := .byte) (v' := (.int 1)) (by decide) rfl rfl (g := (mkF m 48 #[rv r0, rv r1, iv 0, iv 4, .val .null, rv ar_3] [(.int 1), (.ref r0)])) rfl rfl (hb hby d4_48)
    have Fw8 : Fld Z h8 r0 cS1 "coder" "B" (.int 1) := f7.same W8
    have N8 := Fr.snoc X8 N5 ge_r0
    have f9 := (f6.wr W8)
    have f10 := ((F_value_r0.keep K3 nin0).other W8 (Or.inr (slot_ne (Or.inr (own_at hw 25 rfl)) (Or.inr (own_at hw 26 rfl)) (by decide) (t := (.array .byte)) (t' := .byte) (by decide) (by decide))))
    obtain ⟨T11, h11, X11, e11, W11, st11⟩ := putF X8 hx hZ hown (host := "") (Or.inl (own_at hw 29 rfl)) Via.refl e8 f10 f9 (Or.inr ⟨(own_at hw 25 rfl), rfl, hnm⟩) (own_at hw 11 rfl) (ty := (.array .byte)) (by decide) rfl rfl (g := (mkF m 54 #[rv r0, rv r1, iv 0, iv 4, .val .null, rv ar_3] [(.ref ar_3), (.ref r0)])) rfl rfl (hb hby d4_54)
    have Fw11 : Fld Z h11 r0 cS1 "value" "[B" (.ref ar_3) := f10.same W11
    have N11 := Fr.snoc X11 N8 ge_r0
    have f12 := ((p3_1.other W8 (Ne.symm (Nat.ne_of_lt (Nat.lt_of_lt_of_le E_r0.lt p3_0)))).other W11 (Ne.symm (Nat.ne_of_lt (Nat.lt_of_lt_of_le E_r0.lt p3_0))))
    have f14 := (f9.wr W11)
    have f15 := (Fw8.other W11 (Or.inr (slot_ne (Or.inr (own_at hw 26 rfl)) (Or.inr (own_at hw 25 rfl)) (by decide) (t := .byte) (t' := (.array .byte)) (by decide) (by decide))))
    have P13 : own_S4 Z h11 r0 x0 x1 x2 x3 := ⟨f14, Or.inr ⟨ar_3, kk_3, f15, Fw11, f12⟩⟩
    refine own_out X11 Bd.notSynchronized Bd.returns (none) (fun _ => rfl) (by decide) (by decide) ?_ fun fs hr => k4 _ ?_
    · rw [e11]; exact ⟨rfl, N11, ((((Keep.refl h0 [r0]).trans K3 all0).wr W8 (Or.inl (List.mem_of_getElem? (i := 0) rfl))).wr W11 (Or.inl (List.mem_of_getElem? (i := 0) rfl))), P13, f14⟩
    · refine st3 _ ?_
      refine XS.astore X3.here hx rfl (hb hby d4_39) rfl rfl (l' := #[rv r0, rv r1, iv 0, iv 4, .val .null, rv ar_3]) rfl ?_
      refine oAn X3 hx hby d4_41 rfl rfl (oAl X3 hx hby d4_42 rfl rfl (oIn X3 hx hby d4_44 rfl ?_))
      refine st5 _ ?_
      refine st8 _ ?_
      refine oAn X8 hx hby d4_51 rfl rfl (oAl X8 hx hby d4_52 rfl rfl ?_)
      refine st11 _ ?_
      exact X11.returnOut hx Bd.returns (hb hby d4_57) hr
  · have g_ar_3 : n0 ≤ ar_3 := Nat.le_trans Z0 p3_0
    have sz_ar_3 : h0.size ≤ ar_3 := Nat.le_trans (Keep.refl h0 []).1 p3_0
    have N3 := Fr.app N0 N3q
    obtain ⟨_, T16, L16, X16, hQ16, st16⟩ := own_cS 1 (rmCd_4_4 l Z a0 hw [] ar_3 kk_3 [(.int ((x0.toInt8.toInt32).toInt8.toInt32)), (.int ((x1.toInt8.toInt32).toInt8.toInt32)), (.int ((x2.toInt8.toInt32).toInt8.toInt32)), (.int ((x3.toInt8.toInt32).toInt8.toInt32))] T3.heap n0 (Nat.le_trans Z0 K3.1) p3_1) X3 hx hZ hown hw 56 57 51 58 rfl rfl rfl rfl 45 #[rv r0, rv r1, iv 0, iv 4, .val .null, rv ar_3] [(.ref ar_3), (.int 4)] [(.ref r0)] (hb hby d4_45) hml (lenOf pd_7 rfl) rfl rfl (Nat.le_refl _) (by decide)
    obtain ⟨rfl, N16q, e16⟩ := hQ16
    have N16 := Fr.app N3 N16q
    have f17 := (E_r0.keep K3)
    have f18 := (F_coder_r0.keep K3 nin0)
    obtain ⟨T19, h19, X19, e19, W19, st19⟩ := putFN X16 hx hZ hown (own_at hw 30 rfl) Via.refl e16 f18 f17 (Or.inr ⟨(own_at hw 26 rfl), rfl, hnm⟩) (own_at hw 11 rfl) (ty := .byte) (v' := (.int 0)) (by decide) rfl rfl (g := (mkF m 48 #[rv r0, rv r1, iv 0, iv 4, .val .null, rv ar_3] [(.int 0), (.ref r0)])) rfl rfl (hb hby d4_48)
    have Fw19 : Fld Z h19 r0 cS1 "coder" "B" (.int 0) := f18.same W19
    have N19 := Fr.snoc X19 N16 ge_r0
    have f20 := (f17.wr W19)
    have f21 := ((F_value_r0.keep K3 nin0).other W19 (Or.inr (slot_ne (Or.inr (own_at hw 25 rfl)) (Or.inr (own_at hw 26 rfl)) (by decide) (t := (.array .byte)) (t' := .byte) (by decide) (by decide))))
    obtain ⟨T22, h22, X22, e22, W22, st22⟩ := putF X19 hx hZ hown (host := "") (Or.inl (own_at hw 29 rfl)) Via.refl e19 f21 f20 (Or.inr ⟨(own_at hw 25 rfl), rfl, hnm⟩) (own_at hw 11 rfl) (ty := (.array .byte)) (by decide) rfl rfl (g := (mkF m 54 #[rv r0, rv r1, iv 0, iv 4, .val .null, rv ar_3] [(.ref ar_3), (.ref r0)])) rfl rfl (hb hby d4_54)
    have Fw22 : Fld Z h22 r0 cS1 "value" "[B" (.ref ar_3) := f21.same W22
    have N22 := Fr.snoc X22 N19 ge_r0
    have f23 := ((p3_1.other W19 (Ne.symm (Nat.ne_of_lt (Nat.lt_of_lt_of_le E_r0.lt p3_0)))).other W22 (Ne.symm (Nat.ne_of_lt (Nat.lt_of_lt_of_le E_r0.lt p3_0))))
    have f25 := (f20.wr W22)
    have f26 := (Fw19.other W22 (Or.inr (slot_ne (Or.inr (own_at hw 26 rfl)) (Or.inr (own_at hw 25 rfl)) (by decide) (t := .byte) (t' := (.array .byte)) (by decide) (by decide))))
    have P24 : own_S4 Z h22 r0 x0 x1 x2 x3 := ⟨f25, Or.inl ⟨ar_3, kk_3, f26, Fw22, f23, p3_3, p3_4, p3_5, p3_6⟩⟩
    refine own_out X22 Bd.notSynchronized Bd.returns (none) (fun _ => rfl) (by decide) (by decide) ?_ fun fs hr => k4 _ ?_
    · rw [e22]; exact ⟨rfl, N22, ((((Keep.refl h0 [r0]).trans K3 all0).wr W19 (Or.inl (List.mem_of_getElem? (i := 0) rfl))).wr W22 (Or.inl (List.mem_of_getElem? (i := 0) rfl))), P24, f25⟩
    · refine st3 _ ?_
      refine XS.astore X3.here hx rfl (hb hby d4_39) rfl rfl (l' := #[rv r0, rv r1, iv 0, iv 4, .val .null, rv ar_3]) rfl ?_
      refine oAn X3 hx hby d4_41 rfl rfl (oAl X3 hx hby d4_42 rfl rfl (oIn X3 hx hby d4_44 rfl ?_))
      refine st16 _ ?_
      refine st19 _ ?_
      refine oAn X19 hx hby d4_51 rfl rfl (oAl X19 hx hby d4_52 rfl rfl ?_)
      refine st22 _ ?_
      exact X22.returnOut hx Bd.returns (hb hby d4_57) hr
def Q_I1_4 (Z : State) (r0 r1 : Addr) (w_CS : Int32) (kC : ClassId) (x0 x1 x2 x3 : Int32) (u_coder_r0 u_value_r0 : Value) (h0 : Heap) (n0 : Nat) (v : Option Value) (h : Heap) (L : List Loc) : Prop := v = none ∧ Fr n0 L ∧ Keep h0 h [r0] ∧ own_S4 Z h r0 x0 x1 x2 x3 ∧ Exa Z h r0 cS1
theorem rmI1_4 (l : Launch) (Z : State) (a0 : Array Value) (hw : own_HW a0 Z) (ws : List Jvm.Cond) (r0 r1 : Addr) (w_CS : Int32) (kC : ClassId) (x0 x1 x2 x3 : Int32) (u_coder_r0 u_value_r0 : Value) (h0 : Heap) (n0 : Nat) (Z0 : n0 ≤ h0.size) (S_CS : Sta Z h0 cS1 cS10 "Z" (.int w_CS)) (hcs : ¬ (w_CS = (0 : Int32))) (S_AD : Sta Z h0 cS0 cS5 "Z" (.int 1)) (S_HI : Sta Z h0 cS0 cS7 "I" (.int 0)) (S_LO : Sta Z h0 cS0 cS8 "I" (.int 8)) (E_r0 : Exa Z h0 r0 cS1) (V_r1 : Arv Z h0 r1 kC .char (4 : Int32) [(.int x0), (.int x1), (.int x2), (.int x3)] (.int 0)) (hch_x0 : own_ch x0) (hch_x1 : own_ch x1) (hch_x2 : own_ch x2) (hch_x3 : own_ch x3) (F_coder_r0 : Fld Z h0 r0 cS1 "coder" "B" u_coder_r0) (ge_r0 : n0 ≤ r0) (F_value_r0 : Fld Z h0 r0 cS1 "value" "[B" u_value_r0) :
    own_M l Z (⟨cS1, "<init>", "([C)V"⟩ : MethodName) jdk_42_method_3_code 2 none ws ({ frames := 5, cells := 2, slots := 12, locals := 74 } : Room) #[(.ref r0), (.ref r1)] h0 (Q_I1_4 Z r0 r1 w_CS kC x0 x1 x2 x3 u_coder_r0 u_value_r0 h0 n0) := by
  refine own_in cS1 rfl (plainFor_of_name pn_java_lang_String) ?_
  intro p e s m below meth c s₁ Bd hml hZ hh hx hby hown X0 e0
  have N0 := Fr.nil n0
  have k0 := own_k (p := p) (e := e) (below := below) (T := s₁) (ef_3 m r0 r1)
  obtain ⟨cl_z1, Ar_z1, q_z1, S_z1, N_z1, H_z1, G_z1⟩ := id V_r1
  obtain ⟨_, _, ⟨T2, L2, j2, i2⟩, -, X2, ⟨Lc2, hQ2, l2, y2, z2⟩, st2⟩ := X0.specialBack hx (y := (⟨cS1, "<init>", "([CIILjava/lang/Void;)V"⟩ : MethodName)) rfl hown (mvT hZ (own_at hw 16 rfl)) (mvT hZ (own_at hw 17 rfl)) (mvT hZ (own_at hw 19 rfl)) (by decide) (backOf (W := 0) (rmI2_4 l Z a0 hw [] r0 r1 w_CS kC x0 x1 x2 x3 u_coder_r0 u_value_r0 u_coder_r0 u_value_r0 h0 n0 Z0 S_CS hcs S_AD S_HI S_LO E_r0 V_r1 hch_x0 hch_x1 hch_x2 hch_x3 F_coder_r0 ge_r0 F_value_r0) hZ (own_at hw 19 rfl) (own_at hw 12 rfl) (by decide) (by decide)) (g := (mkF m 6 #[rv r0, rv r1] [.null, (.int 4), (.int 0), (.ref r1), (.ref r0)])) rfl (by rw [hml]; rfl) (Steps.refl _) (a := r0) (argsL := [(.ref r1), (.int 0), (.int 4), .null]) (rest := []) (lenOf pd_8 rfl) rfl (Nat.le_refl _) (hb hby d3_6) (fun _ _ => ⟨rfl, e0, (by decide : 0 + 2 ≤ _), (by decide : 0 + 12 ≤ _)⟩)
  dsimp only [Pt.U, Pt.locs, Pt.cells, Pt.slots] at X2 l2 y2 z2 st2 hQ2
  subst l2 y2 z2
  obtain ⟨rfl, N2q, K2, p2_0, p2_1⟩ := hQ2
  have pl2 := (allS (P := fun x => ∃ cell : Cell, h0[x]? = some cell ∧ cell.vm.isStatics = false) (own_ns E_r0) all0)
  have N2 := Fr.app N0 N2q
  refine own_out X2 Bd.notSynchronized Bd.returns (none) (fun _ => rfl) (by decide) (by decide) ?_ fun fs hr => k0 _ ?_
  · exact ⟨rfl, N2, ((Keep.refl h0 [r0]).trans K2 (allS (Or.inl (List.mem_of_getElem? (i := 0) rfl)) all0)), p2_0, p2_1⟩
  · show OwnS p e below s₁ (mkF m 0 #[rv r0, rv r1] []) _
    refine oAn X0 hx hby d3_0 rfl rfl (oAn X0 hx hby d3_1 rfl rfl (oIc X0 hx hby d3_2 (oAn X0 hx hby d3_3 rfl rfl ?_)))
    refine X0.arraylength hx (by rw [e0]; exact Ar_z1.1) (State.isArrayOf_alike hZ.alike Ar_z1.2.1) (g := (mkF m 4 #[rv r0, rv r1] [(.ref r1), (.int 0), (.ref r1), (.ref r0)])) rfl rfl (hb hby d3_4) _ ?_
    rw [len_of S_z1 N_z1]
    refine XS.aconstNull X0.here hx rfl (hb hby d3_5) ?_
    refine st2.trans ?_
    exact X2.returnOut hx Bd.returns (hb hby d3_9) hr
theorem d4_8 : decode jdk_42_method_149_code 8 = .ok (.aload_n 0, 1) := by decide +kernel
theorem d4_9 : decode jdk_42_method_149_code 9 = .ok (.ldc 7, 2) := by decide +kernel
theorem d4_11 : decode jdk_42_method_149_code 11 = .ok (.getfield 9, 3) := by decide +kernel
theorem d4_14 : decode jdk_42_method_149_code 14 = .ok (.putfield 9, 3) := by decide +kernel
theorem d4_17 : decode jdk_42_method_149_code 17 = .ok (.aload_n 0, 1) := by decide +kernel
theorem d4_18 : decode jdk_42_method_149_code 18 = .ok (.ldc 7, 2) := by decide +kernel
theorem d4_20 : decode jdk_42_method_149_code 20 = .ok (.getfield 15, 3) := by decide +kernel
theorem d4_23 : decode jdk_42_method_149_code 23 = .ok (.putfield 15, 3) := by decide +kernel
theorem d4_26 : decode jdk_42_method_149_code 26 = .ok (.return_, 1) := by decide +kernel
def Q_4_0 (Z : State) (r0 r1 : Addr) (kC : ClassId) (u_coder_r0 : Value) (h0 : Heap) (n0 : Nat) (v : Option Value) (h : Heap) (L : List Loc) : Prop := ∃ ar : Addr, ∃ kk : ClassId, v = none ∧ Fr n0 L ∧ Keep h0 h [r0] ∧ Exa Z h r0 cS1 ∧ Fld Z h r0 cS1 "coder" "B" (.int 0) ∧ Fld Z h r0 cS1 "value" "[B" (.ref ar) ∧ Arv Z h ar kk .byte (0 : Int32) [] (.int 0) ∧ r0 ≠ ar
theorem rm4_0 (l : Launch) (Z : State) (a0 : Array Value) (hw : ∀ d ∈ tables_1, d.before a0 Z = true) (ws : List Jvm.Cond) (r0 r1 : Addr) (kC : ClassId) (u_coder_r0 : Value) (h0 : Heap) (n0 : Nat) (Z0 : n0 ≤ h0.size) (E_r0 : Exa Z h0 r0 cS1) (F_value_r0 : Fld Z h0 r0 cS1 "value" "[B" .null) (V_r1 : Arv Z h0 r1 kC .char (0 : Int32) [] (.int 0)) (ge_r0 : n0 ≤ r0) (ne_r1_r0 : r1 ≠ r0) (F_coder_r0 : Fld Z h0 r0 cS1 "coder" "B" u_coder_r0) :
    MetFree l (⟨cS1, "<init>", "([CIILjava/lang/Void;)V"⟩ : MethodName) (head1 (Jvm.Cond.code (⟨cS1, "<init>", "([CIILjava/lang/Void;)V"⟩ : MethodName) jdk_42_method_149_code 6 none :: ws) ({ frames := 1, cells := 4, slots := 8, locals := 12 } : Room)) (fun a U => a = #[(.ref r0), (.ref r1), (.int 0), (.int 0), .null] ∧ Z.Warmed39 U.vm ∧ U.heap = h0 ∧ CHv Z own_EL U.vm h0) (fun _ _ _ _ _ => True) (fun _ U o U' => ∃ v L, o = .returned v ∧ Q_4_0 Z r0 r1 kC u_coder_r0 h0 n0 v U'.heap L ∧ CHr Z own_EL U.vm U.heap U'.vm U'.heap ∧ ReturnedEndW U o U' L 4 8) := by
  refine MetFree.of_bodySF (plainFor_of_name pn_java_lang_String) hisR ?_
  intro p e s m args below meth c s₁ Bd hml0 hP hK
  obtain ⟨rfl, hZ, hh, H0c⟩ := hP
  have hx := Bd.exec
  have hby := Bd.bytes
  have hml : c.maxLocals = 6 := hml0
  have hown : (s.setVm s.vm).vm.findClass cS1 = some m.cls := findClass_of_methodNamed Bd.named
  have hnm := (name_of_methodNamed Bd.named Bd.method).1
  have X0 : Stand p l e ({ frames := 1, cells := 4, slots := 8, locals := 12 } : Room) (s.setVm s.vm) m #[(.ref r0), (.ref r1), (.int 0), (.int 0), .null] below meth c s₁ [] 0 0 := Stand.of_body Bd
  have e0 : s₁.heap = h0 := by rw [← hh, Bd.state]; rfl
  have N0 := Fr.nil n0
  have k0 : ∀ t, OwnS p e below s₁ (mkF m 0 #[rv r0, rv r1, iv 0, iv 0, .val .null, .unset] []) t → OwnS p e below s₁ (entryFrame m #[(.ref r0), (.ref r1), (.int 0), (.int 0), .null] 6) t := fun t k => castTop (ef_4n4 m r0 r1 (0 : Int32) (0 : Int32)) k
  have hZ : Z.Warmed39 (s.setVm s.vm).vm := hZ
  have hS0 : s.Since s.vm h0.size := (State.WarmedH.refl s).since _
  have hk0 : h0.size ≤ h0.size := Nat.le_refl _
  have R0c := CHr.refl H0c
  obtain ⟨T1, X1, e1, st1⟩ := initO X0 hx hZ hown (own_at hw 20 rfl) (own_at hw 21 rfl) (own_at hw 22 rfl) e0 (g := (mkF m 1 #[rv r0, rv r1, iv 0, iv 0, .val .null, .unset] [(.ref r0)])) rfl (by rw [hml]; rfl) rfl (hb hby d4_1) (by decide) (W := 0) (Nat.le_refl _) (by decide)
  have sf3 : Safe Z own_EL s.vm h0 r0 := own_safe_null hZ.alike E_r0 F_value_r0
  have lt_r0 := E_r0.lt
  obtain ⟨a2, T2, h2, k12, bb2, kk2, X2, e2, E2, hS2, hk2, hZ2, hown2, EA2, FC2, FV2, V2, -, -, CR2, LT2, ne2, st2⟩ := ldcCH X1 hx hZ hown (own_at hw 23 rfl) (own_ws hw) e1 hS0 hk0 (own_ew hw) (own_mem0) H0c (vs := []) (z := 0) ⟨by decide, rfl⟩ (by decide) rfl (g := (mkF m 9 #[rv r0, rv r1, iv 0, iv 0, .val .null, .unset] [(.ref r0)])) rfl (hb hby d4_9) (n := 0) (by decide) (by decide) (by decide) (by decide)
  have Hc2 := CR2.1
  have Rc2 := R0c.trans CR2
  have Sf2_r0 := CHr.safe CR2 lt_r0 sf3
  obtain ⟨T4, X4, e4, st4⟩ := getF X2 hx hZ2 hown2 (host := "") (Or.inl (own_at hw 29 rfl)) Via.refl e2 FV2 (g := (mkF m 11 #[rv r0, rv r1, iv 0, iv 0, .val .null, .unset] [(.ref a2), (.ref r0)])) rfl rfl (hb hby d4_11)
  have f5 := (E_r0.ext E2)
  have f6 := (F_value_r0.ext E2)
  obtain ⟨T7, h7, X7, e7, W7, st7⟩ := putF X4 hx hZ2 hown2 (host := "") (Or.inl (own_at hw 29 rfl)) Via.refl e4 f6 f5 (Or.inr ⟨(own_at hw 25 rfl), rfl, hnm⟩) (own_at hw 11 rfl) (ty := (.array .byte)) (by decide) rfl rfl (g := (mkF m 14 #[rv r0, rv r1, iv 0, iv 0, .val .null, .unset] [(.ref bb2), (.ref r0)])) rfl rfl (hb hby d4_14)
  have Hc7 := CHv.wr W7 Sf2_r0 Hc2
  have Rc7 := Rc2.trans (CHr.wr W7 Sf2_r0 Hc2)
  have hk7 := Nat.le_trans hk2 (Keep.of_wr W7).1
  have Sf7_r0 := Safe.wr W7 Sf2_r0 Hc2 Sf2_r0
  have Fw7 : Fld Z h7 r0 cS1 "value" "[B" (.ref bb2) := f6.same W7
  have N7 := Fr.snoc X7 N0 ge_r0
  have f9 := (EA2.wr W7)
  have f10 := (f5.wr W7)
  have f11 := ((V_r1.ext E2).other W7 ne_r1_r0)
  have f12 := (V2.other W7 (Ne.symm (ne2 _ Sf2_r0).2))
  have lt_r0 := f10.lt
  obtain ⟨a8, T8, h8, k18, bb8, kk8, X8, e8, E8, hS8, hk8, hZ8, hown8, EA8, FC8, FV8, V8, -, -, CR8, LT8, ne8, st8⟩ := ldcCH X7 hx hZ2 hown2 (own_at hw 23 rfl) (own_ws hw) e7 hS2 hk7 (own_ew hw) (own_mem0) Hc7 (vs := []) (z := 0) ⟨by decide, rfl⟩ (by decide) rfl (g := (mkF m 18 #[rv r0, rv r1, iv 0, iv 0, .val .null, .unset] [(.ref r0)])) rfl (hb hby d4_18) (n := 0) (by decide) (by decide) (by decide) (by decide)
  have Hc8 := CR8.1
  have Rc8 := Rc7.trans CR8
  have Sf8_r0 := CHr.safe CR8 lt_r0 Sf7_r0
  obtain ⟨T13, X13, e13, st13⟩ := getF X8 hx hZ8 hown8 (host := "") (Or.inl (own_at hw 30 rfl)) Via.refl e8 FC8 (g := (mkF m 20 #[rv r0, rv r1, iv 0, iv 0, .val .null, .unset] [(.ref a8), (.ref r0)])) rfl rfl (hb hby d4_20)
  have f14 := (f10.ext E8)
  have f15 := (((F_coder_r0.ext E2).other W7 (Or.inr (slot_ne (Or.inr (own_at hw 26 rfl)) (Or.inr (own_at hw 25 rfl)) (by decide) (t := .byte) (t' := (.array .byte)) (by decide) (by decide)))).ext E8)
  obtain ⟨T16, h16, X16, e16, W16, st16⟩ := putFN X13 hx hZ8 hown8 (own_at hw 30 rfl) Via.refl e13 f15 f14 (Or.inr ⟨(own_at hw 26 rfl), rfl, hnm⟩) (own_at hw 11 rfl) (ty := .byte) (v' := (.int 0)) (by decide) rfl rfl (g := (mkF m 23 #[rv r0, rv r1, iv 0, iv 0, .val .null, .unset] [(.int 0), (.ref r0)])) rfl rfl (hb hby d4_23)
  have Hc16 := CHv.wr W16 Sf8_r0 Hc8
  have Rc16 := Rc8.trans (CHr.wr W16 Sf8_r0 Hc8)
  have hk16 := Nat.le_trans hk8 (Keep.of_wr W16).1
  have Sf16_r0 := Safe.wr W16 Sf8_r0 Hc8 Sf8_r0
  have Fw16 : Fld Z h16 r0 cS1 "coder" "B" (.int 0) := f15.same W16
  have N16 := Fr.snoc X16 N7 ge_r0
  have f17 := (f14.wr W16)
  have f18 := ((Fw7.ext E8).other W16 (Or.inr (slot_ne (Or.inr (own_at hw 25 rfl)) (Or.inr (own_at hw 26 rfl)) (by decide) (t := (.array .byte)) (t' := .byte) (by decide) (by decide))))
  have f19 := ((f12.ext E8).other W16 (Ne.symm (ne2 _ Sf2_r0).2))
  obtain ⟨fs, hr, hrun, hended, hRW⟩ := X16.leaveW hS8 (by rw [e16]; exact hk16) (v := none) (fun _ => rfl)
  have hCE : CHr Z own_EL s.vm s.heap T16.vm T16.heap := by rw [hh, e16]; exact Rc16.trans (CHv.at X16 hZ8 (own_ew hw) Hc16)
  refine ⟨_, _, k0 _ ?_, hrun, hended, _, _, rfl, ?_, hCE, hRW.1, hRW.2.1, hRW.2.2.1, hRW.2.2.2.mono (by decide) (by decide)⟩
  · show OwnS p e below s₁ (mkF m 0 #[rv r0, rv r1, iv 0, iv 0, .val .null, .unset] []) _
    refine oAn X0 hx hby d4_0 rfl rfl ?_
    refine st1 _ ?_
    refine oIn X1 hx hby d4_4 rfl ?_
    refine XS.ifNo X1.here hx rfl (hb hby d4_5) rfl ((if0 _ _).trans (teq (by decide : (0 : Int32) = (0 : Int32))).2) ?_
    refine oAn X1 hx hby d4_8 rfl rfl ?_
    refine st2 _ ?_
    refine st4 _ ?_
    refine st7 _ ?_
    refine oAn X7 hx hby d4_17 rfl rfl ?_
    refine st8 _ ?_
    refine st13 _ ?_
    refine st16 _ ?_
    exact X16.returnOut hx Bd.returns (hb hby d4_26) hr
  · show Q_4_0 Z _ _ _ _ h0 n0 _ T16.heap _
    rw [e16]
    exact ⟨bb2, kk2, rfl, N16, (((((Keep.refl h0 [r0]).ext E2).wr W7 (Or.inl (List.mem_of_getElem? (i := 0) rfl))).ext E8).wr W16 (Or.inl (List.mem_of_getElem? (i := 0) rfl))), f17, Fw16, f18, f19, (ne2 _ Sf2_r0).2⟩
def Q_3_0 (Z : State) (r0 r1 : Addr) (kC : ClassId) (u_coder_r0 : Value) (h0 : Heap) (n0 : Nat) (v : Option Value) (h : Heap) (L : List Loc) : Prop := ∃ ar : Addr, ∃ kk : ClassId, v = none ∧ Fr n0 L ∧ Keep h0 h [r0] ∧ Exa Z h r0 cS1 ∧ Fld Z h r0 cS1 "coder" "B" (.int 0) ∧ Fld Z h r0 cS1 "value" "[B" (.ref ar) ∧ Arv Z h ar kk .byte (0 : Int32) [] (.int 0) ∧ r0 ≠ ar
theorem rm3_0 (l : Launch) (Z : State) (a0 : Array Value) (hw : ∀ d ∈ tables_1, d.before a0 Z = true) (ws : List Jvm.Cond) (r0 r1 : Addr) (kC : ClassId) (u_coder_r0 : Value) (h0 : Heap) (n0 : Nat) (Z0 : n0 ≤ h0.size) (E_r0 : Exa Z h0 r0 cS1) (F_value_r0 : Fld Z h0 r0 cS1 "value" "[B" .null) (V_r1 : Arv Z h0 r1 kC .char (0 : Int32) [] (.int 0)) (ge_r0 : n0 ≤ r0) (ne_r1_r0 : r1 ≠ r0) (F_coder_r0 : Fld Z h0 r0 cS1 "coder" "B" u_coder_r0) :
    MetFree l (⟨cS1, "<init>", "([C)V"⟩ : MethodName) (head1 (Jvm.Cond.code (⟨cS1, "<init>", "([C)V"⟩ : MethodName) jdk_42_method_3_code 2 none :: ws) ({ frames := 2, cells := 4, slots := 8, locals := 29 } : Room)) (fun a U => a = #[(.ref r0), (.ref r1)] ∧ Z.Warmed39 U.vm ∧ U.heap = h0 ∧ CHv Z own_EL U.vm h0) (fun _ _ _ _ _ => True) (fun _ U o U' => ∃ v L, o = .returned v ∧ Q_3_0 Z r0 r1 kC u_coder_r0 h0 n0 v U'.heap L ∧ CHr Z own_EL U.vm U.heap U'.vm U'.heap ∧ ReturnedEndW U o U' L 4 8) := by
  refine MetFree.of_bodySF (plainFor_of_name pn_java_lang_String) hisR ?_
  intro p e s m args below meth c s₁ Bd hml0 hP hK
  obtain ⟨rfl, hZ, hh, H0c⟩ := hP
  have hx := Bd.exec
  have hby := Bd.bytes
  have hml : c.maxLocals = 2 := hml0
  have hown : (s.setVm s.vm).vm.findClass cS1 = some m.cls := findClass_of_methodNamed Bd.named
  have hnm := (name_of_methodNamed Bd.named Bd.method).1
  have X0 : Stand p l e ({ frames := 2, cells := 4, slots := 8, locals := 29 } : Room) (s.setVm s.vm) m #[(.ref r0), (.ref r1)] below meth c s₁ [] 0 0 := Stand.of_body Bd
  have e0 : s₁.heap = h0 := by rw [← hh, Bd.state]; rfl
  have N0 := Fr.nil n0
  have k0 : ∀ t, OwnS p e below s₁ (mkF m 0 #[rv r0, rv r1] []) t → OwnS p e below s₁ (entryFrame m #[(.ref r0), (.ref r1)] 2) t := fun t k => castTop (ef_3 m r0 r1) k
  have hZ : Z.Warmed39 (s.setVm s.vm).vm := hZ
  have hS0 : s.Since s.vm h0.size := (State.WarmedH.refl s).since _
  have hk0 : h0.size ≤ h0.size := Nat.le_refl _
  have R0c := CHr.refl H0c
  obtain ⟨cl_z1, Ar_z1, q_z1, S_z1, N_z1, H_z1, G_z1⟩ := id V_r1
  obtain ⟨_, _, ⟨T2, L2, j2, i2⟩, -, X2, hSq2, hgq2, ⟨Lc2, hQ2, l2, y2, z2, CR2⟩, st2⟩ := X0.specialBackS hx (y := (⟨cS1, "<init>", "([CIILjava/lang/Void;)V"⟩ : MethodName)) rfl hown (mvT hZ (own_at hw 16 rfl)) (mvT hZ (own_at hw 17 rfl)) (mvT hZ (own_at hw 19 rfl)) (by decide) (backOfSH (W := 0) (rm4_0 l Z a0 hw [] r0 r1 kC u_coder_r0 h0 n0 Z0 E_r0 F_value_r0 V_r1 ge_r0 ne_r1_r0 F_coder_r0) hZ (own_at hw 19 rfl) (own_at hw 12 rfl) (by decide) (by decide) (own_ew hw) H0c) (g := (mkF m 6 #[rv r0, rv r1] [.null, (.int 0), (.int 0), (.ref r1), (.ref r0)])) rfl (by rw [hml]; rfl) (Steps.refl _) (a := r0) (argsL := [(.ref r1), (.int 0), (.int 0), .null]) (rest := []) (lenOf pd_8 rfl) rfl (Nat.le_refl _) (hb hby d3_6) (fun _ _ => ⟨rfl, e0, (by decide : 0 + 4 ≤ _), (by decide : 0 + 8 ≤ _)⟩)
  dsimp only [Pt.U, Pt.locs, Pt.cells, Pt.slots] at X2 l2 y2 z2 st2 hQ2 CR2 hSq2 hgq2
  subst l2 y2 z2
  obtain ⟨X2, hS2, hZ2, hown2⟩ := rebS hS0 (by rw [e0]; exact hk0) X2 hSq2 hgq2 hZ hown
  have hk2 : T2.heap.size ≤ T2.heap.size := Nat.le_refl _
  obtain ⟨ar_2, kk_2, rfl, N2q, K2, p2_0, p2_1, p2_2, p2_3, p2_4⟩ := hQ2
  have pl2 := (allS (P := fun x => ∃ cell : Cell, h0[x]? = some cell ∧ cell.vm.isStatics = false) (own_ns E_r0) all0)
  have Hc2 := CR2.1
  have Rc2 := R0c.trans CR2
  have N2 := Fr.app N0 N2q
  obtain ⟨fs, hr, hrun, hended, hRW⟩ := X2.leaveW hS2 hk2 (v := none) (fun _ => rfl)
  have hCE : CHr Z own_EL s.vm s.heap T2.vm T2.heap := by rw [hh]; exact Rc2.trans (CHv.at X2 hZ2 (own_ew hw) Hc2)
  refine ⟨_, _, k0 _ ?_, hrun, hended, _, _, rfl, ?_, hCE, hRW.1, hRW.2.1, hRW.2.2.1, hRW.2.2.2.mono (by decide) (by decide)⟩
  · show OwnS p e below s₁ (mkF m 0 #[rv r0, rv r1] []) _
    refine oAn X0 hx hby d3_0 rfl rfl (oAn X0 hx hby d3_1 rfl rfl (oIc X0 hx hby d3_2 (oAn X0 hx hby d3_3 rfl rfl ?_)))
    refine X0.arraylength hx (by rw [e0]; exact Ar_z1.1) (State.isArrayOf_alike hZ.alike Ar_z1.2.1) (g := (mkF m 4 #[rv r0, rv r1] [(.ref r1), (.int 0), (.ref r1), (.ref r0)])) rfl rfl (hb hby d3_4) _ ?_
    rw [len_of S_z1 N_z1]
    refine XS.aconstNull X0.here hx rfl (hb hby d3_5) ?_
    refine st2.trans ?_
    exact X2.returnOut hx Bd.returns (hb hby d3_9) hr
  · show Q_3_0 Z _ _ _ _ h0 n0 _ T2.heap _
    exact ⟨ar_2, kk_2, rfl, N2, ((Keep.refl h0 [r0]).trans K2 (allS (Or.inl (List.mem_of_getElem? (i := 0) rfl)) all0)), p2_0, p2_1, p2_2, p2_3, p2_4⟩
theorem pd_9 : parseMethodDescriptor "()B" = some ⟨[], some .byte⟩ := by decide +kernel
theorem d7_0 : decode jdk_42_method_54_code 0 = .ok (.aload_n 0, 1) := by decide +kernel
theorem d7_1 : decode jdk_42_method_54_code 1 = .ok (.getfield 9, 3) := by decide +kernel
theorem d7_4 : decode jdk_42_method_54_code 4 = .ok (.arraylength, 1) := by decide +kernel
theorem d7_5 : decode jdk_42_method_54_code 5 = .ok (.aload_n 0, 1) := by decide +kernel
theorem d7_6 : decode jdk_42_method_54_code 6 = .ok (.invokevirtual 335, 3) := by decide +kernel
theorem d7_9 : decode jdk_42_method_54_code 9 = .ok (.ishr, 1) := by decide +kernel
theorem d7_10 : decode jdk_42_method_54_code 10 = .ok (.ireturn, 1) := by decide +kernel
theorem ef_7 (m : MethodId) (x0 : Addr) : entryFrame m #[(.ref x0)] 1 = mkF m 0 #[.val (.ref x0)] [] := by first | (simp [entryFrame, mkF, argsToLocals, Value.category]; done) | rfl
def Q_Len_1 (Z : State) (r0 : Addr) (w_CS x0 : Int32) (h0 : Heap) (n0 : Nat) (v : Option Value) (h : Heap) (L : List Loc) : Prop := v = some (.int 1) ∧ Fr n0 L ∧ h = h0
theorem rmLen_1 (l : Launch) (Z : State) (a0 : Array Value) (hw : own_HW a0 Z) (ws : List Jvm.Cond) (r0 : Addr) (w_CS x0 : Int32) (h0 : Heap) (n0 : Nat) (Z0 : n0 ≤ h0.size) (S_CS : Sta Z h0 cS1 cS10 "Z" (.int w_CS)) (hcs : ¬ (w_CS = (0 : Int32))) (P_r0 : own_S1 Z h0 r0 x0) :
    own_M l Z (⟨cS1, "length", "()I"⟩ : MethodName) jdk_42_method_54_code 1 (some .int) ws ({ frames := 1, cells := 0, slots := 0, locals := 13 } : Room) #[(.ref r0)] h0 (Q_Len_1 Z r0 w_CS x0 h0 n0) := by
  refine own_in cS1 rfl (plainFor_of_name pn_java_lang_String) ?_
  intro p e s m below meth c s₁ Bd hml hZ hh hx hby hown X0 e0
  have N0 := Fr.nil n0
  have k0 := own_k (p := p) (e := e) (below := below) (T := s₁) (ef_7 m r0)
  rcases id P_r0 with ⟨eS, ⟨sA, kS, fC, fV, vA, hl0⟩ | ⟨sA, kS, fC, fV, vA⟩⟩
  · skip
    obtain ⟨T1, X1, e1, st1⟩ := getF X0 hx hZ hown (host := "") (Or.inl (own_at hw 29 rfl)) Via.refl e0 fV (g := (mkF m 1 #[rv r0] [(.ref r0)])) rfl rfl (hb hby d7_1)
    obtain ⟨cl_z2, Ar_z2, q_z2, S_z2, N_z2, H_z2, G_z2⟩ := id vA
    obtain ⟨_, T3, L3, X3, hQ3, st3⟩ := own_cV 1 (rmCo0 l Z a0 hw [] r0 w_CS h0 n0 Z0 S_CS hcs fC) X1 hx hZ hown hw 40 41 43 42 12 44 rfl rfl rfl rfl rfl rfl r0 eS 6 #[rv r0] [] [(.int 1)] (hb hby d7_6) hml (lenOf pd_9 rfl) e1 rfl (Nat.le_refl _) (by decide)
    obtain ⟨rfl, N3q, e3⟩ := hQ3
    have N3 := Fr.app N0 N3q
    refine own_out X3 Bd.notSynchronized Bd.returns (some (.int 1)) nofun (by decide) (by decide) ?_ fun fs hr => k0 _ ?_
    · rw [e3]; exact ⟨rfl, N3, rfl⟩
    · show OwnS p e below s₁ (mkF m 0 #[rv r0] []) _
      refine oAn X0 hx hby d7_0 rfl rfl ?_
      refine st1 _ ?_
      refine X1.arraylength hx (by rw [e1]; exact Ar_z2.1) (State.isArrayOf_alike hZ.alike Ar_z2.2.1) (g := (mkF m 4 #[rv r0] [(.ref sA)])) rfl rfl (hb hby d7_4) _ ?_
      rw [len_of S_z2 N_z2]
      refine oAn X1 hx hby d7_5 rfl rfl ?_
      refine st3 _ ?_
      refine XS.ishr X3.here hx rfl (hb hby d7_9) rfl ?_
      exact retI X3 hx Bd.returns (hb hby d7_10) hr
  · skip
    obtain ⟨T4, X4, e4, st4⟩ := getF X0 hx hZ hown (host := "") (Or.inl (own_at hw 29 rfl)) Via.refl e0 fV (g := (mkF m 1 #[rv r0] [(.ref r0)])) rfl rfl (hb hby d7_1)
    obtain ⟨cl_z5, Ar_z5, q_z5, S_z5, N_z5, H_z5, G_z5⟩ := id vA
    obtain ⟨_, T6, L6, X6, hQ6, st6⟩ := own_cV 1 (rmCo1 l Z a0 hw [] r0 w_CS h0 n0 Z0 S_CS hcs fC) X4 hx hZ hown hw 40 41 43 42 12 44 rfl rfl rfl rfl rfl rfl r0 eS 6 #[rv r0] [] [(.int 2)] (hb hby d7_6) hml (lenOf pd_9 rfl) e4 rfl (Nat.le_refl _) (by decide)
    obtain ⟨rfl, N6q, e6⟩ := hQ6
    have N6 := Fr.app N0 N6q
    refine own_out X6 Bd.notSynchronized Bd.returns (some (.int 1)) nofun (by decide) (by decide) ?_ fun fs hr => k0 _ ?_
    · rw [e6]; exact ⟨rfl, N6, rfl⟩
    · show OwnS p e below s₁ (mkF m 0 #[rv r0] []) _
      refine oAn X0 hx hby d7_0 rfl rfl ?_
      refine st4 _ ?_
      refine X4.arraylength hx (by rw [e4]; exact Ar_z5.1) (State.isArrayOf_alike hZ.alike Ar_z5.2.1) (g := (mkF m 4 #[rv r0] [(.ref sA)])) rfl rfl (hb hby d7_4) _ ?_
      rw [len_of S_z5 N_z5]
      refine oAn X4 hx hby d7_5 rfl rfl ?_
      refine st6 _ ?_
      refine XS.ishr X6.here hx rfl (hb hby d7_9) rfl ?_
      exact retI X6 hx Bd.returns (hb hby d7_10) hr
theorem pd_10 : parseMethodDescriptor "(II)V" = some ⟨[.int, .int], none⟩ := by decide +kernel
theorem d15_0 : decode jdk_43_method_2_code 0 = .ok (.iload_n 1, 1) := by decide +kernel
theorem d15_1 : decode jdk_43_method_2_code 1 = .ok (.aload_n 0, 1) := by decide +kernel
theorem d15_2 : decode jdk_43_method_2_code 2 = .ok (.arraylength, 1) := by decide +kernel
theorem d15_3 : decode jdk_43_method_2_code 3 = .ok (.invokestatic 9, 3) := by decide +kernel
theorem d15_6 : decode jdk_43_method_2_code 6 = .ok (.aload_n 0, 1) := by decide +kernel
theorem d15_7 : decode jdk_43_method_2_code 7 = .ok (.iload_n 1, 1) := by decide +kernel
theorem d15_8 : decode jdk_43_method_2_code 8 = .ok (.baload, 1) := by decide +kernel
theorem d15_9 : decode jdk_43_method_2_code 9 = .ok (.sipush 255, 3) := by decide +kernel
theorem d15_12 : decode jdk_43_method_2_code 12 = .ok (.iand, 1) := by decide +kernel
theorem d15_13 : decode jdk_43_method_2_code 13 = .ok (.i2c, 1) := by decide +kernel
theorem d15_14 : decode jdk_43_method_2_code 14 = .ok (.ireturn, 1) := by decide +kernel
theorem pn_java_lang_StringLatin1 : plainName cS12 = true := by first | (simp [plainName, overriddenIn]; done) | decide +kernel
theorem ef_15 (m : MethodId) (x0 : Addr) (x1 : Int32) : entryFrame m #[(.ref x0), (.int x1)] 2 = mkF m 0 #[.val (.ref x0), .val (.int x1)] [] := by first | (simp [entryFrame, mkF, argsToLocals, Value.category]; done) | rfl
def Q_LC_1_0 (Z : State) (r0 : Addr) (w_F : Value) (kB : ClassId) (x0 : Int32) (h0 : Heap) (n0 : Nat) (v : Option Value) (h : Heap) (L : List Loc) : Prop := v = some (.int x0) ∧ Fr n0 L ∧ h = h0
theorem rmLC_1_0 (l : Launch) (Z : State) (a0 : Array Value) (hw : own_HW a0 Z) (ws : List Jvm.Cond) (r0 : Addr) (w_F : Value) (kB : ClassId) (x0 : Int32) (h0 : Heap) (n0 : Nat) (Z0 : n0 ≤ h0.size) (S_F : Sta Z h0 cS2 cS9 cS3 w_F) (hwF : w_F.isRef = true) (V_r0 : Arv Z h0 r0 kB .byte (1 : Int32) [(.int ((x0.toInt8.toInt32).toInt8.toInt32))] (.int 0)) (hch_x0 : own_ch x0) (hle_x0 : ¬ ((255 : Int32) < x0)) :
    own_M l Z (⟨cS12, "charAt", "([BI)C"⟩ : MethodName) jdk_43_method_2_code 2 (some .char) ws ({ frames := 2, cells := 0, slots := 0, locals := 27 } : Room) #[(.ref r0), (.int 0)] h0 (Q_LC_1_0 Z r0 w_F kB x0 h0 n0) := by
  refine own_in cS12 rfl (plainFor_of_name pn_java_lang_StringLatin1) ?_
  intro p e s m below meth c s₁ Bd hml hZ hh hx hby hown X0 e0
  have N0 := Fr.nil n0
  have k0 := own_k (p := p) (e := e) (below := below) (T := s₁) (ef_15 m r0 (0 : Int32))
  obtain ⟨cl_z1, Ar_z1, q_z1, S_z1, N_z1, H_z1, G_z1⟩ := id V_r0
  obtain ⟨_, T2, L2, X2, hQ2, st2⟩ := own_cS 0 (rmCk l Z a0 hw [] (0 : Int32) (1 : Int32) w_F h0 n0 Z0 S_F hwF (by decide : ¬ ((0 : Int32) < (0 : Int32))) (by decide : (0 : Int32) < (1 : Int32))) X0 hx hZ hown hw 73 74 12 75 rfl rfl rfl rfl 3 #[rv r0, iv 0] [(.int 0), (.int 1)] [] (hb hby d15_3) hml (lenOf pd_10 rfl) e0 rfl (Nat.le_refl _) (by decide)
  obtain ⟨rfl, N2q, e2⟩ := hQ2
  have N2 := Fr.app N0 N2q
  have hin3 : ¬ ((0 : Int32) < 0 ∨ cl_z1.slots.size ≤ ((0 : Int32)).toNatClampNeg) := inb_of S_z1 ⟨by decide, by decide⟩
  refine own_out X2 Bd.notSynchronized Bd.returns (some (.int (((((x0.toInt8.toInt32).toInt8.toInt32) &&& (255 : Int32)).toUInt32.toUInt16.toUInt32.toInt32).toUInt32.toUInt16.toUInt32.toInt32))) nofun (by decide) (by decide) ?_ fun fs hr => k0 _ ?_
  · rw [e2]; exact ⟨(congrArg some (congrArg Value.int (own_latc hch_x0 hle_x0))), N2, rfl⟩
  · show OwnS p e below s₁ (mkF m 0 #[rv r0, iv 0] []) _
    refine oIn X0 hx hby d15_0 rfl (oAn X0 hx hby d15_1 rfl rfl ?_)
    refine X0.arraylength hx (by rw [e0]; exact Ar_z1.1) (State.isArrayOf_alike hZ.alike Ar_z1.2.1) (g := (mkF m 2 #[rv r0, iv 0] [(.ref r0), (.int 0)])) rfl rfl (hb hby d15_2) _ ?_
    rw [len_of S_z1 N_z1]
    refine st2 _ ?_
    refine oAn X2 hx hby d15_6 rfl rfl (oIn X2 hx hby d15_7 rfl ?_)
    refine X2.baloadBytes hx (j := (0 : Int32)) (v := (.int ((x0.toInt8.toInt32).toInt8.toInt32))) (by rw [e2]; exact Ar_z1.1) (State.isArrayOf_alike hZ.alike Ar_z1.2.1) Ar_z1.2.2 hin3 (Has.at H_z1 hin3 rfl) (g := (mkF m 8 #[rv r0, iv 0] [(.int 0), (.ref r0)])) rfl rfl (hb hby d15_8) _ ?_
    refine XS.sipush X2.here hx rfl (hb hby d15_9) ?_
    refine XS.iand X2.here hx rfl (hb hby d15_12) rfl ?_
    refine XS.i2c X2.here hx rfl (hb hby d15_13) rfl ?_
    exact retN X2 hx (t := .char) Bd.returns (by simp) (hb hby d15_14) hr
theorem pd_11 : parseMethodDescriptor "([B)I" = some ⟨[(.array .byte)], some .int⟩ := by decide +kernel
theorem d25_0 : decode jdk_52_method_91_code 0 = .ok (.iload_n 0, 1) := by decide +kernel
theorem d25_1 : decode jdk_52_method_91_code 1 = .ok (.aload_n 1, 1) := by decide +kernel
theorem d25_2 : decode jdk_52_method_91_code 2 = .ok (.invokestatic 48, 3) := by decide +kernel
theorem d25_5 : decode jdk_52_method_91_code 5 = .ok (.invokestatic 414, 3) := by decide +kernel
theorem d25_8 : decode jdk_52_method_91_code 8 = .ok (.return_, 1) := by decide +kernel
theorem ef_25 (m : MethodId) (x0 : Int32) (x1 : Addr) : entryFrame m #[(.int x0), (.ref x1)] 2 = mkF m 0 #[.val (.int x0), .val (.ref x1)] [] := by first | (simp [entryFrame, mkF, argsToLocals, Value.category]; done) | rfl
def Q_UK_1 (Z : State) (p0 : Int32) (r1 : Addr) (w_F : Value) (kB : ClassId) (vs : List Value) (h0 : Heap) (n0 : Nat) (v : Option Value) (h : Heap) (L : List Loc) : Prop := v = none ∧ Fr n0 L ∧ h = h0
theorem rmUK_1 (l : Launch) (Z : State) (a0 : Array Value) (hw : own_HW a0 Z) (ws : List Jvm.Cond) (p0 : Int32) (r1 : Addr) (w_F : Value) (kB : ClassId) (vs : List Value) (h0 : Heap) (n0 : Nat) (Z0 : n0 ≤ h0.size) (S_F : Sta Z h0 cS2 cS9 cS3 w_F) (hwF : w_F.isRef = true) (V_r1 : Arv Z h0 r1 kB .byte (2 : Int32) vs (.int 0)) (hge : ¬ (p0 < (0 : Int32))) (hlt : p0 < (1 : Int32)) :
    own_M l Z (⟨cS0, "checkIndex", "(I[B)V"⟩ : MethodName) jdk_52_method_91_code 2 none ws ({ frames := 2, cells := 0, slots := 0, locals := 27 } : Room) #[(.int p0), (.ref r1)] h0 (Q_UK_1 Z p0 r1 w_F kB vs h0 n0) := by
  refine own_in cS0 rfl (plainFor_of_name pn_java_lang_StringUTF16) ?_
  intro p e s m below meth c s₁ Bd hml hZ hh hx hby hown X0 e0
  have N0 := Fr.nil n0
  have k0 := own_k (p := p) (e := e) (below := below) (T := s₁) (ef_25 m p0 r1)
  obtain ⟨_, T1, L1, X1, hQ1, st1⟩ := own_cS 1 (rmUL_1 l Z a0 hw [] r1 kB vs h0 n0 Z0 V_r1) X0 hx hZ hown hw 109 110 51 111 rfl rfl rfl rfl 2 #[iv p0, rv r1] [(.ref r1)] [(.int p0)] (hb hby d25_2) hml (lenOf pd_11 rfl) e0 rfl (Nat.le_refl _) (by decide)
  obtain ⟨rfl, N1q, e1⟩ := hQ1
  have N1 := Fr.app N0 N1q
  obtain ⟨_, T2, L2, X2, hQ2, st2⟩ := own_cS 0 (rmCk l Z a0 hw [] p0 (1 : Int32) w_F h0 n0 Z0 S_F hwF hge hlt) X1 hx hZ hown hw 112 74 12 75 rfl rfl rfl rfl 5 #[iv p0, rv r1] [(.int p0), (.int 1)] [] (hb hby d25_5) hml (lenOf pd_10 rfl) e1 rfl (Nat.le_refl _) (by decide)
  obtain ⟨rfl, N2q, e2⟩ := hQ2
  have N2 := Fr.app N1 N2q
  refine own_out X2 Bd.notSynchronized Bd.returns (none) (fun _ => rfl) (by decide) (by decide) ?_ fun fs hr => k0 _ ?_
  · rw [e2]; exact ⟨rfl, N2, rfl⟩
  · show OwnS p e below s₁ (mkF m 0 #[iv p0, rv r1] []) _
    refine oIn X0 hx hby d25_0 rfl (oAn X0 hx hby d25_1 rfl rfl ?_)
    refine st1 _ ?_
    refine st2 _ ?_
    exact X2.returnOut hx Bd.returns (hb hby d25_8) hr
theorem pd_12 : parseMethodDescriptor "(I[B)V" = some ⟨[.int, (.array .byte)], none⟩ := by decide +kernel
theorem d24_0 : decode jdk_52_method_83_code 0 = .ok (.iload_n 1, 1) := by decide +kernel
theorem d24_1 : decode jdk_52_method_83_code 1 = .ok (.aload_n 0, 1) := by decide +kernel
theorem d24_2 : decode jdk_52_method_83_code 2 = .ok (.invokestatic 67, 3) := by decide +kernel
theorem d24_5 : decode jdk_52_method_83_code 5 = .ok (.aload_n 0, 1) := by decide +kernel
theorem d24_6 : decode jdk_52_method_83_code 6 = .ok (.iload_n 1, 1) := by decide +kernel
theorem d24_7 : decode jdk_52_method_83_code 7 = .ok (.invokestatic 71, 3) := by decide +kernel
theorem d24_10 : decode jdk_52_method_83_code 10 = .ok (.ireturn, 1) := by decide +kernel
theorem ef_24 (m : MethodId) (x0 : Addr) (x1 : Int32) : entryFrame m #[(.ref x0), (.int x1)] 2 = mkF m 0 #[.val (.ref x0), .val (.int x1)] [] := by first | (simp [entryFrame, mkF, argsToLocals, Value.category]; done) | rfl
def Q_UC_1_0 (Z : State) (r0 : Addr) (w_F : Value) (kB : ClassId) (x0 : Int32) (h0 : Heap) (n0 : Nat) (v : Option Value) (h : Heap) (L : List Loc) : Prop := v = some (.int x0) ∧ Fr n0 L ∧ h = h0
theorem rmUC_1_0 (l : Launch) (Z : State) (a0 : Array Value) (hw : own_HW a0 Z) (ws : List Jvm.Cond) (r0 : Addr) (w_F : Value) (kB : ClassId) (x0 : Int32) (h0 : Heap) (n0 : Nat) (Z0 : n0 ≤ h0.size) (S_F : Sta Z h0 cS2 cS9 cS3 w_F) (hwF : w_F.isRef = true) (S_AD : Sta Z h0 cS0 cS5 "Z" (.int 1)) (S_HI : Sta Z h0 cS0 cS7 "I" (.int 0)) (S_LO : Sta Z h0 cS0 cS8 "I" (.int 8)) (V_r0 : Arv Z h0 r0 kB .byte (2 : Int32) [(.int (((x0 >>> ((0 : Int32) &&& 31)).toInt8.toInt32).toInt8.toInt32)), (.int (((x0 >>> ((8 : Int32) &&& 31)).toInt8.toInt32).toInt8.toInt32))] (.int 0)) (hch_x0 : own_ch x0) :
    own_M l Z (⟨cS0, "charAt", "([BI)C"⟩ : MethodName) jdk_52_method_83_code 2 (some .char) ws ({ frames := 3, cells := 0, slots := 0, locals := 40 } : Room) #[(.ref r0), (.int 0)] h0 (Q_UC_1_0 Z r0 w_F kB x0 h0 n0) := by
  refine own_in cS0 rfl (plainFor_of_name pn_java_lang_StringUTF16) ?_
  intro p e s m below meth c s₁ Bd hml hZ hh hx hby hown X0 e0
  have N0 := Fr.nil n0
  have k0 := own_k (p := p) (e := e) (below := below) (T := s₁) (ef_24 m r0 (0 : Int32))
  obtain ⟨_, T1, L1, X1, hQ1, st1⟩ := own_cS 0 (rmUK_1 l Z a0 hw [] (0 : Int32) r0 w_F kB [(.int (((x0 >>> ((0 : Int32) &&& 31)).toInt8.toInt32).toInt8.toInt32)), (.int (((x0 >>> ((8 : Int32) &&& 31)).toInt8.toInt32).toInt8.toInt32))] h0 n0 Z0 S_F hwF V_r0 (by decide : ¬ ((0 : Int32) < (0 : Int32))) (by decide : (0 : Int32) < (1 : Int32))) X0 hx hZ hown hw 106 107 51 108 rfl rfl rfl rfl 2 #[rv r0, iv 0] [(.int 0), (.ref r0)] [] (hb hby d24_2) hml (lenOf pd_12 rfl) e0 rfl (Nat.le_refl _) (by decide)
  obtain ⟨rfl, N1q, e1⟩ := hQ1
  have N1 := Fr.app N0 N1q
  obtain ⟨_, T2, L2, X2, hQ2, st2⟩ := own_cS 0 (rmGC_1_0 l Z a0 hw [] r0 kB x0 h0 n0 Z0 S_AD S_HI S_LO V_r0 hch_x0) X1 hx hZ hown hw 100 101 51 102 rfl rfl rfl rfl 7 #[rv r0, iv 0] [(.ref r0), (.int 0)] [] (hb hby d24_7) hml (lenOf pd_6 rfl) e1 rfl (Nat.le_refl _) (by decide)
  obtain ⟨rfl, N2q, e2⟩ := hQ2
  have N2 := Fr.app N1 N2q
  refine own_out X2 Bd.notSynchronized Bd.returns (some (.int (x0.toUInt32.toUInt16.toUInt32.toInt32))) nofun (by decide) (by decide) ?_ fun fs hr => k0 _ ?_
  · rw [e2]; exact ⟨(congrArg some (congrArg Value.int (own_i2cid hch_x0))), N2, rfl⟩
  · show OwnS p e below s₁ (mkF m 0 #[rv r0, iv 0] []) _
    refine oIn X0 hx hby d24_0 rfl (oAn X0 hx hby d24_1 rfl rfl ?_)
    refine st1 _ ?_
    refine oAn X1 hx hby d24_5 rfl rfl (oIn X1 hx hby d24_6 rfl ?_)
    refine st2 _ ?_
    exact retN X2 hx (t := .char) Bd.returns (by simp) (hb hby d24_10) hr
theorem pd_13 : parseMethodDescriptor "()Z" = some ⟨[], some .boolean⟩ := by decide +kernel
theorem d13_0 : decode jdk_42_method_56_code 0 = .ok (.aload_n 0, 1) := by decide +kernel
theorem d13_1 : decode jdk_42_method_56_code 1 = .ok (.invokevirtual 492, 3) := by decide +kernel
theorem d13_4 : decode jdk_42_method_56_code 4 = .ok (.ifCond .eq 12, 3) := by decide +kernel
theorem d13_7 : decode jdk_42_method_56_code 7 = .ok (.aload_n 0, 1) := by decide +kernel
theorem d13_8 : decode jdk_42_method_56_code 8 = .ok (.getfield 9, 3) := by decide +kernel
theorem d13_11 : decode jdk_42_method_56_code 11 = .ok (.iload_n 1, 1) := by decide +kernel
theorem d13_12 : decode jdk_42_method_56_code 12 = .ok (.invokestatic 495, 3) := by decide +kernel
theorem d13_15 : decode jdk_42_method_56_code 15 = .ok (.ireturn, 1) := by decide +kernel
theorem d13_16 : decode jdk_42_method_56_code 16 = .ok (.aload_n 0, 1) := by decide +kernel
theorem d13_17 : decode jdk_42_method_56_code 17 = .ok (.getfield 9, 3) := by decide +kernel
theorem d13_20 : decode jdk_42_method_56_code 20 = .ok (.iload_n 1, 1) := by decide +kernel
theorem d13_21 : decode jdk_42_method_56_code 21 = .ok (.invokestatic 498, 3) := by decide +kernel
theorem d13_24 : decode jdk_42_method_56_code 24 = .ok (.ireturn, 1) := by decide +kernel
theorem ef_13 (m : MethodId) (x0 : Addr) (x1 : Int32) : entryFrame m #[(.ref x0), (.int x1)] 2 = mkF m 0 #[.val (.ref x0), .val (.int x1)] [] := by first | (simp [entryFrame, mkF, argsToLocals, Value.category]; done) | rfl
def Q_CA_1_0 (Z : State) (r0 : Addr) (w_CS : Int32) (w_F : Value) (x0 : Int32) (h0 : Heap) (n0 : Nat) (v : Option Value) (h : Heap) (L : List Loc) : Prop := v = some (.int x0) ∧ Fr n0 L ∧ h = h0
theorem rmCA_1_0 (l : Launch) (Z : State) (a0 : Array Value) (hw : own_HW a0 Z) (ws : List Jvm.Cond) (r0 : Addr) (w_CS : Int32) (w_F : Value) (x0 : Int32) (h0 : Heap) (n0 : Nat) (Z0 : n0 ≤ h0.size) (S_CS : Sta Z h0 cS1 cS10 "Z" (.int w_CS)) (hcs : ¬ (w_CS = (0 : Int32))) (S_F : Sta Z h0 cS2 cS9 cS3 w_F) (hwF : w_F.isRef = true) (S_AD : Sta Z h0 cS0 cS5 "Z" (.int 1)) (S_HI : Sta Z h0 cS0 cS7 "I" (.int 0)) (S_LO : Sta Z h0 cS0 cS8 "I" (.int 8)) (P_r0 : own_S1 Z h0 r0 x0) (hch_x0 : own_ch x0) :
    own_M l Z (⟨cS1, "charAt", "(I)C"⟩ : MethodName) jdk_42_method_56_code 2 (some .char) ws ({ frames := 4, cells := 0, slots := 0, locals := 53 } : Room) #[(.ref r0), (.int 0)] h0 (Q_CA_1_0 Z r0 w_CS w_F x0 h0 n0) := by
  refine own_in cS1 rfl (plainFor_of_name pn_java_lang_String) ?_
  intro p e s m below meth c s₁ Bd hml hZ hh hx hby hown X0 e0
  have N0 := Fr.nil n0
  have k0 := own_k (p := p) (e := e) (below := below) (T := s₁) (ef_13 m r0 (0 : Int32))
  rcases id P_r0 with ⟨eS, ⟨sA, kS, fC, fV, vA, hl0⟩ | ⟨sA, kS, fC, fV, vA⟩⟩
  · skip
    obtain ⟨_, T1, L1, X1, hQ1, st1⟩ := own_cV 0 (rmIL0 l Z a0 hw [] r0 w_CS h0 n0 Z0 S_CS hcs fC) X0 hx hZ hown hw 64 65 67 66 12 68 rfl rfl rfl rfl rfl rfl r0 eS 1 #[rv r0, iv 0] [] [] (hb hby d13_1) hml (lenOf pd_13 rfl) e0 rfl (Nat.le_refl _) (by decide)
    obtain ⟨rfl, N1q, e1⟩ := hQ1
    have N1 := Fr.app N0 N1q
    obtain ⟨T2, X2, e2, st2⟩ := getF X1 hx hZ hown (host := "") (Or.inl (own_at hw 29 rfl)) Via.refl e1 fV (g := (mkF m 8 #[rv r0, iv 0] [(.ref r0)])) rfl rfl (hb hby d13_8)
    obtain ⟨_, T3, L3, X3, hQ3, st3⟩ := own_cS 0 (rmLC_1_0 l Z a0 hw [] sA w_F kS x0 h0 n0 Z0 S_F hwF vA hch_x0 hl0) X2 hx hZ hown hw 69 70 71 72 rfl rfl rfl rfl 12 #[rv r0, iv 0] [(.ref sA), (.int 0)] [] (hb hby d13_12) hml (lenOf pd_6 rfl) e2 rfl (Nat.le_refl _) (by decide)
    obtain ⟨rfl, N3q, e3⟩ := hQ3
    have N3 := Fr.app N1 N3q
    refine own_out X3 Bd.notSynchronized Bd.returns (some (.int (x0.toUInt32.toUInt16.toUInt32.toInt32))) nofun (by decide) (by decide) ?_ fun fs hr => k0 _ ?_
    · rw [e3]; exact ⟨(congrArg some (congrArg Value.int (own_i2cid hch_x0))), N3, rfl⟩
    · show OwnS p e below s₁ (mkF m 0 #[rv r0, iv 0] []) _
      refine oAn X0 hx hby d13_0 rfl rfl ?_
      refine st1 _ ?_
      refine XS.ifNo X1.here hx rfl (hb hby d13_4) rfl ((if0 _ _).trans (feq (by decide : ¬ ((1 : Int32) = (0 : Int32)))).1) ?_
      refine oAn X1 hx hby d13_7 rfl rfl ?_
      refine st2 _ ?_
      refine oIn X2 hx hby d13_11 rfl ?_
      refine st3 _ ?_
      exact retN X3 hx (t := .char) Bd.returns (by simp) (hb hby d13_15) hr
  · skip
    obtain ⟨_, T4, L4, X4, hQ4, st4⟩ := own_cV 0 (rmIL1 l Z a0 hw [] r0 w_CS h0 n0 Z0 S_CS hcs fC) X0 hx hZ hown hw 64 65 67 66 12 68 rfl rfl rfl rfl rfl rfl r0 eS 1 #[rv r0, iv 0] [] [] (hb hby d13_1) hml (lenOf pd_13 rfl) e0 rfl (Nat.le_refl _) (by decide)
    obtain ⟨rfl, N4q, e4⟩ := hQ4
    have N4 := Fr.app N0 N4q
    obtain ⟨T5, X5, e5, st5⟩ := getF X4 hx hZ hown (host := "") (Or.inl (own_at hw 29 rfl)) Via.refl e4 fV (g := (mkF m 17 #[rv r0, iv 0] [(.ref r0)])) rfl rfl (hb hby d13_17)
    obtain ⟨_, T6, L6, X6, hQ6, st6⟩ := own_cS 0 (rmUC_1_0 l Z a0 hw [] sA w_F kS x0 h0 n0 Z0 S_F hwF S_AD S_HI S_LO vA hch_x0) X5 hx hZ hown hw 103 104 51 105 rfl rfl rfl rfl 21 #[rv r0, iv 0] [(.ref sA), (.int 0)] [] (hb hby d13_21) hml (lenOf pd_6 rfl) e5 rfl (Nat.le_refl _) (by decide)
    obtain ⟨rfl, N6q, e6⟩ := hQ6
    have N6 := Fr.app N4 N6q
    refine own_out X6 Bd.notSynchronized Bd.returns (some (.int (x0.toUInt32.toUInt16.toUInt32.toInt32))) nofun (by decide) (by decide) ?_ fun fs hr => k0 _ ?_
    · rw [e6]; exact ⟨(congrArg some (congrArg Value.int (own_i2cid hch_x0))), N6, rfl⟩
    · show OwnS p e below s₁ (mkF m 0 #[rv r0, iv 0] []) _
      refine oAn X0 hx hby d13_0 rfl rfl ?_
      refine st4 _ ?_
      refine XS.ifYes X4.here hx rfl (pc0 := 4) (pc' := 16) rfl (hb hby d13_4) rfl ((if0 _ _).trans (teq (by decide : (0 : Int32) = (0 : Int32))).1) (by decide) (by decide) ?_
      refine oAn X4 hx hby d13_16 rfl rfl ?_
      refine st5 _ ?_
      refine oIn X5 hx hby d13_20 rfl ?_
      refine st6 _ ?_
      exact retN X6 hx (t := .char) Bd.returns (by simp) (hb hby d13_24) hr
def Q_Len_2 (Z : State) (r0 : Addr) (w_CS x0 x1 : Int32) (h0 : Heap) (n0 : Nat) (v : Option Value) (h : Heap) (L : List Loc) : Prop := v = some (.int 2) ∧ Fr n0 L ∧ h = h0
theorem rmLen_2 (l : Launch) (Z : State) (a0 : Array Value) (hw : own_HW a0 Z) (ws : List Jvm.Cond) (r0 : Addr) (w_CS x0 x1 : Int32) (h0 : Heap) (n0 : Nat) (Z0 : n0 ≤ h0.size) (S_CS : Sta Z h0 cS1 cS10 "Z" (.int w_CS)) (hcs : ¬ (w_CS = (0 : Int32))) (P_r0 : own_S2 Z h0 r0 x0 x1) :
    own_M l Z (⟨cS1, "length", "()I"⟩ : MethodName) jdk_42_method_54_code 1 (some .int) ws ({ frames := 1, cells := 0, slots := 0, locals := 13 } : Room) #[(.ref r0)] h0 (Q_Len_2 Z r0 w_CS x0 x1 h0 n0) := by
  refine own_in cS1 rfl (plainFor_of_name pn_java_lang_String) ?_
  intro p e s m below meth c s₁ Bd hml hZ hh hx hby hown X0 e0
  have N0 := Fr.nil n0
  have k0 := own_k (p := p) (e := e) (below := below) (T := s₁) (ef_7 m r0)
  rcases id P_r0 with ⟨eS, ⟨sA, kS, fC, fV, vA, hl0, hl1⟩ | ⟨sA, kS, fC, fV, vA⟩⟩
  · skip
    obtain ⟨T1, X1, e1, st1⟩ := getF X0 hx hZ hown (host := "") (Or.inl (own_at hw 29 rfl)) Via.refl e0 fV (g := (mkF m 1 #[rv r0] [(.ref r0)])) rfl rfl (hb hby d7_1)
    obtain ⟨cl_z2, Ar_z2, q_z2, S_z2, N_z2, H_z2, G_z2⟩ := id vA
    obtain ⟨_, T3, L3, X3, hQ3, st3⟩ := own_cV 1 (rmCo0 l Z a0 hw [] r0 w_CS h0 n0 Z0 S_CS hcs fC) X1 hx hZ hown hw 40 41 43 42 12 44 rfl rfl rfl rfl rfl rfl r0 eS 6 #[rv r0] [] [(.int 2)] (hb hby d7_6) hml (lenOf pd_9 rfl) e1 rfl (Nat.le_refl _) (by decide)
    obtain ⟨rfl, N3q, e3⟩ := hQ3
    have N3 := Fr.app N0 N3q
    refine own_out X3 Bd.notSynchronized Bd.returns (some (.int 2)) nofun (by decide) (by decide) ?_ fun fs hr => k0 _ ?_
    · rw [e3]; exact ⟨rfl, N3, rfl⟩
    · show OwnS p e below s₁ (mkF m 0 #[rv r0] []) _
      refine oAn X0 hx hby d7_0 rfl rfl ?_
      refine st1 _ ?_
      refine X1.arraylength hx (by rw [e1]; exact Ar_z2.1) (State.isArrayOf_alike hZ.alike Ar_z2.2.1) (g := (mkF m 4 #[rv r0] [(.ref sA)])) rfl rfl (hb hby d7_4) _ ?_
      rw [len_of S_z2 N_z2]
      refine oAn X1 hx hby d7_5 rfl rfl ?_
      refine st3 _ ?_
      refine XS.ishr X3.here hx rfl (hb hby d7_9) rfl ?_
      exact retI X3 hx Bd.returns (hb hby d7_10) hr
  · skip
    obtain ⟨T4, X4, e4, st4⟩ := getF X0 hx hZ hown (host := "") (Or.inl (own_at hw 29 rfl)) Via.refl e0 fV (g := (mkF m 1 #[rv r0] [(.ref r0)])) rfl rfl (hb hby d7_1)
    obtain ⟨cl_z5, Ar_z5, q_z5, S_z5, N_z5, H_z5, G_z5⟩ := id vA
    obtain ⟨_, T6, L6, X6, hQ6, st6⟩ := own_cV 1 (rmCo1 l Z a0 hw [] r0 w_CS h0 n0 Z0 S_CS hcs fC) X4 hx hZ hown hw 40 41 43 42 12 44 rfl rfl rfl rfl rfl rfl r0 eS 6 #[rv r0] [] [(.int 4)] (hb hby d7_6) hml (lenOf pd_9 rfl) e4 rfl (Nat.le_refl _) (by decide)
    obtain ⟨rfl, N6q, e6⟩ := hQ6
    have N6 := Fr.app N0 N6q
    refine own_out X6 Bd.notSynchronized Bd.returns (some (.int 2)) nofun (by decide) (by decide) ?_ fun fs hr => k0 _ ?_
    · rw [e6]; exact ⟨rfl, N6, rfl⟩
    · show OwnS p e below s₁ (mkF m 0 #[rv r0] []) _
      refine oAn X0 hx hby d7_0 rfl rfl ?_
      refine st4 _ ?_
      refine X4.arraylength hx (by rw [e4]; exact Ar_z5.1) (State.isArrayOf_alike hZ.alike Ar_z5.2.1) (g := (mkF m 4 #[rv r0] [(.ref sA)])) rfl rfl (hb hby d7_4) _ ?_
      rw [len_of S_z5 N_z5]
      refine oAn X4 hx hby d7_5 rfl rfl ?_
      refine st6 _ ?_
      refine XS.ishr X6.here hx rfl (hb hby d7_9) rfl ?_
      exact retI X6 hx Bd.returns (hb hby d7_10) hr
def Q_LC_2_0 (Z : State) (r0 : Addr) (w_F : Value) (kB : ClassId) (x0 x1 : Int32) (h0 : Heap) (n0 : Nat) (v : Option Value) (h : Heap) (L : List Loc) : Prop := v = some (.int x0) ∧ Fr n0 L ∧ h = h0
theorem rmLC_2_0 (l : Launch) (Z : State) (a0 : Array Value) (hw : own_HW a0 Z) (ws : List Jvm.Cond) (r0 : Addr) (w_F : Value) (kB : ClassId) (x0 x1 : Int32) (h0 : Heap) (n0 : Nat) (Z0 : n0 ≤ h0.size) (S_F : Sta Z h0 cS2 cS9 cS3 w_F) (hwF : w_F.isRef = true) (V_r0 : Arv Z h0 r0 kB .byte (2 : Int32) [(.int ((x0.toInt8.toInt32).toInt8.toInt32)), (.int ((x1.toInt8.toInt32).toInt8.toInt32))] (.int 0)) (hch_x0 : own_ch x0) (hle_x0 : ¬ ((255 : Int32) < x0)) :
    own_M l Z (⟨cS12, "charAt", "([BI)C"⟩ : MethodName) jdk_43_method_2_code 2 (some .char) ws ({ frames := 2, cells := 0, slots := 0, locals := 27 } : Room) #[(.ref r0), (.int 0)] h0 (Q_LC_2_0 Z r0 w_F kB x0 x1 h0 n0) := by
  refine own_in cS12 rfl (plainFor_of_name pn_java_lang_StringLatin1) ?_
  intro p e s m below meth c s₁ Bd hml hZ hh hx hby hown X0 e0
  have N0 := Fr.nil n0
  have k0 := own_k (p := p) (e := e) (below := below) (T := s₁) (ef_15 m r0 (0 : Int32))
  obtain ⟨cl_z1, Ar_z1, q_z1, S_z1, N_z1, H_z1, G_z1⟩ := id V_r0
  obtain ⟨_, T2, L2, X2, hQ2, st2⟩ := own_cS 0 (rmCk l Z a0 hw [] (0 : Int32) (2 : Int32) w_F h0 n0 Z0 S_F hwF (by decide : ¬ ((0 : Int32) < (0 : Int32))) (by decide : (0 : Int32) < (2 : Int32))) X0 hx hZ hown hw 73 74 12 75 rfl rfl rfl rfl 3 #[rv r0, iv 0] [(.int 0), (.int 2)] [] (hb hby d15_3) hml (lenOf pd_10 rfl) e0 rfl (Nat.le_refl _) (by decide)
  obtain ⟨rfl, N2q, e2⟩ := hQ2
  have N2 := Fr.app N0 N2q
  have hin3 : ¬ ((0 : Int32) < 0 ∨ cl_z1.slots.size ≤ ((0 : Int32)).toNatClampNeg) := inb_of S_z1 ⟨by decide, by decide⟩
  refine own_out X2 Bd.notSynchronized Bd.returns (some (.int (((((x0.toInt8.toInt32).toInt8.toInt32) &&& (255 : Int32)).toUInt32.toUInt16.toUInt32.toInt32).toUInt32.toUInt16.toUInt32.toInt32))) nofun (by decide) (by decide) ?_ fun fs hr => k0 _ ?_
  · rw [e2]; exact ⟨(congrArg some (congrArg Value.int (own_latc hch_x0 hle_x0))), N2, rfl⟩
  · show OwnS p e below s₁ (mkF m 0 #[rv r0, iv 0] []) _
    refine oIn X0 hx hby d15_0 rfl (oAn X0 hx hby d15_1 rfl rfl ?_)
    refine X0.arraylength hx (by rw [e0]; exact Ar_z1.1) (State.isArrayOf_alike hZ.alike Ar_z1.2.1) (g := (mkF m 2 #[rv r0, iv 0] [(.ref r0), (.int 0)])) rfl rfl (hb hby d15_2) _ ?_
    rw [len_of S_z1 N_z1]
    refine st2 _ ?_
    refine oAn X2 hx hby d15_6 rfl rfl (oIn X2 hx hby d15_7 rfl ?_)
    refine X2.baloadBytes hx (j := (0 : Int32)) (v := (.int ((x0.toInt8.toInt32).toInt8.toInt32))) (by rw [e2]; exact Ar_z1.1) (State.isArrayOf_alike hZ.alike Ar_z1.2.1) Ar_z1.2.2 hin3 (Has.at H_z1 hin3 rfl) (g := (mkF m 8 #[rv r0, iv 0] [(.int 0), (.ref r0)])) rfl rfl (hb hby d15_8) _ ?_
    refine XS.sipush X2.here hx rfl (hb hby d15_9) ?_
    refine XS.iand X2.here hx rfl (hb hby d15_12) rfl ?_
    refine XS.i2c X2.here hx rfl (hb hby d15_13) rfl ?_
    exact retN X2 hx (t := .char) Bd.returns (by simp) (hb hby d15_14) hr
def Q_LC_2_1 (Z : State) (r0 : Addr) (w_F : Value) (kB : ClassId) (x0 x1 : Int32) (h0 : Heap) (n0 : Nat) (v : Option Value) (h : Heap) (L : List Loc) : Prop := v = some (.int x1) ∧ Fr n0 L ∧ h = h0
theorem rmLC_2_1 (l : Launch) (Z : State) (a0 : Array Value) (hw : own_HW a0 Z) (ws : List Jvm.Cond) (r0 : Addr) (w_F : Value) (kB : ClassId) (x0 x1 : Int32) (h0 : Heap) (n0 : Nat) (Z0 : n0 ≤ h0.size) (S_F : Sta Z h0 cS2 cS9 cS3 w_F) (hwF : w_F.isRef = true) (V_r0 : Arv Z h0 r0 kB .byte (2 : Int32) [(.int ((x0.toInt8.toInt32).toInt8.toInt32)), (.int ((x1.toInt8.toInt32).toInt8.toInt32))] (.int 0)) (hch_x1 : own_ch x1) (hle_x1 : ¬ ((255 : Int32) < x1)) :
    own_M l Z (⟨cS12, "charAt", "([BI)C"⟩ : MethodName) jdk_43_method_2_code 2 (some .char) ws ({ frames := 2, cells := 0, slots := 0, locals := 27 } : Room) #[(.ref r0), (.int 1)] h0 (Q_LC_2_1 Z r0 w_F kB x0 x1 h0 n0) := by
  refine own_in cS12 rfl (plainFor_of_name pn_java_lang_StringLatin1) ?_
  intro p e s m below meth c s₁ Bd hml hZ hh hx hby hown X0 e0
  have N0 := Fr.nil n0
  have k0 := own_k (p := p) (e := e) (below := below) (T := s₁) (ef_15 m r0 (1 : Int32))
  obtain ⟨cl_z1, Ar_z1, q_z1, S_z1, N_z1, H_z1, G_z1⟩ := id V_r0
  obtain ⟨_, T2, L2, X2, hQ2, st2⟩ := own_cS 0 (rmCk l Z a0 hw [] (1 : Int32) (2 : Int32) w_F h0 n0 Z0 S_F hwF (by decide : ¬ ((1 : Int32) < (0 : Int32))) (by decide : (1 : Int32) < (2 : Int32))) X0 hx hZ hown hw 73 74 12 75 rfl rfl rfl rfl 3 #[rv r0, iv 1] [(.int 1), (.int 2)] [] (hb hby d15_3) hml (lenOf pd_10 rfl) e0 rfl (Nat.le_refl _) (by decide)
  obtain ⟨rfl, N2q, e2⟩ := hQ2
  have N2 := Fr.app N0 N2q
  have hin3 : ¬ ((1 : Int32) < 0 ∨ cl_z1.slots.size ≤ ((1 : Int32)).toNatClampNeg) := inb_of S_z1 ⟨by decide, by decide⟩
  refine own_out X2 Bd.notSynchronized Bd.returns (some (.int (((((x1.toInt8.toInt32).toInt8.toInt32) &&& (255 : Int32)).toUInt32.toUInt16.toUInt32.toInt32).toUInt32.toUInt16.toUInt32.toInt32))) nofun (by decide) (by decide) ?_ fun fs hr => k0 _ ?_
  · rw [e2]; exact ⟨(congrArg some (congrArg Value.int (own_latc hch_x1 hle_x1))), N2, rfl⟩
  · show OwnS p e below s₁ (mkF m 0 #[rv r0, iv 1] []) _
    refine oIn X0 hx hby d15_0 rfl (oAn X0 hx hby d15_1 rfl rfl ?_)
    refine X0.arraylength hx (by rw [e0]; exact Ar_z1.1) (State.isArrayOf_alike hZ.alike Ar_z1.2.1) (g := (mkF m 2 #[rv r0, iv 1] [(.ref r0), (.int 1)])) rfl rfl (hb hby d15_2) _ ?_
    rw [len_of S_z1 N_z1]
    refine st2 _ ?_
    refine oAn X2 hx hby d15_6 rfl rfl (oIn X2 hx hby d15_7 rfl ?_)
    refine X2.baloadBytes hx (j := (1 : Int32)) (v := (.int ((x1.toInt8.toInt32).toInt8.toInt32))) (by rw [e2]; exact Ar_z1.1) (State.isArrayOf_alike hZ.alike Ar_z1.2.1) Ar_z1.2.2 hin3 (Has.at H_z1 hin3 rfl) (g := (mkF m 8 #[rv r0, iv 1] [(.int 1), (.ref r0)])) rfl rfl (hb hby d15_8) _ ?_
    refine XS.sipush X2.here hx rfl (hb hby d15_9) ?_
    refine XS.iand X2.here hx rfl (hb hby d15_12) rfl ?_
    refine XS.i2c X2.here hx rfl (hb hby d15_13) rfl ?_
    exact retN X2 hx (t := .char) Bd.returns (by simp) (hb hby d15_14) hr
def Q_UK_2 (Z : State) (p0 : Int32) (r1 : Addr) (w_F : Value) (kB : ClassId) (vs : List Value) (h0 : Heap) (n0 : Nat) (v : Option Value) (h : Heap) (L : List Loc) : Prop := v = none ∧ Fr n0 L ∧ h = h0
theorem rmUK_2 (l : Launch) (Z : State) (a0 : Array Value) (hw : own_HW a0 Z) (ws : List Jvm.Cond) (p0 : Int32) (r1 : Addr) (w_F : Value) (kB : ClassId) (vs : List Value) (h0 : Heap) (n0 : Nat) (Z0 : n0 ≤ h0.size) (S_F : Sta Z h0 cS2 cS9 cS3 w_F) (hwF : w_F.isRef = true) (V_r1 : Arv Z h0 r1 kB .byte (4 : Int32) vs (.int 0)) (hge : ¬ (p0 < (0 : Int32))) (hlt : p0 < (2 : Int32)) :
    own_M l Z (⟨cS0, "checkIndex", "(I[B)V"⟩ : MethodName) jdk_52_method_91_code 2 none ws ({ frames := 2, cells := 0, slots := 0, locals := 27 } : Room) #[(.int p0), (.ref r1)] h0 (Q_UK_2 Z p0 r1 w_F kB vs h0 n0) := by
  refine own_in cS0 rfl (plainFor_of_name pn_java_lang_StringUTF16) ?_
  intro p e s m below meth c s₁ Bd hml hZ hh hx hby hown X0 e0
  have N0 := Fr.nil n0
  have k0 := own_k (p := p) (e := e) (below := below) (T := s₁) (ef_25 m p0 r1)
  obtain ⟨_, T1, L1, X1, hQ1, st1⟩ := own_cS 1 (rmUL_2 l Z a0 hw [] r1 kB vs h0 n0 Z0 V_r1) X0 hx hZ hown hw 109 110 51 111 rfl rfl rfl rfl 2 #[iv p0, rv r1] [(.ref r1)] [(.int p0)] (hb hby d25_2) hml (lenOf pd_11 rfl) e0 rfl (Nat.le_refl _) (by decide)
  obtain ⟨rfl, N1q, e1⟩ := hQ1
  have N1 := Fr.app N0 N1q
  obtain ⟨_, T2, L2, X2, hQ2, st2⟩ := own_cS 0 (rmCk l Z a0 hw [] p0 (2 : Int32) w_F h0 n0 Z0 S_F hwF hge hlt) X1 hx hZ hown hw 112 74 12 75 rfl rfl rfl rfl 5 #[iv p0, rv r1] [(.int p0), (.int 2)] [] (hb hby d25_5) hml (lenOf pd_10 rfl) e1 rfl (Nat.le_refl _) (by decide)
  obtain ⟨rfl, N2q, e2⟩ := hQ2
  have N2 := Fr.app N1 N2q
  refine own_out X2 Bd.notSynchronized Bd.returns (none) (fun _ => rfl) (by decide) (by decide) ?_ fun fs hr => k0 _ ?_
  · rw [e2]; exact ⟨rfl, N2, rfl⟩
  · show OwnS p e below s₁ (mkF m 0 #[iv p0, rv r1] []) _
    refine oIn X0 hx hby d25_0 rfl (oAn X0 hx hby d25_1 rfl rfl ?_)
    refine st1 _ ?_
    refine st2 _ ?_
    exact X2.returnOut hx Bd.returns (hb hby d25_8) hr
def Q_UC_2_0 (Z : State) (r0 : Addr) (w_F : Value) (kB : ClassId) (x0 x1 : Int32) (h0 : Heap) (n0 : Nat) (v : Option Value) (h : Heap) (L : List Loc) : Prop := v = some (.int x0) ∧ Fr n0 L ∧ h = h0
theorem rmUC_2_0 (l : Launch) (Z : State) (a0 : Array Value) (hw : own_HW a0 Z) (ws : List Jvm.Cond) (r0 : Addr) (w_F : Value) (kB : ClassId) (x0 x1 : Int32) (h0 : Heap) (n0 : Nat) (Z0 : n0 ≤ h0.size) (S_F : Sta Z h0 cS2 cS9 cS3 w_F) (hwF : w_F.isRef = true) (S_AD : Sta Z h0 cS0 cS5 "Z" (.int 1)) (S_HI : Sta Z h0 cS0 cS7 "I" (.int 0)) (S_LO : Sta Z h0 cS0 cS8 "I" (.int 8)) (V_r0 : Arv Z h0 r0 kB .byte (4 : Int32) [(.int (((x0 >>> ((0 : Int32) &&& 31)).toInt8.toInt32).toInt8.toInt32)), (.int (((x0 >>> ((8 : Int32) &&& 31)).toInt8.toInt32).toInt8.toInt32)), (.int (((x1 >>> ((0 : Int32) &&& 31)).toInt8.toInt32).toInt8.toInt32)), (.int (((x1 >>> ((8 : Int32) &&& 31)).toInt8.toInt32).toInt8.toInt32))] (.int 0)) (hch_x0 : own_ch x0) :
    own_M l Z (⟨cS0, "charAt", "([BI)C"⟩ : MethodName) jdk_52_method_83_code 2 (some .char) ws ({ frames := 3, cells := 0, slots := 0, locals := 40 } : Room) #[(.ref r0), (.int 0)] h0 (Q_UC_2_0 Z r0 w_F kB x0 x1 h0 n0) := by
  refine own_in cS0 rfl (plainFor_of_name pn_java_lang_StringUTF16) ?_
  intro p e s m below meth c s₁ Bd hml hZ hh hx hby hown X0 e0
  have N0 := Fr.nil n0
  have k0 := own_k (p := p) (e := e) (below := below) (T := s₁) (ef_24 m r0 (0 : Int32))
  obtain ⟨_, T1, L1, X1, hQ1, st1⟩ := own_cS 0 (rmUK_2 l Z a0 hw [] (0 : Int32) r0 w_F kB [(.int (((x0 >>> ((0 : Int32) &&& 31)).toInt8.toInt32).toInt8.toInt32)), (.int (((x0 >>> ((8 : Int32) &&& 31)).toInt8.toInt32).toInt8.toInt32)), (.int (((x1 >>> ((0 : Int32) &&& 31)).toInt8.toInt32).toInt8.toInt32)), (.int (((x1 >>> ((8 : Int32) &&& 31)).toInt8.toInt32).toInt8.toInt32))] h0 n0 Z0 S_F hwF V_r0 (by decide : ¬ ((0 : Int32) < (0 : Int32))) (by decide : (0 : Int32) < (2 : Int32))) X0 hx hZ hown hw 106 107 51 108 rfl rfl rfl rfl 2 #[rv r0, iv 0] [(.int 0), (.ref r0)] [] (hb hby d24_2) hml (lenOf pd_12 rfl) e0 rfl (Nat.le_refl _) (by decide)
  obtain ⟨rfl, N1q, e1⟩ := hQ1
  have N1 := Fr.app N0 N1q
  obtain ⟨_, T2, L2, X2, hQ2, st2⟩ := own_cS 0 (rmGC_2_0 l Z a0 hw [] r0 kB x0 x1 h0 n0 Z0 S_AD S_HI S_LO V_r0 hch_x0) X1 hx hZ hown hw 100 101 51 102 rfl rfl rfl rfl 7 #[rv r0, iv 0] [(.ref r0), (.int 0)] [] (hb hby d24_7) hml (lenOf pd_6 rfl) e1 rfl (Nat.le_refl _) (by decide)
  obtain ⟨rfl, N2q, e2⟩ := hQ2
  have N2 := Fr.app N1 N2q
  refine own_out X2 Bd.notSynchronized Bd.returns (some (.int (x0.toUInt32.toUInt16.toUInt32.toInt32))) nofun (by decide) (by decide) ?_ fun fs hr => k0 _ ?_
  · rw [e2]; exact ⟨(congrArg some (congrArg Value.int (own_i2cid hch_x0))), N2, rfl⟩
  · show OwnS p e below s₁ (mkF m 0 #[rv r0, iv 0] []) _
    refine oIn X0 hx hby d24_0 rfl (oAn X0 hx hby d24_1 rfl rfl ?_)
    refine st1 _ ?_
    refine oAn X1 hx hby d24_5 rfl rfl (oIn X1 hx hby d24_6 rfl ?_)
    refine st2 _ ?_
    exact retN X2 hx (t := .char) Bd.returns (by simp) (hb hby d24_10) hr
def Q_CA_2_0 (Z : State) (r0 : Addr) (w_CS : Int32) (w_F : Value) (x0 x1 : Int32) (h0 : Heap) (n0 : Nat) (v : Option Value) (h : Heap) (L : List Loc) : Prop := v = some (.int x0) ∧ Fr n0 L ∧ h = h0
theorem rmCA_2_0 (l : Launch) (Z : State) (a0 : Array Value) (hw : own_HW a0 Z) (ws : List Jvm.Cond) (r0 : Addr) (w_CS : Int32) (w_F : Value) (x0 x1 : Int32) (h0 : Heap) (n0 : Nat) (Z0 : n0 ≤ h0.size) (S_CS : Sta Z h0 cS1 cS10 "Z" (.int w_CS)) (hcs : ¬ (w_CS = (0 : Int32))) (S_F : Sta Z h0 cS2 cS9 cS3 w_F) (hwF : w_F.isRef = true) (S_AD : Sta Z h0 cS0 cS5 "Z" (.int 1)) (S_HI : Sta Z h0 cS0 cS7 "I" (.int 0)) (S_LO : Sta Z h0 cS0 cS8 "I" (.int 8)) (P_r0 : own_S2 Z h0 r0 x0 x1) (hch_x0 : own_ch x0) :
    own_M l Z (⟨cS1, "charAt", "(I)C"⟩ : MethodName) jdk_42_method_56_code 2 (some .char) ws ({ frames := 4, cells := 0, slots := 0, locals := 53 } : Room) #[(.ref r0), (.int 0)] h0 (Q_CA_2_0 Z r0 w_CS w_F x0 x1 h0 n0) := by
  refine own_in cS1 rfl (plainFor_of_name pn_java_lang_String) ?_
  intro p e s m below meth c s₁ Bd hml hZ hh hx hby hown X0 e0
  have N0 := Fr.nil n0
  have k0 := own_k (p := p) (e := e) (below := below) (T := s₁) (ef_13 m r0 (0 : Int32))
  rcases id P_r0 with ⟨eS, ⟨sA, kS, fC, fV, vA, hl0, hl1⟩ | ⟨sA, kS, fC, fV, vA⟩⟩
  · skip
    obtain ⟨_, T1, L1, X1, hQ1, st1⟩ := own_cV 0 (rmIL0 l Z a0 hw [] r0 w_CS h0 n0 Z0 S_CS hcs fC) X0 hx hZ hown hw 64 65 67 66 12 68 rfl rfl rfl rfl rfl rfl r0 eS 1 #[rv r0, iv 0] [] [] (hb hby d13_1) hml (lenOf pd_13 rfl) e0 rfl (Nat.le_refl _) (by decide)
    obtain ⟨rfl, N1q, e1⟩ := hQ1
    have N1 := Fr.app N0 N1q
    obtain ⟨T2, X2, e2, st2⟩ := getF X1 hx hZ hown (host := "") (Or.inl (own_at hw 29 rfl)) Via.refl e1 fV (g := (mkF m 8 #[rv r0, iv 0] [(.ref r0)])) rfl rfl (hb hby d13_8)
    obtain ⟨_, T3, L3, X3, hQ3, st3⟩ := own_cS 0 (rmLC_2_0 l Z a0 hw [] sA w_F kS x0 x1 h0 n0 Z0 S_F hwF vA hch_x0 hl0) X2 hx hZ hown hw 69 70 71 72 rfl rfl rfl rfl 12 #[rv r0, iv 0] [(.ref sA), (.int 0)] [] (hb hby d13_12) hml (lenOf pd_6 rfl) e2 rfl (Nat.le_refl _) (by decide)
    obtain ⟨rfl, N3q, e3⟩ := hQ3
    have N3 := Fr.app N1 N3q
    refine own_out X3 Bd.notSynchronized Bd.returns (some (.int (x0.toUInt32.toUInt16.toUInt32.toInt32))) nofun (by decide) (by decide) ?_ fun fs hr => k0 _ ?_
    · rw [e3]; exact ⟨(congrArg some (congrArg Value.int (own_i2cid hch_x0))), N3, rfl⟩
    · show OwnS p e below s₁ (mkF m 0 #[rv r0, iv 0] []) _
      refine oAn X0 hx hby d13_0 rfl rfl ?_
      refine st1 _ ?_
      refine XS.ifNo X1.here hx rfl (hb hby d13_4) rfl ((if0 _ _).trans (feq (by decide : ¬ ((1 : Int32) = (0 : Int32)))).1) ?_
      refine oAn X1 hx hby d13_7 rfl rfl ?_
      refine st2 _ ?_
      refine oIn X2 hx hby d13_11 rfl ?_
      refine st3 _ ?_
      exact retN X3 hx (t := .char) Bd.returns (by simp) (hb hby d13_15) hr
  · skip
    obtain ⟨_, T4, L4, X4, hQ4, st4⟩ := own_cV 0 (rmIL1 l Z a0 hw [] r0 w_CS h0 n0 Z0 S_CS hcs fC) X0 hx hZ hown hw 64 65 67 66 12 68 rfl rfl rfl rfl rfl rfl r0 eS 1 #[rv r0, iv 0] [] [] (hb hby d13_1) hml (lenOf pd_13 rfl) e0 rfl (Nat.le_refl _) (by decide)
    obtain ⟨rfl, N4q, e4⟩ := hQ4
    have N4 := Fr.app N0 N4q
    obtain ⟨T5, X5, e5, st5⟩ := getF X4 hx hZ hown (host := "") (Or.inl (own_at hw 29 rfl)) Via.refl e4 fV (g := (mkF m 17 #[rv r0, iv 0] [(.ref r0)])) rfl rfl (hb hby d13_17)
    obtain ⟨_, T6, L6, X6, hQ6, st6⟩ := own_cS 0 (rmUC_2_0 l Z a0 hw [] sA w_F kS x0 x1 h0 n0 Z0 S_F hwF S_AD S_HI S_LO vA hch_x0) X5 hx hZ hown hw 103 104 51 105 rfl rfl rfl rfl 21 #[rv r0, iv 0] [(.ref sA), (.int 0)] [] (hb hby d13_21) hml (lenOf pd_6 rfl) e5 rfl (Nat.le_refl _) (by decide)
    obtain ⟨rfl, N6q, e6⟩ := hQ6
    have N6 := Fr.app N4 N6q
    refine own_out X6 Bd.notSynchronized Bd.returns (some (.int (x0.toUInt32.toUInt16.toUInt32.toInt32))) nofun (by decide) (by decide) ?_ fun fs hr => k0 _ ?_
    · rw [e6]; exact ⟨(congrArg some (congrArg Value.int (own_i2cid hch_x0))), N6, rfl⟩
    · show OwnS p e below s₁ (mkF m 0 #[rv r0, iv 0] []) _
      refine oAn X0 hx hby d13_0 rfl rfl ?_
      refine st4 _ ?_
      refine XS.ifYes X4.here hx rfl (pc0 := 4) (pc' := 16) rfl (hb hby d13_4) rfl ((if0 _ _).trans (teq (by decide : (0 : Int32) = (0 : Int32))).1) (by decide) (by decide) ?_
      refine oAn X4 hx hby d13_16 rfl rfl ?_
      refine st5 _ ?_
      refine oIn X5 hx hby d13_20 rfl ?_
      refine st6 _ ?_
      exact retN X6 hx (t := .char) Bd.returns (by simp) (hb hby d13_24) hr
def Q_UC_2_1 (Z : State) (r0 : Addr) (w_F : Value) (kB : ClassId) (x0 x1 : Int32) (h0 : Heap) (n0 : Nat) (v : Option Value) (h : Heap) (L : List Loc) : Prop := v = some (.int x1) ∧ Fr n0 L ∧ h = h0
theorem rmUC_2_1 (l : Launch) (Z : State) (a0 : Array Value) (hw : own_HW a0 Z) (ws : List Jvm.Cond) (r0 : Addr) (w_F : Value) (kB : ClassId) (x0 x1 : Int32) (h0 : Heap) (n0 : Nat) (Z0 : n0 ≤ h0.size) (S_F : Sta Z h0 cS2 cS9 cS3 w_F) (hwF : w_F.isRef = true) (S_AD : Sta Z h0 cS0 cS5 "Z" (.int 1)) (S_HI : Sta Z h0 cS0 cS7 "I" (.int 0)) (S_LO : Sta Z h0 cS0 cS8 "I" (.int 8)) (V_r0 : Arv Z h0 r0 kB .byte (4 : Int32) [(.int (((x0 >>> ((0 : Int32) &&& 31)).toInt8.toInt32).toInt8.toInt32)), (.int (((x0 >>> ((8 : Int32) &&& 31)).toInt8.toInt32).toInt8.toInt32)), (.int (((x1 >>> ((0 : Int32) &&& 31)).toInt8.toInt32).toInt8.toInt32)), (.int (((x1 >>> ((8 : Int32) &&& 31)).toInt8.toInt32).toInt8.toInt32))] (.int 0)) (hch_x1 : own_ch x1) :
    own_M l Z (⟨cS0, "charAt", "([BI)C"⟩ : MethodName) jdk_52_method_83_code 2 (some .char) ws ({ frames := 3, cells := 0, slots := 0, locals := 40 } : Room) #[(.ref r0), (.int 1)] h0 (Q_UC_2_1 Z r0 w_F kB x0 x1 h0 n0) := by
  refine own_in cS0 rfl (plainFor_of_name pn_java_lang_StringUTF16) ?_
  intro p e s m below meth c s₁ Bd hml hZ hh hx hby hown X0 e0
  have N0 := Fr.nil n0
  have k0 := own_k (p := p) (e := e) (below := below) (T := s₁) (ef_24 m r0 (1 : Int32))
  obtain ⟨_, T1, L1, X1, hQ1, st1⟩ := own_cS 0 (rmUK_2 l Z a0 hw [] (1 : Int32) r0 w_F kB [(.int (((x0 >>> ((0 : Int32) &&& 31)).toInt8.toInt32).toInt8.toInt32)), (.int (((x0 >>> ((8 : Int32) &&& 31)).toInt8.toInt32).toInt8.toInt32)), (.int (((x1 >>> ((0 : Int32) &&& 31)).toInt8.toInt32).toInt8.toInt32)), (.int (((x1 >>> ((8 : Int32) &&& 31)).toInt8.toInt32).toInt8.toInt32))] h0 n0 Z0 S_F hwF V_r0 (by decide : ¬ ((1 : Int32) < (0 : Int32))) (by decide : (1 : Int32) < (2 : Int32))) X0 hx hZ hown hw 106 107 51 108 rfl rfl rfl rfl 2 #[rv r0, iv 1] [(.int 1), (.ref r0)] [] (hb hby d24_2) hml (lenOf pd_12 rfl) e0 rfl (Nat.le_refl _) (by decide)
  obtain ⟨rfl, N1q, e1⟩ := hQ1
  have N1 := Fr.app N0 N1q
  obtain ⟨_, T2, L2, X2, hQ2, st2⟩ := own_cS 0 (rmGC_2_1 l Z a0 hw [] r0 kB x0 x1 h0 n0 Z0 S_AD S_HI S_LO V_r0 hch_x1) X1 hx hZ hown hw 100 101 51 102 rfl rfl rfl rfl 7 #[rv r0, iv 1] [(.ref r0), (.int 1)] [] (hb hby d24_7) hml (lenOf pd_6 rfl) e1 rfl (Nat.le_refl _) (by decide)
  obtain ⟨rfl, N2q, e2⟩ := hQ2
  have N2 := Fr.app N1 N2q
  refine own_out X2 Bd.notSynchronized Bd.returns (some (.int (x1.toUInt32.toUInt16.toUInt32.toInt32))) nofun (by decide) (by decide) ?_ fun fs hr => k0 _ ?_
  · rw [e2]; exact ⟨(congrArg some (congrArg Value.int (own_i2cid hch_x1))), N2, rfl⟩
  · show OwnS p e below s₁ (mkF m 0 #[rv r0, iv 1] []) _
    refine oIn X0 hx hby d24_0 rfl (oAn X0 hx hby d24_1 rfl rfl ?_)
    refine st1 _ ?_
    refine oAn X1 hx hby d24_5 rfl rfl (oIn X1 hx hby d24_6 rfl ?_)
    refine st2 _ ?_
    exact retN X2 hx (t := .char) Bd.returns (by simp) (hb hby d24_10) hr
def Q_CA_2_1 (Z : State) (r0 : Addr) (w_CS : Int32) (w_F : Value) (x0 x1 : Int32) (h0 : Heap) (n0 : Nat) (v : Option Value) (h : Heap) (L : List Loc) : Prop := v = some (.int x1) ∧ Fr n0 L ∧ h = h0
theorem rmCA_2_1 (l : Launch) (Z : State) (a0 : Array Value) (hw : own_HW a0 Z) (ws : List Jvm.Cond) (r0 : Addr) (w_CS : Int32) (w_F : Value) (x0 x1 : Int32) (h0 : Heap) (n0 : Nat) (Z0 : n0 ≤ h0.size) (S_CS : Sta Z h0 cS1 cS10 "Z" (.int w_CS)) (hcs : ¬ (w_CS = (0 : Int32))) (S_F : Sta Z h0 cS2 cS9 cS3 w_F) (hwF : w_F.isRef = true) (S_AD : Sta Z h0 cS0 cS5 "Z" (.int 1)) (S_HI : Sta Z h0 cS0 cS7 "I" (.int 0)) (S_LO : Sta Z h0 cS0 cS8 "I" (.int 8)) (P_r0 : own_S2 Z h0 r0 x0 x1) (hch_x1 : own_ch x1) :
    own_M l Z (⟨cS1, "charAt", "(I)C"⟩ : MethodName) jdk_42_method_56_code 2 (some .char) ws ({ frames := 4, cells := 0, slots := 0, locals := 53 } : Room) #[(.ref r0), (.int 1)] h0 (Q_CA_2_1 Z r0 w_CS w_F x0 x1 h0 n0) := by
  refine own_in cS1 rfl (plainFor_of_name pn_java_lang_String) ?_
  intro p e s m below meth c s₁ Bd hml hZ hh hx hby hown X0 e0
  have N0 := Fr.nil n0
  have k0 := own_k (p := p) (e := e) (below := below) (T := s₁) (ef_13 m r0 (1 : Int32))
  rcases id P_r0 with ⟨eS, ⟨sA, kS, fC, fV, vA, hl0, hl1⟩ | ⟨sA, kS, fC, fV, vA⟩⟩
  · skip
    obtain ⟨_, T1, L1, X1, hQ1, st1⟩ := own_cV 0 (rmIL0 l Z a0 hw [] r0 w_CS h0 n0 Z0 S_CS hcs fC) X0 hx hZ hown hw 64 65 67 66 12 68 rfl rfl rfl rfl rfl rfl r0 eS 1 #[rv r0, iv 1] [] [] (hb hby d13_1) hml (lenOf pd_13 rfl) e0 rfl (Nat.le_refl _) (by decide)
    obtain ⟨rfl, N1q, e1⟩ := hQ1
    have N1 := Fr.app N0 N1q
    obtain ⟨T2, X2, e2, st2⟩ := getF X1 hx hZ hown (host := "") (Or.inl (own_at hw 29 rfl)) Via.refl e1 fV (g := (mkF m 8 #[rv r0, iv 1] [(.ref r0)])) rfl rfl (hb hby d13_8)
    obtain ⟨_, T3, L3, X3, hQ3, st3⟩ := own_cS 0 (rmLC_2_1 l Z a0 hw [] sA w_F kS x0 x1 h0 n0 Z0 S_F hwF vA hch_x1 hl1) X2 hx hZ hown hw 69 70 71 72 rfl rfl rfl rfl 12 #[rv r0, iv 1] [(.ref sA), (.int 1)] [] (hb hby d13_12) hml (lenOf pd_6 rfl) e2 rfl (Nat.le_refl _) (by decide)
    obtain ⟨rfl, N3q, e3⟩ := hQ3
    have N3 := Fr.app N1 N3q
    refine own_out X3 Bd.notSynchronized Bd.returns (some (.int (x1.toUInt32.toUInt16.toUInt32.toInt32))) nofun (by decide) (by decide) ?_ fun fs hr => k0 _ ?_
    · rw [e3]; exact ⟨(congrArg some (congrArg Value.int (own_i2cid hch_x1))), N3, rfl⟩
    · show OwnS p e below s₁ (mkF m 0 #[rv r0, iv 1] []) _
      refine oAn X0 hx hby d13_0 rfl rfl ?_
      refine st1 _ ?_
      refine XS.ifNo X1.here hx rfl (hb hby d13_4) rfl ((if0 _ _).trans (feq (by decide : ¬ ((1 : Int32) = (0 : Int32)))).1) ?_
      refine oAn X1 hx hby d13_7 rfl rfl ?_
      refine st2 _ ?_
      refine oIn X2 hx hby d13_11 rfl ?_
      refine st3 _ ?_
      exact retN X3 hx (t := .char) Bd.returns (by simp) (hb hby d13_15) hr
  · skip
    obtain ⟨_, T4, L4, X4, hQ4, st4⟩ := own_cV 0 (rmIL1 l Z a0 hw [] r0 w_CS h0 n0 Z0 S_CS hcs fC) X0 hx hZ hown hw 64 65 67 66 12 68 rfl rfl rfl rfl rfl rfl r0 eS 1 #[rv r0, iv 1] [] [] (hb hby d13_1) hml (lenOf pd_13 rfl) e0 rfl (Nat.le_refl _) (by decide)
    obtain ⟨rfl, N4q, e4⟩ := hQ4
    have N4 := Fr.app N0 N4q
    obtain ⟨T5, X5, e5, st5⟩ := getF X4 hx hZ hown (host := "") (Or.inl (own_at hw 29 rfl)) Via.refl e4 fV (g := (mkF m 17 #[rv r0, iv 1] [(.ref r0)])) rfl rfl (hb hby d13_17)
    obtain ⟨_, T6, L6, X6, hQ6, st6⟩ := own_cS 0 (rmUC_2_1 l Z a0 hw [] sA w_F kS x0 x1 h0 n0 Z0 S_F hwF S_AD S_HI S_LO vA hch_x1) X5 hx hZ hown hw 103 104 51 105 rfl rfl rfl rfl 21 #[rv r0, iv 1] [(.ref sA), (.int 1)] [] (hb hby d13_21) hml (lenOf pd_6 rfl) e5 rfl (Nat.le_refl _) (by decide)
    obtain ⟨rfl, N6q, e6⟩ := hQ6
    have N6 := Fr.app N4 N6q
    refine own_out X6 Bd.notSynchronized Bd.returns (some (.int (x1.toUInt32.toUInt16.toUInt32.toInt32))) nofun (by decide) (by decide) ?_ fun fs hr => k0 _ ?_
    · rw [e6]; exact ⟨(congrArg some (congrArg Value.int (own_i2cid hch_x1))), N6, rfl⟩
    · show OwnS p e below s₁ (mkF m 0 #[rv r0, iv 1] []) _
      refine oAn X0 hx hby d13_0 rfl rfl ?_
      refine st4 _ ?_
      refine XS.ifYes X4.here hx rfl (pc0 := 4) (pc' := 16) rfl (hb hby d13_4) rfl ((if0 _ _).trans (teq (by decide : (0 : Int32) = (0 : Int32))).1) (by decide) (by decide) ?_
      refine oAn X4 hx hby d13_16 rfl rfl ?_
      refine st5 _ ?_
      refine oIn X5 hx hby d13_20 rfl ?_
      refine st6 _ ?_
      exact retN X6 hx (t := .char) Bd.returns (by simp) (hb hby d13_24) hr
def Q_Len_3 (Z : State) (r0 : Addr) (w_CS x0 x1 x2 : Int32) (h0 : Heap) (n0 : Nat) (v : Option Value) (h : Heap) (L : List Loc) : Prop := v = some (.int 3) ∧ Fr n0 L ∧ h = h0
theorem rmLen_3 (l : Launch) (Z : State) (a0 : Array Value) (hw : own_HW a0 Z) (ws : List Jvm.Cond) (r0 : Addr) (w_CS x0 x1 x2 : Int32) (h0 : Heap) (n0 : Nat) (Z0 : n0 ≤ h0.size) (S_CS : Sta Z h0 cS1 cS10 "Z" (.int w_CS)) (hcs : ¬ (w_CS = (0 : Int32))) (P_r0 : own_S3 Z h0 r0 x0 x1 x2) :
    own_M l Z (⟨cS1, "length", "()I"⟩ : MethodName) jdk_42_method_54_code 1 (some .int) ws ({ frames := 1, cells := 0, slots := 0, locals := 13 } : Room) #[(.ref r0)] h0 (Q_Len_3 Z r0 w_CS x0 x1 x2 h0 n0) := by
  refine own_in cS1 rfl (plainFor_of_name pn_java_lang_String) ?_
  intro p e s m below meth c s₁ Bd hml hZ hh hx hby hown X0 e0
  have N0 := Fr.nil n0
  have k0 := own_k (p := p) (e := e) (below := below) (T := s₁) (ef_7 m r0)
  rcases id P_r0 with ⟨eS, ⟨sA, kS, fC, fV, vA, hl0, hl1, hl2⟩ | ⟨sA, kS, fC, fV, vA⟩⟩
  · skip
    obtain ⟨T1, X1, e1, st1⟩ := getF X0 hx hZ hown (host := "") (Or.inl (own_at hw 29 rfl)) Via.refl e0 fV (g := (mkF m 1 #[rv r0] [(.ref r0)])) rfl rfl (hb hby d7_1)
    obtain ⟨cl_z2, Ar_z2, q_z2, S_z2, N_z2, H_z2, G_z2⟩ := id vA
    obtain ⟨_, T3, L3, X3, hQ3, st3⟩ := own_cV 1 (rmCo0 l Z a0 hw [] r0 w_CS h0 n0 Z0 S_CS hcs fC) X1 hx hZ hown hw 40 41 43 42 12 44 rfl rfl rfl rfl rfl rfl r0 eS 6 #[rv r0] [] [(.int 3)] (hb hby d7_6) hml (lenOf pd_9 rfl) e1 rfl (Nat.le_refl _) (by decide)
    obtain ⟨rfl, N3q, e3⟩ := hQ3
    have N3 := Fr.app N0 N3q
    refine own_out X3 Bd.notSynchronized Bd.returns (some (.int 3)) nofun (by decide) (by decide) ?_ fun fs hr => k0 _ ?_
    · rw [e3]; exact ⟨rfl, N3, rfl⟩
    · show OwnS p e below s₁ (mkF m 0 #[rv r0] []) _
      refine oAn X0 hx hby d7_0 rfl rfl ?_
      refine st1 _ ?_
      refine X1.arraylength hx (by rw [e1]; exact Ar_z2.1) (State.isArrayOf_alike hZ.alike Ar_z2.2.1) (g := (mkF m 4 #[rv r0] [(.ref sA)])) rfl rfl (hb hby d7_4) _ ?_
      rw [len_of S_z2 N_z2]
      refine oAn X1 hx hby d7_5 rfl rfl ?_
      refine st3 _ ?_
      refine XS.ishr X3.here hx rfl (hb hby d7_9) rfl ?_
      exact retI X3 hx Bd.returns (hb hby d7_10) hr
  · skip
    obtain ⟨T4, X4, e4, st4⟩ := getF X0 hx hZ hown (host := "") (Or.inl (own_at hw 29 rfl)) Via.refl e0 fV (g := (mkF m 1 #[rv r0] [(.ref r0)])) rfl rfl (hb hby d7_1)
    obtain ⟨cl_z5, Ar_z5, q_z5, S_z5, N_z5, H_z5, G_z5⟩ := id vA
    obtain ⟨_, T6, L6, X6, hQ6, st6⟩ := own_cV 1 (rmCo1 l Z a0 hw [] r0 w_CS h0 n0 Z0 S_CS hcs fC) X4 hx hZ hown hw 40 41 43 42 12 44 rfl rfl rfl rfl rfl rfl r0 eS 6 #[rv r0] [] [(.int 6)] (hb hby d7_6) hml (lenOf pd_9 rfl) e4 rfl (Nat.le_refl _) (by decide)
    obtain ⟨rfl, N6q, e6⟩ := hQ6
    have N6 := Fr.app N0 N6q
    refine own_out X6 Bd.notSynchronized Bd.returns (some (.int 3)) nofun (by decide) (by decide) ?_ fun fs hr => k0 _ ?_
    · rw [e6]; exact ⟨rfl, N6, rfl⟩
    · show OwnS p e below s₁ (mkF m 0 #[rv r0] []) _
      refine oAn X0 hx hby d7_0 rfl rfl ?_
      refine st4 _ ?_
      refine X4.arraylength hx (by rw [e4]; exact Ar_z5.1) (State.isArrayOf_alike hZ.alike Ar_z5.2.1) (g := (mkF m 4 #[rv r0] [(.ref sA)])) rfl rfl (hb hby d7_4) _ ?_
      rw [len_of S_z5 N_z5]
      refine oAn X4 hx hby d7_5 rfl rfl ?_
      refine st6 _ ?_
      refine XS.ishr X6.here hx rfl (hb hby d7_9) rfl ?_
      exact retI X6 hx Bd.returns (hb hby d7_10) hr
def Q_LC_3_0 (Z : State) (r0 : Addr) (w_F : Value) (kB : ClassId) (x0 x1 x2 : Int32) (h0 : Heap) (n0 : Nat) (v : Option Value) (h : Heap) (L : List Loc) : Prop := v = some (.int x0) ∧ Fr n0 L ∧ h = h0
theorem rmLC_3_0 (l : Launch) (Z : State) (a0 : Array Value) (hw : own_HW a0 Z) (ws : List Jvm.Cond) (r0 : Addr) (w_F : Value) (kB : ClassId) (x0 x1 x2 : Int32) (h0 : Heap) (n0 : Nat) (Z0 : n0 ≤ h0.size) (S_F : Sta Z h0 cS2 cS9 cS3 w_F) (hwF : w_F.isRef = true) (V_r0 : Arv Z h0 r0 kB .byte (3 : Int32) [(.int ((x0.toInt8.toInt32).toInt8.toInt32)), (.int ((x1.toInt8.toInt32).toInt8.toInt32)), (.int ((x2.toInt8.toInt32).toInt8.toInt32))] (.int 0)) (hch_x0 : own_ch x0) (hle_x0 : ¬ ((255 : Int32) < x0)) :
    own_M l Z (⟨cS12, "charAt", "([BI)C"⟩ : MethodName) jdk_43_method_2_code 2 (some .char) ws ({ frames := 2, cells := 0, slots := 0, locals := 27 } : Room) #[(.ref r0), (.int 0)] h0 (Q_LC_3_0 Z r0 w_F kB x0 x1 x2 h0 n0) := by
  refine own_in cS12 rfl (plainFor_of_name pn_java_lang_StringLatin1) ?_
  intro p e s m below meth c s₁ Bd hml hZ hh hx hby hown X0 e0
  have N0 := Fr.nil n0
  have k0 := own_k (p := p) (e := e) (below := below) (T := s₁) (ef_15 m r0 (0 : Int32))
  obtain ⟨cl_z1, Ar_z1, q_z1, S_z1, N_z1, H_z1, G_z1⟩ := id V_r0
  obtain ⟨_, T2, L2, X2, hQ2, st2⟩ := own_cS 0 (rmCk l Z a0 hw [] (0 : Int32) (3 : Int32) w_F h0 n0 Z0 S_F hwF (by decide : ¬ ((0 : Int32) < (0 : Int32))) (by decide : (0 : Int32) < (3 : Int32))) X0 hx hZ hown hw 73 74 12 75 rfl rfl rfl rfl 3 #[rv r0, iv 0] [(.int 0), (.int 3)] [] (hb hby d15_3) hml (lenOf pd_10 rfl) e0 rfl (Nat.le_refl _) (by decide)
  obtain ⟨rfl, N2q, e2⟩ := hQ2
  have N2 := Fr.app N0 N2q
  have hin3 : ¬ ((0 : Int32) < 0 ∨ cl_z1.slots.size ≤ ((0 : Int32)).toNatClampNeg) := inb_of S_z1 ⟨by decide, by decide⟩
  refine own_out X2 Bd.notSynchronized Bd.returns (some (.int (((((x0.toInt8.toInt32).toInt8.toInt32) &&& (255 : Int32)).toUInt32.toUInt16.toUInt32.toInt32).toUInt32.toUInt16.toUInt32.toInt32))) nofun (by decide) (by decide) ?_ fun fs hr => k0 _ ?_
  · rw [e2]; exact ⟨(congrArg some (congrArg Value.int (own_latc hch_x0 hle_x0))), N2, rfl⟩
  · show OwnS p e below s₁ (mkF m 0 #[rv r0, iv 0] []) _
    refine oIn X0 hx hby d15_0 rfl (oAn X0 hx hby d15_1 rfl rfl ?_)
    refine X0.arraylength hx (by rw [e0]; exact Ar_z1.1) (State.isArrayOf_alike hZ.alike Ar_z1.2.1) (g := (mkF m 2 #[rv r0, iv 0] [(.ref r0), (.int 0)])) rfl rfl (hb hby d15_2) _ ?_
    rw [len_of S_z1 N_z1]
    refine st2 _ ?_
    refine oAn X2 hx hby d15_6 rfl rfl (oIn X2 hx hby d15_7 rfl ?_)
    refine X2.baloadBytes hx (j := (0 : Int32)) (v := (.int ((x0.toInt8.toInt32).toInt8.toInt32))) (by rw [e2]; exact Ar_z1.1) (State.isArrayOf_alike hZ.alike Ar_z1.2.1) Ar_z1.2.2 hin3 (Has.at H_z1 hin3 rfl) (g := (mkF m 8 #[rv r0, iv 0] [(.int 0), (.ref r0)])) rfl rfl (hb hby d15_8) _ ?_
    refine XS.sipush X2.here hx rfl (hb hby d15_9) ?_
    refine XS.iand X2.here hx rfl (hb hby d15_12) rfl ?_
    refine XS.i2c X2.here hx rfl (hb hby d15_13) rfl ?_
    exact retN X2 hx (t := .char) Bd.returns (by simp) (hb hby d15_14) hr
def Q_LC_3_1 (Z : State) (r0 : Addr) (w_F : Value) (kB : ClassId) (x0 x1 x2 : Int32) (h0 : Heap) (n0 : Nat) (v : Option Value) (h : Heap) (L : List Loc) : Prop := v = some (.int x1) ∧ Fr n0 L ∧ h = h0
theorem rmLC_3_1 (l : Launch) (Z : State) (a0 : Array Value) (hw : own_HW a0 Z) (ws : List Jvm.Cond) (r0 : Addr) (w_F : Value) (kB : ClassId) (x0 x1 x2 : Int32) (h0 : Heap) (n0 : Nat) (Z0 : n0 ≤ h0.size) (S_F : Sta Z h0 cS2 cS9 cS3 w_F) (hwF : w_F.isRef = true) (V_r0 : Arv Z h0 r0 kB .byte (3 : Int32) [(.int ((x0.toInt8.toInt32).toInt8.toInt32)), (.int ((x1.toInt8.toInt32).toInt8.toInt32)), (.int ((x2.toInt8.toInt32).toInt8.toInt32))] (.int 0)) (hch_x1 : own_ch x1) (hle_x1 : ¬ ((255 : Int32) < x1)) :
    own_M l Z (⟨cS12, "charAt", "([BI)C"⟩ : MethodName) jdk_43_method_2_code 2 (some .char) ws ({ frames := 2, cells := 0, slots := 0, locals := 27 } : Room) #[(.ref r0), (.int 1)] h0 (Q_LC_3_1 Z r0 w_F kB x0 x1 x2 h0 n0) := by
  refine own_in cS12 rfl (plainFor_of_name pn_java_lang_StringLatin1) ?_
  intro p e s m below meth c s₁ Bd hml hZ hh hx hby hown X0 e0
  have N0 := Fr.nil n0
  have k0 := own_k (p := p) (e := e) (below := below) (T := s₁) (ef_15 m r0 (1 : Int32))
  obtain ⟨cl_z1, Ar_z1, q_z1, S_z1, N_z1, H_z1, G_z1⟩ := id V_r0
  obtain ⟨_, T2, L2, X2, hQ2, st2⟩ := own_cS 0 (rmCk l Z a0 hw [] (1 : Int32) (3 : Int32) w_F h0 n0 Z0 S_F hwF (by decide : ¬ ((1 : Int32) < (0 : Int32))) (by decide : (1 : Int32) < (3 : Int32))) X0 hx hZ hown hw 73 74 12 75 rfl rfl rfl rfl 3 #[rv r0, iv 1] [(.int 1), (.int 3)] [] (hb hby d15_3) hml (lenOf pd_10 rfl) e0 rfl (Nat.le_refl _) (by decide)
  obtain ⟨rfl, N2q, e2⟩ := hQ2
  have N2 := Fr.app N0 N2q
  have hin3 : ¬ ((1 : Int32) < 0 ∨ cl_z1.slots.size ≤ ((1 : Int32)).toNatClampNeg) := inb_of S_z1 ⟨by decide, by decide⟩
  refine own_out X2 Bd.notSynchronized Bd.returns (some (.int (((((x1.toInt8.toInt32).toInt8.toInt32) &&& (255 : Int32)).toUInt32.toUInt16.toUInt32.toInt32).toUInt32.toUInt16.toUInt32.toInt32))) nofun (by decide) (by decide) ?_ fun fs hr => k0 _ ?_
  · rw [e2]; exact ⟨(congrArg some (congrArg Value.int (own_latc hch_x1 hle_x1))), N2, rfl⟩
  · show OwnS p e below s₁ (mkF m 0 #[rv r0, iv 1] []) _
    refine oIn X0 hx hby d15_0 rfl (oAn X0 hx hby d15_1 rfl rfl ?_)
    refine X0.arraylength hx (by rw [e0]; exact Ar_z1.1) (State.isArrayOf_alike hZ.alike Ar_z1.2.1) (g := (mkF m 2 #[rv r0, iv 1] [(.ref r0), (.int 1)])) rfl rfl (hb hby d15_2) _ ?_
    rw [len_of S_z1 N_z1]
    refine st2 _ ?_
    refine oAn X2 hx hby d15_6 rfl rfl (oIn X2 hx hby d15_7 rfl ?_)
    refine X2.baloadBytes hx (j := (1 : Int32)) (v := (.int ((x1.toInt8.toInt32).toInt8.toInt32))) (by rw [e2]; exact Ar_z1.1) (State.isArrayOf_alike hZ.alike Ar_z1.2.1) Ar_z1.2.2 hin3 (Has.at H_z1 hin3 rfl) (g := (mkF m 8 #[rv r0, iv 1] [(.int 1), (.ref r0)])) rfl rfl (hb hby d15_8) _ ?_
    refine XS.sipush X2.here hx rfl (hb hby d15_9) ?_
    refine XS.iand X2.here hx rfl (hb hby d15_12) rfl ?_
    refine XS.i2c X2.here hx rfl (hb hby d15_13) rfl ?_
    exact retN X2 hx (t := .char) Bd.returns (by simp) (hb hby d15_14) hr
def Q_LC_3_2 (Z : State) (r0 : Addr) (w_F : Value) (kB : ClassId) (x0 x1 x2 : Int32) (h0 : Heap) (n0 : Nat) (v : Option Value) (h : Heap) (L : List Loc) : Prop := v = some (.int x2) ∧ Fr n0 L ∧ h = h0
theorem rmLC_3_2 (l : Launch) (Z : State) (a0 : Array Value) (hw : own_HW a0 Z) (ws : List Jvm.Cond) (r0 : Addr) (w_F : Value) (kB : ClassId) (x0 x1 x2 : Int32) (h0 : Heap) (n0 : Nat) (Z0 : n0 ≤ h0.size) (S_F : Sta Z h0 cS2 cS9 cS3 w_F) (hwF : w_F.isRef = true) (V_r0 : Arv Z h0 r0 kB .byte (3 : Int32) [(.int ((x0.toInt8.toInt32).toInt8.toInt32)), (.int ((x1.toInt8.toInt32).toInt8.toInt32)), (.int ((x2.toInt8.toInt32).toInt8.toInt32))] (.int 0)) (hch_x2 : own_ch x2) (hle_x2 : ¬ ((255 : Int32) < x2)) :
    own_M l Z (⟨cS12, "charAt", "([BI)C"⟩ : MethodName) jdk_43_method_2_code 2 (some .char) ws ({ frames := 2, cells := 0, slots := 0, locals := 27 } : Room) #[(.ref r0), (.int 2)] h0 (Q_LC_3_2 Z r0 w_F kB x0 x1 x2 h0 n0) := by
  refine own_in cS12 rfl (plainFor_of_name pn_java_lang_StringLatin1) ?_
  intro p e s m below meth c s₁ Bd hml hZ hh hx hby hown X0 e0
  have N0 := Fr.nil n0
  have k0 := own_k (p := p) (e := e) (below := below) (T := s₁) (ef_15 m r0 (2 : Int32))
  obtain ⟨cl_z1, Ar_z1, q_z1, S_z1, N_z1, H_z1, G_z1⟩ := id V_r0
  obtain ⟨_, T2, L2, X2, hQ2, st2⟩ := own_cS 0 (rmCk l Z a0 hw [] (2 : Int32) (3 : Int32) w_F h0 n0 Z0 S_F hwF (by decide : ¬ ((2 : Int32) < (0 : Int32))) (by decide : (2 : Int32) < (3 : Int32))) X0 hx hZ hown hw 73 74 12 75 rfl rfl rfl rfl 3 #[rv r0, iv 2] [(.int 2), (.int 3)] [] (hb hby d15_3) hml (lenOf pd_10 rfl) e0 rfl (Nat.le_refl _) (by decide)
  obtain ⟨rfl, N2q, e2⟩ := hQ2
  have N2 := Fr.app N0 N2q
  have hin3 : ¬ ((2 : Int32) < 0 ∨ cl_z1.slots.size ≤ ((2 : Int32)).toNatClampNeg) := inb_of S_z1 ⟨by decide, by decide⟩
  refine own_out X2 Bd.notSynchronized Bd.returns (some (.int (((((x2.toInt8.toInt32).toInt8.toInt32) &&& (255 : Int32)).toUInt32.toUInt16.toUInt32.toInt32).toUInt32.toUInt16.toUInt32.toInt32))) nofun (by decide) (by decide) ?_ fun fs hr => k0 _ ?_
  · rw [e2]; exact ⟨(congrArg some (congrArg Value.int (own_latc hch_x2 hle_x2))), N2, rfl⟩
  · show OwnS p e below s₁ (mkF m 0 #[rv r0, iv 2] []) _
    refine oIn X0 hx hby d15_0 rfl (oAn X0 hx hby d15_1 rfl rfl ?_)
    refine X0.arraylength hx (by rw [e0]; exact Ar_z1.1) (State.isArrayOf_alike hZ.alike Ar_z1.2.1) (g := (mkF m 2 #[rv r0, iv 2] [(.ref r0), (.int 2)])) rfl rfl (hb hby d15_2) _ ?_
    rw [len_of S_z1 N_z1]
    refine st2 _ ?_
    refine oAn X2 hx hby d15_6 rfl rfl (oIn X2 hx hby d15_7 rfl ?_)
    refine X2.baloadBytes hx (j := (2 : Int32)) (v := (.int ((x2.toInt8.toInt32).toInt8.toInt32))) (by rw [e2]; exact Ar_z1.1) (State.isArrayOf_alike hZ.alike Ar_z1.2.1) Ar_z1.2.2 hin3 (Has.at H_z1 hin3 rfl) (g := (mkF m 8 #[rv r0, iv 2] [(.int 2), (.ref r0)])) rfl rfl (hb hby d15_8) _ ?_
    refine XS.sipush X2.here hx rfl (hb hby d15_9) ?_
    refine XS.iand X2.here hx rfl (hb hby d15_12) rfl ?_
    refine XS.i2c X2.here hx rfl (hb hby d15_13) rfl ?_
    exact retN X2 hx (t := .char) Bd.returns (by simp) (hb hby d15_14) hr
def Q_UK_3 (Z : State) (p0 : Int32) (r1 : Addr) (w_F : Value) (kB : ClassId) (vs : List Value) (h0 : Heap) (n0 : Nat) (v : Option Value) (h : Heap) (L : List Loc) : Prop := v = none ∧ Fr n0 L ∧ h = h0
theorem rmUK_3 (l : Launch) (Z : State) (a0 : Array Value) (hw : own_HW a0 Z) (ws : List Jvm.Cond) (p0 : Int32) (r1 : Addr) (w_F : Value) (kB : ClassId) (vs : List Value) (h0 : Heap) (n0 : Nat) (Z0 : n0 ≤ h0.size) (S_F : Sta Z h0 cS2 cS9 cS3 w_F) (hwF : w_F.isRef = true) (V_r1 : Arv Z h0 r1 kB .byte (6 : Int32) vs (.int 0)) (hge : ¬ (p0 < (0 : Int32))) (hlt : p0 < (3 : Int32)) :
    own_M l Z (⟨cS0, "checkIndex", "(I[B)V"⟩ : MethodName) jdk_52_method_91_code 2 none ws ({ frames := 2, cells := 0, slots := 0, locals := 27 } : Room) #[(.int p0), (.ref r1)] h0 (Q_UK_3 Z p0 r1 w_F kB vs h0 n0) := by
  refine own_in cS0 rfl (plainFor_of_name pn_java_lang_StringUTF16) ?_
  intro p e s m below meth c s₁ Bd hml hZ hh hx hby hown X0 e0
  have N0 := Fr.nil n0
  have k0 := own_k (p := p) (e := e) (below := below) (T := s₁) (ef_25 m p0 r1)
  obtain ⟨_, T1, L1, X1, hQ1, st1⟩ := own_cS 1 (rmUL_3 l Z a0 hw [] r1 kB vs h0 n0 Z0 V_r1) X0 hx hZ hown hw 109 110 51 111 rfl rfl rfl rfl 2 #[iv p0, rv r1] [(.ref r1)] [(.int p0)] (hb hby d25_2) hml (lenOf pd_11 rfl) e0 rfl (Nat.le_refl _) (by decide)
  obtain ⟨rfl, N1q, e1⟩ := hQ1
  have N1 := Fr.app N0 N1q
  obtain ⟨_, T2, L2, X2, hQ2, st2⟩ := own_cS 0 (rmCk l Z a0 hw [] p0 (3 : Int32) w_F h0 n0 Z0 S_F hwF hge hlt) X1 hx hZ hown hw 112 74 12 75 rfl rfl rfl rfl 5 #[iv p0, rv r1] [(.int p0), (.int 3)] [] (hb hby d25_5) hml (lenOf pd_10 rfl) e1 rfl (Nat.le_refl _) (by decide)
  obtain ⟨rfl, N2q, e2⟩ := hQ2
  have N2 := Fr.app N1 N2q
  refine own_out X2 Bd.notSynchronized Bd.returns (none) (fun _ => rfl) (by decide) (by decide) ?_ fun fs hr => k0 _ ?_
  · rw [e2]; exact ⟨rfl, N2, rfl⟩
  · show OwnS p e below s₁ (mkF m 0 #[iv p0, rv r1] []) _
    refine oIn X0 hx hby d25_0 rfl (oAn X0 hx hby d25_1 rfl rfl ?_)
    refine st1 _ ?_
    refine st2 _ ?_
    exact X2.returnOut hx Bd.returns (hb hby d25_8) hr
def Q_UC_3_0 (Z : State) (r0 : Addr) (w_F : Value) (kB : ClassId) (x0 x1 x2 : Int32) (h0 : Heap) (n0 : Nat) (v : Option Value) (h : Heap) (L : List Loc) : Prop := v = some (.int x0) ∧ Fr n0 L ∧ h = h0
theorem rmUC_3_0 (l : Launch) (Z : State) (a0 : Array Value) (hw : own_HW a0 Z) (ws : List Jvm.Cond) (r0 : Addr) (w_F : Value) (kB : ClassId) (x0 x1 x2 : Int32) (h0 : Heap) (n0 : Nat) (Z0 : n0 ≤ h0.size) (S_F : Sta Z h0 cS2 cS9 cS3 w_F) (hwF : w_F.isRef = true) (S_AD : Sta Z h0 cS0 cS5 "Z" (.int 1)) (S_HI : Sta Z h0 cS0 cS7 "I" (.int 0)) (S_LO : Sta Z h0 cS0 cS8 "I" (.int 8)) (V_r0 : Arv Z h0 r0 kB .byte (6 : Int32) [(.int (((x0 >>> ((0 : Int32) &&& 31)).toInt8.toInt32).toInt8.toInt32)), (.int (((x0 >>> ((8 : Int32) &&& 31)).toInt8.toInt32).toInt8.toInt32)), (.int (((x1 >>> ((0 : Int32) &&& 31)).toInt8.toInt32).toInt8.toInt32)), (.int (((x1 >>> ((8 : Int32) &&& 31)).toInt8.toInt32).toInt8.toInt32)), (.int (((x2 >>> ((0 : Int32) &&& 31)).toInt8.toInt32).toInt8.toInt32)), (.int (((x2 >>> ((8 : Int32) &&& 31)).toInt8.toInt32).toInt8.toInt32))] (.int 0)) (hch_x0 : own_ch x0) :
    own_M l Z (⟨cS0, "charAt", "([BI)C"⟩ : MethodName) jdk_52_method_83_code 2 (some .char) ws ({ frames := 3, cells := 0, slots := 0, locals := 40 } : Room) #[(.ref r0), (.int 0)] h0 (Q_UC_3_0 Z r0 w_F kB x0 x1 x2 h0 n0) := by
  refine own_in cS0 rfl (plainFor_of_name pn_java_lang_StringUTF16) ?_
  intro p e s m below meth c s₁ Bd hml hZ hh hx hby hown X0 e0
  have N0 := Fr.nil n0
  have k0 := own_k (p := p) (e := e) (below := below) (T := s₁) (ef_24 m r0 (0 : Int32))
  obtain ⟨_, T1, L1, X1, hQ1, st1⟩ := own_cS 0 (rmUK_3 l Z a0 hw [] (0 : Int32) r0 w_F kB [(.int (((x0 >>> ((0 : Int32) &&& 31)).toInt8.toInt32).toInt8.toInt32)), (.int (((x0 >>> ((8 : Int32) &&& 31)).toInt8.toInt32).toInt8.toInt32)), (.int (((x1 >>> ((0 : Int32) &&& 31)).toInt8.toInt32).toInt8.toInt32)), (.int (((x1 >>> ((8 : Int32) &&& 31)).toInt8.toInt32).toInt8.toInt32)), (.int (((x2 >>> ((0 : Int32) &&& 31)).toInt8.toInt32).toInt8.toInt32)), (.int (((x2 >>> ((8 : Int32) &&& 31)).toInt8.toInt32).toInt8.toInt32))] h0 n0 Z0 S_F hwF V_r0 (by decide : ¬ ((0 : Int32) < (0 : Int32))) (by decide : (0 : Int32) < (3 : Int32))) X0 hx hZ hown hw 106 107 51 108 rfl rfl rfl rfl 2 #[rv r0, iv 0] [(.int 0), (.ref r0)] [] (hb hby d24_2) hml (lenOf pd_12 rfl) e0 rfl (Nat.le_refl _) (by decide)
  obtain ⟨rfl, N1q, e1⟩ := hQ1
  have N1 := Fr.app N0 N1q
  obtain ⟨_, T2, L2, X2, hQ2, st2⟩ := own_cS 0 (rmGC_3_0 l Z a0 hw [] r0 kB x0 x1 x2 h0 n0 Z0 S_AD S_HI S_LO V_r0 hch_x0) X1 hx hZ hown hw 100 101 51 102 rfl rfl rfl rfl 7 #[rv r0, iv 0] [(.ref r0), (.int 0)] [] (hb hby d24_7) hml (lenOf pd_6 rfl) e1 rfl (Nat.le_refl _) (by decide)
  obtain ⟨rfl, N2q, e2⟩ := hQ2
  have N2 := Fr.app N1 N2q
  refine own_out X2 Bd.notSynchronized Bd.returns (some (.int (x0.toUInt32.toUInt16.toUInt32.toInt32))) nofun (by decide) (by decide) ?_ fun fs hr => k0 _ ?_
  · rw [e2]; exact ⟨(congrArg some (congrArg Value.int (own_i2cid hch_x0))), N2, rfl⟩
  · show OwnS p e below s₁ (mkF m 0 #[rv r0, iv 0] []) _
    refine oIn X0 hx hby d24_0 rfl (oAn X0 hx hby d24_1 rfl rfl ?_)
    refine st1 _ ?_
    refine oAn X1 hx hby d24_5 rfl rfl (oIn X1 hx hby d24_6 rfl ?_)
    refine st2 _ ?_
    exact retN X2 hx (t := .char) Bd.returns (by simp) (hb hby d24_10) hr
def Q_CA_3_0 (Z : State) (r0 : Addr) (w_CS : Int32) (w_F : Value) (x0 x1 x2 : Int32) (h0 : Heap) (n0 : Nat) (v : Option Value) (h : Heap) (L : List Loc) : Prop := v = some (.int x0) ∧ Fr n0 L ∧ h = h0
theorem rmCA_3_0 (l : Launch) (Z : State) (a0 : Array Value) (hw : own_HW a0 Z) (ws : List Jvm.Cond) (r0 : Addr) (w_CS : Int32) (w_F : Value) (x0 x1 x2 : Int32) (h0 : Heap) (n0 : Nat) (Z0 : n0 ≤ h0.size) (S_CS : Sta Z h0 cS1 cS10 "Z" (.int w_CS)) (hcs : ¬ (w_CS = (0 : Int32))) (S_F : Sta Z h0 cS2 cS9 cS3 w_F) (hwF : w_F.isRef = true) (S_AD : Sta Z h0 cS0 cS5 "Z" (.int 1)) (S_HI : Sta Z h0 cS0 cS7 "I" (.int 0)) (S_LO : Sta Z h0 cS0 cS8 "I" (.int 8)) (P_r0 : own_S3 Z h0 r0 x0 x1 x2) (hch_x0 : own_ch x0) :
    own_M l Z (⟨cS1, "charAt", "(I)C"⟩ : MethodName) jdk_42_method_56_code 2 (some .char) ws ({ frames := 4, cells := 0, slots := 0, locals := 53 } : Room) #[(.ref r0), (.int 0)] h0 (Q_CA_3_0 Z r0 w_CS w_F x0 x1 x2 h0 n0) := by
  refine own_in cS1 rfl (plainFor_of_name pn_java_lang_String) ?_
  intro p e s m below meth c s₁ Bd hml hZ hh hx hby hown X0 e0
  have N0 := Fr.nil n0
  have k0 := own_k (p := p) (e := e) (below := below) (T := s₁) (ef_13 m r0 (0 : Int32))
  rcases id P_r0 with ⟨eS, ⟨sA, kS, fC, fV, vA, hl0, hl1, hl2⟩ | ⟨sA, kS, fC, fV, vA⟩⟩
  · skip
    obtain ⟨_, T1, L1, X1, hQ1, st1⟩ := own_cV 0 (rmIL0 l Z a0 hw [] r0 w_CS h0 n0 Z0 S_CS hcs fC) X0 hx hZ hown hw 64 65 67 66 12 68 rfl rfl rfl rfl rfl rfl r0 eS 1 #[rv r0, iv 0] [] [] (hb hby d13_1) hml (lenOf pd_13 rfl) e0 rfl (Nat.le_refl _) (by decide)
    obtain ⟨rfl, N1q, e1⟩ := hQ1
    have N1 := Fr.app N0 N1q
    obtain ⟨T2, X2, e2, st2⟩ := getF X1 hx hZ hown (host := "") (Or.inl (own_at hw 29 rfl)) Via.refl e1 fV (g := (mkF m 8 #[rv r0, iv 0] [(.ref r0)])) rfl rfl (hb hby d13_8)
    obtain ⟨_, T3, L3, X3, hQ3, st3⟩ := own_cS 0 (rmLC_3_0 l Z a0 hw [] sA w_F kS x0 x1 x2 h0 n0 Z0 S_F hwF vA hch_x0 hl0) X2 hx hZ hown hw 69 70 71 72 rfl rfl rfl rfl 12 #[rv r0, iv 0] [(.ref sA), (.int 0)] [] (hb hby d13_12) hml (lenOf pd_6 rfl) e2 rfl (Nat.le_refl _) (by decide)
    obtain ⟨rfl, N3q, e3⟩ := hQ3
    have N3 := Fr.app N1 N3q
    refine own_out X3 Bd.notSynchronized Bd.returns (some (.int (x0.toUInt32.toUInt16.toUInt32.toInt32))) nofun (by decide) (by decide) ?_ fun fs hr => k0 _ ?_
    · rw [e3]; exact ⟨(congrArg some (congrArg Value.int (own_i2cid hch_x0))), N3, rfl⟩
    · show OwnS p e below s₁ (mkF m 0 #[rv r0, iv 0] []) _
      refine oAn X0 hx hby d13_0 rfl rfl ?_
      refine st1 _ ?_
      refine XS.ifNo X1.here hx rfl (hb hby d13_4) rfl ((if0 _ _).trans (feq (by decide : ¬ ((1 : Int32) = (0 : Int32)))).1) ?_
      refine oAn X1 hx hby d13_7 rfl rfl ?_
      refine st2 _ ?_
      refine oIn X2 hx hby d13_11 rfl ?_
      refine st3 _ ?_
      exact retN X3 hx (t := .char) Bd.returns (by simp) (hb hby d13_15) hr
  · skip
    obtain ⟨_, T4, L4, X4, hQ4, st4⟩ := own_cV 0 (rmIL1 l Z a0 hw [] r0 w_CS h0 n0 Z0 S_CS hcs fC) X0 hx hZ hown hw 64 65 67 66 12 68 rfl rfl rfl rfl rfl rfl r0 eS 1 #[rv r0, iv 0] [] [] (hb hby d13_1) hml (lenOf pd_13 rfl) e0 rfl (Nat.le_refl _) (by decide)
    obtain ⟨rfl, N4q, e4⟩ := hQ4
    have N4 := Fr.app N0 N4q
    obtain ⟨T5, X5, e5, st5⟩ := getF X4 hx hZ hown (host := "") (Or.inl (own_at hw 29 rfl)) Via.refl e4 fV (g := (mkF m 17 #[rv r0, iv 0] [(.ref r0)])) rfl rfl (hb hby d13_17)
    obtain ⟨_, T6, L6, X6, hQ6, st6⟩ := own_cS 0 (rmUC_3_0 l Z a0 hw [] sA w_F kS x0 x1 x2 h0 n0 Z0 S_F hwF S_AD S_HI S_LO vA hch_x0) X5 hx hZ hown hw 103 104 51 105 rfl rfl rfl rfl 21 #[rv r0, iv 0] [(.ref sA), (.int 0)] [] (hb hby d13_21) hml (lenOf pd_6 rfl) e5 rfl (Nat.le_refl _) (by decide)
    obtain ⟨rfl, N6q, e6⟩ := hQ6
    have N6 := Fr.app N4 N6q
    refine own_out X6 Bd.notSynchronized Bd.returns (some (.int (x0.toUInt32.toUInt16.toUInt32.toInt32))) nofun (by decide) (by decide) ?_ fun fs hr => k0 _ ?_
    · rw [e6]; exact ⟨(congrArg some (congrArg Value.int (own_i2cid hch_x0))), N6, rfl⟩
    · show OwnS p e below s₁ (mkF m 0 #[rv r0, iv 0] []) _
      refine oAn X0 hx hby d13_0 rfl rfl ?_
      refine st4 _ ?_
      refine XS.ifYes X4.here hx rfl (pc0 := 4) (pc' := 16) rfl (hb hby d13_4) rfl ((if0 _ _).trans (teq (by decide : (0 : Int32) = (0 : Int32))).1) (by decide) (by decide) ?_
      refine oAn X4 hx hby d13_16 rfl rfl ?_
      refine st5 _ ?_
      refine oIn X5 hx hby d13_20 rfl ?_
      refine st6 _ ?_
      exact retN X6 hx (t := .char) Bd.returns (by simp) (hb hby d13_24) hr
def Q_UC_3_1 (Z : State) (r0 : Addr) (w_F : Value) (kB : ClassId) (x0 x1 x2 : Int32) (h0 : Heap) (n0 : Nat) (v : Option Value) (h : Heap) (L : List Loc) : Prop := v = some (.int x1) ∧ Fr n0 L ∧ h = h0
theorem rmUC_3_1 (l : Launch) (Z : State) (a0 : Array Value) (hw : own_HW a0 Z) (ws : List Jvm.Cond) (r0 : Addr) (w_F : Value) (kB : ClassId) (x0 x1 x2 : Int32) (h0 : Heap) (n0 : Nat) (Z0 : n0 ≤ h0.size) (S_F : Sta Z h0 cS2 cS9 cS3 w_F) (hwF : w_F.isRef = true) (S_AD : Sta Z h0 cS0 cS5 "Z" (.int 1)) (S_HI : Sta Z h0 cS0 cS7 "I" (.int 0)) (S_LO : Sta Z h0 cS0 cS8 "I" (.int 8)) (V_r0 : Arv Z h0 r0 kB .byte (6 : Int32) [(.int (((x0 >>> ((0 : Int32) &&& 31)).toInt8.toInt32).toInt8.toInt32)), (.int (((x0 >>> ((8 : Int32) &&& 31)).toInt8.toInt32).toInt8.toInt32)), (.int (((x1 >>> ((0 : Int32) &&& 31)).toInt8.toInt32).toInt8.toInt32)), (.int (((x1 >>> ((8 : Int32) &&& 31)).toInt8.toInt32).toInt8.toInt32)), (.int (((x2 >>> ((0 : Int32) &&& 31)).toInt8.toInt32).toInt8.toInt32)), (.int (((x2 >>> ((8 : Int32) &&& 31)).toInt8.toInt32).toInt8.toInt32))] (.int 0)) (hch_x1 : own_ch x1) :
    own_M l Z (⟨cS0, "charAt", "([BI)C"⟩ : MethodName) jdk_52_method_83_code 2 (some .char) ws ({ frames := 3, cells := 0, slots := 0, locals := 40 } : Room) #[(.ref r0), (.int 1)] h0 (Q_UC_3_1 Z r0 w_F kB x0 x1 x2 h0 n0) := by
  refine own_in cS0 rfl (plainFor_of_name pn_java_lang_StringUTF16) ?_
  intro p e s m below meth c s₁ Bd hml hZ hh hx hby hown X0 e0
  have N0 := Fr.nil n0
  have k0 := own_k (p := p) (e := e) (below := below) (T := s₁) (ef_24 m r0 (1 : Int32))
  obtain ⟨_, T1, L1, X1, hQ1, st1⟩ := own_cS 0 (rmUK_3 l Z a0 hw [] (1 : Int32) r0 w_F kB [(.int (((x0 >>> ((0 : Int32) &&& 31)).toInt8.toInt32).toInt8.toInt32)), (.int (((x0 >>> ((8 : Int32) &&& 31)).toInt8.toInt32).toInt8.toInt32)), (.int (((x1 >>> ((0 : Int32) &&& 31)).toInt8.toInt32).toInt8.toInt32)), (.int (((x1 >>> ((8 : Int32) &&& 31)).toInt8.toInt32).toInt8.toInt32)), (.int (((x2 >>> ((0 : Int32) &&& 31)).toInt8.toInt32).toInt8.toInt32)), (.int (((x2 >>> ((8 : Int32) &&& 31)).toInt8.toInt32).toInt8.toInt32))] h0 n0 Z0 S_F hwF V_r0 (by decide : ¬ ((1 : Int32) < (0 : Int32))) (by decide : (1 : Int32) < (3 : Int32))) X0 hx hZ hown hw 106 107 51 108 rfl rfl rfl rfl 2 #[rv r0, iv 1] [(.int 1), (.ref r0)] [] (hb hby d24_2) hml (lenOf pd_12 rfl) e0 rfl (Nat.le_refl _) (by decide)
  obtain ⟨rfl, N1q, e1⟩ := hQ1
  have N1 := Fr.app N0 N1q
  obtain ⟨_, T2, L2, X2, hQ2, st2⟩ := own_cS 0 (rmGC_3_1 l Z a0 hw [] r0 kB x0 x1 x2 h0 n0 Z0 S_AD S_HI S_LO V_r0 hch_x1) X1 hx hZ hown hw 100 101 51 102 rfl rfl rfl rfl 7 #[rv r0, iv 1] [(.ref r0), (.int 1)] [] (hb hby d24_7) hml (lenOf pd_6 rfl) e1 rfl (Nat.le_refl _) (by decide)
  obtain ⟨rfl, N2q, e2⟩ := hQ2
  have N2 := Fr.app N1 N2q
  refine own_out X2 Bd.notSynchronized Bd.returns (some (.int (x1.toUInt32.toUInt16.toUInt32.toInt32))) nofun (by decide) (by decide) ?_ fun fs hr => k0 _ ?_
  · rw [e2]; exact ⟨(congrArg some (congrArg Value.int (own_i2cid hch_x1))), N2, rfl⟩
  · show OwnS p e below s₁ (mkF m 0 #[rv r0, iv 1] []) _
    refine oIn X0 hx hby d24_0 rfl (oAn X0 hx hby d24_1 rfl rfl ?_)
    refine st1 _ ?_
    refine oAn X1 hx hby d24_5 rfl rfl (oIn X1 hx hby d24_6 rfl ?_)
    refine st2 _ ?_
    exact retN X2 hx (t := .char) Bd.returns (by simp) (hb hby d24_10) hr
def Q_CA_3_1 (Z : State) (r0 : Addr) (w_CS : Int32) (w_F : Value) (x0 x1 x2 : Int32) (h0 : Heap) (n0 : Nat) (v : Option Value) (h : Heap) (L : List Loc) : Prop := v = some (.int x1) ∧ Fr n0 L ∧ h = h0
theorem rmCA_3_1 (l : Launch) (Z : State) (a0 : Array Value) (hw : own_HW a0 Z) (ws : List Jvm.Cond) (r0 : Addr) (w_CS : Int32) (w_F : Value) (x0 x1 x2 : Int32) (h0 : Heap) (n0 : Nat) (Z0 : n0 ≤ h0.size) (S_CS : Sta Z h0 cS1 cS10 "Z" (.int w_CS)) (hcs : ¬ (w_CS = (0 : Int32))) (S_F : Sta Z h0 cS2 cS9 cS3 w_F) (hwF : w_F.isRef = true) (S_AD : Sta Z h0 cS0 cS5 "Z" (.int 1)) (S_HI : Sta Z h0 cS0 cS7 "I" (.int 0)) (S_LO : Sta Z h0 cS0 cS8 "I" (.int 8)) (P_r0 : own_S3 Z h0 r0 x0 x1 x2) (hch_x1 : own_ch x1) :
    own_M l Z (⟨cS1, "charAt", "(I)C"⟩ : MethodName) jdk_42_method_56_code 2 (some .char) ws ({ frames := 4, cells := 0, slots := 0, locals := 53 } : Room) #[(.ref r0), (.int 1)] h0 (Q_CA_3_1 Z r0 w_CS w_F x0 x1 x2 h0 n0) := by
  refine own_in cS1 rfl (plainFor_of_name pn_java_lang_String) ?_
  intro p e s m below meth c s₁ Bd hml hZ hh hx hby hown X0 e0
  have N0 := Fr.nil n0
  have k0 := own_k (p := p) (e := e) (below := below) (T := s₁) (ef_13 m r0 (1 : Int32))
  rcases id P_r0 with ⟨eS, ⟨sA, kS, fC, fV, vA, hl0, hl1, hl2⟩ | ⟨sA, kS, fC, fV, vA⟩⟩
  · skip
    obtain ⟨_, T1, L1, X1, hQ1, st1⟩ := own_cV 0 (rmIL0 l Z a0 hw [] r0 w_CS h0 n0 Z0 S_CS hcs fC) X0 hx hZ hown hw 64 65 67 66 12 68 rfl rfl rfl rfl rfl rfl r0 eS 1 #[rv r0, iv 1] [] [] (hb hby d13_1) hml (lenOf pd_13 rfl) e0 rfl (Nat.le_refl _) (by decide)
    obtain ⟨rfl, N1q, e1⟩ := hQ1
    have N1 := Fr.app N0 N1q
    obtain ⟨T2, X2, e2, st2⟩ := getF X1 hx hZ hown (host := "") (Or.inl (own_at hw 29 rfl)) Via.refl e1 fV (g := (mkF m 8 #[rv r0, iv 1] [(.ref r0)])) rfl rfl (hb hby d13_8)
    obtain ⟨_, T3, L3, X3, hQ3, st3⟩ := own_cS 0 (rmLC_3_1 l Z a0 hw [] sA w_F kS x0 x1 x2 h0 n0 Z0 S_F hwF vA hch_x1 hl1) X2 hx hZ hown hw 69 70 71 72 rfl rfl rfl rfl 12 #[rv r0, iv 1] [(.ref sA), (.int 1)] [] (hb hby d13_12) hml (lenOf pd_6 rfl) e2 rfl (Nat.le_refl _) (by decide)
    obtain ⟨rfl, N3q, e3⟩ := hQ3
    have N3 := Fr.app N1 N3q
    refine own_out X3 Bd.notSynchronized Bd.returns (some (.int (x1.toUInt32.toUInt16.toUInt32.toInt32))) nofun (by decide) (by decide) ?_ fun fs hr => k0 _ ?_
    · rw [e3]; exact ⟨(congrArg some (congrArg Value.int (own_i2cid hch_x1))), N3, rfl⟩
    · show OwnS p e below s₁ (mkF m 0 #[rv r0, iv 1] []) _
      refine oAn X0 hx hby d13_0 rfl rfl ?_
      refine st1 _ ?_
      refine XS.ifNo X1.here hx rfl (hb hby d13_4) rfl ((if0 _ _).trans (feq (by decide : ¬ ((1 : Int32) = (0 : Int32)))).1) ?_
      refine oAn X1 hx hby d13_7 rfl rfl ?_
      refine st2 _ ?_
      refine oIn X2 hx hby d13_11 rfl ?_
      refine st3 _ ?_
      exact retN X3 hx (t := .char) Bd.returns (by simp) (hb hby d13_15) hr
  · skip
    obtain ⟨_, T4, L4, X4, hQ4, st4⟩ := own_cV 0 (rmIL1 l Z a0 hw [] r0 w_CS h0 n0 Z0 S_CS hcs fC) X0 hx hZ hown hw 64 65 67 66 12 68 rfl rfl rfl rfl rfl rfl r0 eS 1 #[rv r0, iv 1] [] [] (hb hby d13_1) hml (lenOf pd_13 rfl) e0 rfl (Nat.le_refl _) (by decide)
    obtain ⟨rfl, N4q, e4⟩ := hQ4
    have N4 := Fr.app N0 N4q
    obtain ⟨T5, X5, e5, st5⟩ := getF X4 hx hZ hown (host := "") (Or.inl (own_at hw 29 rfl)) Via.refl e4 fV (g := (mkF m 17 #[rv r0, iv 1] [(.ref r0)])) rfl rfl (hb hby d13_17)
    obtain ⟨_, T6, L6, X6, hQ6, st6⟩ := own_cS 0 (rmUC_3_1 l Z a0 hw [] sA w_F kS x0 x1 x2 h0 n0 Z0 S_F hwF S_AD S_HI S_LO vA hch_x1) X5 hx hZ hown hw 103 104 51 105 rfl rfl rfl rfl 21 #[rv r0, iv 1] [(.ref sA), (.int 1)] [] (hb hby d13_21) hml (lenOf pd_6 rfl) e5 rfl (Nat.le_refl _) (by decide)
    obtain ⟨rfl, N6q, e6⟩ := hQ6
    have N6 := Fr.app N4 N6q
    refine own_out X6 Bd.notSynchronized Bd.returns (some (.int (x1.toUInt32.toUInt16.toUInt32.toInt32))) nofun (by decide) (by decide) ?_ fun fs hr => k0 _ ?_
    · rw [e6]; exact ⟨(congrArg some (congrArg Value.int (own_i2cid hch_x1))), N6, rfl⟩
    · show OwnS p e below s₁ (mkF m 0 #[rv r0, iv 1] []) _
      refine oAn X0 hx hby d13_0 rfl rfl ?_
      refine st4 _ ?_
      refine XS.ifYes X4.here hx rfl (pc0 := 4) (pc' := 16) rfl (hb hby d13_4) rfl ((if0 _ _).trans (teq (by decide : (0 : Int32) = (0 : Int32))).1) (by decide) (by decide) ?_
      refine oAn X4 hx hby d13_16 rfl rfl ?_
      refine st5 _ ?_
      refine oIn X5 hx hby d13_20 rfl ?_
      refine st6 _ ?_
      exact retN X6 hx (t := .char) Bd.returns (by simp) (hb hby d13_24) hr
def Q_UC_3_2 (Z : State) (r0 : Addr) (w_F : Value) (kB : ClassId) (x0 x1 x2 : Int32) (h0 : Heap) (n0 : Nat) (v : Option Value) (h : Heap) (L : List Loc) : Prop := v = some (.int x2) ∧ Fr n0 L ∧ h = h0
theorem rmUC_3_2 (l : Launch) (Z : State) (a0 : Array Value) (hw : own_HW a0 Z) (ws : List Jvm.Cond) (r0 : Addr) (w_F : Value) (kB : ClassId) (x0 x1 x2 : Int32) (h0 : Heap) (n0 : Nat) (Z0 : n0 ≤ h0.size) (S_F : Sta Z h0 cS2 cS9 cS3 w_F) (hwF : w_F.isRef = true) (S_AD : Sta Z h0 cS0 cS5 "Z" (.int 1)) (S_HI : Sta Z h0 cS0 cS7 "I" (.int 0)) (S_LO : Sta Z h0 cS0 cS8 "I" (.int 8)) (V_r0 : Arv Z h0 r0 kB .byte (6 : Int32) [(.int (((x0 >>> ((0 : Int32) &&& 31)).toInt8.toInt32).toInt8.toInt32)), (.int (((x0 >>> ((8 : Int32) &&& 31)).toInt8.toInt32).toInt8.toInt32)), (.int (((x1 >>> ((0 : Int32) &&& 31)).toInt8.toInt32).toInt8.toInt32)), (.int (((x1 >>> ((8 : Int32) &&& 31)).toInt8.toInt32).toInt8.toInt32)), (.int (((x2 >>> ((0 : Int32) &&& 31)).toInt8.toInt32).toInt8.toInt32)), (.int (((x2 >>> ((8 : Int32) &&& 31)).toInt8.toInt32).toInt8.toInt32))] (.int 0)) (hch_x2 : own_ch x2) :
    own_M l Z (⟨cS0, "charAt", "([BI)C"⟩ : MethodName) jdk_52_method_83_code 2 (some .char) ws ({ frames := 3, cells := 0, slots := 0, locals := 40 } : Room) #[(.ref r0), (.int 2)] h0 (Q_UC_3_2 Z r0 w_F kB x0 x1 x2 h0 n0) := by
  refine own_in cS0 rfl (plainFor_of_name pn_java_lang_StringUTF16) ?_
  intro p e s m below meth c s₁ Bd hml hZ hh hx hby hown X0 e0
  have N0 := Fr.nil n0
  have k0 := own_k (p := p) (e := e) (below := below) (T := s₁) (ef_24 m r0 (2 : Int32))
  obtain ⟨_, T1, L1, X1, hQ1, st1⟩ := own_cS 0 (rmUK_3 l Z a0 hw [] (2 : Int32) r0 w_F kB [(.int (((x0 >>> ((0 : Int32) &&& 31)).toInt8.toInt32).toInt8.toInt32)), (.int (((x0 >>> ((8 : Int32) &&& 31)).toInt8.toInt32).toInt8.toInt32)), (.int (((x1 >>> ((0 : Int32) &&& 31)).toInt8.toInt32).toInt8.toInt32)), (.int (((x1 >>> ((8 : Int32) &&& 31)).toInt8.toInt32).toInt8.toInt32)), (.int (((x2 >>> ((0 : Int32) &&& 31)).toInt8.toInt32).toInt8.toInt32)), (.int (((x2 >>> ((8 : Int32) &&& 31)).toInt8.toInt32).toInt8.toInt32))] h0 n0 Z0 S_F hwF V_r0 (by decide : ¬ ((2 : Int32) < (0 : Int32))) (by decide : (2 : Int32) < (3 : Int32))) X0 hx hZ hown hw 106 107 51 108 rfl rfl rfl rfl 2 #[rv r0, iv 2] [(.int 2), (.ref r0)] [] (hb hby d24_2) hml (lenOf pd_12 rfl) e0 rfl (Nat.le_refl _) (by decide)
  obtain ⟨rfl, N1q, e1⟩ := hQ1
  have N1 := Fr.app N0 N1q
  obtain ⟨_, T2, L2, X2, hQ2, st2⟩ := own_cS 0 (rmGC_3_2 l Z a0 hw [] r0 kB x0 x1 x2 h0 n0 Z0 S_AD S_HI S_LO V_r0 hch_x2) X1 hx hZ hown hw 100 101 51 102 rfl rfl rfl rfl 7 #[rv r0, iv 2] [(.ref r0), (.int 2)] [] (hb hby d24_7) hml (lenOf pd_6 rfl) e1 rfl (Nat.le_refl _) (by decide)
  obtain ⟨rfl, N2q, e2⟩ := hQ2
  have N2 := Fr.app N1 N2q
  refine own_out X2 Bd.notSynchronized Bd.returns (some (.int (x2.toUInt32.toUInt16.toUInt32.toInt32))) nofun (by decide) (by decide) ?_ fun fs hr => k0 _ ?_
  · rw [e2]; exact ⟨(congrArg some (congrArg Value.int (own_i2cid hch_x2))), N2, rfl⟩
  · show OwnS p e below s₁ (mkF m 0 #[rv r0, iv 2] []) _
    refine oIn X0 hx hby d24_0 rfl (oAn X0 hx hby d24_1 rfl rfl ?_)
    refine st1 _ ?_
    refine oAn X1 hx hby d24_5 rfl rfl (oIn X1 hx hby d24_6 rfl ?_)
    refine st2 _ ?_
    exact retN X2 hx (t := .char) Bd.returns (by simp) (hb hby d24_10) hr
def Q_CA_3_2 (Z : State) (r0 : Addr) (w_CS : Int32) (w_F : Value) (x0 x1 x2 : Int32) (h0 : Heap) (n0 : Nat) (v : Option Value) (h : Heap) (L : List Loc) : Prop := v = some (.int x2) ∧ Fr n0 L ∧ h = h0
theorem rmCA_3_2 (l : Launch) (Z : State) (a0 : Array Value) (hw : own_HW a0 Z) (ws : List Jvm.Cond) (r0 : Addr) (w_CS : Int32) (w_F : Value) (x0 x1 x2 : Int32) (h0 : Heap) (n0 : Nat) (Z0 : n0 ≤ h0.size) (S_CS : Sta Z h0 cS1 cS10 "Z" (.int w_CS)) (hcs : ¬ (w_CS = (0 : Int32))) (S_F : Sta Z h0 cS2 cS9 cS3 w_F) (hwF : w_F.isRef = true) (S_AD : Sta Z h0 cS0 cS5 "Z" (.int 1)) (S_HI : Sta Z h0 cS0 cS7 "I" (.int 0)) (S_LO : Sta Z h0 cS0 cS8 "I" (.int 8)) (P_r0 : own_S3 Z h0 r0 x0 x1 x2) (hch_x2 : own_ch x2) :
    own_M l Z (⟨cS1, "charAt", "(I)C"⟩ : MethodName) jdk_42_method_56_code 2 (some .char) ws ({ frames := 4, cells := 0, slots := 0, locals := 53 } : Room) #[(.ref r0), (.int 2)] h0 (Q_CA_3_2 Z r0 w_CS w_F x0 x1 x2 h0 n0) := by
  refine own_in cS1 rfl (plainFor_of_name pn_java_lang_String) ?_
  intro p e s m below meth c s₁ Bd hml hZ hh hx hby hown X0 e0
  have N0 := Fr.nil n0
  have k0 := own_k (p := p) (e := e) (below := below) (T := s₁) (ef_13 m r0 (2 : Int32))
  rcases id P_r0 with ⟨eS, ⟨sA, kS, fC, fV, vA, hl0, hl1, hl2⟩ | ⟨sA, kS, fC, fV, vA⟩⟩
  · skip
    obtain ⟨_, T1, L1, X1, hQ1, st1⟩ := own_cV 0 (rmIL0 l Z a0 hw [] r0 w_CS h0 n0 Z0 S_CS hcs fC) X0 hx hZ hown hw 64 65 67 66 12 68 rfl rfl rfl rfl rfl rfl r0 eS 1 #[rv r0, iv 2] [] [] (hb hby d13_1) hml (lenOf pd_13 rfl) e0 rfl (Nat.le_refl _) (by decide)
    obtain ⟨rfl, N1q, e1⟩ := hQ1
    have N1 := Fr.app N0 N1q
    obtain ⟨T2, X2, e2, st2⟩ := getF X1 hx hZ hown (host := "") (Or.inl (own_at hw 29 rfl)) Via.refl e1 fV (g := (mkF m 8 #[rv r0, iv 2] [(.ref r0)])) rfl rfl (hb hby d13_8)
    obtain ⟨_, T3, L3, X3, hQ3, st3⟩ := own_cS 0 (rmLC_3_2 l Z a0 hw [] sA w_F kS x0 x1 x2 h0 n0 Z0 S_F hwF vA hch_x2 hl2) X2 hx hZ hown hw 69 70 71 72 rfl rfl rfl rfl 12 #[rv r0, iv 2] [(.ref sA), (.int 2)] [] (hb hby d13_12) hml (lenOf pd_6 rfl) e2 rfl (Nat.le_refl _) (by decide)
    obtain ⟨rfl, N3q, e3⟩ := hQ3
    have N3 := Fr.app N1 N3q
    refine own_out X3 Bd.notSynchronized Bd.returns (some (.int (x2.toUInt32.toUInt16.toUInt32.toInt32))) nofun (by decide) (by decide) ?_ fun fs hr => k0 _ ?_
    · rw [e3]; exact ⟨(congrArg some (congrArg Value.int (own_i2cid hch_x2))), N3, rfl⟩
    · show OwnS p e below s₁ (mkF m 0 #[rv r0, iv 2] []) _
      refine oAn X0 hx hby d13_0 rfl rfl ?_
      refine st1 _ ?_
      refine XS.ifNo X1.here hx rfl (hb hby d13_4) rfl ((if0 _ _).trans (feq (by decide : ¬ ((1 : Int32) = (0 : Int32)))).1) ?_
      refine oAn X1 hx hby d13_7 rfl rfl ?_
      refine st2 _ ?_
      refine oIn X2 hx hby d13_11 rfl ?_
      refine st3 _ ?_
      exact retN X3 hx (t := .char) Bd.returns (by simp) (hb hby d13_15) hr
  · skip
    obtain ⟨_, T4, L4, X4, hQ4, st4⟩ := own_cV 0 (rmIL1 l Z a0 hw [] r0 w_CS h0 n0 Z0 S_CS hcs fC) X0 hx hZ hown hw 64 65 67 66 12 68 rfl rfl rfl rfl rfl rfl r0 eS 1 #[rv r0, iv 2] [] [] (hb hby d13_1) hml (lenOf pd_13 rfl) e0 rfl (Nat.le_refl _) (by decide)
    obtain ⟨rfl, N4q, e4⟩ := hQ4
    have N4 := Fr.app N0 N4q
    obtain ⟨T5, X5, e5, st5⟩ := getF X4 hx hZ hown (host := "") (Or.inl (own_at hw 29 rfl)) Via.refl e4 fV (g := (mkF m 17 #[rv r0, iv 2] [(.ref r0)])) rfl rfl (hb hby d13_17)
    obtain ⟨_, T6, L6, X6, hQ6, st6⟩ := own_cS 0 (rmUC_3_2 l Z a0 hw [] sA w_F kS x0 x1 x2 h0 n0 Z0 S_F hwF S_AD S_HI S_LO vA hch_x2) X5 hx hZ hown hw 103 104 51 105 rfl rfl rfl rfl 21 #[rv r0, iv 2] [(.ref sA), (.int 2)] [] (hb hby d13_21) hml (lenOf pd_6 rfl) e5 rfl (Nat.le_refl _) (by decide)
    obtain ⟨rfl, N6q, e6⟩ := hQ6
    have N6 := Fr.app N4 N6q
    refine own_out X6 Bd.notSynchronized Bd.returns (some (.int (x2.toUInt32.toUInt16.toUInt32.toInt32))) nofun (by decide) (by decide) ?_ fun fs hr => k0 _ ?_
    · rw [e6]; exact ⟨(congrArg some (congrArg Value.int (own_i2cid hch_x2))), N6, rfl⟩
    · show OwnS p e below s₁ (mkF m 0 #[rv r0, iv 2] []) _
      refine oAn X0 hx hby d13_0 rfl rfl ?_
      refine st4 _ ?_
      refine XS.ifYes X4.here hx rfl (pc0 := 4) (pc' := 16) rfl (hb hby d13_4) rfl ((if0 _ _).trans (teq (by decide : (0 : Int32) = (0 : Int32))).1) (by decide) (by decide) ?_
      refine oAn X4 hx hby d13_16 rfl rfl ?_
      refine st5 _ ?_
      refine oIn X5 hx hby d13_20 rfl ?_
      refine st6 _ ?_
      exact retN X6 hx (t := .char) Bd.returns (by simp) (hb hby d13_24) hr
def Q_Len_4 (Z : State) (r0 : Addr) (w_CS x0 x1 x2 x3 : Int32) (h0 : Heap) (n0 : Nat) (v : Option Value) (h : Heap) (L : List Loc) : Prop := v = some (.int 4) ∧ Fr n0 L ∧ h = h0
theorem rmLen_4 (l : Launch) (Z : State) (a0 : Array Value) (hw : own_HW a0 Z) (ws : List Jvm.Cond) (r0 : Addr) (w_CS x0 x1 x2 x3 : Int32) (h0 : Heap) (n0 : Nat) (Z0 : n0 ≤ h0.size) (S_CS : Sta Z h0 cS1 cS10 "Z" (.int w_CS)) (hcs : ¬ (w_CS = (0 : Int32))) (P_r0 : own_S4 Z h0 r0 x0 x1 x2 x3) :
    own_M l Z (⟨cS1, "length", "()I"⟩ : MethodName) jdk_42_method_54_code 1 (some .int) ws ({ frames := 1, cells := 0, slots := 0, locals := 13 } : Room) #[(.ref r0)] h0 (Q_Len_4 Z r0 w_CS x0 x1 x2 x3 h0 n0) := by
  refine own_in cS1 rfl (plainFor_of_name pn_java_lang_String) ?_
  intro p e s m below meth c s₁ Bd hml hZ hh hx hby hown X0 e0
  have N0 := Fr.nil n0
  have k0 := own_k (p := p) (e := e) (below := below) (T := s₁) (ef_7 m r0)
  rcases id P_r0 with ⟨eS, ⟨sA, kS, fC, fV, vA, hl0, hl1, hl2, hl3⟩ | ⟨sA, kS, fC, fV, vA⟩⟩
  · skip
    obtain ⟨T1, X1, e1, st1⟩ := getF X0 hx hZ hown (host := "") (Or.inl (own_at hw 29 rfl)) Via.refl e0 fV (g := (mkF m 1 #[rv r0] [(.ref r0)])) rfl rfl (hb hby d7_1)
    obtain ⟨cl_z2, Ar_z2, q_z2, S_z2, N_z2, H_z2, G_z2⟩ := id vA
    obtain ⟨_, T3, L3, X3, hQ3, st3⟩ := own_cV 1 (rmCo0 l Z a0 hw [] r0 w_CS h0 n0 Z0 S_CS hcs fC) X1 hx hZ hown hw 40 41 43 42 12 44 rfl rfl rfl rfl rfl rfl r0 eS 6 #[rv r0] [] [(.int 4)] (hb hby d7_6) hml (lenOf pd_9 rfl) e1 rfl (Nat.le_refl _) (by decide)
    obtain ⟨rfl, N3q, e3⟩ := hQ3
    have N3 := Fr.app N0 N3q
    refine own_out X3 Bd.notSynchronized Bd.returns (some (.int 4)) nofun (by decide) (by decide) ?_ fun fs hr => k0 _ ?_
    · rw [e3]; exact ⟨rfl, N3, rfl⟩
    · show OwnS p e below s₁ (mkF m 0 #[rv r0] []) _
      refine oAn X0 hx hby d7_0 rfl rfl ?_
      refine st1 _ ?_
      refine X1.arraylength hx (by rw [e1]; exact Ar_z2.1) (State.isArrayOf_alike hZ.alike Ar_z2.2.1) (g := (mkF m 4 #[rv r0] [(.ref sA)])) rfl rfl (hb hby d7_4) _ ?_
      rw [len_of S_z2 N_z2]
      refine oAn X1 hx hby d7_5 rfl rfl ?_
      refine st3 _ ?_
      refine XS.ishr X3.here hx rfl (hb hby d7_9) rfl ?_
      exact retI X3 hx Bd.returns (hb hby d7_10) hr
  · skip
    obtain ⟨T4, X4, e4, st4⟩ := getF X0 hx hZ hown (host := "") (Or.inl (own_at hw 29 rfl)) Via.refl e0 fV (g := (mkF m 1 #[rv r0] [(.ref r0)])) rfl rfl (hb hby d7_1)
    obtain ⟨cl_z5, Ar_z5, q_z5, S_z5, N_z5, H_z5, G_z5⟩ := id vA
    obtain ⟨_, T6, L6, X6, hQ6, st6⟩ := own_cV 1 (rmCo1 l Z a0 hw [] r0 w_CS h0 n0 Z0 S_CS hcs fC) X4 hx hZ hown hw 40 41 43 42 12 44 rfl rfl rfl rfl rfl rfl r0 eS 6 #[rv r0] [] [(.int 8)] (hb hby d7_6) hml (lenOf pd_9 rfl) e4 rfl (Nat.le_refl _) (by decide)
    obtain ⟨rfl, N6q, e6⟩ := hQ6
    have N6 := Fr.app N0 N6q
    refine own_out X6 Bd.notSynchronized Bd.returns (some (.int 4)) nofun (by decide) (by decide) ?_ fun fs hr => k0 _ ?_
    · rw [e6]; exact ⟨rfl, N6, rfl⟩
    · show OwnS p e below s₁ (mkF m 0 #[rv r0] []) _
      refine oAn X0 hx hby d7_0 rfl rfl ?_
      refine st4 _ ?_
      refine X4.arraylength hx (by rw [e4]; exact Ar_z5.1) (State.isArrayOf_alike hZ.alike Ar_z5.2.1) (g := (mkF m 4 #[rv r0] [(.ref sA)])) rfl rfl (hb hby d7_4) _ ?_
      rw [len_of S_z5 N_z5]
      refine oAn X4 hx hby d7_5 rfl rfl ?_
      refine st6 _ ?_
      refine XS.ishr X6.here hx rfl (hb hby d7_9) rfl ?_
      exact retI X6 hx Bd.returns (hb hby d7_10) hr
def Q_LC_4_0 (Z : State) (r0 : Addr) (w_F : Value) (kB : ClassId) (x0 x1 x2 x3 : Int32) (h0 : Heap) (n0 : Nat) (v : Option Value) (h : Heap) (L : List Loc) : Prop := v = some (.int x0) ∧ Fr n0 L ∧ h = h0
theorem rmLC_4_0 (l : Launch) (Z : State) (a0 : Array Value) (hw : own_HW a0 Z) (ws : List Jvm.Cond) (r0 : Addr) (w_F : Value) (kB : ClassId) (x0 x1 x2 x3 : Int32) (h0 : Heap) (n0 : Nat) (Z0 : n0 ≤ h0.size) (S_F : Sta Z h0 cS2 cS9 cS3 w_F) (hwF : w_F.isRef = true) (V_r0 : Arv Z h0 r0 kB .byte (4 : Int32) [(.int ((x0.toInt8.toInt32).toInt8.toInt32)), (.int ((x1.toInt8.toInt32).toInt8.toInt32)), (.int ((x2.toInt8.toInt32).toInt8.toInt32)), (.int ((x3.toInt8.toInt32).toInt8.toInt32))] (.int 0)) (hch_x0 : own_ch x0) (hle_x0 : ¬ ((255 : Int32) < x0)) :
    own_M l Z (⟨cS12, "charAt", "([BI)C"⟩ : MethodName) jdk_43_method_2_code 2 (some .char) ws ({ frames := 2, cells := 0, slots := 0, locals := 27 } : Room) #[(.ref r0), (.int 0)] h0 (Q_LC_4_0 Z r0 w_F kB x0 x1 x2 x3 h0 n0) := by
  refine own_in cS12 rfl (plainFor_of_name pn_java_lang_StringLatin1) ?_
  intro p e s m below meth c s₁ Bd hml hZ hh hx hby hown X0 e0
  have N0 := Fr.nil n0
  have k0 := own_k (p := p) (e := e) (below := below) (T := s₁) (ef_15 m r0 (0 : Int32))
  obtain ⟨cl_z1, Ar_z1, q_z1, S_z1, N_z1, H_z1, G_z1⟩ := id V_r0
  obtain ⟨_, T2, L2, X2, hQ2, st2⟩ := own_cS 0 (rmCk l Z a0 hw [] (0 : Int32) (4 : Int32) w_F h0 n0 Z0 S_F hwF (by decide : ¬ ((0 : Int32) < (0 : Int32))) (by decide : (0 : Int32) < (4 : Int32))) X0 hx hZ hown hw 73 74 12 75 rfl rfl rfl rfl 3 #[rv r0, iv 0] [(.int 0), (.int 4)] [] (hb hby d15_3) hml (lenOf pd_10 rfl) e0 rfl (Nat.le_refl _) (by decide)
  obtain ⟨rfl, N2q, e2⟩ := hQ2
  have N2 := Fr.app N0 N2q
  have hin3 : ¬ ((0 : Int32) < 0 ∨ cl_z1.slots.size ≤ ((0 : Int32)).toNatClampNeg) := inb_of S_z1 ⟨by decide, by decide⟩
  refine own_out X2 Bd.notSynchronized Bd.returns (some (.int (((((x0.toInt8.toInt32).toInt8.toInt32) &&& (255 : Int32)).toUInt32.toUInt16.toUInt32.toInt32).toUInt32.toUInt16.toUInt32.toInt32))) nofun (by decide) (by decide) ?_ fun fs hr => k0 _ ?_
  · rw [e2]; exact ⟨(congrArg some (congrArg Value.int (own_latc hch_x0 hle_x0))), N2, rfl⟩
  · show OwnS p e below s₁ (mkF m 0 #[rv r0, iv 0] []) _
    refine oIn X0 hx hby d15_0 rfl (oAn X0 hx hby d15_1 rfl rfl ?_)
    refine X0.arraylength hx (by rw [e0]; exact Ar_z1.1) (State.isArrayOf_alike hZ.alike Ar_z1.2.1) (g := (mkF m 2 #[rv r0, iv 0] [(.ref r0), (.int 0)])) rfl rfl (hb hby d15_2) _ ?_
    rw [len_of S_z1 N_z1]
    refine st2 _ ?_
    refine oAn X2 hx hby d15_6 rfl rfl (oIn X2 hx hby d15_7 rfl ?_)
    refine X2.baloadBytes hx (j := (0 : Int32)) (v := (.int ((x0.toInt8.toInt32).toInt8.toInt32))) (by rw [e2]; exact Ar_z1.1) (State.isArrayOf_alike hZ.alike Ar_z1.2.1) Ar_z1.2.2 hin3 (Has.at H_z1 hin3 rfl) (g := (mkF m 8 #[rv r0, iv 0] [(.int 0), (.ref r0)])) rfl rfl (hb hby d15_8) _ ?_
    refine XS.sipush X2.here hx rfl (hb hby d15_9) ?_
    refine XS.iand X2.here hx rfl (hb hby d15_12) rfl ?_
    refine XS.i2c X2.here hx rfl (hb hby d15_13) rfl ?_
    exact retN X2 hx (t := .char) Bd.returns (by simp) (hb hby d15_14) hr
def Q_LC_4_1 (Z : State) (r0 : Addr) (w_F : Value) (kB : ClassId) (x0 x1 x2 x3 : Int32) (h0 : Heap) (n0 : Nat) (v : Option Value) (h : Heap) (L : List Loc) : Prop := v = some (.int x1) ∧ Fr n0 L ∧ h = h0
theorem rmLC_4_1 (l : Launch) (Z : State) (a0 : Array Value) (hw : own_HW a0 Z) (ws : List Jvm.Cond) (r0 : Addr) (w_F : Value) (kB : ClassId) (x0 x1 x2 x3 : Int32) (h0 : Heap) (n0 : Nat) (Z0 : n0 ≤ h0.size) (S_F : Sta Z h0 cS2 cS9 cS3 w_F) (hwF : w_F.isRef = true) (V_r0 : Arv Z h0 r0 kB .byte (4 : Int32) [(.int ((x0.toInt8.toInt32).toInt8.toInt32)), (.int ((x1.toInt8.toInt32).toInt8.toInt32)), (.int ((x2.toInt8.toInt32).toInt8.toInt32)), (.int ((x3.toInt8.toInt32).toInt8.toInt32))] (.int 0)) (hch_x1 : own_ch x1) (hle_x1 : ¬ ((255 : Int32) < x1)) :
    own_M l Z (⟨cS12, "charAt", "([BI)C"⟩ : MethodName) jdk_43_method_2_code 2 (some .char) ws ({ frames := 2, cells := 0, slots := 0, locals := 27 } : Room) #[(.ref r0), (.int 1)] h0 (Q_LC_4_1 Z r0 w_F kB x0 x1 x2 x3 h0 n0) := by
  refine own_in cS12 rfl (plainFor_of_name pn_java_lang_StringLatin1) ?_
  intro p e s m below meth c s₁ Bd hml hZ hh hx hby hown X0 e0
  have N0 := Fr.nil n0
  have k0 := own_k (p := p) (e := e) (below := below) (T := s₁) (ef_15 m r0 (1 : Int32))
  obtain ⟨cl_z1, Ar_z1, q_z1, S_z1, N_z1, H_z1, G_z1⟩ := id V_r0
  obtain ⟨_, T2, L2, X2, hQ2, st2⟩ := own_cS 0 (rmCk l Z a0 hw [] (1 : Int32) (4 : Int32) w_F h0 n0 Z0 S_F hwF (by decide : ¬ ((1 : Int32) < (0 : Int32))) (by decide : (1 : Int32) < (4 : Int32))) X0 hx hZ hown hw 73 74 12 75 rfl rfl rfl rfl 3 #[rv r0, iv 1] [(.int 1), (.int 4)] [] (hb hby d15_3) hml (lenOf pd_10 rfl) e0 rfl (Nat.le_refl _) (by decide)
  obtain ⟨rfl, N2q, e2⟩ := hQ2
  have N2 := Fr.app N0 N2q
  have hin3 : ¬ ((1 : Int32) < 0 ∨ cl_z1.slots.size ≤ ((1 : Int32)).toNatClampNeg) := inb_of S_z1 ⟨by decide, by decide⟩
  refine own_out X2 Bd.notSynchronized Bd.returns (some (.int (((((x1.toInt8.toInt32).toInt8.toInt32) &&& (255 : Int32)).toUInt32.toUInt16.toUInt32.toInt32).toUInt32.toUInt16.toUInt32.toInt32))) nofun (by decide) (by decide) ?_ fun fs hr => k0 _ ?_
  · rw [e2]; exact ⟨(congrArg some (congrArg Value.int (own_latc hch_x1 hle_x1))), N2, rfl⟩
  · show OwnS p e below s₁ (mkF m 0 #[rv r0, iv 1] []) _
    refine oIn X0 hx hby d15_0 rfl (oAn X0 hx hby d15_1 rfl rfl ?_)
    refine X0.arraylength hx (by rw [e0]; exact Ar_z1.1) (State.isArrayOf_alike hZ.alike Ar_z1.2.1) (g := (mkF m 2 #[rv r0, iv 1] [(.ref r0), (.int 1)])) rfl rfl (hb hby d15_2) _ ?_
    rw [len_of S_z1 N_z1]
    refine st2 _ ?_
    refine oAn X2 hx hby d15_6 rfl rfl (oIn X2 hx hby d15_7 rfl ?_)
    refine X2.baloadBytes hx (j := (1 : Int32)) (v := (.int ((x1.toInt8.toInt32).toInt8.toInt32))) (by rw [e2]; exact Ar_z1.1) (State.isArrayOf_alike hZ.alike Ar_z1.2.1) Ar_z1.2.2 hin3 (Has.at H_z1 hin3 rfl) (g := (mkF m 8 #[rv r0, iv 1] [(.int 1), (.ref r0)])) rfl rfl (hb hby d15_8) _ ?_
    refine XS.sipush X2.here hx rfl (hb hby d15_9) ?_
    refine XS.iand X2.here hx rfl (hb hby d15_12) rfl ?_
    refine XS.i2c X2.here hx rfl (hb hby d15_13) rfl ?_
    exact retN X2 hx (t := .char) Bd.returns (by simp) (hb hby d15_14) hr
def Q_LC_4_2 (Z : State) (r0 : Addr) (w_F : Value) (kB : ClassId) (x0 x1 x2 x3 : Int32) (h0 : Heap) (n0 : Nat) (v : Option Value) (h : Heap) (L : List Loc) : Prop := v = some (.int x2) ∧ Fr n0 L ∧ h = h0
theorem rmLC_4_2 (l : Launch) (Z : State) (a0 : Array Value) (hw : own_HW a0 Z) (ws : List Jvm.Cond) (r0 : Addr) (w_F : Value) (kB : ClassId) (x0 x1 x2 x3 : Int32) (h0 : Heap) (n0 : Nat) (Z0 : n0 ≤ h0.size) (S_F : Sta Z h0 cS2 cS9 cS3 w_F) (hwF : w_F.isRef = true) (V_r0 : Arv Z h0 r0 kB .byte (4 : Int32) [(.int ((x0.toInt8.toInt32).toInt8.toInt32)), (.int ((x1.toInt8.toInt32).toInt8.toInt32)), (.int ((x2.toInt8.toInt32).toInt8.toInt32)), (.int ((x3.toInt8.toInt32).toInt8.toInt32))] (.int 0)) (hch_x2 : own_ch x2) (hle_x2 : ¬ ((255 : Int32) < x2)) :
    own_M l Z (⟨cS12, "charAt", "([BI)C"⟩ : MethodName) jdk_43_method_2_code 2 (some .char) ws ({ frames := 2, cells := 0, slots := 0, locals := 27 } : Room) #[(.ref r0), (.int 2)] h0 (Q_LC_4_2 Z r0 w_F kB x0 x1 x2 x3 h0 n0) := by
  refine own_in cS12 rfl (plainFor_of_name pn_java_lang_StringLatin1) ?_
  intro p e s m below meth c s₁ Bd hml hZ hh hx hby hown X0 e0
  have N0 := Fr.nil n0
  have k0 := own_k (p := p) (e := e) (below := below) (T := s₁) (ef_15 m r0 (2 : Int32))
  obtain ⟨cl_z1, Ar_z1, q_z1, S_z1, N_z1, H_z1, G_z1⟩ := id V_r0
  obtain ⟨_, T2, L2, X2, hQ2, st2⟩ := own_cS 0 (rmCk l Z a0 hw [] (2 : Int32) (4 : Int32) w_F h0 n0 Z0 S_F hwF (by decide : ¬ ((2 : Int32) < (0 : Int32))) (by decide : (2 : Int32) < (4 : Int32))) X0 hx hZ hown hw 73 74 12 75 rfl rfl rfl rfl 3 #[rv r0, iv 2] [(.int 2), (.int 4)] [] (hb hby d15_3) hml (lenOf pd_10 rfl) e0 rfl (Nat.le_refl _) (by decide)
  obtain ⟨rfl, N2q, e2⟩ := hQ2
  have N2 := Fr.app N0 N2q
  have hin3 : ¬ ((2 : Int32) < 0 ∨ cl_z1.slots.size ≤ ((2 : Int32)).toNatClampNeg) := inb_of S_z1 ⟨by decide, by decide⟩
  refine own_out X2 Bd.notSynchronized Bd.returns (some (.int (((((x2.toInt8.toInt32).toInt8.toInt32) &&& (255 : Int32)).toUInt32.toUInt16.toUInt32.toInt32).toUInt32.toUInt16.toUInt32.toInt32))) nofun (by decide) (by decide) ?_ fun fs hr => k0 _ ?_
  · rw [e2]; exact ⟨(congrArg some (congrArg Value.int (own_latc hch_x2 hle_x2))), N2, rfl⟩
  · show OwnS p e below s₁ (mkF m 0 #[rv r0, iv 2] []) _
    refine oIn X0 hx hby d15_0 rfl (oAn X0 hx hby d15_1 rfl rfl ?_)
    refine X0.arraylength hx (by rw [e0]; exact Ar_z1.1) (State.isArrayOf_alike hZ.alike Ar_z1.2.1) (g := (mkF m 2 #[rv r0, iv 2] [(.ref r0), (.int 2)])) rfl rfl (hb hby d15_2) _ ?_
    rw [len_of S_z1 N_z1]
    refine st2 _ ?_
    refine oAn X2 hx hby d15_6 rfl rfl (oIn X2 hx hby d15_7 rfl ?_)
    refine X2.baloadBytes hx (j := (2 : Int32)) (v := (.int ((x2.toInt8.toInt32).toInt8.toInt32))) (by rw [e2]; exact Ar_z1.1) (State.isArrayOf_alike hZ.alike Ar_z1.2.1) Ar_z1.2.2 hin3 (Has.at H_z1 hin3 rfl) (g := (mkF m 8 #[rv r0, iv 2] [(.int 2), (.ref r0)])) rfl rfl (hb hby d15_8) _ ?_
    refine XS.sipush X2.here hx rfl (hb hby d15_9) ?_
    refine XS.iand X2.here hx rfl (hb hby d15_12) rfl ?_
    refine XS.i2c X2.here hx rfl (hb hby d15_13) rfl ?_
    exact retN X2 hx (t := .char) Bd.returns (by simp) (hb hby d15_14) hr
def Q_LC_4_3 (Z : State) (r0 : Addr) (w_F : Value) (kB : ClassId) (x0 x1 x2 x3 : Int32) (h0 : Heap) (n0 : Nat) (v : Option Value) (h : Heap) (L : List Loc) : Prop := v = some (.int x3) ∧ Fr n0 L ∧ h = h0
theorem rmLC_4_3 (l : Launch) (Z : State) (a0 : Array Value) (hw : own_HW a0 Z) (ws : List Jvm.Cond) (r0 : Addr) (w_F : Value) (kB : ClassId) (x0 x1 x2 x3 : Int32) (h0 : Heap) (n0 : Nat) (Z0 : n0 ≤ h0.size) (S_F : Sta Z h0 cS2 cS9 cS3 w_F) (hwF : w_F.isRef = true) (V_r0 : Arv Z h0 r0 kB .byte (4 : Int32) [(.int ((x0.toInt8.toInt32).toInt8.toInt32)), (.int ((x1.toInt8.toInt32).toInt8.toInt32)), (.int ((x2.toInt8.toInt32).toInt8.toInt32)), (.int ((x3.toInt8.toInt32).toInt8.toInt32))] (.int 0)) (hch_x3 : own_ch x3) (hle_x3 : ¬ ((255 : Int32) < x3)) :
    own_M l Z (⟨cS12, "charAt", "([BI)C"⟩ : MethodName) jdk_43_method_2_code 2 (some .char) ws ({ frames := 2, cells := 0, slots := 0, locals := 27 } : Room) #[(.ref r0), (.int 3)] h0 (Q_LC_4_3 Z r0 w_F kB x0 x1 x2 x3 h0 n0) := by
  refine own_in cS12 rfl (plainFor_of_name pn_java_lang_StringLatin1) ?_
  intro p e s m below meth c s₁ Bd hml hZ hh hx hby hown X0 e0
  have N0 := Fr.nil n0
  have k0 := own_k (p := p) (e := e) (below := below) (T := s₁) (ef_15 m r0 (3 : Int32))
  obtain ⟨cl_z1, Ar_z1, q_z1, S_z1, N_z1, H_z1, G_z1⟩ := id V_r0
  obtain ⟨_, T2, L2, X2, hQ2, st2⟩ := own_cS 0 (rmCk l Z a0 hw [] (3 : Int32) (4 : Int32) w_F h0 n0 Z0 S_F hwF (by decide : ¬ ((3 : Int32) < (0 : Int32))) (by decide : (3 : Int32) < (4 : Int32))) X0 hx hZ hown hw 73 74 12 75 rfl rfl rfl rfl 3 #[rv r0, iv 3] [(.int 3), (.int 4)] [] (hb hby d15_3) hml (lenOf pd_10 rfl) e0 rfl (Nat.le_refl _) (by decide)
  obtain ⟨rfl, N2q, e2⟩ := hQ2
  have N2 := Fr.app N0 N2q
  have hin3 : ¬ ((3 : Int32) < 0 ∨ cl_z1.slots.size ≤ ((3 : Int32)).toNatClampNeg) := inb_of S_z1 ⟨by decide, by decide⟩
  refine own_out X2 Bd.notSynchronized Bd.returns (some (.int (((((x3.toInt8.toInt32).toInt8.toInt32) &&& (255 : Int32)).toUInt32.toUInt16.toUInt32.toInt32).toUInt32.toUInt16.toUInt32.toInt32))) nofun (by decide) (by decide) ?_ fun fs hr => k0 _ ?_
  · rw [e2]; exact ⟨(congrArg some (congrArg Value.int (own_latc hch_x3 hle_x3))), N2, rfl⟩
  · show OwnS p e below s₁ (mkF m 0 #[rv r0, iv 3] []) _
    refine oIn X0 hx hby d15_0 rfl (oAn X0 hx hby d15_1 rfl rfl ?_)
    refine X0.arraylength hx (by rw [e0]; exact Ar_z1.1) (State.isArrayOf_alike hZ.alike Ar_z1.2.1) (g := (mkF m 2 #[rv r0, iv 3] [(.ref r0), (.int 3)])) rfl rfl (hb hby d15_2) _ ?_
    rw [len_of S_z1 N_z1]
    refine st2 _ ?_
    refine oAn X2 hx hby d15_6 rfl rfl (oIn X2 hx hby d15_7 rfl ?_)
    refine X2.baloadBytes hx (j := (3 : Int32)) (v := (.int ((x3.toInt8.toInt32).toInt8.toInt32))) (by rw [e2]; exact Ar_z1.1) (State.isArrayOf_alike hZ.alike Ar_z1.2.1) Ar_z1.2.2 hin3 (Has.at H_z1 hin3 rfl) (g := (mkF m 8 #[rv r0, iv 3] [(.int 3), (.ref r0)])) rfl rfl (hb hby d15_8) _ ?_
    refine XS.sipush X2.here hx rfl (hb hby d15_9) ?_
    refine XS.iand X2.here hx rfl (hb hby d15_12) rfl ?_
    refine XS.i2c X2.here hx rfl (hb hby d15_13) rfl ?_
    exact retN X2 hx (t := .char) Bd.returns (by simp) (hb hby d15_14) hr
def Q_UK_4 (Z : State) (p0 : Int32) (r1 : Addr) (w_F : Value) (kB : ClassId) (vs : List Value) (h0 : Heap) (n0 : Nat) (v : Option Value) (h : Heap) (L : List Loc) : Prop := v = none ∧ Fr n0 L ∧ h = h0
theorem rmUK_4 (l : Launch) (Z : State) (a0 : Array Value) (hw : own_HW a0 Z) (ws : List Jvm.Cond) (p0 : Int32) (r1 : Addr) (w_F : Value) (kB : ClassId) (vs : List Value) (h0 : Heap) (n0 : Nat) (Z0 : n0 ≤ h0.size) (S_F : Sta Z h0 cS2 cS9 cS3 w_F) (hwF : w_F.isRef = true) (V_r1 : Arv Z h0 r1 kB .byte (8 : Int32) vs (.int 0)) (hge : ¬ (p0 < (0 : Int32))) (hlt : p0 < (4 : Int32)) :
    own_M l Z (⟨cS0, "checkIndex", "(I[B)V"⟩ : MethodName) jdk_52_method_91_code 2 none ws ({ frames := 2, cells := 0, slots := 0, locals := 27 } : Room) #[(.int p0), (.ref r1)] h0 (Q_UK_4 Z p0 r1 w_F kB vs h0 n0) := by
  refine own_in cS0 rfl (plainFor_of_name pn_java_lang_StringUTF16) ?_
  intro p e s m below meth c s₁ Bd hml hZ hh hx hby hown X0 e0
  have N0 := Fr.nil n0
  have k0 := own_k (p := p) (e := e) (below := below) (T := s₁) (ef_25 m p0 r1)
  obtain ⟨_, T1, L1, X1, hQ1, st1⟩ := own_cS 1 (rmUL_4 l Z a0 hw [] r1 kB vs h0 n0 Z0 V_r1) X0 hx hZ hown hw 109 110 51 111 rfl rfl rfl rfl 2 #[iv p0, rv r1] [(.ref r1)] [(.int p0)] (hb hby d25_2) hml (lenOf pd_11 rfl) e0 rfl (Nat.le_refl _) (by decide)
  obtain ⟨rfl, N1q, e1⟩ := hQ1
  have N1 := Fr.app N0 N1q
  obtain ⟨_, T2, L2, X2, hQ2, st2⟩ := own_cS 0 (rmCk l Z a0 hw [] p0 (4 : Int32) w_F h0 n0 Z0 S_F hwF hge hlt) X1 hx hZ hown hw 112 74 12 75 rfl rfl rfl rfl 5 #[iv p0, rv r1] [(.int p0), (.int 4)] [] (hb hby d25_5) hml (lenOf pd_10 rfl) e1 rfl (Nat.le_refl _) (by decide)
  obtain ⟨rfl, N2q, e2⟩ := hQ2
  have N2 := Fr.app N1 N2q
  refine own_out X2 Bd.notSynchronized Bd.returns (none) (fun _ => rfl) (by decide) (by decide) ?_ fun fs hr => k0 _ ?_
  · rw [e2]; exact ⟨rfl, N2, rfl⟩
  · show OwnS p e below s₁ (mkF m 0 #[iv p0, rv r1] []) _
    refine oIn X0 hx hby d25_0 rfl (oAn X0 hx hby d25_1 rfl rfl ?_)
    refine st1 _ ?_
    refine st2 _ ?_
    exact X2.returnOut hx Bd.returns (hb hby d25_8) hr
def Q_UC_4_0 (Z : State) (r0 : Addr) (w_F : Value) (kB : ClassId) (x0 x1 x2 x3 : Int32) (h0 : Heap) (n0 : Nat) (v : Option Value) (h : Heap) (L : List Loc) : Prop := v = some (.int x0) ∧ Fr n0 L ∧ h = h0
theorem rmUC_4_0 (l : Launch) (Z : State) (a0 : Array Value) (hw : own_HW a0 Z) (ws : List Jvm.Cond) (r0 : Addr) (w_F : Value) (kB : ClassId) (x0 x1 x2 x3 : Int32) (h0 : Heap) (n0 : Nat) (Z0 : n0 ≤ h0.size) (S_F : Sta Z h0 cS2 cS9 cS3 w_F) (hwF : w_F.isRef = true) (S_AD : Sta Z h0 cS0 cS5 "Z" (.int 1)) (S_HI : Sta Z h0 cS0 cS7 "I" (.int 0)) (S_LO : Sta Z h0 cS0 cS8 "I" (.int 8)) (V_r0 : Arv Z h0 r0 kB .byte (8 : Int32) [(.int (((x0 >>> ((0 : Int32) &&& 31)).toInt8.toInt32).toInt8.toInt32)), (.int (((x0 >>> ((8 : Int32) &&& 31)).toInt8.toInt32).toInt8.toInt32)), (.int (((x1 >>> ((0 : Int32) &&& 31)).toInt8.toInt32).toInt8.toInt32)), (.int (((x1 >>> ((8 : Int32) &&& 31)).toInt8.toInt32).toInt8.toInt32)), (.int (((x2 >>> ((0 : Int32) &&& 31)).toInt8.toInt32).toInt8.toInt32)), (.int (((x2 >>> ((8 : Int32) &&& 31)).toInt8.toInt32).toInt8.toInt32)), (.int (((x3 >>> ((0 : Int32) &&& 31)).toInt8.toInt32).toInt8.toInt32)), (.int (((x3 >>> ((8 : Int32) &&& 31)).toInt8.toInt32).toInt8.toInt32))] (.int 0)) (hch_x0 : own_ch x0) :
    own_M l Z (⟨cS0, "charAt", "([BI)C"⟩ : MethodName) jdk_52_method_83_code 2 (some .char) ws ({ frames := 3, cells := 0, slots := 0, locals := 40 } : Room) #[(.ref r0), (.int 0)] h0 (Q_UC_4_0 Z r0 w_F kB x0 x1 x2 x3 h0 n0) := by
  refine own_in cS0 rfl (plainFor_of_name pn_java_lang_StringUTF16) ?_
  intro p e s m below meth c s₁ Bd hml hZ hh hx hby hown X0 e0
  have N0 := Fr.nil n0
  have k0 := own_k (p := p) (e := e) (below := below) (T := s₁) (ef_24 m r0 (0 : Int32))
  obtain ⟨_, T1, L1, X1, hQ1, st1⟩ := own_cS 0 (rmUK_4 l Z a0 hw [] (0 : Int32) r0 w_F kB [(.int (((x0 >>> ((0 : Int32) &&& 31)).toInt8.toInt32).toInt8.toInt32)), (.int (((x0 >>> ((8 : Int32) &&& 31)).toInt8.toInt32).toInt8.toInt32)), (.int (((x1 >>> ((0 : Int32) &&& 31)).toInt8.toInt32).toInt8.toInt32)), (.int (((x1 >>> ((8 : Int32) &&& 31)).toInt8.toInt32).toInt8.toInt32)), (.int (((x2 >>> ((0 : Int32) &&& 31)).toInt8.toInt32).toInt8.toInt32)), (.int (((x2 >>> ((8 : Int32) &&& 31)).toInt8.toInt32).toInt8.toInt32)), (.int (((x3 >>> ((0 : Int32) &&& 31)).toInt8.toInt32).toInt8.toInt32)), (.int (((x3 >>> ((8 : Int32) &&& 31)).toInt8.toInt32).toInt8.toInt32))] h0 n0 Z0 S_F hwF V_r0 (by decide : ¬ ((0 : Int32) < (0 : Int32))) (by decide : (0 : Int32) < (4 : Int32))) X0 hx hZ hown hw 106 107 51 108 rfl rfl rfl rfl 2 #[rv r0, iv 0] [(.int 0), (.ref r0)] [] (hb hby d24_2) hml (lenOf pd_12 rfl) e0 rfl (Nat.le_refl _) (by decide)
  obtain ⟨rfl, N1q, e1⟩ := hQ1
  have N1 := Fr.app N0 N1q
  obtain ⟨_, T2, L2, X2, hQ2, st2⟩ := own_cS 0 (rmGC_4_0 l Z a0 hw [] r0 kB x0 x1 x2 x3 h0 n0 Z0 S_AD S_HI S_LO V_r0 hch_x0) X1 hx hZ hown hw 100 101 51 102 rfl rfl rfl rfl 7 #[rv r0, iv 0] [(.ref r0), (.int 0)] [] (hb hby d24_7) hml (lenOf pd_6 rfl) e1 rfl (Nat.le_refl _) (by decide)
  obtain ⟨rfl, N2q, e2⟩ := hQ2
  have N2 := Fr.app N1 N2q
  refine own_out X2 Bd.notSynchronized Bd.returns (some (.int (x0.toUInt32.toUInt16.toUInt32.toInt32))) nofun (by decide) (by decide) ?_ fun fs hr => k0 _ ?_
  · rw [e2]; exact ⟨(congrArg some (congrArg Value.int (own_i2cid hch_x0))), N2, rfl⟩
  · show OwnS p e below s₁ (mkF m 0 #[rv r0, iv 0] []) _
    refine oIn X0 hx hby d24_0 rfl (oAn X0 hx hby d24_1 rfl rfl ?_)
    refine st1 _ ?_
    refine oAn X1 hx hby d24_5 rfl rfl (oIn X1 hx hby d24_6 rfl ?_)
    refine st2 _ ?_
    exact retN X2 hx (t := .char) Bd.returns (by simp) (hb hby d24_10) hr
def Q_CA_4_0 (Z : State) (r0 : Addr) (w_CS : Int32) (w_F : Value) (x0 x1 x2 x3 : Int32) (h0 : Heap) (n0 : Nat) (v : Option Value) (h : Heap) (L : List Loc) : Prop := v = some (.int x0) ∧ Fr n0 L ∧ h = h0
theorem rmCA_4_0 (l : Launch) (Z : State) (a0 : Array Value) (hw : own_HW a0 Z) (ws : List Jvm.Cond) (r0 : Addr) (w_CS : Int32) (w_F : Value) (x0 x1 x2 x3 : Int32) (h0 : Heap) (n0 : Nat) (Z0 : n0 ≤ h0.size) (S_CS : Sta Z h0 cS1 cS10 "Z" (.int w_CS)) (hcs : ¬ (w_CS = (0 : Int32))) (S_F : Sta Z h0 cS2 cS9 cS3 w_F) (hwF : w_F.isRef = true) (S_AD : Sta Z h0 cS0 cS5 "Z" (.int 1)) (S_HI : Sta Z h0 cS0 cS7 "I" (.int 0)) (S_LO : Sta Z h0 cS0 cS8 "I" (.int 8)) (P_r0 : own_S4 Z h0 r0 x0 x1 x2 x3) (hch_x0 : own_ch x0) :
    own_M l Z (⟨cS1, "charAt", "(I)C"⟩ : MethodName) jdk_42_method_56_code 2 (some .char) ws ({ frames := 4, cells := 0, slots := 0, locals := 53 } : Room) #[(.ref r0), (.int 0)] h0 (Q_CA_4_0 Z r0 w_CS w_F x0 x1 x2 x3 h0 n0) := by
  refine own_in cS1 rfl (plainFor_of_name pn_java_lang_String) ?_
  intro p e s m below meth c s₁ Bd hml hZ hh hx hby hown X0 e0
  have N0 := Fr.nil n0
  have k0 := own_k (p := p) (e := e) (below := below) (T := s₁) (ef_13 m r0 (0 : Int32))
  rcases id P_r0 with ⟨eS, ⟨sA, kS, fC, fV, vA, hl0, hl1, hl2, hl3⟩ | ⟨sA, kS, fC, fV, vA⟩⟩
  · skip
    obtain ⟨_, T1, L1, X1, hQ1, st1⟩ := own_cV 0 (rmIL0 l Z a0 hw [] r0 w_CS h0 n0 Z0 S_CS hcs fC) X0 hx hZ hown hw 64 65 67 66 12 68 rfl rfl rfl rfl rfl rfl r0 eS 1 #[rv r0, iv 0] [] [] (hb hby d13_1) hml (lenOf pd_13 rfl) e0 rfl (Nat.le_refl _) (by decide)
    obtain ⟨rfl, N1q, e1⟩ := hQ1
    have N1 := Fr.app N0 N1q
    obtain ⟨T2, X2, e2, st2⟩ := getF X1 hx hZ hown (host := "") (Or.inl (own_at hw 29 rfl)) Via.refl e1 fV (g := (mkF m 8 #[rv r0, iv 0] [(.ref r0)])) rfl rfl (hb hby d13_8)
    obtain ⟨_, T3, L3, X3, hQ3, st3⟩ := own_cS 0 (rmLC_4_0 l Z a0 hw [] sA w_F kS x0 x1 x2 x3 h0 n0 Z0 S_F hwF vA hch_x0 hl0) X2 hx hZ hown hw 69 70 71 72 rfl rfl rfl rfl 12 #[rv r0, iv 0] [(.ref sA), (.int 0)] [] (hb hby d13_12) hml (lenOf pd_6 rfl) e2 rfl (Nat.le_refl _) (by decide)
    obtain ⟨rfl, N3q, e3⟩ := hQ3
    have N3 := Fr.app N1 N3q
    refine own_out X3 Bd.notSynchronized Bd.returns (some (.int (x0.toUInt32.toUInt16.toUInt32.toInt32))) nofun (by decide) (by decide) ?_ fun fs hr => k0 _ ?_
    · rw [e3]; exact ⟨(congrArg some (congrArg Value.int (own_i2cid hch_x0))), N3, rfl⟩
    · show OwnS p e below s₁ (mkF m 0 #[rv r0, iv 0] []) _
      refine oAn X0 hx hby d13_0 rfl rfl ?_
      refine st1 _ ?_
      refine XS.ifNo X1.here hx rfl (hb hby d13_4) rfl ((if0 _ _).trans (feq (by decide : ¬ ((1 : Int32) = (0 : Int32)))).1) ?_
      refine oAn X1 hx hby d13_7 rfl rfl ?_
      refine st2 _ ?_
      refine oIn X2 hx hby d13_11 rfl ?_
      refine st3 _ ?_
      exact retN X3 hx (t := .char) Bd.returns (by simp) (hb hby d13_15) hr
  · skip
    obtain ⟨_, T4, L4, X4, hQ4, st4⟩ := own_cV 0 (rmIL1 l Z a0 hw [] r0 w_CS h0 n0 Z0 S_CS hcs fC) X0 hx hZ hown hw 64 65 67 66 12 68 rfl rfl rfl rfl rfl rfl r0 eS 1 #[rv r0, iv 0] [] [] (hb hby d13_1) hml (lenOf pd_13 rfl) e0 rfl (Nat.le_refl _) (by decide)
    obtain ⟨rfl, N4q, e4⟩ := hQ4
    have N4 := Fr.app N0 N4q
    obtain ⟨T5, X5, e5, st5⟩ := getF X4 hx hZ hown (host := "") (Or.inl (own_at hw 29 rfl)) Via.refl e4 fV (g := (mkF m 17 #[rv r0, iv 0] [(.ref r0)])) rfl rfl (hb hby d13_17)
    obtain ⟨_, T6, L6, X6, hQ6, st6⟩ := own_cS 0 (rmUC_4_0 l Z a0 hw [] sA w_F kS x0 x1 x2 x3 h0 n0 Z0 S_F hwF S_AD S_HI S_LO vA hch_x0) X5 hx hZ hown hw 103 104 51 105 rfl rfl rfl rfl 21 #[rv r0, iv 0] [(.ref sA), (.int 0)] [] (hb hby d13_21) hml (lenOf pd_6 rfl) e5 rfl (Nat.le_refl _) (by decide)
    obtain ⟨rfl, N6q, e6⟩ := hQ6
    have N6 := Fr.app N4 N6q
    refine own_out X6 Bd.notSynchronized Bd.returns (some (.int (x0.toUInt32.toUInt16.toUInt32.toInt32))) nofun (by decide) (by decide) ?_ fun fs hr => k0 _ ?_
    · rw [e6]; exact ⟨(congrArg some (congrArg Value.int (own_i2cid hch_x0))), N6, rfl⟩
    · show OwnS p e below s₁ (mkF m 0 #[rv r0, iv 0] []) _
      refine oAn X0 hx hby d13_0 rfl rfl ?_
      refine st4 _ ?_
      refine XS.ifYes X4.here hx rfl (pc0 := 4) (pc' := 16) rfl (hb hby d13_4) rfl ((if0 _ _).trans (teq (by decide : (0 : Int32) = (0 : Int32))).1) (by decide) (by decide) ?_
      refine oAn X4 hx hby d13_16 rfl rfl ?_
      refine st5 _ ?_
      refine oIn X5 hx hby d13_20 rfl ?_
      refine st6 _ ?_
      exact retN X6 hx (t := .char) Bd.returns (by simp) (hb hby d13_24) hr
def Q_UC_4_1 (Z : State) (r0 : Addr) (w_F : Value) (kB : ClassId) (x0 x1 x2 x3 : Int32) (h0 : Heap) (n0 : Nat) (v : Option Value) (h : Heap) (L : List Loc) : Prop := v = some (.int x1) ∧ Fr n0 L ∧ h = h0
theorem rmUC_4_1 (l : Launch) (Z : State) (a0 : Array Value) (hw : own_HW a0 Z) (ws : List Jvm.Cond) (r0 : Addr) (w_F : Value) (kB : ClassId) (x0 x1 x2 x3 : Int32) (h0 : Heap) (n0 : Nat) (Z0 : n0 ≤ h0.size) (S_F : Sta Z h0 cS2 cS9 cS3 w_F) (hwF : w_F.isRef = true) (S_AD : Sta Z h0 cS0 cS5 "Z" (.int 1)) (S_HI : Sta Z h0 cS0 cS7 "I" (.int 0)) (S_LO : Sta Z h0 cS0 cS8 "I" (.int 8)) (V_r0 : Arv Z h0 r0 kB .byte (8 : Int32) [(.int (((x0 >>> ((0 : Int32) &&& 31)).toInt8.toInt32).toInt8.toInt32)), (.int (((x0 >>> ((8 : Int32) &&& 31)).toInt8.toInt32).toInt8.toInt32)), (.int (((x1 >>> ((0 : Int32) &&& 31)).toInt8.toInt32).toInt8.toInt32)), (.int (((x1 >>> ((8 : Int32) &&& 31)).toInt8.toInt32).toInt8.toInt32)), (.int (((x2 >>> ((0 : Int32) &&& 31)).toInt8.toInt32).toInt8.toInt32)), (.int (((x2 >>> ((8 : Int32) &&& 31)).toInt8.toInt32).toInt8.toInt32)), (.int (((x3 >>> ((0 : Int32) &&& 31)).toInt8.toInt32).toInt8.toInt32)), (.int (((x3 >>> ((8 : Int32) &&& 31)).toInt8.toInt32).toInt8.toInt32))] (.int 0)) (hch_x1 : own_ch x1) :
    own_M l Z (⟨cS0, "charAt", "([BI)C"⟩ : MethodName) jdk_52_method_83_code 2 (some .char) ws ({ frames := 3, cells := 0, slots := 0, locals := 40 } : Room) #[(.ref r0), (.int 1)] h0 (Q_UC_4_1 Z r0 w_F kB x0 x1 x2 x3 h0 n0) := by
  refine own_in cS0 rfl (plainFor_of_name pn_java_lang_StringUTF16) ?_
  intro p e s m below meth c s₁ Bd hml hZ hh hx hby hown X0 e0
  have N0 := Fr.nil n0
  have k0 := own_k (p := p) (e := e) (below := below) (T := s₁) (ef_24 m r0 (1 : Int32))
  obtain ⟨_, T1, L1, X1, hQ1, st1⟩ := own_cS 0 (rmUK_4 l Z a0 hw [] (1 : Int32) r0 w_F kB [(.int (((x0 >>> ((0 : Int32) &&& 31)).toInt8.toInt32).toInt8.toInt32)), (.int (((x0 >>> ((8 : Int32) &&& 31)).toInt8.toInt32).toInt8.toInt32)), (.int (((x1 >>> ((0 : Int32) &&& 31)).toInt8.toInt32).toInt8.toInt32)), (.int (((x1 >>> ((8 : Int32) &&& 31)).toInt8.toInt32).toInt8.toInt32)), (.int (((x2 >>> ((0 : Int32) &&& 31)).toInt8.toInt32).toInt8.toInt32)), (.int (((x2 >>> ((8 : Int32) &&& 31)).toInt8.toInt32).toInt8.toInt32)), (.int (((x3 >>> ((0 : Int32) &&& 31)).toInt8.toInt32).toInt8.toInt32)), (.int (((x3 >>> ((8 : Int32) &&& 31)).toInt8.toInt32).toInt8.toInt32))] h0 n0 Z0 S_F hwF V_r0 (by decide : ¬ ((1 : Int32) < (0 : Int32))) (by decide : (1 : Int32) < (4 : Int32))) X0 hx hZ hown hw 106 107 51 108 rfl rfl rfl rfl 2 #[rv r0, iv 1] [(.int 1), (.ref r0)] [] (hb hby d24_2) hml (lenOf pd_12 rfl) e0 rfl (Nat.le_refl _) (by decide)
  obtain ⟨rfl, N1q, e1⟩ := hQ1
  have N1 := Fr.app N0 N1q
  obtain ⟨_, T2, L2, X2, hQ2, st2⟩ := own_cS 0 (rmGC_4_1 l Z a0 hw [] r0 kB x0 x1 x2 x3 h0 n0 Z0 S_AD S_HI S_LO V_r0 hch_x1) X1 hx hZ hown hw 100 101 51 102 rfl rfl rfl rfl 7 #[rv r0, iv 1] [(.ref r0), (.int 1)] [] (hb hby d24_7) hml (lenOf pd_6 rfl) e1 rfl (Nat.le_refl _) (by decide)
  obtain ⟨rfl, N2q, e2⟩ := hQ2
  have N2 := Fr.app N1 N2q
  refine own_out X2 Bd.notSynchronized Bd.returns (some (.int (x1.toUInt32.toUInt16.toUInt32.toInt32))) nofun (by decide) (by decide) ?_ fun fs hr => k0 _ ?_
  · rw [e2]; exact ⟨(congrArg some (congrArg Value.int (own_i2cid hch_x1))), N2, rfl⟩
  · show OwnS p e below s₁ (mkF m 0 #[rv r0, iv 1] []) _
    refine oIn X0 hx hby d24_0 rfl (oAn X0 hx hby d24_1 rfl rfl ?_)
    refine st1 _ ?_
    refine oAn X1 hx hby d24_5 rfl rfl (oIn X1 hx hby d24_6 rfl ?_)
    refine st2 _ ?_
    exact retN X2 hx (t := .char) Bd.returns (by simp) (hb hby d24_10) hr
def Q_CA_4_1 (Z : State) (r0 : Addr) (w_CS : Int32) (w_F : Value) (x0 x1 x2 x3 : Int32) (h0 : Heap) (n0 : Nat) (v : Option Value) (h : Heap) (L : List Loc) : Prop := v = some (.int x1) ∧ Fr n0 L ∧ h = h0
theorem rmCA_4_1 (l : Launch) (Z : State) (a0 : Array Value) (hw : own_HW a0 Z) (ws : List Jvm.Cond) (r0 : Addr) (w_CS : Int32) (w_F : Value) (x0 x1 x2 x3 : Int32) (h0 : Heap) (n0 : Nat) (Z0 : n0 ≤ h0.size) (S_CS : Sta Z h0 cS1 cS10 "Z" (.int w_CS)) (hcs : ¬ (w_CS = (0 : Int32))) (S_F : Sta Z h0 cS2 cS9 cS3 w_F) (hwF : w_F.isRef = true) (S_AD : Sta Z h0 cS0 cS5 "Z" (.int 1)) (S_HI : Sta Z h0 cS0 cS7 "I" (.int 0)) (S_LO : Sta Z h0 cS0 cS8 "I" (.int 8)) (P_r0 : own_S4 Z h0 r0 x0 x1 x2 x3) (hch_x1 : own_ch x1) :
    own_M l Z (⟨cS1, "charAt", "(I)C"⟩ : MethodName) jdk_42_method_56_code 2 (some .char) ws ({ frames := 4, cells := 0, slots := 0, locals := 53 } : Room) #[(.ref r0), (.int 1)] h0 (Q_CA_4_1 Z r0 w_CS w_F x0 x1 x2 x3 h0 n0) := by
  refine own_in cS1 rfl (plainFor_of_name pn_java_lang_String) ?_
  intro p e s m below meth c s₁ Bd hml hZ hh hx hby hown X0 e0
  have N0 := Fr.nil n0
  have k0 := own_k (p := p) (e := e) (below := below) (T := s₁) (ef_13 m r0 (1 : Int32))
  rcases id P_r0 with ⟨eS, ⟨sA, kS, fC, fV, vA, hl0, hl1, hl2, hl3⟩ | ⟨sA, kS, fC, fV, vA⟩⟩
  · skip
    obtain ⟨_, T1, L1, X1, hQ1, st1⟩ := own_cV 0 (rmIL0 l Z a0 hw [] r0 w_CS h0 n0 Z0 S_CS hcs fC) X0 hx hZ hown hw 64 65 67 66 12 68 rfl rfl rfl rfl rfl rfl r0 eS 1 #[rv r0, iv 1] [] [] (hb hby d13_1) hml (lenOf pd_13 rfl) e0 rfl (Nat.le_refl _) (by decide)
    obtain ⟨rfl, N1q, e1⟩ := hQ1
    have N1 := Fr.app N0 N1q
    obtain ⟨T2, X2, e2, st2⟩ := getF X1 hx hZ hown (host := "") (Or.inl (own_at hw 29 rfl)) Via.refl e1 fV (g := (mkF m 8 #[rv r0, iv 1] [(.ref r0)])) rfl rfl (hb hby d13_8)
    obtain ⟨_, T3, L3, X3, hQ3, st3⟩ := own_cS 0 (rmLC_4_1 l Z a0 hw [] sA w_F kS x0 x1 x2 x3 h0 n0 Z0 S_F hwF vA hch_x1 hl1) X2 hx hZ hown hw 69 70 71 72 rfl rfl rfl rfl 12 #[rv r0, iv 1] [(.ref sA), (.int 1)] [] (hb hby d13_12) hml (lenOf pd_6 rfl) e2 rfl (Nat.le_refl _) (by decide)
    obtain ⟨rfl, N3q, e3⟩ := hQ3
    have N3 := Fr.app N1 N3q
    refine own_out X3 Bd.notSynchronized Bd.returns (some (.int (x1.toUInt32.toUInt16.toUInt32.toInt32))) nofun (by decide) (by decide) ?_ fun fs hr => k0 _ ?_
    · rw [e3]; exact ⟨(congrArg some (congrArg Value.int (own_i2cid hch_x1))), N3, rfl⟩
    · show OwnS p e below s₁ (mkF m 0 #[rv r0, iv 1] []) _
      refine oAn X0 hx hby d13_0 rfl rfl ?_
      refine st1 _ ?_
      refine XS.ifNo X1.here hx rfl (hb hby d13_4) rfl ((if0 _ _).trans (feq (by decide : ¬ ((1 : Int32) = (0 : Int32)))).1) ?_
      refine oAn X1 hx hby d13_7 rfl rfl ?_
      refine st2 _ ?_
      refine oIn X2 hx hby d13_11 rfl ?_
      refine st3 _ ?_
      exact retN X3 hx (t := .char) Bd.returns (by simp) (hb hby d13_15) hr
  · skip
    obtain ⟨_, T4, L4, X4, hQ4, st4⟩ := own_cV 0 (rmIL1 l Z a0 hw [] r0 w_CS h0 n0 Z0 S_CS hcs fC) X0 hx hZ hown hw 64 65 67 66 12 68 rfl rfl rfl rfl rfl rfl r0 eS 1 #[rv r0, iv 1] [] [] (hb hby d13_1) hml (lenOf pd_13 rfl) e0 rfl (Nat.le_refl _) (by decide)
    obtain ⟨rfl, N4q, e4⟩ := hQ4
    have N4 := Fr.app N0 N4q
    obtain ⟨T5, X5, e5, st5⟩ := getF X4 hx hZ hown (host := "") (Or.inl (own_at hw 29 rfl)) Via.refl e4 fV (g := (mkF m 17 #[rv r0, iv 1] [(.ref r0)])) rfl rfl (hb hby d13_17)
    obtain ⟨_, T6, L6, X6, hQ6, st6⟩ := own_cS 0 (rmUC_4_1 l Z a0 hw [] sA w_F kS x0 x1 x2 x3 h0 n0 Z0 S_F hwF S_AD S_HI S_LO vA hch_x1) X5 hx hZ hown hw 103 104 51 105 rfl rfl rfl rfl 21 #[rv r0, iv 1] [(.ref sA), (.int 1)] [] (hb hby d13_21) hml (lenOf pd_6 rfl) e5 rfl (Nat.le_refl _) (by decide)
    obtain ⟨rfl, N6q, e6⟩ := hQ6
    have N6 := Fr.app N4 N6q
    refine own_out X6 Bd.notSynchronized Bd.returns (some (.int (x1.toUInt32.toUInt16.toUInt32.toInt32))) nofun (by decide) (by decide) ?_ fun fs hr => k0 _ ?_
    · rw [e6]; exact ⟨(congrArg some (congrArg Value.int (own_i2cid hch_x1))), N6, rfl⟩
    · show OwnS p e below s₁ (mkF m 0 #[rv r0, iv 1] []) _
      refine oAn X0 hx hby d13_0 rfl rfl ?_
      refine st4 _ ?_
      refine XS.ifYes X4.here hx rfl (pc0 := 4) (pc' := 16) rfl (hb hby d13_4) rfl ((if0 _ _).trans (teq (by decide : (0 : Int32) = (0 : Int32))).1) (by decide) (by decide) ?_
      refine oAn X4 hx hby d13_16 rfl rfl ?_
      refine st5 _ ?_
      refine oIn X5 hx hby d13_20 rfl ?_
      refine st6 _ ?_
      exact retN X6 hx (t := .char) Bd.returns (by simp) (hb hby d13_24) hr
def Q_UC_4_2 (Z : State) (r0 : Addr) (w_F : Value) (kB : ClassId) (x0 x1 x2 x3 : Int32) (h0 : Heap) (n0 : Nat) (v : Option Value) (h : Heap) (L : List Loc) : Prop := v = some (.int x2) ∧ Fr n0 L ∧ h = h0
theorem rmUC_4_2 (l : Launch) (Z : State) (a0 : Array Value) (hw : own_HW a0 Z) (ws : List Jvm.Cond) (r0 : Addr) (w_F : Value) (kB : ClassId) (x0 x1 x2 x3 : Int32) (h0 : Heap) (n0 : Nat) (Z0 : n0 ≤ h0.size) (S_F : Sta Z h0 cS2 cS9 cS3 w_F) (hwF : w_F.isRef = true) (S_AD : Sta Z h0 cS0 cS5 "Z" (.int 1)) (S_HI : Sta Z h0 cS0 cS7 "I" (.int 0)) (S_LO : Sta Z h0 cS0 cS8 "I" (.int 8)) (V_r0 : Arv Z h0 r0 kB .byte (8 : Int32) [(.int (((x0 >>> ((0 : Int32) &&& 31)).toInt8.toInt32).toInt8.toInt32)), (.int (((x0 >>> ((8 : Int32) &&& 31)).toInt8.toInt32).toInt8.toInt32)), (.int (((x1 >>> ((0 : Int32) &&& 31)).toInt8.toInt32).toInt8.toInt32)), (.int (((x1 >>> ((8 : Int32) &&& 31)).toInt8.toInt32).toInt8.toInt32)), (.int (((x2 >>> ((0 : Int32) &&& 31)).toInt8.toInt32).toInt8.toInt32)), (.int (((x2 >>> ((8 : Int32) &&& 31)).toInt8.toInt32).toInt8.toInt32)), (.int (((x3 >>> ((0 : Int32) &&& 31)).toInt8.toInt32).toInt8.toInt32)), (.int (((x3 >>> ((8 : Int32) &&& 31)).toInt8.toInt32).toInt8.toInt32))] (.int 0)) (hch_x2 : own_ch x2) :
    own_M l Z (⟨cS0, "charAt", "([BI)C"⟩ : MethodName) jdk_52_method_83_code 2 (some .char) ws ({ frames := 3, cells := 0, slots := 0, locals := 40 } : Room) #[(.ref r0), (.int 2)] h0 (Q_UC_4_2 Z r0 w_F kB x0 x1 x2 x3 h0 n0) := by
  refine own_in cS0 rfl (plainFor_of_name pn_java_lang_StringUTF16) ?_
  intro p e s m below meth c s₁ Bd hml hZ hh hx hby hown X0 e0
  have N0 := Fr.nil n0
  have k0 := own_k (p := p) (e := e) (below := below) (T := s₁) (ef_24 m r0 (2 : Int32))
  obtain ⟨_, T1, L1, X1, hQ1, st1⟩ := own_cS 0 (rmUK_4 l Z a0 hw [] (2 : Int32) r0 w_F kB [(.int (((x0 >>> ((0 : Int32) &&& 31)).toInt8.toInt32).toInt8.toInt32)), (.int (((x0 >>> ((8 : Int32) &&& 31)).toInt8.toInt32).toInt8.toInt32)), (.int (((x1 >>> ((0 : Int32) &&& 31)).toInt8.toInt32).toInt8.toInt32)), (.int (((x1 >>> ((8 : Int32) &&& 31)).toInt8.toInt32).toInt8.toInt32)), (.int (((x2 >>> ((0 : Int32) &&& 31)).toInt8.toInt32).toInt8.toInt32)), (.int (((x2 >>> ((8 : Int32) &&& 31)).toInt8.toInt32).toInt8.toInt32)), (.int (((x3 >>> ((0 : Int32) &&& 31)).toInt8.toInt32).toInt8.toInt32)), (.int (((x3 >>> ((8 : Int32) &&& 31)).toInt8.toInt32).toInt8.toInt32))] h0 n0 Z0 S_F hwF V_r0 (by decide : ¬ ((2 : Int32) < (0 : Int32))) (by decide : (2 : Int32) < (4 : Int32))) X0 hx hZ hown hw 106 107 51 108 rfl rfl rfl rfl 2 #[rv r0, iv 2] [(.int 2), (.ref r0)] [] (hb hby d24_2) hml (lenOf pd_12 rfl) e0 rfl (Nat.le_refl _) (by decide)
  obtain ⟨rfl, N1q, e1⟩ := hQ1
  have N1 := Fr.app N0 N1q
  obtain ⟨_, T2, L2, X2, hQ2, st2⟩ := own_cS 0 (rmGC_4_2 l Z a0 hw [] r0 kB x0 x1 x2 x3 h0 n0 Z0 S_AD S_HI S_LO V_r0 hch_x2) X1 hx hZ hown hw 100 101 51 102 rfl rfl rfl rfl 7 #[rv r0, iv 2] [(.ref r0), (.int 2)] [] (hb hby d24_7) hml (lenOf pd_6 rfl) e1 rfl (Nat.le_refl _) (by decide)
  obtain ⟨rfl, N2q, e2⟩ := hQ2
  have N2 := Fr.app N1 N2q
  refine own_out X2 Bd.notSynchronized Bd.returns (some (.int (x2.toUInt32.toUInt16.toUInt32.toInt32))) nofun (by decide) (by decide) ?_ fun fs hr => k0 _ ?_
  · rw [e2]; exact ⟨(congrArg some (congrArg Value.int (own_i2cid hch_x2))), N2, rfl⟩
  · show OwnS p e below s₁ (mkF m 0 #[rv r0, iv 2] []) _
    refine oIn X0 hx hby d24_0 rfl (oAn X0 hx hby d24_1 rfl rfl ?_)
    refine st1 _ ?_
    refine oAn X1 hx hby d24_5 rfl rfl (oIn X1 hx hby d24_6 rfl ?_)
    refine st2 _ ?_
    exact retN X2 hx (t := .char) Bd.returns (by simp) (hb hby d24_10) hr
def Q_CA_4_2 (Z : State) (r0 : Addr) (w_CS : Int32) (w_F : Value) (x0 x1 x2 x3 : Int32) (h0 : Heap) (n0 : Nat) (v : Option Value) (h : Heap) (L : List Loc) : Prop := v = some (.int x2) ∧ Fr n0 L ∧ h = h0
theorem rmCA_4_2 (l : Launch) (Z : State) (a0 : Array Value) (hw : own_HW a0 Z) (ws : List Jvm.Cond) (r0 : Addr) (w_CS : Int32) (w_F : Value) (x0 x1 x2 x3 : Int32) (h0 : Heap) (n0 : Nat) (Z0 : n0 ≤ h0.size) (S_CS : Sta Z h0 cS1 cS10 "Z" (.int w_CS)) (hcs : ¬ (w_CS = (0 : Int32))) (S_F : Sta Z h0 cS2 cS9 cS3 w_F) (hwF : w_F.isRef = true) (S_AD : Sta Z h0 cS0 cS5 "Z" (.int 1)) (S_HI : Sta Z h0 cS0 cS7 "I" (.int 0)) (S_LO : Sta Z h0 cS0 cS8 "I" (.int 8)) (P_r0 : own_S4 Z h0 r0 x0 x1 x2 x3) (hch_x2 : own_ch x2) :
    own_M l Z (⟨cS1, "charAt", "(I)C"⟩ : MethodName) jdk_42_method_56_code 2 (some .char) ws ({ frames := 4, cells := 0, slots := 0, locals := 53 } : Room) #[(.ref r0), (.int 2)] h0 (Q_CA_4_2 Z r0 w_CS w_F x0 x1 x2 x3 h0 n0) := by
  refine own_in cS1 rfl (plainFor_of_name pn_java_lang_String) ?_
  intro p e s m below meth c s₁ Bd hml hZ hh hx hby hown X0 e0
  have N0 := Fr.nil n0
  have k0 := own_k (p := p) (e := e) (below := below) (T := s₁) (ef_13 m r0 (2 : Int32))
  rcases id P_r0 with ⟨eS, ⟨sA, kS, fC, fV, vA, hl0, hl1, hl2, hl3⟩ | ⟨sA, kS, fC, fV, vA⟩⟩
  · skip
    obtain ⟨_, T1, L1, X1, hQ1, st1⟩ := own_cV 0 (rmIL0 l Z a0 hw [] r0 w_CS h0 n0 Z0 S_CS hcs fC) X0 hx hZ hown hw 64 65 67 66 12 68 rfl rfl rfl rfl rfl rfl r0 eS 1 #[rv r0, iv 2] [] [] (hb hby d13_1) hml (lenOf pd_13 rfl) e0 rfl (Nat.le_refl _) (by decide)
    obtain ⟨rfl, N1q, e1⟩ := hQ1
    have N1 := Fr.app N0 N1q
    obtain ⟨T2, X2, e2, st2⟩ := getF X1 hx hZ hown (host := "") (Or.inl (own_at hw 29 rfl)) Via.refl e1 fV (g := (mkF m 8 #[rv r0, iv 2] [(.ref r0)])) rfl rfl (hb hby d13_8)
    obtain ⟨_, T3, L3, X3, hQ3, st3⟩ := own_cS 0 (rmLC_4_2 l Z a0 hw [] sA w_F kS x0 x1 x2 x3 h0 n0 Z0 S_F hwF vA hch_x2 hl2) X2 hx hZ hown hw 69 70 71 72 rfl rfl rfl rfl 12 #[rv r0, iv 2] [(.ref sA), (.int 2)] [] (hb hby d13_12) hml (lenOf pd_6 rfl) e2 rfl (Nat.le_refl _) (by decide)
    obtain ⟨rfl, N3q, e3⟩ := hQ3
    have N3 := Fr.app N1 N3q
    refine own_out X3 Bd.notSynchronized Bd.returns (some (.int (x2.toUInt32.toUInt16.toUInt32.toInt32))) nofun (by decide) (by decide) ?_ fun fs hr => k0 _ ?_
    · rw [e3]; exact ⟨(congrArg some (congrArg Value.int (own_i2cid hch_x2))), N3, rfl⟩
    · show OwnS p e below s₁ (mkF m 0 #[rv r0, iv 2] []) _
      refine oAn X0 hx hby d13_0 rfl rfl ?_
      refine st1 _ ?_
      refine XS.ifNo X1.here hx rfl (hb hby d13_4) rfl ((if0 _ _).trans (feq (by decide : ¬ ((1 : Int32) = (0 : Int32)))).1) ?_
      refine oAn X1 hx hby d13_7 rfl rfl ?_
      refine st2 _ ?_
      refine oIn X2 hx hby d13_11 rfl ?_
      refine st3 _ ?_
      exact retN X3 hx (t := .char) Bd.returns (by simp) (hb hby d13_15) hr
  · skip
    obtain ⟨_, T4, L4, X4, hQ4, st4⟩ := own_cV 0 (rmIL1 l Z a0 hw [] r0 w_CS h0 n0 Z0 S_CS hcs fC) X0 hx hZ hown hw 64 65 67 66 12 68 rfl rfl rfl rfl rfl rfl r0 eS 1 #[rv r0, iv 2] [] [] (hb hby d13_1) hml (lenOf pd_13 rfl) e0 rfl (Nat.le_refl _) (by decide)
    obtain ⟨rfl, N4q, e4⟩ := hQ4
    have N4 := Fr.app N0 N4q
    obtain ⟨T5, X5, e5, st5⟩ := getF X4 hx hZ hown (host := "") (Or.inl (own_at hw 29 rfl)) Via.refl e4 fV (g := (mkF m 17 #[rv r0, iv 2] [(.ref r0)])) rfl rfl (hb hby d13_17)
    obtain ⟨_, T6, L6, X6, hQ6, st6⟩ := own_cS 0 (rmUC_4_2 l Z a0 hw [] sA w_F kS x0 x1 x2 x3 h0 n0 Z0 S_F hwF S_AD S_HI S_LO vA hch_x2) X5 hx hZ hown hw 103 104 51 105 rfl rfl rfl rfl 21 #[rv r0, iv 2] [(.ref sA), (.int 2)] [] (hb hby d13_21) hml (lenOf pd_6 rfl) e5 rfl (Nat.le_refl _) (by decide)
    obtain ⟨rfl, N6q, e6⟩ := hQ6
    have N6 := Fr.app N4 N6q
    refine own_out X6 Bd.notSynchronized Bd.returns (some (.int (x2.toUInt32.toUInt16.toUInt32.toInt32))) nofun (by decide) (by decide) ?_ fun fs hr => k0 _ ?_
    · rw [e6]; exact ⟨(congrArg some (congrArg Value.int (own_i2cid hch_x2))), N6, rfl⟩
    · show OwnS p e below s₁ (mkF m 0 #[rv r0, iv 2] []) _
      refine oAn X0 hx hby d13_0 rfl rfl ?_
      refine st4 _ ?_
      refine XS.ifYes X4.here hx rfl (pc0 := 4) (pc' := 16) rfl (hb hby d13_4) rfl ((if0 _ _).trans (teq (by decide : (0 : Int32) = (0 : Int32))).1) (by decide) (by decide) ?_
      refine oAn X4 hx hby d13_16 rfl rfl ?_
      refine st5 _ ?_
      refine oIn X5 hx hby d13_20 rfl ?_
      refine st6 _ ?_
      exact retN X6 hx (t := .char) Bd.returns (by simp) (hb hby d13_24) hr
def Q_UC_4_3 (Z : State) (r0 : Addr) (w_F : Value) (kB : ClassId) (x0 x1 x2 x3 : Int32) (h0 : Heap) (n0 : Nat) (v : Option Value) (h : Heap) (L : List Loc) : Prop := v = some (.int x3) ∧ Fr n0 L ∧ h = h0
theorem rmUC_4_3 (l : Launch) (Z : State) (a0 : Array Value) (hw : own_HW a0 Z) (ws : List Jvm.Cond) (r0 : Addr) (w_F : Value) (kB : ClassId) (x0 x1 x2 x3 : Int32) (h0 : Heap) (n0 : Nat) (Z0 : n0 ≤ h0.size) (S_F : Sta Z h0 cS2 cS9 cS3 w_F) (hwF : w_F.isRef = true) (S_AD : Sta Z h0 cS0 cS5 "Z" (.int 1)) (S_HI : Sta Z h0 cS0 cS7 "I" (.int 0)) (S_LO : Sta Z h0 cS0 cS8 "I" (.int 8)) (V_r0 : Arv Z h0 r0 kB .byte (8 : Int32) [(.int (((x0 >>> ((0 : Int32) &&& 31)).toInt8.toInt32).toInt8.toInt32)), (.int (((x0 >>> ((8 : Int32) &&& 31)).toInt8.toInt32).toInt8.toInt32)), (.int (((x1 >>> ((0 : Int32) &&& 31)).toInt8.toInt32).toInt8.toInt32)), (.int (((x1 >>> ((8 : Int32) &&& 31)).toInt8.toInt32).toInt8.toInt32)), (.int (((x2 >>> ((0 : Int32) &&& 31)).toInt8.toInt32).toInt8.toInt32)), (.int (((x2 >>> ((8 : Int32) &&& 31)).toInt8.toInt32).toInt8.toInt32)), (.int (((x3 >>> ((0 : Int32) &&& 31)).toInt8.toInt32).toInt8.toInt32)), (.int (((x3 >>> ((8 : Int32) &&& 31)).toInt8.toInt32).toInt8.toInt32))] (.int 0)) (hch_x3 : own_ch x3) :
    own_M l Z (⟨cS0, "charAt", "([BI)C"⟩ : MethodName) jdk_52_method_83_code 2 (some .char) ws ({ frames := 3, cells := 0, slots := 0, locals := 40 } : Room) #[(.ref r0), (.int 3)] h0 (Q_UC_4_3 Z r0 w_F kB x0 x1 x2 x3 h0 n0) := by
  refine own_in cS0 rfl (plainFor_of_name pn_java_lang_StringUTF16) ?_
  intro p e s m below meth c s₁ Bd hml hZ hh hx hby hown X0 e0
  have N0 := Fr.nil n0
  have k0 := own_k (p := p) (e := e) (below := below) (T := s₁) (ef_24 m r0 (3 : Int32))
  obtain ⟨_, T1, L1, X1, hQ1, st1⟩ := own_cS 0 (rmUK_4 l Z a0 hw [] (3 : Int32) r0 w_F kB [(.int (((x0 >>> ((0 : Int32) &&& 31)).toInt8.toInt32).toInt8.toInt32)), (.int (((x0 >>> ((8 : Int32) &&& 31)).toInt8.toInt32).toInt8.toInt32)), (.int (((x1 >>> ((0 : Int32) &&& 31)).toInt8.toInt32).toInt8.toInt32)), (.int (((x1 >>> ((8 : Int32) &&& 31)).toInt8.toInt32).toInt8.toInt32)), (.int (((x2 >>> ((0 : Int32) &&& 31)).toInt8.toInt32).toInt8.toInt32)), (.int (((x2 >>> ((8 : Int32) &&& 31)).toInt8.toInt32).toInt8.toInt32)), (.int (((x3 >>> ((0 : Int32) &&& 31)).toInt8.toInt32).toInt8.toInt32)), (.int (((x3 >>> ((8 : Int32) &&& 31)).toInt8.toInt32).toInt8.toInt32))] h0 n0 Z0 S_F hwF V_r0 (by decide : ¬ ((3 : Int32) < (0 : Int32))) (by decide : (3 : Int32) < (4 : Int32))) X0 hx hZ hown hw 106 107 51 108 rfl rfl rfl rfl 2 #[rv r0, iv 3] [(.int 3), (.ref r0)] [] (hb hby d24_2) hml (lenOf pd_12 rfl) e0 rfl (Nat.le_refl _) (by decide)
  obtain ⟨rfl, N1q, e1⟩ := hQ1
  have N1 := Fr.app N0 N1q
  obtain ⟨_, T2, L2, X2, hQ2, st2⟩ := own_cS 0 (rmGC_4_3 l Z a0 hw [] r0 kB x0 x1 x2 x3 h0 n0 Z0 S_AD S_HI S_LO V_r0 hch_x3) X1 hx hZ hown hw 100 101 51 102 rfl rfl rfl rfl 7 #[rv r0, iv 3] [(.ref r0), (.int 3)] [] (hb hby d24_7) hml (lenOf pd_6 rfl) e1 rfl (Nat.le_refl _) (by decide)
  obtain ⟨rfl, N2q, e2⟩ := hQ2
  have N2 := Fr.app N1 N2q
  refine own_out X2 Bd.notSynchronized Bd.returns (some (.int (x3.toUInt32.toUInt16.toUInt32.toInt32))) nofun (by decide) (by decide) ?_ fun fs hr => k0 _ ?_
  · rw [e2]; exact ⟨(congrArg some (congrArg Value.int (own_i2cid hch_x3))), N2, rfl⟩
  · show OwnS p e below s₁ (mkF m 0 #[rv r0, iv 3] []) _
    refine oIn X0 hx hby d24_0 rfl (oAn X0 hx hby d24_1 rfl rfl ?_)
    refine st1 _ ?_
    refine oAn X1 hx hby d24_5 rfl rfl (oIn X1 hx hby d24_6 rfl ?_)
    refine st2 _ ?_
    exact retN X2 hx (t := .char) Bd.returns (by simp) (hb hby d24_10) hr
def Q_CA_4_3 (Z : State) (r0 : Addr) (w_CS : Int32) (w_F : Value) (x0 x1 x2 x3 : Int32) (h0 : Heap) (n0 : Nat) (v : Option Value) (h : Heap) (L : List Loc) : Prop := v = some (.int x3) ∧ Fr n0 L ∧ h = h0
theorem rmCA_4_3 (l : Launch) (Z : State) (a0 : Array Value) (hw : own_HW a0 Z) (ws : List Jvm.Cond) (r0 : Addr) (w_CS : Int32) (w_F : Value) (x0 x1 x2 x3 : Int32) (h0 : Heap) (n0 : Nat) (Z0 : n0 ≤ h0.size) (S_CS : Sta Z h0 cS1 cS10 "Z" (.int w_CS)) (hcs : ¬ (w_CS = (0 : Int32))) (S_F : Sta Z h0 cS2 cS9 cS3 w_F) (hwF : w_F.isRef = true) (S_AD : Sta Z h0 cS0 cS5 "Z" (.int 1)) (S_HI : Sta Z h0 cS0 cS7 "I" (.int 0)) (S_LO : Sta Z h0 cS0 cS8 "I" (.int 8)) (P_r0 : own_S4 Z h0 r0 x0 x1 x2 x3) (hch_x3 : own_ch x3) :
    own_M l Z (⟨cS1, "charAt", "(I)C"⟩ : MethodName) jdk_42_method_56_code 2 (some .char) ws ({ frames := 4, cells := 0, slots := 0, locals := 53 } : Room) #[(.ref r0), (.int 3)] h0 (Q_CA_4_3 Z r0 w_CS w_F x0 x1 x2 x3 h0 n0) := by
  refine own_in cS1 rfl (plainFor_of_name pn_java_lang_String) ?_
  intro p e s m below meth c s₁ Bd hml hZ hh hx hby hown X0 e0
  have N0 := Fr.nil n0
  have k0 := own_k (p := p) (e := e) (below := below) (T := s₁) (ef_13 m r0 (3 : Int32))
  rcases id P_r0 with ⟨eS, ⟨sA, kS, fC, fV, vA, hl0, hl1, hl2, hl3⟩ | ⟨sA, kS, fC, fV, vA⟩⟩
  · skip
    obtain ⟨_, T1, L1, X1, hQ1, st1⟩ := own_cV 0 (rmIL0 l Z a0 hw [] r0 w_CS h0 n0 Z0 S_CS hcs fC) X0 hx hZ hown hw 64 65 67 66 12 68 rfl rfl rfl rfl rfl rfl r0 eS 1 #[rv r0, iv 3] [] [] (hb hby d13_1) hml (lenOf pd_13 rfl) e0 rfl (Nat.le_refl _) (by decide)
    obtain ⟨rfl, N1q, e1⟩ := hQ1
    have N1 := Fr.app N0 N1q
    obtain ⟨T2, X2, e2, st2⟩ := getF X1 hx hZ hown (host := "") (Or.inl (own_at hw 29 rfl)) Via.refl e1 fV (g := (mkF m 8 #[rv r0, iv 3] [(.ref r0)])) rfl rfl (hb hby d13_8)
    obtain ⟨_, T3, L3, X3, hQ3, st3⟩ := own_cS 0 (rmLC_4_3 l Z a0 hw [] sA w_F kS x0 x1 x2 x3 h0 n0 Z0 S_F hwF vA hch_x3 hl3) X2 hx hZ hown hw 69 70 71 72 rfl rfl rfl rfl 12 #[rv r0, iv 3] [(.ref sA), (.int 3)] [] (hb hby d13_12) hml (lenOf pd_6 rfl) e2 rfl (Nat.le_refl _) (by decide)
    obtain ⟨rfl, N3q, e3⟩ := hQ3
    have N3 := Fr.app N1 N3q
    refine own_out X3 Bd.notSynchronized Bd.returns (some (.int (x3.toUInt32.toUInt16.toUInt32.toInt32))) nofun (by decide) (by decide) ?_ fun fs hr => k0 _ ?_
    · rw [e3]; exact ⟨(congrArg some (congrArg Value.int (own_i2cid hch_x3))), N3, rfl⟩
    · show OwnS p e below s₁ (mkF m 0 #[rv r0, iv 3] []) _
      refine oAn X0 hx hby d13_0 rfl rfl ?_
      refine st1 _ ?_
      refine XS.ifNo X1.here hx rfl (hb hby d13_4) rfl ((if0 _ _).trans (feq (by decide : ¬ ((1 : Int32) = (0 : Int32)))).1) ?_
      refine oAn X1 hx hby d13_7 rfl rfl ?_
      refine st2 _ ?_
      refine oIn X2 hx hby d13_11 rfl ?_
      refine st3 _ ?_
      exact retN X3 hx (t := .char) Bd.returns (by simp) (hb hby d13_15) hr
  · skip
    obtain ⟨_, T4, L4, X4, hQ4, st4⟩ := own_cV 0 (rmIL1 l Z a0 hw [] r0 w_CS h0 n0 Z0 S_CS hcs fC) X0 hx hZ hown hw 64 65 67 66 12 68 rfl rfl rfl rfl rfl rfl r0 eS 1 #[rv r0, iv 3] [] [] (hb hby d13_1) hml (lenOf pd_13 rfl) e0 rfl (Nat.le_refl _) (by decide)
    obtain ⟨rfl, N4q, e4⟩ := hQ4
    have N4 := Fr.app N0 N4q
    obtain ⟨T5, X5, e5, st5⟩ := getF X4 hx hZ hown (host := "") (Or.inl (own_at hw 29 rfl)) Via.refl e4 fV (g := (mkF m 17 #[rv r0, iv 3] [(.ref r0)])) rfl rfl (hb hby d13_17)
    obtain ⟨_, T6, L6, X6, hQ6, st6⟩ := own_cS 0 (rmUC_4_3 l Z a0 hw [] sA w_F kS x0 x1 x2 x3 h0 n0 Z0 S_F hwF S_AD S_HI S_LO vA hch_x3) X5 hx hZ hown hw 103 104 51 105 rfl rfl rfl rfl 21 #[rv r0, iv 3] [(.ref sA), (.int 3)] [] (hb hby d13_21) hml (lenOf pd_6 rfl) e5 rfl (Nat.le_refl _) (by decide)
    obtain ⟨rfl, N6q, e6⟩ := hQ6
    have N6 := Fr.app N4 N6q
    refine own_out X6 Bd.notSynchronized Bd.returns (some (.int (x3.toUInt32.toUInt16.toUInt32.toInt32))) nofun (by decide) (by decide) ?_ fun fs hr => k0 _ ?_
    · rw [e6]; exact ⟨(congrArg some (congrArg Value.int (own_i2cid hch_x3))), N6, rfl⟩
    · show OwnS p e below s₁ (mkF m 0 #[rv r0, iv 3] []) _
      refine oAn X0 hx hby d13_0 rfl rfl ?_
      refine st4 _ ?_
      refine XS.ifYes X4.here hx rfl (pc0 := 4) (pc' := 16) rfl (hb hby d13_4) rfl ((if0 _ _).trans (teq (by decide : (0 : Int32) = (0 : Int32))).1) (by decide) (by decide) ?_
      refine oAn X4 hx hby d13_16 rfl rfl ?_
      refine st5 _ ?_
      refine oIn X5 hx hby d13_20 rfl ?_
      refine st6 _ ?_
      exact retN X6 hx (t := .char) Bd.returns (by simp) (hb hby d13_24) hr
def Q_Len_0 (Z : State) (r0 : Addr) (w_CS : Int32) (va : Addr) (kA : ClassId) (h0 : Heap) (n0 : Nat) (v : Option Value) (h : Heap) (L : List Loc) : Prop := v = some (.int 0) ∧ Fr n0 L ∧ h = h0
theorem rmLen_0 (l : Launch) (Z : State) (a0 : Array Value) (hw : own_HW a0 Z) (ws : List Jvm.Cond) (r0 : Addr) (w_CS : Int32) (va : Addr) (kA : ClassId) (h0 : Heap) (n0 : Nat) (Z0 : n0 ≤ h0.size) (S_CS : Sta Z h0 cS1 cS10 "Z" (.int w_CS)) (hcs : ¬ (w_CS = (0 : Int32))) (E_r0 : Exa Z h0 r0 cS1) (F_coder_r0 : Fld Z h0 r0 cS1 "coder" "B" (.int 0)) (F_value_r0 : Fld Z h0 r0 cS1 "value" "[B" (.ref va)) (V_va : Arv Z h0 va kA .byte (0 : Int32) [] (.int 0)) :
    own_M l Z (⟨cS1, "length", "()I"⟩ : MethodName) jdk_42_method_54_code 1 (some .int) ws ({ frames := 1, cells := 0, slots := 0, locals := 13 } : Room) #[(.ref r0)] h0 (Q_Len_0 Z r0 w_CS va kA h0 n0) := by
  refine own_in cS1 rfl (plainFor_of_name pn_java_lang_String) ?_
  intro p e s m below meth c s₁ Bd hml hZ hh hx hby hown X0 e0
  have N0 := Fr.nil n0
  have k0 := own_k (p := p) (e := e) (below := below) (T := s₁) (ef_7 m r0)
  obtain ⟨T1, X1, e1, st1⟩ := getF X0 hx hZ hown (host := "") (Or.inl (own_at hw 29 rfl)) Via.refl e0 F_value_r0 (g := (mkF m 1 #[rv r0] [(.ref r0)])) rfl rfl (hb hby d7_1)
  obtain ⟨cl_z2, Ar_z2, q_z2, S_z2, N_z2, H_z2, G_z2⟩ := id V_va
  obtain ⟨_, T3, L3, X3, hQ3, st3⟩ := own_cV 1 (rmCo0 l Z a0 hw [] r0 w_CS h0 n0 Z0 S_CS hcs F_coder_r0) X1 hx hZ hown hw 40 41 43 42 12 44 rfl rfl rfl rfl rfl rfl r0 E_r0 6 #[rv r0] [] [(.int 0)] (hb hby d7_6) hml (lenOf pd_9 rfl) e1 rfl (Nat.le_refl _) (by decide)
  obtain ⟨rfl, N3q, e3⟩ := hQ3
  have N3 := Fr.app N0 N3q
  refine own_out X3 Bd.notSynchronized Bd.returns (some (.int 0)) nofun (by decide) (by decide) ?_ fun fs hr => k0 _ ?_
  · rw [e3]; exact ⟨rfl, N3, rfl⟩
  · show OwnS p e below s₁ (mkF m 0 #[rv r0] []) _
    refine oAn X0 hx hby d7_0 rfl rfl ?_
    refine st1 _ ?_
    refine X1.arraylength hx (by rw [e1]; exact Ar_z2.1) (State.isArrayOf_alike hZ.alike Ar_z2.2.1) (g := (mkF m 4 #[rv r0] [(.ref va)])) rfl rfl (hb hby d7_4) _ ?_
    rw [len_of S_z2 N_z2]
    refine oAn X1 hx hby d7_5 rfl rfl ?_
    refine st3 _ ?_
    refine XS.ishr X3.here hx rfl (hb hby d7_9) rfl ?_
    exact retI X3 hx Bd.returns (hb hby d7_10) hr
theorem d1_0 : decode method_5_code 0 = .ok (.iload_n 0, 1) := by decide +kernel
theorem d1_1 : decode method_5_code 1 = .ok (.iconst 3, 1) := by decide +kernel
theorem d1_2 : decode method_5_code 2 = .ok (.iand, 1) := by decide +kernel
theorem d1_3 : decode method_5_code 3 = .ok (.istore_n 1, 1) := by decide +kernel
theorem d1_4 : decode method_5_code 4 = .ok (.iload_n 1, 1) := by decide +kernel
theorem d1_5 : decode method_5_code 5 = .ok (.ifCond .ne 6, 3) := by decide +kernel
theorem d1_8 : decode method_5_code 8 = .ok (.bipush 32, 2) := by decide +kernel
theorem d1_10 : decode method_5_code 10 = .ok (.ireturn, 1) := by decide +kernel
theorem d1_11 : decode method_5_code 11 = .ok (.iload_n 1, 1) := by decide +kernel
theorem d1_12 : decode method_5_code 12 = .ok (.iconst 1, 1) := by decide +kernel
theorem d1_13 : decode method_5_code 13 = .ok (.if_icmp .ne 6, 3) := by decide +kernel
theorem d1_16 : decode method_5_code 16 = .ok (.bipush 9, 2) := by decide +kernel
theorem d1_18 : decode method_5_code 18 = .ok (.ireturn, 1) := by decide +kernel
theorem d1_19 : decode method_5_code 19 = .ok (.iload_n 1, 1) := by decide +kernel
theorem d1_20 : decode method_5_code 20 = .ok (.iconst 2, 1) := by decide +kernel
theorem d1_21 : decode method_5_code 21 = .ok (.if_icmp .ne 12, 3) := by decide +kernel
theorem d1_24 : decode method_5_code 24 = .ok (.iload_n 0, 1) := by decide +kernel
theorem d1_25 : decode method_5_code 25 = .ok (.iconst 2, 1) := by decide +kernel
theorem d1_26 : decode method_5_code 26 = .ok (.iushr, 1) := by decide +kernel
theorem d1_27 : decode method_5_code 27 = .ok (.sipush 255, 3) := by decide +kernel
theorem d1_30 : decode method_5_code 30 = .ok (.iand, 1) := by decide +kernel
theorem d1_31 : decode method_5_code 31 = .ok (.i2c, 1) := by decide +kernel
theorem d1_32 : decode method_5_code 32 = .ok (.ireturn, 1) := by decide +kernel
theorem d1_33 : decode method_5_code 33 = .ok (.iload_n 0, 1) := by decide +kernel
theorem d1_34 : decode method_5_code 34 = .ok (.iconst 2, 1) := by decide +kernel
theorem d1_35 : decode method_5_code 35 = .ok (.iushr, 1) := by decide +kernel
theorem d1_36 : decode method_5_code 36 = .ok (.ldc 32, 2) := by decide +kernel
theorem d1_38 : decode method_5_code 38 = .ok (.iand, 1) := by decide +kernel
theorem d1_39 : decode method_5_code 39 = .ok (.i2c, 1) := by decide +kernel
theorem d1_40 : decode method_5_code 40 = .ok (.ireturn, 1) := by decide +kernel
theorem pn_com_example_strict_lock_strictlock_IfHeaderSkipSpacePinLaw : plainName cS6 = true := by first | (simp [plainName, overriddenIn]; done) | decide +kernel
theorem ef_1 (m : MethodId) (x0 : Int32) : entryFrame m #[(.int x0)] 2 = mkF m 0 #[.val (.int x0), .unset] [] := by first | (simp [entryFrame, mkF, argsToLocals, Value.category]; done) | rfl
def Q_Dr (Z : State) (p0 : Int32) (h0 : Heap) (n0 : Nat) (v : Option Value) (h : Heap) (L : List Loc) : Prop := ∃ rr : Int32, v = some (.int rr) ∧ Fr n0 L ∧ h = h0 ∧ own_ch rr
theorem rmDr (l : Launch) (Z : State) (a0 : Array Value) (hw : own_HW a0 Z) (ws : List Jvm.Cond) (p0 : Int32) (h0 : Heap) (n0 : Nat) (Z0 : n0 ≤ h0.size) :
    own_M l Z (⟨cS6, "draw", "(I)C"⟩ : MethodName) method_5_code 2 (some .char) ws ({ frames := 0, cells := 0, slots := 0, locals := 0 } : Room) #[(.int p0)] h0 (Q_Dr Z p0 h0 n0) := by
  refine own_in cS6 rfl (plainFor_of_name pn_com_example_strict_lock_strictlock_IfHeaderSkipSpacePinLaw) ?_
  intro p e s m below meth c s₁ Bd hml hZ hh hx hby hown X0 e0
  have N0 := Fr.nil n0
  have k0 := own_k (p := p) (e := e) (below := below) (T := s₁) (ef_1 m p0)
  have k2 : ∀ t, OwnS p e below s₁ (mkF m 5 #[iv p0, iv (p0 &&& (3 : Int32))] [(.int (p0 &&& (3 : Int32)))]) t → OwnS p e below s₁ (entryFrame m #[(.int p0)] 2) t := fun t q => by
   refine k0 t ?_
   show OwnS p e below s₁ (mkF m 0 #[iv p0, .unset] []) _
   refine oIn X0 hx hby d1_0 rfl (oIc X0 hx hby d1_1 ?_)
   refine XS.iand X0.here hx rfl (hb hby d1_2) rfl ?_
   refine XS.istoreN X0.here hx rfl (hb hby d1_3) rfl (l' := #[iv p0, iv (p0 &&& (3 : Int32))]) rfl ?_
   refine oIn X0 hx hby d1_4 rfl ?_
   exact q
  by_cases hc5_1 : (p0 &&& (3 : Int32)) = (0 : Int32)
  · refine own_out X0 Bd.notSynchronized Bd.returns (some (.int 32)) nofun (by decide) (by decide) ?_ fun fs hr => k2 _ ?_
    · rw [e0]; exact ⟨(32 : Int32), rfl, N0, rfl, (by unfold own_ch; decide)⟩
    · refine XS.ifNo X0.here hx rfl (hb hby d1_5) rfl ((if0 _ _).trans (teq hc5_1).2) ?_
      refine oBp X0 hx hby d1_8 ?_
      exact retN X0 hx (t := .char) Bd.returns (by simp) (hb hby d1_10) hr
  · have k4 : ∀ t, OwnS p e below s₁ (mkF m 13 #[iv p0, iv (p0 &&& (3 : Int32))] [(.int 1), (.int (p0 &&& (3 : Int32)))]) t → OwnS p e below s₁ (entryFrame m #[(.int p0)] 2) t := fun t q => by
     refine k2 t ?_
     refine XS.ifYes X0.here hx rfl (pc0 := 5) (pc' := 11) rfl (hb hby d1_5) rfl ((if0 _ _).trans (feq hc5_1).2) (by decide) (by decide) ?_
     refine oIn X0 hx hby d1_11 rfl (oIc X0 hx hby d1_12 ?_)
     exact q
    by_cases hc13_3 : (p0 &&& (3 : Int32)) = (1 : Int32)
    · refine own_out X0 Bd.notSynchronized Bd.returns (some (.int 9)) nofun (by decide) (by decide) ?_ fun fs hr => k4 _ ?_
      · rw [e0]; exact ⟨(9 : Int32), rfl, N0, rfl, (by unfold own_ch; decide)⟩
      · refine XS.icmpNo X0.here hx rfl (hb hby d1_13) rfl (teq hc13_3).2 ?_
        refine oBp X0 hx hby d1_16 ?_
        exact retN X0 hx (t := .char) Bd.returns (by simp) (hb hby d1_18) hr
    · have k6 : ∀ t, OwnS p e below s₁ (mkF m 21 #[iv p0, iv (p0 &&& (3 : Int32))] [(.int 2), (.int (p0 &&& (3 : Int32)))]) t → OwnS p e below s₁ (entryFrame m #[(.int p0)] 2) t := fun t q => by
       refine k4 t ?_
       refine XS.icmpYes X0.here hx rfl (pc0 := 13) (pc' := 19) rfl (hb hby d1_13) rfl (feq hc13_3).2 (by decide) (by decide) ?_
       refine oIn X0 hx hby d1_19 rfl (oIc X0 hx hby d1_20 ?_)
       exact q
      by_cases hc21_5 : (p0 &&& (3 : Int32)) = (2 : Int32)
      · refine own_out X0 Bd.notSynchronized Bd.returns (some (.int (((((p0.toUInt32 >>> ((2 : Int32) &&& 31).toUInt32).toInt32) &&& (255 : Int32)).toUInt32.toUInt16.toUInt32.toInt32).toUInt32.toUInt16.toUInt32.toInt32))) nofun (by decide) (by decide) ?_ fun fs hr => k6 _ ?_
        · rw [e0]; exact ⟨(((((p0.toUInt32 >>> ((2 : Int32) &&& 31).toUInt32).toInt32) &&& (255 : Int32)).toUInt32.toUInt16.toUInt32.toInt32).toUInt32.toUInt16.toUInt32.toInt32), rfl, N0, rfl, (own_chc _)⟩
        · refine XS.icmpNo X0.here hx rfl (hb hby d1_21) rfl (teq hc21_5).2 ?_
          refine oIn X0 hx hby d1_24 rfl (oIc X0 hx hby d1_25 ?_)
          refine XS.iushr X0.here hx rfl (hb hby d1_26) rfl ?_
          refine XS.sipush X0.here hx rfl (hb hby d1_27) ?_
          refine XS.iand X0.here hx rfl (hb hby d1_30) rfl ?_
          refine XS.i2c X0.here hx rfl (hb hby d1_31) rfl ?_
          exact retN X0 hx (t := .char) Bd.returns (by simp) (hb hby d1_32) hr
      · refine own_out X0 Bd.notSynchronized Bd.returns (some (.int (((((p0.toUInt32 >>> ((2 : Int32) &&& 31).toUInt32).toInt32) &&& (65535 : Int32)).toUInt32.toUInt16.toUInt32.toInt32).toUInt32.toUInt16.toUInt32.toInt32))) nofun (by decide) (by decide) ?_ fun fs hr => k6 _ ?_
        · rw [e0]; exact ⟨(((((p0.toUInt32 >>> ((2 : Int32) &&& 31).toUInt32).toInt32) &&& (65535 : Int32)).toUInt32.toUInt16.toUInt32.toInt32).toUInt32.toUInt16.toUInt32.toInt32), rfl, N0, rfl, (own_chc _)⟩
        · refine XS.icmpYes X0.here hx rfl (pc0 := 21) (pc' := 33) rfl (hb hby d1_21) rfl (feq hc21_5).2 (by decide) (by decide) ?_
          refine oIn X0 hx hby d1_33 rfl (oIc X0 hx hby d1_34 ?_)
          refine XS.iushr X0.here hx rfl (hb hby d1_35) rfl ?_
          refine X0.ldcInt hx hown (mvT hZ (own_at hw 6 rfl)) (g := (mkF m 36 #[iv p0, iv (p0 &&& (3 : Int32))] [(.int ((p0.toUInt32 >>> ((2 : Int32) &&& 31).toUInt32).toInt32))])) rfl (hb hby d1_36) _ ?_
          refine XS.iand X0.here hx rfl (hb hby d1_38) rfl ?_
          refine XS.i2c X0.here hx rfl (hb hby d1_39) rfl ?_
          exact retN X0 hx (t := .char) Bd.returns (by simp) (hb hby d1_40) hr
theorem d18_0 : decode method_4_code 0 = .ok (.iload_n 0, 1) := by decide +kernel
theorem d18_1 : decode method_4_code 1 = .ok (.bipush 32, 2) := by decide +kernel
theorem d18_3 : decode method_4_code 3 = .ok (.if_icmp .eq 9, 3) := by decide +kernel
theorem d18_6 : decode method_4_code 6 = .ok (.iload_n 0, 1) := by decide +kernel
theorem d18_7 : decode method_4_code 7 = .ok (.bipush 9, 2) := by decide +kernel
theorem d18_9 : decode method_4_code 9 = .ok (.if_icmp .ne 7, 3) := by decide +kernel
theorem d18_12 : decode method_4_code 12 = .ok (.iconst 1, 1) := by decide +kernel
theorem d18_13 : decode method_4_code 13 = .ok (.goto 4, 3) := by decide +kernel
theorem d18_17 : decode method_4_code 17 = .ok (.ireturn, 1) := by decide +kernel
theorem ef_18 (m : MethodId) (x0 : Int32) : entryFrame m #[(.int x0)] 1 = mkF m 0 #[.val (.int x0)] [] := by first | (simp [entryFrame, mkF, argsToLocals, Value.category]; done) | rfl
def Q_Ws_t (Z : State) (p0 : Int32) (h0 : Heap) (n0 : Nat) (v : Option Value) (h : Heap) (L : List Loc) : Prop := v = some (.int 1) ∧ Fr n0 L ∧ h = h0
theorem rmWs_t (l : Launch) (Z : State) (a0 : Array Value) (hw : own_HW a0 Z) (ws : List Jvm.Cond) (p0 : Int32) (h0 : Heap) (n0 : Nat) (Z0 : n0 ≤ h0.size) (hsp : own_sp p0 = true) :
    own_M l Z (⟨cS6, "ws", "(C)Z"⟩ : MethodName) method_4_code 1 (some .boolean) ws ({ frames := 0, cells := 0, slots := 0, locals := 0 } : Room) #[(.int p0)] h0 (Q_Ws_t Z p0 h0 n0) := by
  refine own_in cS6 rfl (plainFor_of_name pn_com_example_strict_lock_strictlock_IfHeaderSkipSpacePinLaw) ?_
  intro p e s m below meth c s₁ Bd hml hZ hh hx hby hown X0 e0
  have N0 := Fr.nil n0
  have k0 := own_k (p := p) (e := e) (below := below) (T := s₁) (ef_18 m p0)
  have k2 : ∀ t, OwnS p e below s₁ (mkF m 3 #[iv p0] [(.int 32), (.int p0)]) t → OwnS p e below s₁ (entryFrame m #[(.int p0)] 1) t := fun t q => by
   refine k0 t ?_
   show OwnS p e below s₁ (mkF m 0 #[iv p0] []) _
   refine oIn X0 hx hby d18_0 rfl (oBp X0 hx hby d18_1 ?_)
   exact q
  by_cases hc3_1 : p0 = (32 : Int32)
  · refine own_out X0 Bd.notSynchronized Bd.returns (some (.int 1)) nofun (by decide) (by decide) ?_ fun fs hr => k2 _ ?_
    · rw [e0]; exact ⟨rfl, N0, rfl⟩
    · refine XS.icmpYes X0.here hx rfl (pc0 := 3) (pc' := 12) rfl (hb hby d18_3) rfl (teq hc3_1).1 (by decide) (by decide) ?_
      refine oIc X0 hx hby d18_12 (oGo X0 hx hby 13 17 d18_13 (by decide) (by decide) ?_)
      exact retN X0 hx (t := .boolean) Bd.returns (by simp) (hb hby d18_17) hr
  · refine own_out X0 Bd.notSynchronized Bd.returns (some (.int 1)) nofun (by decide) (by decide) ?_ fun fs hr => k2 _ ?_
    · rw [e0]; exact ⟨rfl, N0, rfl⟩
    · refine XS.icmpNo X0.here hx rfl (hb hby d18_3) rfl (feq hc3_1).1 ?_
      refine oIn X0 hx hby d18_6 rfl (oBp X0 hx hby d18_7 ?_)
      refine XS.icmpNo X0.here hx rfl (hb hby d18_9) rfl (teq (own_sp1 hsp hc3_1)).2 ?_
      refine oIc X0 hx hby d18_12 (oGo X0 hx hby 13 17 d18_13 (by decide) (by decide) ?_)
      exact retN X0 hx (t := .boolean) Bd.returns (by simp) (hb hby d18_17) hr
theorem d18_16 : decode method_4_code 16 = .ok (.iconst 0, 1) := by decide +kernel
def Q_Ws_f (Z : State) (p0 : Int32) (h0 : Heap) (n0 : Nat) (v : Option Value) (h : Heap) (L : List Loc) : Prop := v = some (.int 0) ∧ Fr n0 L ∧ h = h0
theorem rmWs_f (l : Launch) (Z : State) (a0 : Array Value) (hw : own_HW a0 Z) (ws : List Jvm.Cond) (p0 : Int32) (h0 : Heap) (n0 : Nat) (Z0 : n0 ≤ h0.size) (hsp : own_sp p0 = false) :
    own_M l Z (⟨cS6, "ws", "(C)Z"⟩ : MethodName) method_4_code 1 (some .boolean) ws ({ frames := 0, cells := 0, slots := 0, locals := 0 } : Room) #[(.int p0)] h0 (Q_Ws_f Z p0 h0 n0) := by
  refine own_in cS6 rfl (plainFor_of_name pn_com_example_strict_lock_strictlock_IfHeaderSkipSpacePinLaw) ?_
  intro p e s m below meth c s₁ Bd hml hZ hh hx hby hown X0 e0
  have N0 := Fr.nil n0
  have k0 := own_k (p := p) (e := e) (below := below) (T := s₁) (ef_18 m p0)
  refine own_out X0 Bd.notSynchronized Bd.returns (some (.int 0)) nofun (by decide) (by decide) ?_ fun fs hr => k0 _ ?_
  · rw [e0]; exact ⟨rfl, N0, rfl⟩
  · show OwnS p e below s₁ (mkF m 0 #[iv p0] []) _
    refine oIn X0 hx hby d18_0 rfl (oBp X0 hx hby d18_1 ?_)
    refine XS.icmpNo X0.here hx rfl (hb hby d18_3) rfl (feq (own_sp2 hsp)).1 ?_
    refine oIn X0 hx hby d18_6 rfl (oBp X0 hx hby d18_7 ?_)
    refine XS.icmpYes X0.here hx rfl (pc0 := 9) (pc' := 16) rfl (hb hby d18_9) rfl (feq (own_sp3 hsp)).2 (by decide) (by decide) ?_
    refine oIc X0 hx hby d18_16 ?_
    exact retN X0 hx (t := .boolean) Bd.returns (by simp) (hb hby d18_17) hr
theorem pd_14 : parseMethodDescriptor "(C)Z" = some ⟨[.char], some .boolean⟩ := by decide +kernel
theorem d9_0 : decode method_3_code 0 = .ok (.iload_n 0, 1) := by decide +kernel
theorem d9_1 : decode method_3_code 1 = .ok (.iload_n 1, 1) := by decide +kernel
theorem d9_2 : decode method_3_code 2 = .ok (.if_icmp .lt 15, 3) := by decide +kernel
theorem d9_5 : decode method_3_code 5 = .ok (.iload_n 0, 1) := by decide +kernel
theorem d9_6 : decode method_3_code 6 = .ok (.iload_n 2, 1) := by decide +kernel
theorem d9_7 : decode method_3_code 7 = .ok (.if_icmp .ge 10, 3) := by decide +kernel
theorem d9_10 : decode method_3_code 10 = .ok (.iload_n 3, 1) := by decide +kernel
theorem d9_11 : decode method_3_code 11 = .ok (.invokestatic 24, 3) := by decide +kernel
theorem d9_14 : decode method_3_code 14 = .ok (.ifCond .eq 7, 3) := by decide +kernel
theorem d9_17 : decode method_3_code 17 = .ok (.iconst 1, 1) := by decide +kernel
theorem d9_18 : decode method_3_code 18 = .ok (.goto 4, 3) := by decide +kernel
theorem d9_22 : decode method_3_code 22 = .ok (.ireturn, 1) := by decide +kernel
theorem ef_9 (m : MethodId) (x0 : Int32) (x1 : Int32) (x2 : Int32) (x3 : Int32) : entryFrame m #[(.int x0), (.int x1), (.int x2), (.int x3)] 4 = mkF m 0 #[.val (.int x0), .val (.int x1), .val (.int x2), .val (.int x3)] [] := by first | (simp [entryFrame, mkF, argsToLocals, Value.category]; done) | rfl
def Q_Ok (Z : State) (p0 p1 p2 p3 : Int32) (h0 : Heap) (n0 : Nat) (v : Option Value) (h : Heap) (L : List Loc) : Prop := v = some (.int 1) ∧ Fr n0 L ∧ h = h0
theorem rmOk (l : Launch) (Z : State) (a0 : Array Value) (hw : own_HW a0 Z) (ws : List Jvm.Cond) (p0 p1 p2 p3 : Int32) (h0 : Heap) (n0 : Nat) (Z0 : n0 ≤ h0.size) (hok : own_ok p0 p1 p2 p3 = true) :
    own_M l Z (⟨cS6, "ok", "(IIIC)Z"⟩ : MethodName) method_3_code 4 (some .boolean) ws ({ frames := 1, cells := 0, slots := 0, locals := 12 } : Room) #[(.int p0), (.int p1), (.int p2), (.int p3)] h0 (Q_Ok Z p0 p1 p2 p3 h0 n0) := by
  refine own_in cS6 rfl (plainFor_of_name pn_com_example_strict_lock_strictlock_IfHeaderSkipSpacePinLaw) ?_
  intro p e s m below meth c s₁ Bd hml hZ hh hx hby hown X0 e0
  have N0 := Fr.nil n0
  have k0 := own_k (p := p) (e := e) (below := below) (T := s₁) (ef_9 m p0 p1 p2 p3)
  have k2 : ∀ t, OwnS p e below s₁ (mkF m 2 #[iv p0, iv p1, iv p2, iv p3] [(.int p1), (.int p0)]) t → OwnS p e below s₁ (entryFrame m #[(.int p0), (.int p1), (.int p2), (.int p3)] 4) t := fun t q => by
   refine k0 t ?_
   show OwnS p e below s₁ (mkF m 0 #[iv p0, iv p1, iv p2, iv p3] []) _
   refine oIn X0 hx hby d9_0 rfl (oIn X0 hx hby d9_1 rfl ?_)
   exact q
  by_cases hc2_1 : p0 < p1
  · refine own_out X0 Bd.notSynchronized Bd.returns (some (.int 1)) nofun (by decide) (by decide) ?_ fun fs hr => k2 _ ?_
    · rw [e0]; exact ⟨rfl, N0, rfl⟩
    · refine XS.icmpYes X0.here hx rfl (pc0 := 2) (pc' := 17) rfl (hb hby d9_2) rfl (tlt hc2_1).1 (by decide) (by decide) ?_
      refine oIc X0 hx hby d9_17 (oGo X0 hx hby 18 22 d9_18 (by decide) (by decide) ?_)
      exact retN X0 hx (t := .boolean) Bd.returns (by simp) (hb hby d9_22) hr
  · have k4 : ∀ t, OwnS p e below s₁ (mkF m 7 #[iv p0, iv p1, iv p2, iv p3] [(.int p2), (.int p0)]) t → OwnS p e below s₁ (entryFrame m #[(.int p0), (.int p1), (.int p2), (.int p3)] 4) t := fun t q => by
     refine k2 t ?_
     refine XS.icmpNo X0.here hx rfl (hb hby d9_2) rfl (flt hc2_1).1 ?_
     refine oIn X0 hx hby d9_5 rfl (oIn X0 hx hby d9_6 rfl ?_)
     exact q
    by_cases hc7_3 : p0 < p2
    · obtain ⟨_, T5, L5, X5, hQ5, st5⟩ := own_cS 0 (rmWs_t l Z a0 hw [] p3 h0 n0 Z0 (own_ok3 hok hc2_1 hc7_3)) X0 hx hZ hown hw 81 82 4 83 rfl rfl rfl rfl 11 #[iv p0, iv p1, iv p2, iv p3] [(.int p3)] [] (hb hby d9_11) hml (lenOf pd_14 rfl) e0 rfl (Nat.le_refl _) (by decide)
      obtain ⟨rfl, N5q, e5⟩ := hQ5
      have N5 := Fr.app N0 N5q
      refine own_out X5 Bd.notSynchronized Bd.returns (some (.int 1)) nofun (by decide) (by decide) ?_ fun fs hr => k4 _ ?_
      · rw [e5]; exact ⟨rfl, N5, rfl⟩
      · refine XS.icmpNo X0.here hx rfl (hb hby d9_7) rfl (tlt hc7_3).2.1 ?_
        refine oIn X0 hx hby d9_10 rfl ?_
        refine st5 _ ?_
        refine XS.ifNo X5.here hx rfl (hb hby d9_14) rfl ((if0 _ _).trans (feq (by decide : ¬ ((1 : Int32) = (0 : Int32)))).1) ?_
        refine oIc X5 hx hby d9_17 (oGo X5 hx hby 18 22 d9_18 (by decide) (by decide) ?_)
        exact retN X5 hx (t := .boolean) Bd.returns (by simp) (hb hby d9_22) hr
    · refine own_out X0 Bd.notSynchronized Bd.returns (some (.int 1)) nofun (by decide) (by decide) ?_ fun fs hr => k4 _ ?_
      · rw [e0]; exact ⟨rfl, N0, rfl⟩
      · refine XS.icmpYes X0.here hx rfl (pc0 := 7) (pc' := 17) rfl (hb hby d9_7) rfl (flt hc7_3).2.1 (by decide) (by decide) ?_
        refine oIc X0 hx hby d9_17 (oGo X0 hx hby 18 22 d9_18 (by decide) (by decide) ?_)
        exact retN X0 hx (t := .boolean) Bd.returns (by simp) (hb hby d9_22) hr
theorem pd_15 : parseMethodDescriptor "([C)V" = some ⟨[(.array .char)], none⟩ := by decide +kernel
theorem d2_0 : decode method_6_code 0 = .ok (.iload_n 0, 1) := by decide +kernel
theorem d2_1 : decode method_6_code 1 = .ok (.ifCond .ne 14, 3) := by decide +kernel
theorem d2_15 : decode method_6_code 15 = .ok (.iload_n 0, 1) := by decide +kernel
theorem d2_16 : decode method_6_code 16 = .ok (.iconst 1, 1) := by decide +kernel
theorem d2_17 : decode method_6_code 17 = .ok (.if_icmp .ne 18, 3) := by decide +kernel
theorem d2_20 : decode method_6_code 20 = .ok (.new 33, 3) := by decide +kernel
theorem d2_23 : decode method_6_code 23 = .ok (.dup, 1) := by decide +kernel
theorem d2_24 : decode method_6_code 24 = .ok (.iconst 1, 1) := by decide +kernel
theorem d2_25 : decode method_6_code 25 = .ok (.newarray .char, 2) := by decide +kernel
theorem d2_27 : decode method_6_code 27 = .ok (.dup, 1) := by decide +kernel
theorem d2_28 : decode method_6_code 28 = .ok (.iconst 0, 1) := by decide +kernel
theorem d2_29 : decode method_6_code 29 = .ok (.iload_n 1, 1) := by decide +kernel
theorem d2_30 : decode method_6_code 30 = .ok (.castore, 1) := by decide +kernel
theorem d2_31 : decode method_6_code 31 = .ok (.invokespecial 35, 3) := by decide +kernel
theorem d2_34 : decode method_6_code 34 = .ok (.areturn, 1) := by decide +kernel
theorem ef_2 (m : MethodId) (x0 : Int32) (x1 : Int32) (x2 : Int32) (x3 : Int32) (x4 : Int32) : entryFrame m #[(.int x0), (.int x1), (.int x2), (.int x3), (.int x4)] 5 = mkF m 0 #[.val (.int x0), .val (.int x1), .val (.int x2), .val (.int x3), .val (.int x4)] [] := by first | (simp [entryFrame, mkF, argsToLocals, Value.category]; done) | rfl
def Q_Tx_1 (Z : State) (p1 p2 p3 p4 w_CS : Int32) (h0 : Heap) (n0 : Nat) (v : Option Value) (h : Heap) (L : List Loc) : Prop := ∃ ob : Addr, v = some (.ref ob) ∧ Fr n0 L ∧ Keep h0 h [] ∧ h0.size ≤ ob ∧ Exa Z h ob cS1 ∧ own_S1 Z h ob p1
theorem rmTx_1 (l : Launch) (Z : State) (a0 : Array Value) (hw : own_HW a0 Z) (ws : List Jvm.Cond) (p1 p2 p3 p4 w_CS : Int32) (h0 : Heap) (n0 : Nat) (Z0 : n0 ≤ h0.size) (S_CS : Sta Z h0 cS1 cS10 "Z" (.int w_CS)) (hcs : ¬ (w_CS = (0 : Int32))) (S_AD : Sta Z h0 cS0 cS5 "Z" (.int 1)) (S_HI : Sta Z h0 cS0 cS7 "I" (.int 0)) (S_LO : Sta Z h0 cS0 cS8 "I" (.int 8)) (hch_p1 : own_ch p1) :
    own_M l Z (⟨cS6, "text", "(ICCCC)Ljava/lang/String;"⟩ : MethodName) method_6_code 5 (some (.object cS1)) ws ({ frames := 6, cells := 4, slots := 8, locals := 88 } : Room) #[(.int 1), (.int p1), (.int p2), (.int p3), (.int p4)] h0 (Q_Tx_1 Z p1 p2 p3 p4 w_CS h0 n0) := by
  refine own_in cS6 rfl (plainFor_of_name pn_com_example_strict_lock_strictlock_IfHeaderSkipSpacePinLaw) ?_
  intro p e s m below meth c s₁ Bd hml hZ hh hx hby hown X0 e0
  have N0 := Fr.nil n0
  have k0 := own_k (p := p) (e := e) (below := below) (T := s₁) (ef_2 m (1 : Int32) p1 p2 p3 p4)
  obtain ⟨T1, h1, X1, e1, E1, A1, D1, -, st1⟩ := newO X0 hx hZ hown (own_at hw 10 rfl) (own_at hw 11 rfl) (own_at hw 12 rfl) e0 (g := (mkF m 20 #[iv 1, iv p1, iv p2, iv p3, iv p4] [])) rfl (hb hby d2_20) (by decide) (by decide)
  obtain ⟨b1, g1⟩ : ∃ z, z = h0.size := ⟨_, rfl⟩
  rw [← g1] at A1 D1 st1
  have g_b1 : n0 ≤ b1 := Nat.le_trans Z0 (Nat.le_of_eq g1.symm)
  have sz_b1 : h0.size ≤ b1 := Nat.le_trans (Keep.refl h0 []).1 (Nat.le_of_eq g1.symm)
  have F_value_b1 : Fld Z h1 b1 cS1 "value" "[B" .null := D1 (Or.inr (own_at hw 25 rfl)) (ty := (.array .byte)) (by decide)
  have F_coder_b1 : Fld Z h1 b1 cS1 "coder" "B" (.int 0) := D1 (Or.inr (own_at hw 26 rfl)) (ty := .byte) (by decide)
  obtain ⟨T2, h2, k2, X2, e2, E2, A2, EA2, st2⟩ := newPE X1 hx hZ (own_at hw 1 rfl) e1 (g := (mkF m 25 #[iv 1, iv p1, iv p2, iv p3, iv p4] [(.int 1), (.ref b1), (.ref b1)])) rfl (hb hby d2_25) rfl (by decide) (cap := 1) (by decide) (by decide) (by decide) (by decide) (ad := "[C") (by decide)
  obtain ⟨b2, g2⟩ : ∃ z, z = h1.size := ⟨_, rfl⟩
  rw [← g2] at A2 EA2 st2
  have g_b2 : n0 ≤ b2 := Nat.le_trans (Nat.le_trans Z0 E1.1) (Nat.le_of_eq g2.symm)
  have sz_b2 : h0.size ≤ b2 := Nat.le_trans ((Keep.refl h0 []).ext E1).1 (Nat.le_of_eq g2.symm)
  have V_b2 : Arv Z h2 b2 k2 .char (1 : Int32) [(.int 0)] (.int 0) := (Arv.new A2 (by decide)).pad (pad_rep [] (.int 0) 1)
  obtain ⟨cl_z3, Ar_z3, q_z3, S_z3, N_z3, H_z3, G_z3⟩ := id V_b2
  have hin4 : ¬ ((0 : Int32) < 0 ∨ cl_z3.slots.size ≤ ((0 : Int32)).toNatClampNeg) := inb_of S_z3 ⟨by decide, by decide⟩
  obtain ⟨T5, h5, X5, e5, W5, st5⟩ := stC X2 hx hZ e2 Ar_z3 (j := (0 : Int32)) hin4 (g := (mkF m 30 #[iv 1, iv p1, iv p2, iv p3, iv p4] [(.int p1), (.int 0), (.ref b2), (.ref b2), (.ref b1), (.ref b1)])) rfl rfl (hb hby d2_30)
  have V5 : Arv Z h5 b2 k2 .char (1 : Int32) [(.int (p1.toUInt32.toUInt16.toUInt32.toInt32))] (.int 0) := Arv.set Ar_z3 q_z3 S_z3 N_z3 H_z3 G_z3 (fits_nar_char _) W5 0 rfl (Nat.le_of_ble_eq_true rfl)
  have N5 := Fr.snoc X5 N0 g_b2
  have V6 : Arv Z h5 b2 k2 .char (1 : Int32) [(.int p1)] (.int 0) := by have q := V5; simp only [own_i2cid hch_p1] at q; exact q
  have f8 := (((S_CS.ext E1).ext E2).wr W5)
  have f9 := (((S_AD.ext E1).ext E2).wr W5)
  have f10 := (((S_HI.ext E1).ext E2).wr W5)
  have f11 := (((S_LO.ext E1).ext E2).wr W5)
  have f12 := ((A1.ext E2).wr W5)
  have f13 := ((F_coder_b1.ext E2).other W5 (Or.inl (Nat.ne_of_lt (Nat.lt_of_lt_of_le A1.lt (Nat.le_of_eq g2.symm)))))
  have f14 := ((F_value_b1.ext E2).other W5 (Or.inl (Nat.ne_of_lt (Nat.lt_of_lt_of_le A1.lt (Nat.le_of_eq g2.symm)))))
  obtain ⟨_, _, ⟨T7, L7, j7, i7⟩, -, X7, ⟨Lc7, hQ7, l7, y7, z7⟩, st7⟩ := X5.specialBack hx (y := (⟨cS1, "<init>", "([C)V"⟩ : MethodName)) rfl hown (mvT hZ (own_at hw 13 rfl)) (mvT hZ (own_at hw 14 rfl)) (mvT hZ (own_at hw 15 rfl)) (by decide) (backOf (W := 1) (rmI1_1 l Z a0 hw [] b1 b2 w_CS k2 p1 (.int 0) .null h5 n0 (Nat.le_trans (Nat.le_trans (Nat.le_trans Z0 E1.1) E2.1) (Keep.of_wr W5).1) f8 hcs f9 f10 f11 f12 V6 hch_p1 f13 g_b1 f14) hZ (own_at hw 15 rfl) (own_at hw 12 rfl) (by decide) (by decide)) (g := (mkF m 31 #[iv 1, iv p1, iv p2, iv p3, iv p4] [(.ref b2), (.ref b1), (.ref b1)])) rfl (by rw [hml]; rfl) (Steps.refl _) (a := b1) (argsL := [(.ref b2)]) (rest := [(.ref b1)]) (lenOf pd_15 rfl) rfl (Nat.le_refl _) (hb hby d2_31) (fun _ _ => ⟨rfl, e5, (by decide : 2 + 2 ≤ _), (by decide : 5 + 3 ≤ _)⟩)
  dsimp only [Pt.U, Pt.locs, Pt.cells, Pt.slots] at X7 l7 y7 z7 st7 hQ7
  subst l7 y7 z7
  have f15 := (EA2.wr W5)
  obtain ⟨rfl, N7q, K7, p7_0, p7_1⟩ := hQ7
  have pl7 := (allS (P := fun x => ∃ cell : Cell, h5[x]? = some cell ∧ cell.vm.isStatics = false) (own_ns f12) all0)
  have N7 := Fr.app N5 N7q
  refine own_out X7 Bd.notSynchronized Bd.returns (some (.ref b1)) nofun (by decide) (by decide) ?_ fun fs hr => k0 _ ?_
  · exact ⟨b1, rfl, N7, (((((Keep.refl h0 []).ext E1).ext E2).wr W5 (Or.inr sz_b2)).trans K7 (allS (Or.inr sz_b1) all0)), sz_b1, p7_1, p7_0⟩
  · show OwnS p e below s₁ (mkF m 0 #[iv 1, iv p1, iv p2, iv p3, iv p4] []) _
    refine oIn X0 hx hby d2_0 rfl ?_
    refine XS.ifYes X0.here hx rfl (pc0 := 1) (pc' := 15) rfl (hb hby d2_1) rfl ((if0 _ _).trans (feq (by decide : ¬ ((1 : Int32) = (0 : Int32)))).2) (by decide) (by decide) ?_
    refine oIn X0 hx hby d2_15 rfl (oIc X0 hx hby d2_16 ?_)
    refine XS.icmpNo X0.here hx rfl (hb hby d2_17) rfl (teq (by decide : (1 : Int32) = (1 : Int32))).2 ?_
    refine st1 _ ?_
    refine XS.dup X1.here hx rfl (hb hby d2_23) rfl rfl ?_
    refine oIc X1 hx hby d2_24 ?_
    refine st2 _ ?_
    refine XS.dup X2.here hx rfl (hb hby d2_27) rfl rfl ?_
    refine oIc X2 hx hby d2_28 (oIn X2 hx hby d2_29 rfl ?_)
    refine st5 _ ?_
    refine st7.trans ?_
    jvm_step X7.here [X7.here.top, hx, (hb hby d2_34), X7.method', Bd.returns, Value.isRef, FieldType.isReference]
    first | (intro acts; rw [hr _ acts rfl rfl rfl]) | rw [hr _ _ rfl rfl rfl]
    exact Steps.refl _
theorem d2_35 : decode method_6_code 35 = .ok (.iload_n 0, 1) := by decide +kernel
theorem d2_36 : decode method_6_code 36 = .ok (.iconst 2, 1) := by decide +kernel
theorem d2_37 : decode method_6_code 37 = .ok (.if_icmp .ne 22, 3) := by decide +kernel
theorem d2_40 : decode method_6_code 40 = .ok (.new 33, 3) := by decide +kernel
theorem d2_43 : decode method_6_code 43 = .ok (.dup, 1) := by decide +kernel
theorem d2_44 : decode method_6_code 44 = .ok (.iconst 2, 1) := by decide +kernel
theorem d2_45 : decode method_6_code 45 = .ok (.newarray .char, 2) := by decide +kernel
theorem d2_47 : decode method_6_code 47 = .ok (.dup, 1) := by decide +kernel
theorem d2_48 : decode method_6_code 48 = .ok (.iconst 0, 1) := by decide +kernel
theorem d2_49 : decode method_6_code 49 = .ok (.iload_n 1, 1) := by decide +kernel
theorem d2_50 : decode method_6_code 50 = .ok (.castore, 1) := by decide +kernel
theorem d2_51 : decode method_6_code 51 = .ok (.dup, 1) := by decide +kernel
theorem d2_52 : decode method_6_code 52 = .ok (.iconst 1, 1) := by decide +kernel
theorem d2_53 : decode method_6_code 53 = .ok (.iload_n 2, 1) := by decide +kernel
theorem d2_54 : decode method_6_code 54 = .ok (.castore, 1) := by decide +kernel
theorem d2_55 : decode method_6_code 55 = .ok (.invokespecial 35, 3) := by decide +kernel
theorem d2_58 : decode method_6_code 58 = .ok (.areturn, 1) := by decide +kernel
def Q_Tx_2 (Z : State) (p1 p2 p3 p4 w_CS : Int32) (h0 : Heap) (n0 : Nat) (v : Option Value) (h : Heap) (L : List Loc) : Prop := ∃ ob : Addr, v = some (.ref ob) ∧ Fr n0 L ∧ Keep h0 h [] ∧ h0.size ≤ ob ∧ Exa Z h ob cS1 ∧ own_S2 Z h ob p1 p2
theorem rmTx_2 (l : Launch) (Z : State) (a0 : Array Value) (hw : own_HW a0 Z) (ws : List Jvm.Cond) (p1 p2 p3 p4 w_CS : Int32) (h0 : Heap) (n0 : Nat) (Z0 : n0 ≤ h0.size) (S_CS : Sta Z h0 cS1 cS10 "Z" (.int w_CS)) (hcs : ¬ (w_CS = (0 : Int32))) (S_AD : Sta Z h0 cS0 cS5 "Z" (.int 1)) (S_HI : Sta Z h0 cS0 cS7 "I" (.int 0)) (S_LO : Sta Z h0 cS0 cS8 "I" (.int 8)) (hch_p1 : own_ch p1) (hch_p2 : own_ch p2) :
    own_M l Z (⟨cS6, "text", "(ICCCC)Ljava/lang/String;"⟩ : MethodName) method_6_code 5 (some (.object cS1)) ws ({ frames := 6, cells := 4, slots := 12, locals := 88 } : Room) #[(.int 2), (.int p1), (.int p2), (.int p3), (.int p4)] h0 (Q_Tx_2 Z p1 p2 p3 p4 w_CS h0 n0) := by
  refine own_in cS6 rfl (plainFor_of_name pn_com_example_strict_lock_strictlock_IfHeaderSkipSpacePinLaw) ?_
  intro p e s m below meth c s₁ Bd hml hZ hh hx hby hown X0 e0
  have N0 := Fr.nil n0
  have k0 := own_k (p := p) (e := e) (below := below) (T := s₁) (ef_2 m (2 : Int32) p1 p2 p3 p4)
  obtain ⟨T1, h1, X1, e1, E1, A1, D1, -, st1⟩ := newO X0 hx hZ hown (own_at hw 10 rfl) (own_at hw 11 rfl) (own_at hw 12 rfl) e0 (g := (mkF m 40 #[iv 2, iv p1, iv p2, iv p3, iv p4] [])) rfl (hb hby d2_40) (by decide) (by decide)
  obtain ⟨b1, g1⟩ : ∃ z, z = h0.size := ⟨_, rfl⟩
  rw [← g1] at A1 D1 st1
  have g_b1 : n0 ≤ b1 := Nat.le_trans Z0 (Nat.le_of_eq g1.symm)
  have sz_b1 : h0.size ≤ b1 := Nat.le_trans (Keep.refl h0 []).1 (Nat.le_of_eq g1.symm)
  have F_value_b1 : Fld Z h1 b1 cS1 "value" "[B" .null := D1 (Or.inr (own_at hw 25 rfl)) (ty := (.array .byte)) (by decide)
  have F_coder_b1 : Fld Z h1 b1 cS1 "coder" "B" (.int 0) := D1 (Or.inr (own_at hw 26 rfl)) (ty := .byte) (by decide)
  obtain ⟨T2, h2, k2, X2, e2, E2, A2, EA2, st2⟩ := newPE X1 hx hZ (own_at hw 1 rfl) e1 (g := (mkF m 45 #[iv 2, iv p1, iv p2, iv p3, iv p4] [(.int 2), (.ref b1), (.ref b1)])) rfl (hb hby d2_45) rfl (by decide) (cap := 2) (by decide) (by decide) (by decide) (by decide) (ad := "[C") (by decide)
  obtain ⟨b2, g2⟩ : ∃ z, z = h1.size := ⟨_, rfl⟩
  rw [← g2] at A2 EA2 st2
  have g_b2 : n0 ≤ b2 := Nat.le_trans (Nat.le_trans Z0 E1.1) (Nat.le_of_eq g2.symm)
  have sz_b2 : h0.size ≤ b2 := Nat.le_trans ((Keep.refl h0 []).ext E1).1 (Nat.le_of_eq g2.symm)
  have V_b2 : Arv Z h2 b2 k2 .char (2 : Int32) [(.int 0), (.int 0)] (.int 0) := (Arv.new A2 (by decide)).pad (pad_rep [] (.int 0) 2)
  obtain ⟨cl_z3, Ar_z3, q_z3, S_z3, N_z3, H_z3, G_z3⟩ := id V_b2
  have hin4 : ¬ ((0 : Int32) < 0 ∨ cl_z3.slots.size ≤ ((0 : Int32)).toNatClampNeg) := inb_of S_z3 ⟨by decide, by decide⟩
  obtain ⟨T5, h5, X5, e5, W5, st5⟩ := stC X2 hx hZ e2 Ar_z3 (j := (0 : Int32)) hin4 (g := (mkF m 50 #[iv 2, iv p1, iv p2, iv p3, iv p4] [(.int p1), (.int 0), (.ref b2), (.ref b2), (.ref b1), (.ref b1)])) rfl rfl (hb hby d2_50)
  have V5 : Arv Z h5 b2 k2 .char (2 : Int32) [(.int (p1.toUInt32.toUInt16.toUInt32.toInt32)), (.int 0)] (.int 0) := Arv.set Ar_z3 q_z3 S_z3 N_z3 H_z3 G_z3 (fits_nar_char _) W5 0 rfl (Nat.le_of_ble_eq_true rfl)
  have N5 := Fr.snoc X5 N0 g_b2
  obtain ⟨cl_z6, Ar_z6, q_z6, S_z6, N_z6, H_z6, G_z6⟩ := id V5
  have hin7 : ¬ ((1 : Int32) < 0 ∨ cl_z6.slots.size ≤ ((1 : Int32)).toNatClampNeg) := inb_of S_z6 ⟨by decide, by decide⟩
  obtain ⟨T8, h8, X8, e8, W8, st8⟩ := stC X5 hx hZ e5 Ar_z6 (j := (1 : Int32)) hin7 (g := (mkF m 54 #[iv 2, iv p1, iv p2, iv p3, iv p4] [(.int p2), (.int 1), (.ref b2), (.ref b2), (.ref b1), (.ref b1)])) rfl rfl (hb hby d2_54)
  have V8 : Arv Z h8 b2 k2 .char (2 : Int32) [(.int (p1.toUInt32.toUInt16.toUInt32.toInt32)), (.int (p2.toUInt32.toUInt16.toUInt32.toInt32))] (.int 0) := Arv.set Ar_z6 q_z6 S_z6 N_z6 H_z6 G_z6 (fits_nar_char _) W8 1 rfl (Nat.le_of_ble_eq_true rfl)
  have N8 := Fr.snoc X8 N5 g_b2
  have V9 : Arv Z h8 b2 k2 .char (2 : Int32) [(.int p1), (.int p2)] (.int 0) := by have q := V8; simp only [own_i2cid hch_p1, own_i2cid hch_p2] at q; exact q
  have f11 := ((((S_CS.ext E1).ext E2).wr W5).wr W8)
  have f12 := ((((S_AD.ext E1).ext E2).wr W5).wr W8)
  have f13 := ((((S_HI.ext E1).ext E2).wr W5).wr W8)
  have f14 := ((((S_LO.ext E1).ext E2).wr W5).wr W8)
  have f15 := (((A1.ext E2).wr W5).wr W8)
  have f16 := (((F_coder_b1.ext E2).other W5 (Or.inl (Nat.ne_of_lt (Nat.lt_of_lt_of_le A1.lt (Nat.le_of_eq g2.symm))))).other W8 (Or.inl (Nat.ne_of_lt (Nat.lt_of_lt_of_le A1.lt (Nat.le_of_eq g2.symm)))))
  have f17 := (((F_value_b1.ext E2).other W5 (Or.inl (Nat.ne_of_lt (Nat.lt_of_lt_of_le A1.lt (Nat.le_of_eq g2.symm))))).other W8 (Or.inl (Nat.ne_of_lt (Nat.lt_of_lt_of_le A1.lt (Nat.le_of_eq g2.symm)))))
  obtain ⟨_, _, ⟨T10, L10, j10, i10⟩, -, X10, ⟨Lc10, hQ10, l10, y10, z10⟩, st10⟩ := X8.specialBack hx (y := (⟨cS1, "<init>", "([C)V"⟩ : MethodName)) rfl hown (mvT hZ (own_at hw 13 rfl)) (mvT hZ (own_at hw 14 rfl)) (mvT hZ (own_at hw 15 rfl)) (by decide) (backOf (W := 1) (rmI1_2 l Z a0 hw [] b1 b2 w_CS k2 p1 p2 (.int 0) .null h8 n0 (Nat.le_trans (Nat.le_trans (Nat.le_trans (Nat.le_trans Z0 E1.1) E2.1) (Keep.of_wr W5).1) (Keep.of_wr W8).1) f11 hcs f12 f13 f14 f15 V9 hch_p1 hch_p2 f16 g_b1 f17) hZ (own_at hw 15 rfl) (own_at hw 12 rfl) (by decide) (by decide)) (g := (mkF m 55 #[iv 2, iv p1, iv p2, iv p3, iv p4] [(.ref b2), (.ref b1), (.ref b1)])) rfl (by rw [hml]; rfl) (Steps.refl _) (a := b1) (argsL := [(.ref b2)]) (rest := [(.ref b1)]) (lenOf pd_15 rfl) rfl (Nat.le_refl _) (hb hby d2_55) (fun _ _ => ⟨rfl, e8, (by decide : 2 + 2 ≤ _), (by decide : 6 + 6 ≤ _)⟩)
  dsimp only [Pt.U, Pt.locs, Pt.cells, Pt.slots] at X10 l10 y10 z10 st10 hQ10
  subst l10 y10 z10
  have f18 := ((EA2.wr W5).wr W8)
  obtain ⟨rfl, N10q, K10, p10_0, p10_1⟩ := hQ10
  have pl10 := (allS (P := fun x => ∃ cell : Cell, h8[x]? = some cell ∧ cell.vm.isStatics = false) (own_ns f15) all0)
  have N10 := Fr.app N8 N10q
  refine own_out X10 Bd.notSynchronized Bd.returns (some (.ref b1)) nofun (by decide) (by decide) ?_ fun fs hr => k0 _ ?_
  · exact ⟨b1, rfl, N10, ((((((Keep.refl h0 []).ext E1).ext E2).wr W5 (Or.inr sz_b2)).wr W8 (Or.inr sz_b2)).trans K10 (allS (Or.inr sz_b1) all0)), sz_b1, p10_1, p10_0⟩
  · show OwnS p e below s₁ (mkF m 0 #[iv 2, iv p1, iv p2, iv p3, iv p4] []) _
    refine oIn X0 hx hby d2_0 rfl ?_
    refine XS.ifYes X0.here hx rfl (pc0 := 1) (pc' := 15) rfl (hb hby d2_1) rfl ((if0 _ _).trans (feq (by decide : ¬ ((2 : Int32) = (0 : Int32)))).2) (by decide) (by decide) ?_
    refine oIn X0 hx hby d2_15 rfl (oIc X0 hx hby d2_16 ?_)
    refine XS.icmpYes X0.here hx rfl (pc0 := 17) (pc' := 35) rfl (hb hby d2_17) rfl (feq (by decide : ¬ ((2 : Int32) = (1 : Int32)))).2 (by decide) (by decide) ?_
    refine oIn X0 hx hby d2_35 rfl (oIc X0 hx hby d2_36 ?_)
    refine XS.icmpNo X0.here hx rfl (hb hby d2_37) rfl (teq (by decide : (2 : Int32) = (2 : Int32))).2 ?_
    refine st1 _ ?_
    refine XS.dup X1.here hx rfl (hb hby d2_43) rfl rfl ?_
    refine oIc X1 hx hby d2_44 ?_
    refine st2 _ ?_
    refine XS.dup X2.here hx rfl (hb hby d2_47) rfl rfl ?_
    refine oIc X2 hx hby d2_48 (oIn X2 hx hby d2_49 rfl ?_)
    refine st5 _ ?_
    refine XS.dup X5.here hx rfl (hb hby d2_51) rfl rfl ?_
    refine oIc X5 hx hby d2_52 (oIn X5 hx hby d2_53 rfl ?_)
    refine st8 _ ?_
    refine st10.trans ?_
    jvm_step X10.here [X10.here.top, hx, (hb hby d2_58), X10.method', Bd.returns, Value.isRef, FieldType.isReference]
    first | (intro acts; rw [hr _ acts rfl rfl rfl]) | rw [hr _ _ rfl rfl rfl]
    exact Steps.refl _
theorem d2_59 : decode method_6_code 59 = .ok (.iload_n 0, 1) := by decide +kernel
theorem d2_60 : decode method_6_code 60 = .ok (.iconst 3, 1) := by decide +kernel
theorem d2_61 : decode method_6_code 61 = .ok (.if_icmp .ne 26, 3) := by decide +kernel
theorem d2_64 : decode method_6_code 64 = .ok (.new 33, 3) := by decide +kernel
theorem d2_67 : decode method_6_code 67 = .ok (.dup, 1) := by decide +kernel
theorem d2_68 : decode method_6_code 68 = .ok (.iconst 3, 1) := by decide +kernel
theorem d2_69 : decode method_6_code 69 = .ok (.newarray .char, 2) := by decide +kernel
theorem d2_71 : decode method_6_code 71 = .ok (.dup, 1) := by decide +kernel
theorem d2_72 : decode method_6_code 72 = .ok (.iconst 0, 1) := by decide +kernel
theorem d2_73 : decode method_6_code 73 = .ok (.iload_n 1, 1) := by decide +kernel
theorem d2_74 : decode method_6_code 74 = .ok (.castore, 1) := by decide +kernel
theorem d2_75 : decode method_6_code 75 = .ok (.dup, 1) := by decide +kernel
theorem d2_76 : decode method_6_code 76 = .ok (.iconst 1, 1) := by decide +kernel
theorem d2_77 : decode method_6_code 77 = .ok (.iload_n 2, 1) := by decide +kernel
theorem d2_78 : decode method_6_code 78 = .ok (.castore, 1) := by decide +kernel
theorem d2_79 : decode method_6_code 79 = .ok (.dup, 1) := by decide +kernel
theorem d2_80 : decode method_6_code 80 = .ok (.iconst 2, 1) := by decide +kernel
theorem d2_81 : decode method_6_code 81 = .ok (.iload_n 3, 1) := by decide +kernel
theorem d2_82 : decode method_6_code 82 = .ok (.castore, 1) := by decide +kernel
theorem d2_83 : decode method_6_code 83 = .ok (.invokespecial 35, 3) := by decide +kernel
theorem d2_86 : decode method_6_code 86 = .ok (.areturn, 1) := by decide +kernel
def Q_Tx_3 (Z : State) (p1 p2 p3 p4 w_CS : Int32) (h0 : Heap) (n0 : Nat) (v : Option Value) (h : Heap) (L : List Loc) : Prop := ∃ ob : Addr, v = some (.ref ob) ∧ Fr n0 L ∧ Keep h0 h [] ∧ h0.size ≤ ob ∧ Exa Z h ob cS1 ∧ own_S3 Z h ob p1 p2 p3
theorem rmTx_3 (l : Launch) (Z : State) (a0 : Array Value) (hw : own_HW a0 Z) (ws : List Jvm.Cond) (p1 p2 p3 p4 w_CS : Int32) (h0 : Heap) (n0 : Nat) (Z0 : n0 ≤ h0.size) (S_CS : Sta Z h0 cS1 cS10 "Z" (.int w_CS)) (hcs : ¬ (w_CS = (0 : Int32))) (S_AD : Sta Z h0 cS0 cS5 "Z" (.int 1)) (S_HI : Sta Z h0 cS0 cS7 "I" (.int 0)) (S_LO : Sta Z h0 cS0 cS8 "I" (.int 8)) (hch_p1 : own_ch p1) (hch_p2 : own_ch p2) (hch_p3 : own_ch p3) :
    own_M l Z (⟨cS6, "text", "(ICCCC)Ljava/lang/String;"⟩ : MethodName) method_6_code 5 (some (.object cS1)) ws ({ frames := 6, cells := 4, slots := 16, locals := 88 } : Room) #[(.int 3), (.int p1), (.int p2), (.int p3), (.int p4)] h0 (Q_Tx_3 Z p1 p2 p3 p4 w_CS h0 n0) := by
  refine own_in cS6 rfl (plainFor_of_name pn_com_example_strict_lock_strictlock_IfHeaderSkipSpacePinLaw) ?_
  intro p e s m below meth c s₁ Bd hml hZ hh hx hby hown X0 e0
  have N0 := Fr.nil n0
  have k0 := own_k (p := p) (e := e) (below := below) (T := s₁) (ef_2 m (3 : Int32) p1 p2 p3 p4)
  obtain ⟨T1, h1, X1, e1, E1, A1, D1, -, st1⟩ := newO X0 hx hZ hown (own_at hw 10 rfl) (own_at hw 11 rfl) (own_at hw 12 rfl) e0 (g := (mkF m 64 #[iv 3, iv p1, iv p2, iv p3, iv p4] [])) rfl (hb hby d2_64) (by decide) (by decide)
  obtain ⟨b1, g1⟩ : ∃ z, z = h0.size := ⟨_, rfl⟩
  rw [← g1] at A1 D1 st1
  have g_b1 : n0 ≤ b1 := Nat.le_trans Z0 (Nat.le_of_eq g1.symm)
  have sz_b1 : h0.size ≤ b1 := Nat.le_trans (Keep.refl h0 []).1 (Nat.le_of_eq g1.symm)
  have F_value_b1 : Fld Z h1 b1 cS1 "value" "[B" .null := D1 (Or.inr (own_at hw 25 rfl)) (ty := (.array .byte)) (by decide)
  have F_coder_b1 : Fld Z h1 b1 cS1 "coder" "B" (.int 0) := D1 (Or.inr (own_at hw 26 rfl)) (ty := .byte) (by decide)
  obtain ⟨T2, h2, k2, X2, e2, E2, A2, EA2, st2⟩ := newPE X1 hx hZ (own_at hw 1 rfl) e1 (g := (mkF m 69 #[iv 3, iv p1, iv p2, iv p3, iv p4] [(.int 3), (.ref b1), (.ref b1)])) rfl (hb hby d2_69) rfl (by decide) (cap := 3) (by decide) (by decide) (by decide) (by decide) (ad := "[C") (by decide)
  obtain ⟨b2, g2⟩ : ∃ z, z = h1.size := ⟨_, rfl⟩
  rw [← g2] at A2 EA2 st2
  have g_b2 : n0 ≤ b2 := Nat.le_trans (Nat.le_trans Z0 E1.1) (Nat.le_of_eq g2.symm)
  have sz_b2 : h0.size ≤ b2 := Nat.le_trans ((Keep.refl h0 []).ext E1).1 (Nat.le_of_eq g2.symm)
  have V_b2 : Arv Z h2 b2 k2 .char (3 : Int32) [(.int 0), (.int 0), (.int 0)] (.int 0) := (Arv.new A2 (by decide)).pad (pad_rep [] (.int 0) 3)
  obtain ⟨cl_z3, Ar_z3, q_z3, S_z3, N_z3, H_z3, G_z3⟩ := id V_b2
  have hin4 : ¬ ((0 : Int32) < 0 ∨ cl_z3.slots.size ≤ ((0 : Int32)).toNatClampNeg) := inb_of S_z3 ⟨by decide, by decide⟩
  obtain ⟨T5, h5, X5, e5, W5, st5⟩ := stC X2 hx hZ e2 Ar_z3 (j := (0 : Int32)) hin4 (g := (mkF m 74 #[iv 3, iv p1, iv p2, iv p3, iv p4] [(.int p1), (.int 0), (.ref b2), (.ref b2), (.ref b1), (.ref b1)])) rfl rfl (hb hby d2_74)
  have V5 : Arv Z h5 b2 k2 .char (3 : Int32) [(.int (p1.toUInt32.toUInt16.toUInt32.toInt32)), (.int 0), (.int 0)] (.int 0) := Arv.set Ar_z3 q_z3 S_z3 N_z3 H_z3 G_z3 (fits_nar_char _) W5 0 rfl (Nat.le_of_ble_eq_true rfl)
  have N5 := Fr.snoc X5 N0 g_b2
  obtain ⟨cl_z6, Ar_z6, q_z6, S_z6, N_z6, H_z6, G_z6⟩ := id V5
  have hin7 : ¬ ((1 : Int32) < 0 ∨ cl_z6.slots.size ≤ ((1 : Int32)).toNatClampNeg) := inb_of S_z6 ⟨by decide, by decide⟩
  obtain ⟨T8, h8, X8, e8, W8, st8⟩ := stC X5 hx hZ e5 Ar_z6 (j := (1 : Int32)) hin7 (g := (mkF m 78 #[iv 3, iv p1, iv p2, iv p3, iv p4] [(.int p2), (.int 1), (.ref b2), (.ref b2), (.ref b1), (.ref b1)])) rfl rfl (hb hby d2_78)
  have V8 : Arv Z h8 b2 k2 .char (3 : Int32) [(.int (p1.toUInt32.toUInt16.toUInt32.toInt32)), (.int (p2.toUInt32.toUInt16.toUInt32.toInt32)), (.int 0)] (.int 0) := Arv.set Ar_z6 q_z6 S_z6 N_z6 H_z6 G_z6 (fits_nar_char _) W8 1 rfl (Nat.le_of_ble_eq_true rfl)
  have N8 := Fr.snoc X8 N5 g_b2
  obtain ⟨cl_z9, Ar_z9, q_z9, S_z9, N_z9, H_z9, G_z9⟩ := id V8
  have hin10 : ¬ ((2 : Int32) < 0 ∨ cl_z9.slots.size ≤ ((2 : Int32)).toNatClampNeg) := inb_of S_z9 ⟨by decide, by decide⟩
  obtain ⟨T11, h11, X11, e11, W11, st11⟩ := stC X8 hx hZ e8 Ar_z9 (j := (2 : Int32)) hin10 (g := (mkF m 82 #[iv 3, iv p1, iv p2, iv p3, iv p4] [(.int p3), (.int 2), (.ref b2), (.ref b2), (.ref b1), (.ref b1)])) rfl rfl (hb hby d2_82)
  have V11 : Arv Z h11 b2 k2 .char (3 : Int32) [(.int (p1.toUInt32.toUInt16.toUInt32.toInt32)), (.int (p2.toUInt32.toUInt16.toUInt32.toInt32)), (.int (p3.toUInt32.toUInt16.toUInt32.toInt32))] (.int 0) := Arv.set Ar_z9 q_z9 S_z9 N_z9 H_z9 G_z9 (fits_nar_char _) W11 2 rfl (Nat.le_of_ble_eq_true rfl)
  have N11 := Fr.snoc X11 N8 g_b2
  have V12 : Arv Z h11 b2 k2 .char (3 : Int32) [(.int p1), (.int p2), (.int p3)] (.int 0) := by have q := V11; simp only [own_i2cid hch_p1, own_i2cid hch_p2, own_i2cid hch_p3] at q; exact q
  have f14 := (((((S_CS.ext E1).ext E2).wr W5).wr W8).wr W11)
  have f15 := (((((S_AD.ext E1).ext E2).wr W5).wr W8).wr W11)
  have f16 := (((((S_HI.ext E1).ext E2).wr W5).wr W8).wr W11)
  have f17 := (((((S_LO.ext E1).ext E2).wr W5).wr W8).wr W11)
  have f18 := ((((A1.ext E2).wr W5).wr W8).wr W11)
  have f19 := ((((F_coder_b1.ext E2).other W5 (Or.inl (Nat.ne_of_lt (Nat.lt_of_lt_of_le A1.lt (Nat.le_of_eq g2.symm))))).other W8 (Or.inl (Nat.ne_of_lt (Nat.lt_of_lt_of_le A1.lt (Nat.le_of_eq g2.symm))))).other W11 (Or.inl (Nat.ne_of_lt (Nat.lt_of_lt_of_le A1.lt (Nat.le_of_eq g2.symm)))))
  have f20 := ((((F_value_b1.ext E2).other W5 (Or.inl (Nat.ne_of_lt (Nat.lt_of_lt_of_le A1.lt (Nat.le_of_eq g2.symm))))).other W8 (Or.inl (Nat.ne_of_lt (Nat.lt_of_lt_of_le A1.lt (Nat.le_of_eq g2.symm))))).other W11 (Or.inl (Nat.ne_of_lt (Nat.lt_of_lt_of_le A1.lt (Nat.le_of_eq g2.symm)))))
  obtain ⟨_, _, ⟨T13, L13, j13, i13⟩, -, X13, ⟨Lc13, hQ13, l13, y13, z13⟩, st13⟩ := X11.specialBack hx (y := (⟨cS1, "<init>", "([C)V"⟩ : MethodName)) rfl hown (mvT hZ (own_at hw 13 rfl)) (mvT hZ (own_at hw 14 rfl)) (mvT hZ (own_at hw 15 rfl)) (by decide) (backOf (W := 1) (rmI1_3 l Z a0 hw [] b1 b2 w_CS k2 p1 p2 p3 (.int 0) .null h11 n0 (Nat.le_trans (Nat.le_trans (Nat.le_trans (Nat.le_trans (Nat.le_trans Z0 E1.1) E2.1) (Keep.of_wr W5).1) (Keep.of_wr W8).1) (Keep.of_wr W11).1) f14 hcs f15 f16 f17 f18 V12 hch_p1 hch_p2 hch_p3 f19 g_b1 f20) hZ (own_at hw 15 rfl) (own_at hw 12 rfl) (by decide) (by decide)) (g := (mkF m 83 #[iv 3, iv p1, iv p2, iv p3, iv p4] [(.ref b2), (.ref b1), (.ref b1)])) rfl (by rw [hml]; rfl) (Steps.refl _) (a := b1) (argsL := [(.ref b2)]) (rest := [(.ref b1)]) (lenOf pd_15 rfl) rfl (Nat.le_refl _) (hb hby d2_83) (fun _ _ => ⟨rfl, e11, (by decide : 2 + 2 ≤ _), (by decide : 7 + 9 ≤ _)⟩)
  dsimp only [Pt.U, Pt.locs, Pt.cells, Pt.slots] at X13 l13 y13 z13 st13 hQ13
  subst l13 y13 z13
  have f21 := (((EA2.wr W5).wr W8).wr W11)
  obtain ⟨rfl, N13q, K13, p13_0, p13_1⟩ := hQ13
  have pl13 := (allS (P := fun x => ∃ cell : Cell, h11[x]? = some cell ∧ cell.vm.isStatics = false) (own_ns f18) all0)
  have N13 := Fr.app N11 N13q
  refine own_out X13 Bd.notSynchronized Bd.returns (some (.ref b1)) nofun (by decide) (by decide) ?_ fun fs hr => k0 _ ?_
  · exact ⟨b1, rfl, N13, (((((((Keep.refl h0 []).ext E1).ext E2).wr W5 (Or.inr sz_b2)).wr W8 (Or.inr sz_b2)).wr W11 (Or.inr sz_b2)).trans K13 (allS (Or.inr sz_b1) all0)), sz_b1, p13_1, p13_0⟩
  · show OwnS p e below s₁ (mkF m 0 #[iv 3, iv p1, iv p2, iv p3, iv p4] []) _
    refine oIn X0 hx hby d2_0 rfl ?_
    refine XS.ifYes X0.here hx rfl (pc0 := 1) (pc' := 15) rfl (hb hby d2_1) rfl ((if0 _ _).trans (feq (by decide : ¬ ((3 : Int32) = (0 : Int32)))).2) (by decide) (by decide) ?_
    refine oIn X0 hx hby d2_15 rfl (oIc X0 hx hby d2_16 ?_)
    refine XS.icmpYes X0.here hx rfl (pc0 := 17) (pc' := 35) rfl (hb hby d2_17) rfl (feq (by decide : ¬ ((3 : Int32) = (1 : Int32)))).2 (by decide) (by decide) ?_
    refine oIn X0 hx hby d2_35 rfl (oIc X0 hx hby d2_36 ?_)
    refine XS.icmpYes X0.here hx rfl (pc0 := 37) (pc' := 59) rfl (hb hby d2_37) rfl (feq (by decide : ¬ ((3 : Int32) = (2 : Int32)))).2 (by decide) (by decide) ?_
    refine oIn X0 hx hby d2_59 rfl (oIc X0 hx hby d2_60 ?_)
    refine XS.icmpNo X0.here hx rfl (hb hby d2_61) rfl (teq (by decide : (3 : Int32) = (3 : Int32))).2 ?_
    refine st1 _ ?_
    refine XS.dup X1.here hx rfl (hb hby d2_67) rfl rfl ?_
    refine oIc X1 hx hby d2_68 ?_
    refine st2 _ ?_
    refine XS.dup X2.here hx rfl (hb hby d2_71) rfl rfl ?_
    refine oIc X2 hx hby d2_72 (oIn X2 hx hby d2_73 rfl ?_)
    refine st5 _ ?_
    refine XS.dup X5.here hx rfl (hb hby d2_75) rfl rfl ?_
    refine oIc X5 hx hby d2_76 (oIn X5 hx hby d2_77 rfl ?_)
    refine st8 _ ?_
    refine XS.dup X8.here hx rfl (hb hby d2_79) rfl rfl ?_
    refine oIc X8 hx hby d2_80 (oIn X8 hx hby d2_81 rfl ?_)
    refine st11 _ ?_
    refine st13.trans ?_
    jvm_step X13.here [X13.here.top, hx, (hb hby d2_86), X13.method', Bd.returns, Value.isRef, FieldType.isReference]
    first | (intro acts; rw [hr _ acts rfl rfl rfl]) | rw [hr _ _ rfl rfl rfl]
    exact Steps.refl _
theorem d2_87 : decode method_6_code 87 = .ok (.new 33, 3) := by decide +kernel
theorem d2_90 : decode method_6_code 90 = .ok (.dup, 1) := by decide +kernel
theorem d2_91 : decode method_6_code 91 = .ok (.iconst 4, 1) := by decide +kernel
theorem d2_92 : decode method_6_code 92 = .ok (.newarray .char, 2) := by decide +kernel
theorem d2_94 : decode method_6_code 94 = .ok (.dup, 1) := by decide +kernel
theorem d2_95 : decode method_6_code 95 = .ok (.iconst 0, 1) := by decide +kernel
theorem d2_96 : decode method_6_code 96 = .ok (.iload_n 1, 1) := by decide +kernel
theorem d2_97 : decode method_6_code 97 = .ok (.castore, 1) := by decide +kernel
theorem d2_98 : decode method_6_code 98 = .ok (.dup, 1) := by decide +kernel
theorem d2_99 : decode method_6_code 99 = .ok (.iconst 1, 1) := by decide +kernel
theorem d2_100 : decode method_6_code 100 = .ok (.iload_n 2, 1) := by decide +kernel
theorem d2_101 : decode method_6_code 101 = .ok (.castore, 1) := by decide +kernel
theorem d2_102 : decode method_6_code 102 = .ok (.dup, 1) := by decide +kernel
theorem d2_103 : decode method_6_code 103 = .ok (.iconst 2, 1) := by decide +kernel
theorem d2_104 : decode method_6_code 104 = .ok (.iload_n 3, 1) := by decide +kernel
theorem d2_105 : decode method_6_code 105 = .ok (.castore, 1) := by decide +kernel
theorem d2_106 : decode method_6_code 106 = .ok (.dup, 1) := by decide +kernel
theorem d2_107 : decode method_6_code 107 = .ok (.iconst 3, 1) := by decide +kernel
theorem d2_108 : decode method_6_code 108 = .ok (.iload 4, 2) := by decide +kernel
theorem d2_110 : decode method_6_code 110 = .ok (.castore, 1) := by decide +kernel
theorem d2_111 : decode method_6_code 111 = .ok (.invokespecial 35, 3) := by decide +kernel
theorem d2_114 : decode method_6_code 114 = .ok (.areturn, 1) := by decide +kernel
def Q_Tx_4 (Z : State) (p1 p2 p3 p4 w_CS : Int32) (h0 : Heap) (n0 : Nat) (v : Option Value) (h : Heap) (L : List Loc) : Prop := ∃ ob : Addr, v = some (.ref ob) ∧ Fr n0 L ∧ Keep h0 h [] ∧ h0.size ≤ ob ∧ Exa Z h ob cS1 ∧ own_S4 Z h ob p1 p2 p3 p4
theorem rmTx_4 (l : Launch) (Z : State) (a0 : Array Value) (hw : own_HW a0 Z) (ws : List Jvm.Cond) (p1 p2 p3 p4 w_CS : Int32) (h0 : Heap) (n0 : Nat) (Z0 : n0 ≤ h0.size) (S_CS : Sta Z h0 cS1 cS10 "Z" (.int w_CS)) (hcs : ¬ (w_CS = (0 : Int32))) (S_AD : Sta Z h0 cS0 cS5 "Z" (.int 1)) (S_HI : Sta Z h0 cS0 cS7 "I" (.int 0)) (S_LO : Sta Z h0 cS0 cS8 "I" (.int 8)) (hch_p1 : own_ch p1) (hch_p2 : own_ch p2) (hch_p3 : own_ch p3) (hch_p4 : own_ch p4) :
    own_M l Z (⟨cS6, "text", "(ICCCC)Ljava/lang/String;"⟩ : MethodName) method_6_code 5 (some (.object cS1)) ws ({ frames := 6, cells := 4, slots := 20, locals := 88 } : Room) #[(.int 4), (.int p1), (.int p2), (.int p3), (.int p4)] h0 (Q_Tx_4 Z p1 p2 p3 p4 w_CS h0 n0) := by
  refine own_in cS6 rfl (plainFor_of_name pn_com_example_strict_lock_strictlock_IfHeaderSkipSpacePinLaw) ?_
  intro p e s m below meth c s₁ Bd hml hZ hh hx hby hown X0 e0
  have N0 := Fr.nil n0
  have k0 := own_k (p := p) (e := e) (below := below) (T := s₁) (ef_2 m (4 : Int32) p1 p2 p3 p4)
  obtain ⟨T1, h1, X1, e1, E1, A1, D1, -, st1⟩ := newO X0 hx hZ hown (own_at hw 10 rfl) (own_at hw 11 rfl) (own_at hw 12 rfl) e0 (g := (mkF m 87 #[iv 4, iv p1, iv p2, iv p3, iv p4] [])) rfl (hb hby d2_87) (by decide) (by decide)
  obtain ⟨b1, g1⟩ : ∃ z, z = h0.size := ⟨_, rfl⟩
  rw [← g1] at A1 D1 st1
  have g_b1 : n0 ≤ b1 := Nat.le_trans Z0 (Nat.le_of_eq g1.symm)
  have sz_b1 : h0.size ≤ b1 := Nat.le_trans (Keep.refl h0 []).1 (Nat.le_of_eq g1.symm)
  have F_value_b1 : Fld Z h1 b1 cS1 "value" "[B" .null := D1 (Or.inr (own_at hw 25 rfl)) (ty := (.array .byte)) (by decide)
  have F_coder_b1 : Fld Z h1 b1 cS1 "coder" "B" (.int 0) := D1 (Or.inr (own_at hw 26 rfl)) (ty := .byte) (by decide)
  obtain ⟨T2, h2, k2, X2, e2, E2, A2, EA2, st2⟩ := newPE X1 hx hZ (own_at hw 1 rfl) e1 (g := (mkF m 92 #[iv 4, iv p1, iv p2, iv p3, iv p4] [(.int 4), (.ref b1), (.ref b1)])) rfl (hb hby d2_92) rfl (by decide) (cap := 4) (by decide) (by decide) (by decide) (by decide) (ad := "[C") (by decide)
  obtain ⟨b2, g2⟩ : ∃ z, z = h1.size := ⟨_, rfl⟩
  rw [← g2] at A2 EA2 st2
  have g_b2 : n0 ≤ b2 := Nat.le_trans (Nat.le_trans Z0 E1.1) (Nat.le_of_eq g2.symm)
  have sz_b2 : h0.size ≤ b2 := Nat.le_trans ((Keep.refl h0 []).ext E1).1 (Nat.le_of_eq g2.symm)
  have V_b2 : Arv Z h2 b2 k2 .char (4 : Int32) [(.int 0), (.int 0), (.int 0), (.int 0)] (.int 0) := (Arv.new A2 (by decide)).pad (pad_rep [] (.int 0) 4)
  obtain ⟨cl_z3, Ar_z3, q_z3, S_z3, N_z3, H_z3, G_z3⟩ := id V_b2
  have hin4 : ¬ ((0 : Int32) < 0 ∨ cl_z3.slots.size ≤ ((0 : Int32)).toNatClampNeg) := inb_of S_z3 ⟨by decide, by decide⟩
  obtain ⟨T5, h5, X5, e5, W5, st5⟩ := stC X2 hx hZ e2 Ar_z3 (j := (0 : Int32)) hin4 (g := (mkF m 97 #[iv 4, iv p1, iv p2, iv p3, iv p4] [(.int p1), (.int 0), (.ref b2), (.ref b2), (.ref b1), (.ref b1)])) rfl rfl (hb hby d2_97)
  have V5 : Arv Z h5 b2 k2 .char (4 : Int32) [(.int (p1.toUInt32.toUInt16.toUInt32.toInt32)), (.int 0), (.int 0), (.int 0)] (.int 0) := Arv.set Ar_z3 q_z3 S_z3 N_z3 H_z3 G_z3 (fits_nar_char _) W5 0 rfl (Nat.le_of_ble_eq_true rfl)
  have N5 := Fr.snoc X5 N0 g_b2
  obtain ⟨cl_z6, Ar_z6, q_z6, S_z6, N_z6, H_z6, G_z6⟩ := id V5
  have hin7 : ¬ ((1 : Int32) < 0 ∨ cl_z6.slots.size ≤ ((1 : Int32)).toNatClampNeg) := inb_of S_z6 ⟨by decide, by decide⟩
  obtain ⟨T8, h8, X8, e8, W8, st8⟩ := stC X5 hx hZ e5 Ar_z6 (j := (1 : Int32)) hin7 (g := (mkF m 101 #[iv 4, iv p1, iv p2, iv p3, iv p4] [(.int p2), (.int 1), (.ref b2), (.ref b2), (.ref b1), (.ref b1)])) rfl rfl (hb hby d2_101)
  have V8 : Arv Z h8 b2 k2 .char (4 : Int32) [(.int (p1.toUInt32.toUInt16.toUInt32.toInt32)), (.int (p2.toUInt32.toUInt16.toUInt32.toInt32)), (.int 0), (.int 0)] (.int 0) := Arv.set Ar_z6 q_z6 S_z6 N_z6 H_z6 G_z6 (fits_nar_char _) W8 1 rfl (Nat.le_of_ble_eq_true rfl)
  have N8 := Fr.snoc X8 N5 g_b2
  obtain ⟨cl_z9, Ar_z9, q_z9, S_z9, N_z9, H_z9, G_z9⟩ := id V8
  have hin10 : ¬ ((2 : Int32) < 0 ∨ cl_z9.slots.size ≤ ((2 : Int32)).toNatClampNeg) := inb_of S_z9 ⟨by decide, by decide⟩
  obtain ⟨T11, h11, X11, e11, W11, st11⟩ := stC X8 hx hZ e8 Ar_z9 (j := (2 : Int32)) hin10 (g := (mkF m 105 #[iv 4, iv p1, iv p2, iv p3, iv p4] [(.int p3), (.int 2), (.ref b2), (.ref b2), (.ref b1), (.ref b1)])) rfl rfl (hb hby d2_105)
  have V11 : Arv Z h11 b2 k2 .char (4 : Int32) [(.int (p1.toUInt32.toUInt16.toUInt32.toInt32)), (.int (p2.toUInt32.toUInt16.toUInt32.toInt32)), (.int (p3.toUInt32.toUInt16.toUInt32.toInt32)), (.int 0)] (.int 0) := Arv.set Ar_z9 q_z9 S_z9 N_z9 H_z9 G_z9 (fits_nar_char _) W11 2 rfl (Nat.le_of_ble_eq_true rfl)
  have N11 := Fr.snoc X11 N8 g_b2
  obtain ⟨cl_z12, Ar_z12, q_z12, S_z12, N_z12, H_z12, G_z12⟩ := id V11
  have hin13 : ¬ ((3 : Int32) < 0 ∨ cl_z12.slots.size ≤ ((3 : Int32)).toNatClampNeg) := inb_of S_z12 ⟨by decide, by decide⟩
  obtain ⟨T14, h14, X14, e14, W14, st14⟩ := stC X11 hx hZ e11 Ar_z12 (j := (3 : Int32)) hin13 (g := (mkF m 110 #[iv 4, iv p1, iv p2, iv p3, iv p4] [(.int p4), (.int 3), (.ref b2), (.ref b2), (.ref b1), (.ref b1)])) rfl rfl (hb hby d2_110)
  have V14 : Arv Z h14 b2 k2 .char (4 : Int32) [(.int (p1.toUInt32.toUInt16.toUInt32.toInt32)), (.int (p2.toUInt32.toUInt16.toUInt32.toInt32)), (.int (p3.toUInt32.toUInt16.toUInt32.toInt32)), (.int (p4.toUInt32.toUInt16.toUInt32.toInt32))] (.int 0) := Arv.set Ar_z12 q_z12 S_z12 N_z12 H_z12 G_z12 (fits_nar_char _) W14 3 rfl (Nat.le_of_ble_eq_true rfl)
  have N14 := Fr.snoc X14 N11 g_b2
  have V15 : Arv Z h14 b2 k2 .char (4 : Int32) [(.int p1), (.int p2), (.int p3), (.int p4)] (.int 0) := by have q := V14; simp only [own_i2cid hch_p1, own_i2cid hch_p2, own_i2cid hch_p3, own_i2cid hch_p4] at q; exact q
  have f17 := ((((((S_CS.ext E1).ext E2).wr W5).wr W8).wr W11).wr W14)
  have f18 := ((((((S_AD.ext E1).ext E2).wr W5).wr W8).wr W11).wr W14)
  have f19 := ((((((S_HI.ext E1).ext E2).wr W5).wr W8).wr W11).wr W14)
  have f20 := ((((((S_LO.ext E1).ext E2).wr W5).wr W8).wr W11).wr W14)
  have f21 := (((((A1.ext E2).wr W5).wr W8).wr W11).wr W14)
  have f22 := (((((F_coder_b1.ext E2).other W5 (Or.inl (Nat.ne_of_lt (Nat.lt_of_lt_of_le A1.lt (Nat.le_of_eq g2.symm))))).other W8 (Or.inl (Nat.ne_of_lt (Nat.lt_of_lt_of_le A1.lt (Nat.le_of_eq g2.symm))))).other W11 (Or.inl (Nat.ne_of_lt (Nat.lt_of_lt_of_le A1.lt (Nat.le_of_eq g2.symm))))).other W14 (Or.inl (Nat.ne_of_lt (Nat.lt_of_lt_of_le A1.lt (Nat.le_of_eq g2.symm)))))
  have f23 := (((((F_value_b1.ext E2).other W5 (Or.inl (Nat.ne_of_lt (Nat.lt_of_lt_of_le A1.lt (Nat.le_of_eq g2.symm))))).other W8 (Or.inl (Nat.ne_of_lt (Nat.lt_of_lt_of_le A1.lt (Nat.le_of_eq g2.symm))))).other W11 (Or.inl (Nat.ne_of_lt (Nat.lt_of_lt_of_le A1.lt (Nat.le_of_eq g2.symm))))).other W14 (Or.inl (Nat.ne_of_lt (Nat.lt_of_lt_of_le A1.lt (Nat.le_of_eq g2.symm)))))
  obtain ⟨_, _, ⟨T16, L16, j16, i16⟩, -, X16, ⟨Lc16, hQ16, l16, y16, z16⟩, st16⟩ := X14.specialBack hx (y := (⟨cS1, "<init>", "([C)V"⟩ : MethodName)) rfl hown (mvT hZ (own_at hw 13 rfl)) (mvT hZ (own_at hw 14 rfl)) (mvT hZ (own_at hw 15 rfl)) (by decide) (backOf (W := 1) (rmI1_4 l Z a0 hw [] b1 b2 w_CS k2 p1 p2 p3 p4 (.int 0) .null h14 n0 (Nat.le_trans (Nat.le_trans (Nat.le_trans (Nat.le_trans (Nat.le_trans (Nat.le_trans Z0 E1.1) E2.1) (Keep.of_wr W5).1) (Keep.of_wr W8).1) (Keep.of_wr W11).1) (Keep.of_wr W14).1) f17 hcs f18 f19 f20 f21 V15 hch_p1 hch_p2 hch_p3 hch_p4 f22 g_b1 f23) hZ (own_at hw 15 rfl) (own_at hw 12 rfl) (by decide) (by decide)) (g := (mkF m 111 #[iv 4, iv p1, iv p2, iv p3, iv p4] [(.ref b2), (.ref b1), (.ref b1)])) rfl (by rw [hml]; rfl) (Steps.refl _) (a := b1) (argsL := [(.ref b2)]) (rest := [(.ref b1)]) (lenOf pd_15 rfl) rfl (Nat.le_refl _) (hb hby d2_111) (fun _ _ => ⟨rfl, e14, (by decide : 2 + 2 ≤ _), (by decide : 8 + 12 ≤ _)⟩)
  dsimp only [Pt.U, Pt.locs, Pt.cells, Pt.slots] at X16 l16 y16 z16 st16 hQ16
  subst l16 y16 z16
  have f24 := ((((EA2.wr W5).wr W8).wr W11).wr W14)
  obtain ⟨rfl, N16q, K16, p16_0, p16_1⟩ := hQ16
  have pl16 := (allS (P := fun x => ∃ cell : Cell, h14[x]? = some cell ∧ cell.vm.isStatics = false) (own_ns f21) all0)
  have N16 := Fr.app N14 N16q
  refine own_out X16 Bd.notSynchronized Bd.returns (some (.ref b1)) nofun (by decide) (by decide) ?_ fun fs hr => k0 _ ?_
  · exact ⟨b1, rfl, N16, ((((((((Keep.refl h0 []).ext E1).ext E2).wr W5 (Or.inr sz_b2)).wr W8 (Or.inr sz_b2)).wr W11 (Or.inr sz_b2)).wr W14 (Or.inr sz_b2)).trans K16 (allS (Or.inr sz_b1) all0)), sz_b1, p16_1, p16_0⟩
  · show OwnS p e below s₁ (mkF m 0 #[iv 4, iv p1, iv p2, iv p3, iv p4] []) _
    refine oIn X0 hx hby d2_0 rfl ?_
    refine XS.ifYes X0.here hx rfl (pc0 := 1) (pc' := 15) rfl (hb hby d2_1) rfl ((if0 _ _).trans (feq (by decide : ¬ ((4 : Int32) = (0 : Int32)))).2) (by decide) (by decide) ?_
    refine oIn X0 hx hby d2_15 rfl (oIc X0 hx hby d2_16 ?_)
    refine XS.icmpYes X0.here hx rfl (pc0 := 17) (pc' := 35) rfl (hb hby d2_17) rfl (feq (by decide : ¬ ((4 : Int32) = (1 : Int32)))).2 (by decide) (by decide) ?_
    refine oIn X0 hx hby d2_35 rfl (oIc X0 hx hby d2_36 ?_)
    refine XS.icmpYes X0.here hx rfl (pc0 := 37) (pc' := 59) rfl (hb hby d2_37) rfl (feq (by decide : ¬ ((4 : Int32) = (2 : Int32)))).2 (by decide) (by decide) ?_
    refine oIn X0 hx hby d2_59 rfl (oIc X0 hx hby d2_60 ?_)
    refine XS.icmpYes X0.here hx rfl (pc0 := 61) (pc' := 87) rfl (hb hby d2_61) rfl (feq (by decide : ¬ ((4 : Int32) = (3 : Int32)))).2 (by decide) (by decide) ?_
    refine st1 _ ?_
    refine XS.dup X1.here hx rfl (hb hby d2_90) rfl rfl ?_
    refine oIc X1 hx hby d2_91 ?_
    refine st2 _ ?_
    refine XS.dup X2.here hx rfl (hb hby d2_94) rfl rfl ?_
    refine oIc X2 hx hby d2_95 (oIn X2 hx hby d2_96 rfl ?_)
    refine st5 _ ?_
    refine XS.dup X5.here hx rfl (hb hby d2_98) rfl rfl ?_
    refine oIc X5 hx hby d2_99 (oIn X5 hx hby d2_100 rfl ?_)
    refine st8 _ ?_
    refine XS.dup X8.here hx rfl (hb hby d2_102) rfl rfl ?_
    refine oIc X8 hx hby d2_103 (oIn X8 hx hby d2_104 rfl ?_)
    refine st11 _ ?_
    refine XS.dup X11.here hx rfl (hb hby d2_106) rfl rfl ?_
    refine oIc X11 hx hby d2_107 (oIl X11 hx hby d2_108 rfl ?_)
    refine st14 _ ?_
    refine st16.trans ?_
    jvm_step X16.here [X16.here.top, hx, (hb hby d2_114), X16.method', Bd.returns, Value.isRef, FieldType.isReference]
    first | (intro acts; rw [hr _ acts rfl rfl rfl]) | rw [hr _ _ rfl rfl rfl]
    exact Steps.refl _
theorem d2_4 : decode method_6_code 4 = .ok (.new 33, 3) := by decide +kernel
theorem d2_7 : decode method_6_code 7 = .ok (.dup, 1) := by decide +kernel
theorem d2_8 : decode method_6_code 8 = .ok (.iconst 0, 1) := by decide +kernel
theorem d2_9 : decode method_6_code 9 = .ok (.newarray .char, 2) := by decide +kernel
theorem d2_11 : decode method_6_code 11 = .ok (.invokespecial 35, 3) := by decide +kernel
theorem d2_14 : decode method_6_code 14 = .ok (.areturn, 1) := by decide +kernel
def Q_Tx_0 (Z : State) (p1 p2 p3 p4 : Int32) (h0 : Heap) (n0 : Nat) (v : Option Value) (h : Heap) (L : List Loc) : Prop := ∃ ob : Addr, ∃ ar : Addr, ∃ kk : ClassId, v = some (.ref ob) ∧ Fr n0 L ∧ Keep h0 h [] ∧ h0.size ≤ ob ∧ Exa Z h ob cS1 ∧ Fld Z h ob cS1 "coder" "B" (.int 0) ∧ Fld Z h ob cS1 "value" "[B" (.ref ar) ∧ Arv Z h ar kk .byte (0 : Int32) [] (.int 0)
theorem rmTx_0 (l : Launch) (Z : State) (a0 : Array Value) (hw : ∀ d ∈ tables_1, d.before a0 Z = true) (ws : List Jvm.Cond) (p1 p2 p3 p4 : Int32) (h0 : Heap) (n0 : Nat) (Z0 : n0 ≤ h0.size) :
    MetFree l (⟨cS6, "text", "(ICCCC)Ljava/lang/String;"⟩ : MethodName) (head1 (Jvm.Cond.code (⟨cS6, "text", "(ICCCC)Ljava/lang/String;"⟩ : MethodName) method_6_code 5 (some (.object cS1)) :: ws) ({ frames := 3, cells := 6, slots := 12, locals := 43 } : Room)) (fun a U => a = #[(.int 0), (.int p1), (.int p2), (.int p3), (.int p4)] ∧ Z.Warmed39 U.vm ∧ U.heap = h0 ∧ CHv Z own_EL U.vm h0) (fun _ _ _ _ _ => True) (fun _ U o U' => ∃ v L, o = .returned v ∧ Q_Tx_0 Z p1 p2 p3 p4 h0 n0 v U'.heap L ∧ CHr Z own_EL U.vm U.heap U'.vm U'.heap ∧ ReturnedEndW U o U' L 6 12) := by
  refine MetFree.of_bodySF (plainFor_of_name pn_com_example_strict_lock_strictlock_IfHeaderSkipSpacePinLaw) hisR ?_
  intro p e s m args below meth c s₁ Bd hml0 hP hK
  obtain ⟨rfl, hZ, hh, H0c⟩ := hP
  have hx := Bd.exec
  have hby := Bd.bytes
  have hml : c.maxLocals = 5 := hml0
  have hown : (s.setVm s.vm).vm.findClass cS6 = some m.cls := findClass_of_methodNamed Bd.named
  have hnm := (name_of_methodNamed Bd.named Bd.method).1
  have X0 : Stand p l e ({ frames := 3, cells := 6, slots := 12, locals := 43 } : Room) (s.setVm s.vm) m #[(.int 0), (.int p1), (.int p2), (.int p3), (.int p4)] below meth c s₁ [] 0 0 := Stand.of_body Bd
  have e0 : s₁.heap = h0 := by rw [← hh, Bd.state]; rfl
  have N0 := Fr.nil n0
  have k0 : ∀ t, OwnS p e below s₁ (mkF m 0 #[iv 0, iv p1, iv p2, iv p3, iv p4] []) t → OwnS p e below s₁ (entryFrame m #[(.int 0), (.int p1), (.int p2), (.int p3), (.int p4)] 5) t := fun t k => castTop (ef_2 m (0 : Int32) p1 p2 p3 p4) k
  have hZ : Z.Warmed39 (s.setVm s.vm).vm := hZ
  have hS0 : s.Since s.vm h0.size := (State.WarmedH.refl s).since _
  have hk0 : h0.size ≤ h0.size := Nat.le_refl _
  have R0c := CHr.refl H0c
  obtain ⟨T1, h1, X1, e1, E1, A1, D1, -, st1⟩ := newO X0 hx hZ hown (own_at hw 10 rfl) (own_at hw 11 rfl) (own_at hw 12 rfl) e0 (g := (mkF m 4 #[iv 0, iv p1, iv p2, iv p3, iv p4] [])) rfl (hb hby d2_4) (by decide) (by decide)
  obtain ⟨b1, g1⟩ : ∃ z, z = h0.size := ⟨_, rfl⟩
  rw [← g1] at A1 D1 st1
  have g_b1 : n0 ≤ b1 := Nat.le_trans Z0 (Nat.le_of_eq g1.symm)
  have sz_b1 : h0.size ≤ b1 := Nat.le_trans (Keep.refl h0 []).1 (Nat.le_of_eq g1.symm)
  have Hc1 := CHv.ext E1 H0c
  have Rc1 := R0c.trans (CHr.ext E1 H0c)
  have hk1 := Nat.le_trans hk0 E1.1
  have Sf1_b1 := Safe.ext (EL := own_EL) E1 H0c (Safe.new (Nat.le_of_eq g1.symm))
  have F_value_b1 : Fld Z h1 b1 cS1 "value" "[B" .null := D1 (Or.inr (own_at hw 25 rfl)) (ty := (.array .byte)) (by decide)
  have F_coder_b1 : Fld Z h1 b1 cS1 "coder" "B" (.int 0) := D1 (Or.inr (own_at hw 26 rfl)) (ty := .byte) (by decide)
  obtain ⟨T2, h2, k2, X2, e2, E2, A2, EA2, st2⟩ := newPE X1 hx hZ (own_at hw 1 rfl) e1 (g := (mkF m 9 #[iv 0, iv p1, iv p2, iv p3, iv p4] [(.int 0), (.ref b1), (.ref b1)])) rfl (hb hby d2_9) rfl (by decide) (cap := 0) (by decide) (by decide) (by decide) (by decide) (ad := "[C") (by decide)
  obtain ⟨b2, g2⟩ : ∃ z, z = h1.size := ⟨_, rfl⟩
  rw [← g2] at A2 EA2 st2
  have g_b2 : n0 ≤ b2 := Nat.le_trans (Nat.le_trans Z0 E1.1) (Nat.le_of_eq g2.symm)
  have sz_b2 : h0.size ≤ b2 := Nat.le_trans ((Keep.refl h0 []).ext E1).1 (Nat.le_of_eq g2.symm)
  have Hc2 := CHv.ext E2 Hc1
  have Rc2 := Rc1.trans (CHr.ext E2 Hc1)
  have hk2 := Nat.le_trans hk1 E2.1
  have Sf2_b1 := Safe.ext E2 Hc1 Sf1_b1
  have Sf2_b2 := Safe.ext (EL := own_EL) E2 Hc1 (Safe.new (Nat.le_of_eq g2.symm))
  have V_b2 : Arv Z h2 b2 k2 .char (0 : Int32) [] (.int 0) := Arv.new A2 (by decide)
  have f4 := (A1.ext E2)
  have f5 := (F_value_b1.ext E2)
  have f6 := (F_coder_b1.ext E2)
  have lt_b1 := f4.lt
  have lt_b2 := EA2.lt
  obtain ⟨_, _, ⟨T3, L3, j3, i3⟩, -, X3, hSq3, hgq3, ⟨Lc3, hQ3, l3, y3, z3, CR3⟩, st3⟩ := X2.specialBackS hx (y := (⟨cS1, "<init>", "([C)V"⟩ : MethodName)) rfl hown (mvT hZ (own_at hw 13 rfl)) (mvT hZ (own_at hw 14 rfl)) (mvT hZ (own_at hw 15 rfl)) (by decide) (backOfSH (W := 1) (rm3_0 l Z a0 hw [] b1 b2 k2 (.int 0) h2 n0 (Nat.le_trans (Nat.le_trans Z0 E1.1) E2.1) f4 f5 V_b2 g_b1 (Ne.symm (Nat.ne_of_lt (Nat.lt_of_lt_of_le A1.lt (Nat.le_of_eq g2.symm)))) f6) hZ (own_at hw 15 rfl) (own_at hw 12 rfl) (by decide) (by decide) (own_ew hw) Hc2) (g := (mkF m 11 #[iv 0, iv p1, iv p2, iv p3, iv p4] [(.ref b2), (.ref b1), (.ref b1)])) rfl (by rw [hml]; rfl) (Steps.refl _) (a := b1) (argsL := [(.ref b2)]) (rest := [(.ref b1)]) (lenOf pd_15 rfl) rfl (Nat.le_refl _) (hb hby d2_11) (fun _ _ => ⟨rfl, e2, (by decide : 2 + 4 ≤ _), (by decide : 4 + 8 ≤ _)⟩)
  dsimp only [Pt.U, Pt.locs, Pt.cells, Pt.slots] at X3 l3 y3 z3 st3 hQ3 CR3 hSq3 hgq3
  subst l3 y3 z3
  obtain ⟨X3, hS3, hZ3, hown3⟩ := rebS hS0 (by rw [e2]; exact hk2) X3 hSq3 hgq3 hZ hown
  have hk3 : T3.heap.size ≤ T3.heap.size := Nat.le_refl _
  obtain ⟨ar_3, kk_3, rfl, N3q, K3, p3_0, p3_1, p3_2, p3_3, p3_4⟩ := hQ3
  have pl3 := (allS (P := fun x => ∃ cell : Cell, h2[x]? = some cell ∧ cell.vm.isStatics = false) (own_ns f4) all0)
  have lt_b1 := f4.lt
  have lt_b2 := EA2.lt
  have Hc3 := CR3.1
  have Rc3 := Rc2.trans CR3
  have Sf3_b1 := CHr.safe CR3 lt_b1 Sf2_b1
  have Sf3_b2 := CHr.safe CR3 lt_b2 Sf2_b2
  have N3 := Fr.app N0 N3q
  obtain ⟨fs, hr, hrun, hended, hRW⟩ := X3.leaveW hS3 hk3 (v := some (.ref b1)) (fun h => by rw [Bd.returns] at h; cases h)
  have hCE : CHr Z own_EL s.vm s.heap T3.vm T3.heap := by rw [hh]; exact Rc3.trans (CHv.at X3 hZ3 (own_ew hw) Hc3)
  refine ⟨_, _, k0 _ ?_, hrun, hended, _, _, rfl, ?_, hCE, hRW.1, hRW.2.1, hRW.2.2.1, hRW.2.2.2.mono (by decide) (by decide)⟩
  · show OwnS p e below s₁ (mkF m 0 #[iv 0, iv p1, iv p2, iv p3, iv p4] []) _
    refine oIn X0 hx hby d2_0 rfl ?_
    refine XS.ifNo X0.here hx rfl (hb hby d2_1) rfl ((if0 _ _).trans (teq (by decide : (0 : Int32) = (0 : Int32))).2) ?_
    refine st1 _ ?_
    refine XS.dup X1.here hx rfl (hb hby d2_7) rfl rfl ?_
    refine oIc X1 hx hby d2_8 ?_
    refine st2 _ ?_
    refine st3.trans ?_
    jvm_step X3.here [X3.here.top, hx, (hb hby d2_14), X3.method', Bd.returns, Value.isRef, FieldType.isReference]
    first | (intro acts; rw [hr _ acts rfl rfl rfl]) | rw [hr _ _ rfl rfl rfl]
    exact Steps.refl _
  · show Q_Tx_0 Z _ _ _ _ h0 n0 _ T3.heap _
    exact ⟨b1, ar_3, kk_3, rfl, N3, ((((Keep.refl h0 []).ext E1).ext E2).trans K3 (allS (Or.inr sz_b1) all0)), sz_b1, p3_0, p3_1, p3_2, p3_3⟩
theorem pd_16 : parseMethodDescriptor "()I" = some ⟨[], some .int⟩ := by decide +kernel
theorem d6_2 : decode prog_10_method_4_code 2 = .ok (.iload_n 2, 1) := by decide +kernel
theorem d6_3 : decode prog_10_method_4_code 3 = .ok (.aload_n 0, 1) := by decide +kernel
theorem d6_4 : decode prog_10_method_4_code 4 = .ok (.invokevirtual 41, 3) := by decide +kernel
theorem d6_7 : decode prog_10_method_4_code 7 = .ok (.if_icmp .ge 29, 3) := by decide +kernel
theorem d6_36 : decode prog_10_method_4_code 36 = .ok (.iload_n 2, 1) := by decide +kernel
theorem d6_37 : decode prog_10_method_4_code 37 = .ok (.ireturn, 1) := by decide +kernel
theorem pn_com_example_strict_lock_strictlock_IfHeader : plainName cS4 = true := by first | (simp [plainName, overriddenIn]; done) | decide +kernel
def Q_sgSk_1_1 (Z : State) (r0 : Addr) (p1 w_CS : Int32) (w_F : Value) (x0 : Int32) (h0 : Heap) (n0 : Nat) (v : Option Value) (h : Heap) (L : List Loc) : Prop := v = some (.int (own_sk1_1 x0)) ∧ Fr n0 L ∧ h = h0
theorem sgSk_1_1 (l : Launch) (Z : State) (a0 : Array Value) (hw : own_HW a0 Z) {p : Program} {e : Env} {s : State} {m : MethodId} {args : Array Value} {below : List Frame} {meth : Method} {c : Code} {T0 : State} {locs : List Loc} (r0 : Addr) (p1 w_CS : Int32) (w_F : Value) (x0 : Int32) (h0 : Heap) (n0 : Nat) (Z0 : n0 ≤ h0.size) (S_CS : Sta Z h0 cS1 cS10 "Z" (.int w_CS)) (hcs : ¬ (w_CS = (0 : Int32))) (S_F : Sta Z h0 cS2 cS9 cS3 w_F) (hwF : w_F.isRef = true) (S_AD : Sta Z h0 cS0 cS5 "Z" (.int 1)) (S_HI : Sta Z h0 cS0 cS7 "I" (.int 0)) (S_LO : Sta Z h0 cS0 cS8 "I" (.int 8)) (P_r0 : own_S1 Z h0 r0 x0) (hch_x0 : own_ch x0) (E_r0 : Exa Z h0 r0 cS1)
    (X0 : Stand p l e ({ frames := 5, cells := 0, slots := 0, locals := 69 } : Room) s m args below meth c T0 locs 0 0) (hx : p.tables.exec = Jvm.exec) (hZ : Z.Warmed39 s.vm) (hby : c.code = prog_10_method_4_code) (hml : c.maxLocals = 3) (hown : s.vm.findClass cS4 = some m.cls) (hret : meth.sig.returnType = some .int) (hlk : meth.locks = false) (e0 : T0.heap = h0) (N0 : Fr n0 locs) :
    ∃ s₂ o, Steps p.tables e below (T0.setTop (mkF m 2 #[rv r0, iv p1, iv 1] [])) s₂ ∧ s₂.status = .running ∧ Ended s₂ below o ∧ ∃ v L, o = .returned v ∧ Q_sgSk_1_1 Z r0 p1 w_CS w_F x0 h0 n0 v s₂.heap L ∧ FrameEnd s o s₂ L ({ frames := 5, cells := 0, slots := 0, locals := 69 } : Room).cells ({ frames := 5, cells := 0, slots := 0, locals := 69 } : Room).slots := by
  have k0 : ∀ t, OwnS p e below T0 (mkF m 2 #[rv r0, iv p1, iv 1] []) t → OwnS p e below T0 (mkF m 2 #[rv r0, iv p1, iv 1] []) t := fun _ q => q
  obtain ⟨_, T1, L1, X1, hQ1, st1⟩ := own_cV 1 (rmLen_1 l Z a0 hw [] r0 w_CS x0 h0 n0 Z0 S_CS hcs P_r0) X0 hx hZ hown hw 35 36 38 37 12 39 rfl rfl rfl rfl rfl rfl r0 E_r0 4 #[rv r0, iv p1, iv 1] [] [(.int 1)] (hb hby d6_4) hml (lenOf pd_16 rfl) e0 rfl (Nat.le_refl _) (by decide)
  obtain ⟨rfl, N1q, e1⟩ := hQ1
  have N1 := Fr.app N0 N1q
  refine own_out X1 hlk hret (some (.int 1)) nofun (by decide) (by decide) ?_ fun fs hr => k0 _ ?_
  · rw [e1]; exact ⟨(by simp [own_sp, own_sk1_1]), N1, rfl⟩
  · show OwnS p e below T0 (mkF m 2 #[rv r0, iv p1, iv 1] []) _
    refine oIn X0 hx hby d6_2 rfl (oAn X0 hx hby d6_3 rfl rfl ?_)
    refine st1 _ ?_
    refine XS.icmpYes X1.here hx rfl (pc0 := 7) (pc' := 36) rfl (hb hby d6_7) rfl (flt (by decide : ¬ ((1 : Int32) < (1 : Int32)))).2.1 (by decide) (by decide) ?_
    refine oIn X1 hx hby d6_36 rfl ?_
    exact retI X1 hx hret (hb hby d6_37) hr
theorem pd_17 : parseMethodDescriptor "(I)C" = some ⟨[.int], some .char⟩ := by decide +kernel
theorem d6_10 : decode prog_10_method_4_code 10 = .ok (.aload_n 0, 1) := by decide +kernel
theorem d6_11 : decode prog_10_method_4_code 11 = .ok (.iload_n 2, 1) := by decide +kernel
theorem d6_12 : decode prog_10_method_4_code 12 = .ok (.invokevirtual 47, 3) := by decide +kernel
theorem d6_15 : decode prog_10_method_4_code 15 = .ok (.bipush 32, 2) := by decide +kernel
theorem d6_17 : decode prog_10_method_4_code 17 = .ok (.if_icmp .eq 13, 3) := by decide +kernel
theorem d6_20 : decode prog_10_method_4_code 20 = .ok (.aload_n 0, 1) := by decide +kernel
theorem d6_21 : decode prog_10_method_4_code 21 = .ok (.iload_n 2, 1) := by decide +kernel
theorem d6_22 : decode prog_10_method_4_code 22 = .ok (.invokevirtual 47, 3) := by decide +kernel
theorem d6_25 : decode prog_10_method_4_code 25 = .ok (.bipush 9, 2) := by decide +kernel
theorem d6_27 : decode prog_10_method_4_code 27 = .ok (.if_icmp .ne 9, 3) := by decide +kernel
theorem d6_30 : decode prog_10_method_4_code 30 = .ok (.iinc 2 1, 3) := by decide +kernel
theorem d6_33 : decode prog_10_method_4_code 33 = .ok (.goto (-31), 3) := by decide +kernel
def Q_sgSk_1_0 (Z : State) (r0 : Addr) (p1 w_CS : Int32) (w_F : Value) (x0 : Int32) (h0 : Heap) (n0 : Nat) (v : Option Value) (h : Heap) (L : List Loc) : Prop := v = some (.int (own_sk1_0 x0)) ∧ Fr n0 L ∧ h = h0
theorem sgSk_1_0 (l : Launch) (Z : State) (a0 : Array Value) (hw : own_HW a0 Z) {p : Program} {e : Env} {s : State} {m : MethodId} {args : Array Value} {below : List Frame} {meth : Method} {c : Code} {T0 : State} {locs : List Loc} (r0 : Addr) (p1 w_CS : Int32) (w_F : Value) (x0 : Int32) (h0 : Heap) (n0 : Nat) (Z0 : n0 ≤ h0.size) (S_CS : Sta Z h0 cS1 cS10 "Z" (.int w_CS)) (hcs : ¬ (w_CS = (0 : Int32))) (S_F : Sta Z h0 cS2 cS9 cS3 w_F) (hwF : w_F.isRef = true) (S_AD : Sta Z h0 cS0 cS5 "Z" (.int 1)) (S_HI : Sta Z h0 cS0 cS7 "I" (.int 0)) (S_LO : Sta Z h0 cS0 cS8 "I" (.int 8)) (P_r0 : own_S1 Z h0 r0 x0) (hch_x0 : own_ch x0) (E_r0 : Exa Z h0 r0 cS1)
    (X0 : Stand p l e ({ frames := 5, cells := 0, slots := 0, locals := 69 } : Room) s m args below meth c T0 locs 0 0) (hx : p.tables.exec = Jvm.exec) (hZ : Z.Warmed39 s.vm) (hby : c.code = prog_10_method_4_code) (hml : c.maxLocals = 3) (hown : s.vm.findClass cS4 = some m.cls) (hret : meth.sig.returnType = some .int) (hlk : meth.locks = false) (e0 : T0.heap = h0) (N0 : Fr n0 locs) :
    ∃ s₂ o, Steps p.tables e below (T0.setTop (mkF m 2 #[rv r0, iv p1, iv 0] [])) s₂ ∧ s₂.status = .running ∧ Ended s₂ below o ∧ ∃ v L, o = .returned v ∧ Q_sgSk_1_0 Z r0 p1 w_CS w_F x0 h0 n0 v s₂.heap L ∧ FrameEnd s o s₂ L ({ frames := 5, cells := 0, slots := 0, locals := 69 } : Room).cells ({ frames := 5, cells := 0, slots := 0, locals := 69 } : Room).slots := by
  have k0 : ∀ t, OwnS p e below T0 (mkF m 2 #[rv r0, iv p1, iv 0] []) t → OwnS p e below T0 (mkF m 2 #[rv r0, iv p1, iv 0] []) t := fun _ q => q
  obtain ⟨_, T1, L1, X1, hQ1, st1⟩ := own_cV 1 (rmLen_1 l Z a0 hw [] r0 w_CS x0 h0 n0 Z0 S_CS hcs P_r0) X0 hx hZ hown hw 35 36 38 37 12 39 rfl rfl rfl rfl rfl rfl r0 E_r0 4 #[rv r0, iv p1, iv 0] [] [(.int 0)] (hb hby d6_4) hml (lenOf pd_16 rfl) e0 rfl (Nat.le_refl _) (by decide)
  obtain ⟨rfl, N1q, e1⟩ := hQ1
  have N1 := Fr.app N0 N1q
  obtain ⟨_, T2, L2, X2, hQ2, st2⟩ := own_cV 0 (rmCA_1_0 l Z a0 hw [] r0 w_CS w_F x0 h0 n0 Z0 S_CS hcs S_F hwF S_AD S_HI S_LO P_r0 hch_x0) X1 hx hZ hown hw 59 60 62 61 12 63 rfl rfl rfl rfl rfl rfl r0 E_r0 12 #[rv r0, iv p1, iv 0] [(.int 0)] [] (hb hby d6_12) hml (lenOf pd_17 rfl) e1 rfl (Nat.le_refl _) (by decide)
  obtain ⟨rfl, N2q, e2⟩ := hQ2
  have N2 := Fr.app N1 N2q
  have k4 : ∀ t, OwnS p e below T2 (mkF m 17 #[rv r0, iv p1, iv 0] [(.int 32), (.int x0)]) t → OwnS p e below T0 (mkF m 2 #[rv r0, iv p1, iv 0] []) t := fun t q => by
   refine k0 t ?_
   show OwnS p e below T0 (mkF m 2 #[rv r0, iv p1, iv 0] []) _
   refine oIn X0 hx hby d6_2 rfl (oAn X0 hx hby d6_3 rfl rfl ?_)
   refine st1 _ ?_
   refine XS.icmpNo X1.here hx rfl (hb hby d6_7) rfl (tlt (by decide : (0 : Int32) < (1 : Int32))).2.1 ?_
   refine oAn X1 hx hby d6_10 rfl rfl (oIn X1 hx hby d6_11 rfl ?_)
   refine st2 _ ?_
   refine oBp X2 hx hby d6_15 ?_
   exact q
  by_cases hc17_3 : x0 = (32 : Int32)
  · have k5 : ∀ t, OwnS p e below T2 (mkF m 2 #[rv r0, iv p1, iv 1] []) t → OwnS p e below T0 (mkF m 2 #[rv r0, iv p1, iv 0] []) t := fun t q => by
     refine k4 t ?_
     refine XS.icmpYes X2.here hx rfl (pc0 := 17) (pc' := 30) rfl (hb hby d6_17) rfl (teq hc17_3).1 (by decide) (by decide) ?_
     refine XS.iinc X2.here hx rfl (hb hby d6_30) rfl (l' := #[rv r0, iv p1, iv 1]) rfl ?_
     refine oGo X2 hx hby 33 2 d6_33 (by decide) (by decide) ?_
     exact q
    obtain ⟨s6, o6, ja6, jb6, jc6, v6, L6, rfl, ⟨hv6, jN6, jh6⟩, jF6⟩ := sgSk_1_1 l Z a0 hw r0 p1 w_CS w_F x0 h0 n0 Z0 S_CS hcs S_F hwF S_AD S_HI S_LO P_r0 hch_x0 E_r0 X2 hx hZ hby hml hown hret hlk e2 N2 
    exact ⟨s6, _, k5 _ ja6, jb6, jc6, v6, L6, rfl, ⟨hv6.trans (by simp [own_sp, own_sk1_0, own_sk1_1, hc17_3]), jN6, jh6⟩, jF6⟩
  · obtain ⟨_, T7, L7, X7, hQ7, st7⟩ := own_cV 0 (rmCA_1_0 l Z a0 hw [] r0 w_CS w_F x0 h0 n0 Z0 S_CS hcs S_F hwF S_AD S_HI S_LO P_r0 hch_x0) X2 hx hZ hown hw 59 60 62 61 12 63 rfl rfl rfl rfl rfl rfl r0 E_r0 22 #[rv r0, iv p1, iv 0] [(.int 0)] [] (hb hby d6_22) hml (lenOf pd_17 rfl) e2 rfl (Nat.le_refl _) (by decide)
    obtain ⟨rfl, N7q, e7⟩ := hQ7
    have N7 := Fr.app N2 N7q
    have k9 : ∀ t, OwnS p e below T7 (mkF m 27 #[rv r0, iv p1, iv 0] [(.int 9), (.int x0)]) t → OwnS p e below T0 (mkF m 2 #[rv r0, iv p1, iv 0] []) t := fun t q => by
     refine k4 t ?_
     refine XS.icmpNo X2.here hx rfl (hb hby d6_17) rfl (feq hc17_3).1 ?_
     refine oAn X2 hx hby d6_20 rfl rfl (oIn X2 hx hby d6_21 rfl ?_)
     refine st7 _ ?_
     refine oBp X7 hx hby d6_25 ?_
     exact q
    by_cases hc27_8 : x0 = (9 : Int32)
    · have k10 : ∀ t, OwnS p e below T7 (mkF m 2 #[rv r0, iv p1, iv 1] []) t → OwnS p e below T0 (mkF m 2 #[rv r0, iv p1, iv 0] []) t := fun t q => by
       refine k9 t ?_
       refine XS.icmpNo X7.here hx rfl (hb hby d6_27) rfl (teq hc27_8).2 ?_
       refine XS.iinc X7.here hx rfl (hb hby d6_30) rfl (l' := #[rv r0, iv p1, iv 1]) rfl ?_
       refine oGo X7 hx hby 33 2 d6_33 (by decide) (by decide) ?_
       exact q
      obtain ⟨s11, o11, ja11, jb11, jc11, v11, L11, rfl, ⟨hv11, jN11, jh11⟩, jF11⟩ := sgSk_1_1 l Z a0 hw r0 p1 w_CS w_F x0 h0 n0 Z0 S_CS hcs S_F hwF S_AD S_HI S_LO P_r0 hch_x0 E_r0 X7 hx hZ hby hml hown hret hlk e7 N7 
      exact ⟨s11, _, k10 _ ja11, jb11, jc11, v11, L11, rfl, ⟨hv11.trans (by simp [own_sp, own_sk1_0, own_sk1_1, hc17_3, hc27_8]), jN11, jh11⟩, jF11⟩
    · refine own_out X7 hlk hret (some (.int 0)) nofun (by decide) (by decide) ?_ fun fs hr => k9 _ ?_
      · rw [e7]; exact ⟨(by simp [own_sp, own_sk1_0, own_sk1_1, hc17_3, hc27_8]), N7, rfl⟩
      · refine XS.icmpYes X7.here hx rfl (pc0 := 27) (pc' := 36) rfl (hb hby d6_27) rfl (feq hc27_8).2 (by decide) (by decide) ?_
        refine oIn X7 hx hby d6_36 rfl ?_
        exact retI X7 hx hret (hb hby d6_37) hr
def Q_sgSk_2_2 (Z : State) (r0 : Addr) (p1 w_CS : Int32) (w_F : Value) (x0 x1 : Int32) (h0 : Heap) (n0 : Nat) (v : Option Value) (h : Heap) (L : List Loc) : Prop := v = some (.int (own_sk2_2 x0 x1)) ∧ Fr n0 L ∧ h = h0
theorem sgSk_2_2 (l : Launch) (Z : State) (a0 : Array Value) (hw : own_HW a0 Z) {p : Program} {e : Env} {s : State} {m : MethodId} {args : Array Value} {below : List Frame} {meth : Method} {c : Code} {T0 : State} {locs : List Loc} (r0 : Addr) (p1 w_CS : Int32) (w_F : Value) (x0 x1 : Int32) (h0 : Heap) (n0 : Nat) (Z0 : n0 ≤ h0.size) (S_CS : Sta Z h0 cS1 cS10 "Z" (.int w_CS)) (hcs : ¬ (w_CS = (0 : Int32))) (S_F : Sta Z h0 cS2 cS9 cS3 w_F) (hwF : w_F.isRef = true) (S_AD : Sta Z h0 cS0 cS5 "Z" (.int 1)) (S_HI : Sta Z h0 cS0 cS7 "I" (.int 0)) (S_LO : Sta Z h0 cS0 cS8 "I" (.int 8)) (P_r0 : own_S2 Z h0 r0 x0 x1) (hch_x0 : own_ch x0) (hch_x1 : own_ch x1) (E_r0 : Exa Z h0 r0 cS1)
    (X0 : Stand p l e ({ frames := 5, cells := 0, slots := 0, locals := 69 } : Room) s m args below meth c T0 locs 0 0) (hx : p.tables.exec = Jvm.exec) (hZ : Z.Warmed39 s.vm) (hby : c.code = prog_10_method_4_code) (hml : c.maxLocals = 3) (hown : s.vm.findClass cS4 = some m.cls) (hret : meth.sig.returnType = some .int) (hlk : meth.locks = false) (e0 : T0.heap = h0) (N0 : Fr n0 locs) :
    ∃ s₂ o, Steps p.tables e below (T0.setTop (mkF m 2 #[rv r0, iv p1, iv 2] [])) s₂ ∧ s₂.status = .running ∧ Ended s₂ below o ∧ ∃ v L, o = .returned v ∧ Q_sgSk_2_2 Z r0 p1 w_CS w_F x0 x1 h0 n0 v s₂.heap L ∧ FrameEnd s o s₂ L ({ frames := 5, cells := 0, slots := 0, locals := 69 } : Room).cells ({ frames := 5, cells := 0, slots := 0, locals := 69 } : Room).slots := by
  have k0 : ∀ t, OwnS p e below T0 (mkF m 2 #[rv r0, iv p1, iv 2] []) t → OwnS p e below T0 (mkF m 2 #[rv r0, iv p1, iv 2] []) t := fun _ q => q
  obtain ⟨_, T1, L1, X1, hQ1, st1⟩ := own_cV 1 (rmLen_2 l Z a0 hw [] r0 w_CS x0 x1 h0 n0 Z0 S_CS hcs P_r0) X0 hx hZ hown hw 35 36 38 37 12 39 rfl rfl rfl rfl rfl rfl r0 E_r0 4 #[rv r0, iv p1, iv 2] [] [(.int 2)] (hb hby d6_4) hml (lenOf pd_16 rfl) e0 rfl (Nat.le_refl _) (by decide)
  obtain ⟨rfl, N1q, e1⟩ := hQ1
  have N1 := Fr.app N0 N1q
  refine own_out X1 hlk hret (some (.int 2)) nofun (by decide) (by decide) ?_ fun fs hr => k0 _ ?_
  · rw [e1]; exact ⟨(by simp [own_sp, own_sk2_2]), N1, rfl⟩
  · show OwnS p e below T0 (mkF m 2 #[rv r0, iv p1, iv 2] []) _
    refine oIn X0 hx hby d6_2 rfl (oAn X0 hx hby d6_3 rfl rfl ?_)
    refine st1 _ ?_
    refine XS.icmpYes X1.here hx rfl (pc0 := 7) (pc' := 36) rfl (hb hby d6_7) rfl (flt (by decide : ¬ ((2 : Int32) < (2 : Int32)))).2.1 (by decide) (by decide) ?_
    refine oIn X1 hx hby d6_36 rfl ?_
    exact retI X1 hx hret (hb hby d6_37) hr
def Q_sgSk_2_1 (Z : State) (r0 : Addr) (p1 w_CS : Int32) (w_F : Value) (x0 x1 : Int32) (h0 : Heap) (n0 : Nat) (v : Option Value) (h : Heap) (L : List Loc) : Prop := v = some (.int (own_sk2_1 x0 x1)) ∧ Fr n0 L ∧ h = h0
theorem sgSk_2_1 (l : Launch) (Z : State) (a0 : Array Value) (hw : own_HW a0 Z) {p : Program} {e : Env} {s : State} {m : MethodId} {args : Array Value} {below : List Frame} {meth : Method} {c : Code} {T0 : State} {locs : List Loc} (r0 : Addr) (p1 w_CS : Int32) (w_F : Value) (x0 x1 : Int32) (h0 : Heap) (n0 : Nat) (Z0 : n0 ≤ h0.size) (S_CS : Sta Z h0 cS1 cS10 "Z" (.int w_CS)) (hcs : ¬ (w_CS = (0 : Int32))) (S_F : Sta Z h0 cS2 cS9 cS3 w_F) (hwF : w_F.isRef = true) (S_AD : Sta Z h0 cS0 cS5 "Z" (.int 1)) (S_HI : Sta Z h0 cS0 cS7 "I" (.int 0)) (S_LO : Sta Z h0 cS0 cS8 "I" (.int 8)) (P_r0 : own_S2 Z h0 r0 x0 x1) (hch_x0 : own_ch x0) (hch_x1 : own_ch x1) (E_r0 : Exa Z h0 r0 cS1)
    (X0 : Stand p l e ({ frames := 5, cells := 0, slots := 0, locals := 69 } : Room) s m args below meth c T0 locs 0 0) (hx : p.tables.exec = Jvm.exec) (hZ : Z.Warmed39 s.vm) (hby : c.code = prog_10_method_4_code) (hml : c.maxLocals = 3) (hown : s.vm.findClass cS4 = some m.cls) (hret : meth.sig.returnType = some .int) (hlk : meth.locks = false) (e0 : T0.heap = h0) (N0 : Fr n0 locs) :
    ∃ s₂ o, Steps p.tables e below (T0.setTop (mkF m 2 #[rv r0, iv p1, iv 1] [])) s₂ ∧ s₂.status = .running ∧ Ended s₂ below o ∧ ∃ v L, o = .returned v ∧ Q_sgSk_2_1 Z r0 p1 w_CS w_F x0 x1 h0 n0 v s₂.heap L ∧ FrameEnd s o s₂ L ({ frames := 5, cells := 0, slots := 0, locals := 69 } : Room).cells ({ frames := 5, cells := 0, slots := 0, locals := 69 } : Room).slots := by
  have k0 : ∀ t, OwnS p e below T0 (mkF m 2 #[rv r0, iv p1, iv 1] []) t → OwnS p e below T0 (mkF m 2 #[rv r0, iv p1, iv 1] []) t := fun _ q => q
  obtain ⟨_, T1, L1, X1, hQ1, st1⟩ := own_cV 1 (rmLen_2 l Z a0 hw [] r0 w_CS x0 x1 h0 n0 Z0 S_CS hcs P_r0) X0 hx hZ hown hw 35 36 38 37 12 39 rfl rfl rfl rfl rfl rfl r0 E_r0 4 #[rv r0, iv p1, iv 1] [] [(.int 1)] (hb hby d6_4) hml (lenOf pd_16 rfl) e0 rfl (Nat.le_refl _) (by decide)
  obtain ⟨rfl, N1q, e1⟩ := hQ1
  have N1 := Fr.app N0 N1q
  obtain ⟨_, T2, L2, X2, hQ2, st2⟩ := own_cV 0 (rmCA_2_1 l Z a0 hw [] r0 w_CS w_F x0 x1 h0 n0 Z0 S_CS hcs S_F hwF S_AD S_HI S_LO P_r0 hch_x1) X1 hx hZ hown hw 59 60 62 61 12 63 rfl rfl rfl rfl rfl rfl r0 E_r0 12 #[rv r0, iv p1, iv 1] [(.int 1)] [] (hb hby d6_12) hml (lenOf pd_17 rfl) e1 rfl (Nat.le_refl _) (by decide)
  obtain ⟨rfl, N2q, e2⟩ := hQ2
  have N2 := Fr.app N1 N2q
  have k4 : ∀ t, OwnS p e below T2 (mkF m 17 #[rv r0, iv p1, iv 1] [(.int 32), (.int x1)]) t → OwnS p e below T0 (mkF m 2 #[rv r0, iv p1, iv 1] []) t := fun t q => by
   refine k0 t ?_
   show OwnS p e below T0 (mkF m 2 #[rv r0, iv p1, iv 1] []) _
   refine oIn X0 hx hby d6_2 rfl (oAn X0 hx hby d6_3 rfl rfl ?_)
   refine st1 _ ?_
   refine XS.icmpNo X1.here hx rfl (hb hby d6_7) rfl (tlt (by decide : (1 : Int32) < (2 : Int32))).2.1 ?_
   refine oAn X1 hx hby d6_10 rfl rfl (oIn X1 hx hby d6_11 rfl ?_)
   refine st2 _ ?_
   refine oBp X2 hx hby d6_15 ?_
   exact q
  by_cases hc17_3 : x1 = (32 : Int32)
  · have k5 : ∀ t, OwnS p e below T2 (mkF m 2 #[rv r0, iv p1, iv 2] []) t → OwnS p e below T0 (mkF m 2 #[rv r0, iv p1, iv 1] []) t := fun t q => by
     refine k4 t ?_
     refine XS.icmpYes X2.here hx rfl (pc0 := 17) (pc' := 30) rfl (hb hby d6_17) rfl (teq hc17_3).1 (by decide) (by decide) ?_
     refine XS.iinc X2.here hx rfl (hb hby d6_30) rfl (l' := #[rv r0, iv p1, iv 2]) rfl ?_
     refine oGo X2 hx hby 33 2 d6_33 (by decide) (by decide) ?_
     exact q
    obtain ⟨s6, o6, ja6, jb6, jc6, v6, L6, rfl, ⟨hv6, jN6, jh6⟩, jF6⟩ := sgSk_2_2 l Z a0 hw r0 p1 w_CS w_F x0 x1 h0 n0 Z0 S_CS hcs S_F hwF S_AD S_HI S_LO P_r0 hch_x0 hch_x1 E_r0 X2 hx hZ hby hml hown hret hlk e2 N2 
    exact ⟨s6, _, k5 _ ja6, jb6, jc6, v6, L6, rfl, ⟨hv6.trans (by simp [own_sp, own_sk2_1, own_sk2_2, hc17_3]), jN6, jh6⟩, jF6⟩
  · obtain ⟨_, T7, L7, X7, hQ7, st7⟩ := own_cV 0 (rmCA_2_1 l Z a0 hw [] r0 w_CS w_F x0 x1 h0 n0 Z0 S_CS hcs S_F hwF S_AD S_HI S_LO P_r0 hch_x1) X2 hx hZ hown hw 59 60 62 61 12 63 rfl rfl rfl rfl rfl rfl r0 E_r0 22 #[rv r0, iv p1, iv 1] [(.int 1)] [] (hb hby d6_22) hml (lenOf pd_17 rfl) e2 rfl (Nat.le_refl _) (by decide)
    obtain ⟨rfl, N7q, e7⟩ := hQ7
    have N7 := Fr.app N2 N7q
    have k9 : ∀ t, OwnS p e below T7 (mkF m 27 #[rv r0, iv p1, iv 1] [(.int 9), (.int x1)]) t → OwnS p e below T0 (mkF m 2 #[rv r0, iv p1, iv 1] []) t := fun t q => by
     refine k4 t ?_
     refine XS.icmpNo X2.here hx rfl (hb hby d6_17) rfl (feq hc17_3).1 ?_
     refine oAn X2 hx hby d6_20 rfl rfl (oIn X2 hx hby d6_21 rfl ?_)
     refine st7 _ ?_
     refine oBp X7 hx hby d6_25 ?_
     exact q
    by_cases hc27_8 : x1 = (9 : Int32)
    · have k10 : ∀ t, OwnS p e below T7 (mkF m 2 #[rv r0, iv p1, iv 2] []) t → OwnS p e below T0 (mkF m 2 #[rv r0, iv p1, iv 1] []) t := fun t q => by
       refine k9 t ?_
       refine XS.icmpNo X7.here hx rfl (hb hby d6_27) rfl (teq hc27_8).2 ?_
       refine XS.iinc X7.here hx rfl (hb hby d6_30) rfl (l' := #[rv r0, iv p1, iv 2]) rfl ?_
       refine oGo X7 hx hby 33 2 d6_33 (by decide) (by decide) ?_
       exact q
      obtain ⟨s11, o11, ja11, jb11, jc11, v11, L11, rfl, ⟨hv11, jN11, jh11⟩, jF11⟩ := sgSk_2_2 l Z a0 hw r0 p1 w_CS w_F x0 x1 h0 n0 Z0 S_CS hcs S_F hwF S_AD S_HI S_LO P_r0 hch_x0 hch_x1 E_r0 X7 hx hZ hby hml hown hret hlk e7 N7 
      exact ⟨s11, _, k10 _ ja11, jb11, jc11, v11, L11, rfl, ⟨hv11.trans (by simp [own_sp, own_sk2_1, own_sk2_2, hc17_3, hc27_8]), jN11, jh11⟩, jF11⟩
    · refine own_out X7 hlk hret (some (.int 1)) nofun (by decide) (by decide) ?_ fun fs hr => k9 _ ?_
      · rw [e7]; exact ⟨(by simp [own_sp, own_sk2_1, own_sk2_2, hc17_3, hc27_8]), N7, rfl⟩
      · refine XS.icmpYes X7.here hx rfl (pc0 := 27) (pc' := 36) rfl (hb hby d6_27) rfl (feq hc27_8).2 (by decide) (by decide) ?_
        refine oIn X7 hx hby d6_36 rfl ?_
        exact retI X7 hx hret (hb hby d6_37) hr
def Q_sgSk_2_0 (Z : State) (r0 : Addr) (p1 w_CS : Int32) (w_F : Value) (x0 x1 : Int32) (h0 : Heap) (n0 : Nat) (v : Option Value) (h : Heap) (L : List Loc) : Prop := v = some (.int (own_sk2_0 x0 x1)) ∧ Fr n0 L ∧ h = h0
theorem sgSk_2_0 (l : Launch) (Z : State) (a0 : Array Value) (hw : own_HW a0 Z) {p : Program} {e : Env} {s : State} {m : MethodId} {args : Array Value} {below : List Frame} {meth : Method} {c : Code} {T0 : State} {locs : List Loc} (r0 : Addr) (p1 w_CS : Int32) (w_F : Value) (x0 x1 : Int32) (h0 : Heap) (n0 : Nat) (Z0 : n0 ≤ h0.size) (S_CS : Sta Z h0 cS1 cS10 "Z" (.int w_CS)) (hcs : ¬ (w_CS = (0 : Int32))) (S_F : Sta Z h0 cS2 cS9 cS3 w_F) (hwF : w_F.isRef = true) (S_AD : Sta Z h0 cS0 cS5 "Z" (.int 1)) (S_HI : Sta Z h0 cS0 cS7 "I" (.int 0)) (S_LO : Sta Z h0 cS0 cS8 "I" (.int 8)) (P_r0 : own_S2 Z h0 r0 x0 x1) (hch_x0 : own_ch x0) (hch_x1 : own_ch x1) (E_r0 : Exa Z h0 r0 cS1)
    (X0 : Stand p l e ({ frames := 5, cells := 0, slots := 0, locals := 69 } : Room) s m args below meth c T0 locs 0 0) (hx : p.tables.exec = Jvm.exec) (hZ : Z.Warmed39 s.vm) (hby : c.code = prog_10_method_4_code) (hml : c.maxLocals = 3) (hown : s.vm.findClass cS4 = some m.cls) (hret : meth.sig.returnType = some .int) (hlk : meth.locks = false) (e0 : T0.heap = h0) (N0 : Fr n0 locs) :
    ∃ s₂ o, Steps p.tables e below (T0.setTop (mkF m 2 #[rv r0, iv p1, iv 0] [])) s₂ ∧ s₂.status = .running ∧ Ended s₂ below o ∧ ∃ v L, o = .returned v ∧ Q_sgSk_2_0 Z r0 p1 w_CS w_F x0 x1 h0 n0 v s₂.heap L ∧ FrameEnd s o s₂ L ({ frames := 5, cells := 0, slots := 0, locals := 69 } : Room).cells ({ frames := 5, cells := 0, slots := 0, locals := 69 } : Room).slots := by
  have k0 : ∀ t, OwnS p e below T0 (mkF m 2 #[rv r0, iv p1, iv 0] []) t → OwnS p e below T0 (mkF m 2 #[rv r0, iv p1, iv 0] []) t := fun _ q => q
  obtain ⟨_, T1, L1, X1, hQ1, st1⟩ := own_cV 1 (rmLen_2 l Z a0 hw [] r0 w_CS x0 x1 h0 n0 Z0 S_CS hcs P_r0) X0 hx hZ hown hw 35 36 38 37 12 39 rfl rfl rfl rfl rfl rfl r0 E_r0 4 #[rv r0, iv p1, iv 0] [] [(.int 0)] (hb hby d6_4) hml (lenOf pd_16 rfl) e0 rfl (Nat.le_refl _) (by decide)
  obtain ⟨rfl, N1q, e1⟩ := hQ1
  have N1 := Fr.app N0 N1q
  obtain ⟨_, T2, L2, X2, hQ2, st2⟩ := own_cV 0 (rmCA_2_0 l Z a0 hw [] r0 w_CS w_F x0 x1 h0 n0 Z0 S_CS hcs S_F hwF S_AD S_HI S_LO P_r0 hch_x0) X1 hx hZ hown hw 59 60 62 61 12 63 rfl rfl rfl rfl rfl rfl r0 E_r0 12 #[rv r0, iv p1, iv 0] [(.int 0)] [] (hb hby d6_12) hml (lenOf pd_17 rfl) e1 rfl (Nat.le_refl _) (by decide)
  obtain ⟨rfl, N2q, e2⟩ := hQ2
  have N2 := Fr.app N1 N2q
  have k4 : ∀ t, OwnS p e below T2 (mkF m 17 #[rv r0, iv p1, iv 0] [(.int 32), (.int x0)]) t → OwnS p e below T0 (mkF m 2 #[rv r0, iv p1, iv 0] []) t := fun t q => by
   refine k0 t ?_
   show OwnS p e below T0 (mkF m 2 #[rv r0, iv p1, iv 0] []) _
   refine oIn X0 hx hby d6_2 rfl (oAn X0 hx hby d6_3 rfl rfl ?_)
   refine st1 _ ?_
   refine XS.icmpNo X1.here hx rfl (hb hby d6_7) rfl (tlt (by decide : (0 : Int32) < (2 : Int32))).2.1 ?_
   refine oAn X1 hx hby d6_10 rfl rfl (oIn X1 hx hby d6_11 rfl ?_)
   refine st2 _ ?_
   refine oBp X2 hx hby d6_15 ?_
   exact q
  by_cases hc17_3 : x0 = (32 : Int32)
  · have k5 : ∀ t, OwnS p e below T2 (mkF m 2 #[rv r0, iv p1, iv 1] []) t → OwnS p e below T0 (mkF m 2 #[rv r0, iv p1, iv 0] []) t := fun t q => by
     refine k4 t ?_
     refine XS.icmpYes X2.here hx rfl (pc0 := 17) (pc' := 30) rfl (hb hby d6_17) rfl (teq hc17_3).1 (by decide) (by decide) ?_
     refine XS.iinc X2.here hx rfl (hb hby d6_30) rfl (l' := #[rv r0, iv p1, iv 1]) rfl ?_
     refine oGo X2 hx hby 33 2 d6_33 (by decide) (by decide) ?_
     exact q
    obtain ⟨s6, o6, ja6, jb6, jc6, v6, L6, rfl, ⟨hv6, jN6, jh6⟩, jF6⟩ := sgSk_2_1 l Z a0 hw r0 p1 w_CS w_F x0 x1 h0 n0 Z0 S_CS hcs S_F hwF S_AD S_HI S_LO P_r0 hch_x0 hch_x1 E_r0 X2 hx hZ hby hml hown hret hlk e2 N2 
    exact ⟨s6, _, k5 _ ja6, jb6, jc6, v6, L6, rfl, ⟨hv6.trans (by simp [own_sp, own_sk2_0, own_sk2_2, hc17_3]), jN6, jh6⟩, jF6⟩
  · obtain ⟨_, T7, L7, X7, hQ7, st7⟩ := own_cV 0 (rmCA_2_0 l Z a0 hw [] r0 w_CS w_F x0 x1 h0 n0 Z0 S_CS hcs S_F hwF S_AD S_HI S_LO P_r0 hch_x0) X2 hx hZ hown hw 59 60 62 61 12 63 rfl rfl rfl rfl rfl rfl r0 E_r0 22 #[rv r0, iv p1, iv 0] [(.int 0)] [] (hb hby d6_22) hml (lenOf pd_17 rfl) e2 rfl (Nat.le_refl _) (by decide)
    obtain ⟨rfl, N7q, e7⟩ := hQ7
    have N7 := Fr.app N2 N7q
    have k9 : ∀ t, OwnS p e below T7 (mkF m 27 #[rv r0, iv p1, iv 0] [(.int 9), (.int x0)]) t → OwnS p e below T0 (mkF m 2 #[rv r0, iv p1, iv 0] []) t := fun t q => by
     refine k4 t ?_
     refine XS.icmpNo X2.here hx rfl (hb hby d6_17) rfl (feq hc17_3).1 ?_
     refine oAn X2 hx hby d6_20 rfl rfl (oIn X2 hx hby d6_21 rfl ?_)
     refine st7 _ ?_
     refine oBp X7 hx hby d6_25 ?_
     exact q
    by_cases hc27_8 : x0 = (9 : Int32)
    · have k10 : ∀ t, OwnS p e below T7 (mkF m 2 #[rv r0, iv p1, iv 1] []) t → OwnS p e below T0 (mkF m 2 #[rv r0, iv p1, iv 0] []) t := fun t q => by
       refine k9 t ?_
       refine XS.icmpNo X7.here hx rfl (hb hby d6_27) rfl (teq hc27_8).2 ?_
       refine XS.iinc X7.here hx rfl (hb hby d6_30) rfl (l' := #[rv r0, iv p1, iv 1]) rfl ?_
       refine oGo X7 hx hby 33 2 d6_33 (by decide) (by decide) ?_
       exact q
      obtain ⟨s11, o11, ja11, jb11, jc11, v11, L11, rfl, ⟨hv11, jN11, jh11⟩, jF11⟩ := sgSk_2_1 l Z a0 hw r0 p1 w_CS w_F x0 x1 h0 n0 Z0 S_CS hcs S_F hwF S_AD S_HI S_LO P_r0 hch_x0 hch_x1 E_r0 X7 hx hZ hby hml hown hret hlk e7 N7 
      exact ⟨s11, _, k10 _ ja11, jb11, jc11, v11, L11, rfl, ⟨hv11.trans (by simp [own_sp, own_sk2_0, own_sk2_2, hc17_3, hc27_8]), jN11, jh11⟩, jF11⟩
    · refine own_out X7 hlk hret (some (.int 0)) nofun (by decide) (by decide) ?_ fun fs hr => k9 _ ?_
      · rw [e7]; exact ⟨(by simp [own_sp, own_sk2_0, own_sk2_2, hc17_3, hc27_8]), N7, rfl⟩
      · refine XS.icmpYes X7.here hx rfl (pc0 := 27) (pc' := 36) rfl (hb hby d6_27) rfl (feq hc27_8).2 (by decide) (by decide) ?_
        refine oIn X7 hx hby d6_36 rfl ?_
        exact retI X7 hx hret (hb hby d6_37) hr
def Q_sgSk_3_3 (Z : State) (r0 : Addr) (p1 w_CS : Int32) (w_F : Value) (x0 x1 x2 : Int32) (h0 : Heap) (n0 : Nat) (v : Option Value) (h : Heap) (L : List Loc) : Prop := v = some (.int (own_sk3_3 x0 x1 x2)) ∧ Fr n0 L ∧ h = h0
theorem sgSk_3_3 (l : Launch) (Z : State) (a0 : Array Value) (hw : own_HW a0 Z) {p : Program} {e : Env} {s : State} {m : MethodId} {args : Array Value} {below : List Frame} {meth : Method} {c : Code} {T0 : State} {locs : List Loc} (r0 : Addr) (p1 w_CS : Int32) (w_F : Value) (x0 x1 x2 : Int32) (h0 : Heap) (n0 : Nat) (Z0 : n0 ≤ h0.size) (S_CS : Sta Z h0 cS1 cS10 "Z" (.int w_CS)) (hcs : ¬ (w_CS = (0 : Int32))) (S_F : Sta Z h0 cS2 cS9 cS3 w_F) (hwF : w_F.isRef = true) (S_AD : Sta Z h0 cS0 cS5 "Z" (.int 1)) (S_HI : Sta Z h0 cS0 cS7 "I" (.int 0)) (S_LO : Sta Z h0 cS0 cS8 "I" (.int 8)) (P_r0 : own_S3 Z h0 r0 x0 x1 x2) (hch_x0 : own_ch x0) (hch_x1 : own_ch x1) (hch_x2 : own_ch x2) (E_r0 : Exa Z h0 r0 cS1)
    (X0 : Stand p l e ({ frames := 5, cells := 0, slots := 0, locals := 69 } : Room) s m args below meth c T0 locs 0 0) (hx : p.tables.exec = Jvm.exec) (hZ : Z.Warmed39 s.vm) (hby : c.code = prog_10_method_4_code) (hml : c.maxLocals = 3) (hown : s.vm.findClass cS4 = some m.cls) (hret : meth.sig.returnType = some .int) (hlk : meth.locks = false) (e0 : T0.heap = h0) (N0 : Fr n0 locs) :
    ∃ s₂ o, Steps p.tables e below (T0.setTop (mkF m 2 #[rv r0, iv p1, iv 3] [])) s₂ ∧ s₂.status = .running ∧ Ended s₂ below o ∧ ∃ v L, o = .returned v ∧ Q_sgSk_3_3 Z r0 p1 w_CS w_F x0 x1 x2 h0 n0 v s₂.heap L ∧ FrameEnd s o s₂ L ({ frames := 5, cells := 0, slots := 0, locals := 69 } : Room).cells ({ frames := 5, cells := 0, slots := 0, locals := 69 } : Room).slots := by
  have k0 : ∀ t, OwnS p e below T0 (mkF m 2 #[rv r0, iv p1, iv 3] []) t → OwnS p e below T0 (mkF m 2 #[rv r0, iv p1, iv 3] []) t := fun _ q => q
  obtain ⟨_, T1, L1, X1, hQ1, st1⟩ := own_cV 1 (rmLen_3 l Z a0 hw [] r0 w_CS x0 x1 x2 h0 n0 Z0 S_CS hcs P_r0) X0 hx hZ hown hw 35 36 38 37 12 39 rfl rfl rfl rfl rfl rfl r0 E_r0 4 #[rv r0, iv p1, iv 3] [] [(.int 3)] (hb hby d6_4) hml (lenOf pd_16 rfl) e0 rfl (Nat.le_refl _) (by decide)
  obtain ⟨rfl, N1q, e1⟩ := hQ1
  have N1 := Fr.app N0 N1q
  refine own_out X1 hlk hret (some (.int 3)) nofun (by decide) (by decide) ?_ fun fs hr => k0 _ ?_
  · rw [e1]; exact ⟨(by simp [own_sp, own_sk3_3]), N1, rfl⟩
  · show OwnS p e below T0 (mkF m 2 #[rv r0, iv p1, iv 3] []) _
    refine oIn X0 hx hby d6_2 rfl (oAn X0 hx hby d6_3 rfl rfl ?_)
    refine st1 _ ?_
    refine XS.icmpYes X1.here hx rfl (pc0 := 7) (pc' := 36) rfl (hb hby d6_7) rfl (flt (by decide : ¬ ((3 : Int32) < (3 : Int32)))).2.1 (by decide) (by decide) ?_
    refine oIn X1 hx hby d6_36 rfl ?_
    exact retI X1 hx hret (hb hby d6_37) hr
def Q_sgSk_3_2 (Z : State) (r0 : Addr) (p1 w_CS : Int32) (w_F : Value) (x0 x1 x2 : Int32) (h0 : Heap) (n0 : Nat) (v : Option Value) (h : Heap) (L : List Loc) : Prop := v = some (.int (own_sk3_2 x0 x1 x2)) ∧ Fr n0 L ∧ h = h0
theorem sgSk_3_2 (l : Launch) (Z : State) (a0 : Array Value) (hw : own_HW a0 Z) {p : Program} {e : Env} {s : State} {m : MethodId} {args : Array Value} {below : List Frame} {meth : Method} {c : Code} {T0 : State} {locs : List Loc} (r0 : Addr) (p1 w_CS : Int32) (w_F : Value) (x0 x1 x2 : Int32) (h0 : Heap) (n0 : Nat) (Z0 : n0 ≤ h0.size) (S_CS : Sta Z h0 cS1 cS10 "Z" (.int w_CS)) (hcs : ¬ (w_CS = (0 : Int32))) (S_F : Sta Z h0 cS2 cS9 cS3 w_F) (hwF : w_F.isRef = true) (S_AD : Sta Z h0 cS0 cS5 "Z" (.int 1)) (S_HI : Sta Z h0 cS0 cS7 "I" (.int 0)) (S_LO : Sta Z h0 cS0 cS8 "I" (.int 8)) (P_r0 : own_S3 Z h0 r0 x0 x1 x2) (hch_x0 : own_ch x0) (hch_x1 : own_ch x1) (hch_x2 : own_ch x2) (E_r0 : Exa Z h0 r0 cS1)
    (X0 : Stand p l e ({ frames := 5, cells := 0, slots := 0, locals := 69 } : Room) s m args below meth c T0 locs 0 0) (hx : p.tables.exec = Jvm.exec) (hZ : Z.Warmed39 s.vm) (hby : c.code = prog_10_method_4_code) (hml : c.maxLocals = 3) (hown : s.vm.findClass cS4 = some m.cls) (hret : meth.sig.returnType = some .int) (hlk : meth.locks = false) (e0 : T0.heap = h0) (N0 : Fr n0 locs) :
    ∃ s₂ o, Steps p.tables e below (T0.setTop (mkF m 2 #[rv r0, iv p1, iv 2] [])) s₂ ∧ s₂.status = .running ∧ Ended s₂ below o ∧ ∃ v L, o = .returned v ∧ Q_sgSk_3_2 Z r0 p1 w_CS w_F x0 x1 x2 h0 n0 v s₂.heap L ∧ FrameEnd s o s₂ L ({ frames := 5, cells := 0, slots := 0, locals := 69 } : Room).cells ({ frames := 5, cells := 0, slots := 0, locals := 69 } : Room).slots := by
  have k0 : ∀ t, OwnS p e below T0 (mkF m 2 #[rv r0, iv p1, iv 2] []) t → OwnS p e below T0 (mkF m 2 #[rv r0, iv p1, iv 2] []) t := fun _ q => q
  obtain ⟨_, T1, L1, X1, hQ1, st1⟩ := own_cV 1 (rmLen_3 l Z a0 hw [] r0 w_CS x0 x1 x2 h0 n0 Z0 S_CS hcs P_r0) X0 hx hZ hown hw 35 36 38 37 12 39 rfl rfl rfl rfl rfl rfl r0 E_r0 4 #[rv r0, iv p1, iv 2] [] [(.int 2)] (hb hby d6_4) hml (lenOf pd_16 rfl) e0 rfl (Nat.le_refl _) (by decide)
  obtain ⟨rfl, N1q, e1⟩ := hQ1
  have N1 := Fr.app N0 N1q
  obtain ⟨_, T2, L2, X2, hQ2, st2⟩ := own_cV 0 (rmCA_3_2 l Z a0 hw [] r0 w_CS w_F x0 x1 x2 h0 n0 Z0 S_CS hcs S_F hwF S_AD S_HI S_LO P_r0 hch_x2) X1 hx hZ hown hw 59 60 62 61 12 63 rfl rfl rfl rfl rfl rfl r0 E_r0 12 #[rv r0, iv p1, iv 2] [(.int 2)] [] (hb hby d6_12) hml (lenOf pd_17 rfl) e1 rfl (Nat.le_refl _) (by decide)
  obtain ⟨rfl, N2q, e2⟩ := hQ2
  have N2 := Fr.app N1 N2q
  have k4 : ∀ t, OwnS p e below T2 (mkF m 17 #[rv r0, iv p1, iv 2] [(.int 32), (.int x2)]) t → OwnS p e below T0 (mkF m 2 #[rv r0, iv p1, iv 2] []) t := fun t q => by
   refine k0 t ?_
   show OwnS p e below T0 (mkF m 2 #[rv r0, iv p1, iv 2] []) _
   refine oIn X0 hx hby d6_2 rfl (oAn X0 hx hby d6_3 rfl rfl ?_)
   refine st1 _ ?_
   refine XS.icmpNo X1.here hx rfl (hb hby d6_7) rfl (tlt (by decide : (2 : Int32) < (3 : Int32))).2.1 ?_
   refine oAn X1 hx hby d6_10 rfl rfl (oIn X1 hx hby d6_11 rfl ?_)
   refine st2 _ ?_
   refine oBp X2 hx hby d6_15 ?_
   exact q
  by_cases hc17_3 : x2 = (32 : Int32)
  · have k5 : ∀ t, OwnS p e below T2 (mkF m 2 #[rv r0, iv p1, iv 3] []) t → OwnS p e below T0 (mkF m 2 #[rv r0, iv p1, iv 2] []) t := fun t q => by
     refine k4 t ?_
     refine XS.icmpYes X2.here hx rfl (pc0 := 17) (pc' := 30) rfl (hb hby d6_17) rfl (teq hc17_3).1 (by decide) (by decide) ?_
     refine XS.iinc X2.here hx rfl (hb hby d6_30) rfl (l' := #[rv r0, iv p1, iv 3]) rfl ?_
     refine oGo X2 hx hby 33 2 d6_33 (by decide) (by decide) ?_
     exact q
    obtain ⟨s6, o6, ja6, jb6, jc6, v6, L6, rfl, ⟨hv6, jN6, jh6⟩, jF6⟩ := sgSk_3_3 l Z a0 hw r0 p1 w_CS w_F x0 x1 x2 h0 n0 Z0 S_CS hcs S_F hwF S_AD S_HI S_LO P_r0 hch_x0 hch_x1 hch_x2 E_r0 X2 hx hZ hby hml hown hret hlk e2 N2 
    exact ⟨s6, _, k5 _ ja6, jb6, jc6, v6, L6, rfl, ⟨hv6.trans (by simp [own_sp, own_sk3_2, own_sk3_3, hc17_3]), jN6, jh6⟩, jF6⟩
  · obtain ⟨_, T7, L7, X7, hQ7, st7⟩ := own_cV 0 (rmCA_3_2 l Z a0 hw [] r0 w_CS w_F x0 x1 x2 h0 n0 Z0 S_CS hcs S_F hwF S_AD S_HI S_LO P_r0 hch_x2) X2 hx hZ hown hw 59 60 62 61 12 63 rfl rfl rfl rfl rfl rfl r0 E_r0 22 #[rv r0, iv p1, iv 2] [(.int 2)] [] (hb hby d6_22) hml (lenOf pd_17 rfl) e2 rfl (Nat.le_refl _) (by decide)
    obtain ⟨rfl, N7q, e7⟩ := hQ7
    have N7 := Fr.app N2 N7q
    have k9 : ∀ t, OwnS p e below T7 (mkF m 27 #[rv r0, iv p1, iv 2] [(.int 9), (.int x2)]) t → OwnS p e below T0 (mkF m 2 #[rv r0, iv p1, iv 2] []) t := fun t q => by
     refine k4 t ?_
     refine XS.icmpNo X2.here hx rfl (hb hby d6_17) rfl (feq hc17_3).1 ?_
     refine oAn X2 hx hby d6_20 rfl rfl (oIn X2 hx hby d6_21 rfl ?_)
     refine st7 _ ?_
     refine oBp X7 hx hby d6_25 ?_
     exact q
    by_cases hc27_8 : x2 = (9 : Int32)
    · have k10 : ∀ t, OwnS p e below T7 (mkF m 2 #[rv r0, iv p1, iv 3] []) t → OwnS p e below T0 (mkF m 2 #[rv r0, iv p1, iv 2] []) t := fun t q => by
       refine k9 t ?_
       refine XS.icmpNo X7.here hx rfl (hb hby d6_27) rfl (teq hc27_8).2 ?_
       refine XS.iinc X7.here hx rfl (hb hby d6_30) rfl (l' := #[rv r0, iv p1, iv 3]) rfl ?_
       refine oGo X7 hx hby 33 2 d6_33 (by decide) (by decide) ?_
       exact q
      obtain ⟨s11, o11, ja11, jb11, jc11, v11, L11, rfl, ⟨hv11, jN11, jh11⟩, jF11⟩ := sgSk_3_3 l Z a0 hw r0 p1 w_CS w_F x0 x1 x2 h0 n0 Z0 S_CS hcs S_F hwF S_AD S_HI S_LO P_r0 hch_x0 hch_x1 hch_x2 E_r0 X7 hx hZ hby hml hown hret hlk e7 N7 
      exact ⟨s11, _, k10 _ ja11, jb11, jc11, v11, L11, rfl, ⟨hv11.trans (by simp [own_sp, own_sk3_2, own_sk3_3, hc17_3, hc27_8]), jN11, jh11⟩, jF11⟩
    · refine own_out X7 hlk hret (some (.int 2)) nofun (by decide) (by decide) ?_ fun fs hr => k9 _ ?_
      · rw [e7]; exact ⟨(by simp [own_sp, own_sk3_2, own_sk3_3, hc17_3, hc27_8]), N7, rfl⟩
      · refine XS.icmpYes X7.here hx rfl (pc0 := 27) (pc' := 36) rfl (hb hby d6_27) rfl (feq hc27_8).2 (by decide) (by decide) ?_
        refine oIn X7 hx hby d6_36 rfl ?_
        exact retI X7 hx hret (hb hby d6_37) hr
def Q_sgSk_3_1 (Z : State) (r0 : Addr) (p1 w_CS : Int32) (w_F : Value) (x0 x1 x2 : Int32) (h0 : Heap) (n0 : Nat) (v : Option Value) (h : Heap) (L : List Loc) : Prop := v = some (.int (own_sk3_1 x0 x1 x2)) ∧ Fr n0 L ∧ h = h0
theorem sgSk_3_1 (l : Launch) (Z : State) (a0 : Array Value) (hw : own_HW a0 Z) {p : Program} {e : Env} {s : State} {m : MethodId} {args : Array Value} {below : List Frame} {meth : Method} {c : Code} {T0 : State} {locs : List Loc} (r0 : Addr) (p1 w_CS : Int32) (w_F : Value) (x0 x1 x2 : Int32) (h0 : Heap) (n0 : Nat) (Z0 : n0 ≤ h0.size) (S_CS : Sta Z h0 cS1 cS10 "Z" (.int w_CS)) (hcs : ¬ (w_CS = (0 : Int32))) (S_F : Sta Z h0 cS2 cS9 cS3 w_F) (hwF : w_F.isRef = true) (S_AD : Sta Z h0 cS0 cS5 "Z" (.int 1)) (S_HI : Sta Z h0 cS0 cS7 "I" (.int 0)) (S_LO : Sta Z h0 cS0 cS8 "I" (.int 8)) (P_r0 : own_S3 Z h0 r0 x0 x1 x2) (hch_x0 : own_ch x0) (hch_x1 : own_ch x1) (hch_x2 : own_ch x2) (E_r0 : Exa Z h0 r0 cS1)
    (X0 : Stand p l e ({ frames := 5, cells := 0, slots := 0, locals := 69 } : Room) s m args below meth c T0 locs 0 0) (hx : p.tables.exec = Jvm.exec) (hZ : Z.Warmed39 s.vm) (hby : c.code = prog_10_method_4_code) (hml : c.maxLocals = 3) (hown : s.vm.findClass cS4 = some m.cls) (hret : meth.sig.returnType = some .int) (hlk : meth.locks = false) (e0 : T0.heap = h0) (N0 : Fr n0 locs) :
    ∃ s₂ o, Steps p.tables e below (T0.setTop (mkF m 2 #[rv r0, iv p1, iv 1] [])) s₂ ∧ s₂.status = .running ∧ Ended s₂ below o ∧ ∃ v L, o = .returned v ∧ Q_sgSk_3_1 Z r0 p1 w_CS w_F x0 x1 x2 h0 n0 v s₂.heap L ∧ FrameEnd s o s₂ L ({ frames := 5, cells := 0, slots := 0, locals := 69 } : Room).cells ({ frames := 5, cells := 0, slots := 0, locals := 69 } : Room).slots := by
  have k0 : ∀ t, OwnS p e below T0 (mkF m 2 #[rv r0, iv p1, iv 1] []) t → OwnS p e below T0 (mkF m 2 #[rv r0, iv p1, iv 1] []) t := fun _ q => q
  obtain ⟨_, T1, L1, X1, hQ1, st1⟩ := own_cV 1 (rmLen_3 l Z a0 hw [] r0 w_CS x0 x1 x2 h0 n0 Z0 S_CS hcs P_r0) X0 hx hZ hown hw 35 36 38 37 12 39 rfl rfl rfl rfl rfl rfl r0 E_r0 4 #[rv r0, iv p1, iv 1] [] [(.int 1)] (hb hby d6_4) hml (lenOf pd_16 rfl) e0 rfl (Nat.le_refl _) (by decide)
  obtain ⟨rfl, N1q, e1⟩ := hQ1
  have N1 := Fr.app N0 N1q
  obtain ⟨_, T2, L2, X2, hQ2, st2⟩ := own_cV 0 (rmCA_3_1 l Z a0 hw [] r0 w_CS w_F x0 x1 x2 h0 n0 Z0 S_CS hcs S_F hwF S_AD S_HI S_LO P_r0 hch_x1) X1 hx hZ hown hw 59 60 62 61 12 63 rfl rfl rfl rfl rfl rfl r0 E_r0 12 #[rv r0, iv p1, iv 1] [(.int 1)] [] (hb hby d6_12) hml (lenOf pd_17 rfl) e1 rfl (Nat.le_refl _) (by decide)
  obtain ⟨rfl, N2q, e2⟩ := hQ2
  have N2 := Fr.app N1 N2q
  have k4 : ∀ t, OwnS p e below T2 (mkF m 17 #[rv r0, iv p1, iv 1] [(.int 32), (.int x1)]) t → OwnS p e below T0 (mkF m 2 #[rv r0, iv p1, iv 1] []) t := fun t q => by
   refine k0 t ?_
   show OwnS p e below T0 (mkF m 2 #[rv r0, iv p1, iv 1] []) _
   refine oIn X0 hx hby d6_2 rfl (oAn X0 hx hby d6_3 rfl rfl ?_)
   refine st1 _ ?_
   refine XS.icmpNo X1.here hx rfl (hb hby d6_7) rfl (tlt (by decide : (1 : Int32) < (3 : Int32))).2.1 ?_
   refine oAn X1 hx hby d6_10 rfl rfl (oIn X1 hx hby d6_11 rfl ?_)
   refine st2 _ ?_
   refine oBp X2 hx hby d6_15 ?_
   exact q
  by_cases hc17_3 : x1 = (32 : Int32)
  · have k5 : ∀ t, OwnS p e below T2 (mkF m 2 #[rv r0, iv p1, iv 2] []) t → OwnS p e below T0 (mkF m 2 #[rv r0, iv p1, iv 1] []) t := fun t q => by
     refine k4 t ?_
     refine XS.icmpYes X2.here hx rfl (pc0 := 17) (pc' := 30) rfl (hb hby d6_17) rfl (teq hc17_3).1 (by decide) (by decide) ?_
     refine XS.iinc X2.here hx rfl (hb hby d6_30) rfl (l' := #[rv r0, iv p1, iv 2]) rfl ?_
     refine oGo X2 hx hby 33 2 d6_33 (by decide) (by decide) ?_
     exact q
    obtain ⟨s6, o6, ja6, jb6, jc6, v6, L6, rfl, ⟨hv6, jN6, jh6⟩, jF6⟩ := sgSk_3_2 l Z a0 hw r0 p1 w_CS w_F x0 x1 x2 h0 n0 Z0 S_CS hcs S_F hwF S_AD S_HI S_LO P_r0 hch_x0 hch_x1 hch_x2 E_r0 X2 hx hZ hby hml hown hret hlk e2 N2 
    exact ⟨s6, _, k5 _ ja6, jb6, jc6, v6, L6, rfl, ⟨hv6.trans (by simp [own_sp, own_sk3_1, own_sk3_3, hc17_3]), jN6, jh6⟩, jF6⟩
  · obtain ⟨_, T7, L7, X7, hQ7, st7⟩ := own_cV 0 (rmCA_3_1 l Z a0 hw [] r0 w_CS w_F x0 x1 x2 h0 n0 Z0 S_CS hcs S_F hwF S_AD S_HI S_LO P_r0 hch_x1) X2 hx hZ hown hw 59 60 62 61 12 63 rfl rfl rfl rfl rfl rfl r0 E_r0 22 #[rv r0, iv p1, iv 1] [(.int 1)] [] (hb hby d6_22) hml (lenOf pd_17 rfl) e2 rfl (Nat.le_refl _) (by decide)
    obtain ⟨rfl, N7q, e7⟩ := hQ7
    have N7 := Fr.app N2 N7q
    have k9 : ∀ t, OwnS p e below T7 (mkF m 27 #[rv r0, iv p1, iv 1] [(.int 9), (.int x1)]) t → OwnS p e below T0 (mkF m 2 #[rv r0, iv p1, iv 1] []) t := fun t q => by
     refine k4 t ?_
     refine XS.icmpNo X2.here hx rfl (hb hby d6_17) rfl (feq hc17_3).1 ?_
     refine oAn X2 hx hby d6_20 rfl rfl (oIn X2 hx hby d6_21 rfl ?_)
     refine st7 _ ?_
     refine oBp X7 hx hby d6_25 ?_
     exact q
    by_cases hc27_8 : x1 = (9 : Int32)
    · have k10 : ∀ t, OwnS p e below T7 (mkF m 2 #[rv r0, iv p1, iv 2] []) t → OwnS p e below T0 (mkF m 2 #[rv r0, iv p1, iv 1] []) t := fun t q => by
       refine k9 t ?_
       refine XS.icmpNo X7.here hx rfl (hb hby d6_27) rfl (teq hc27_8).2 ?_
       refine XS.iinc X7.here hx rfl (hb hby d6_30) rfl (l' := #[rv r0, iv p1, iv 2]) rfl ?_
       refine oGo X7 hx hby 33 2 d6_33 (by decide) (by decide) ?_
       exact q
      obtain ⟨s11, o11, ja11, jb11, jc11, v11, L11, rfl, ⟨hv11, jN11, jh11⟩, jF11⟩ := sgSk_3_2 l Z a0 hw r0 p1 w_CS w_F x0 x1 x2 h0 n0 Z0 S_CS hcs S_F hwF S_AD S_HI S_LO P_r0 hch_x0 hch_x1 hch_x2 E_r0 X7 hx hZ hby hml hown hret hlk e7 N7 
      exact ⟨s11, _, k10 _ ja11, jb11, jc11, v11, L11, rfl, ⟨hv11.trans (by simp [own_sp, own_sk3_1, own_sk3_3, hc17_3, hc27_8]), jN11, jh11⟩, jF11⟩
    · refine own_out X7 hlk hret (some (.int 1)) nofun (by decide) (by decide) ?_ fun fs hr => k9 _ ?_
      · rw [e7]; exact ⟨(by simp [own_sp, own_sk3_1, own_sk3_3, hc17_3, hc27_8]), N7, rfl⟩
      · refine XS.icmpYes X7.here hx rfl (pc0 := 27) (pc' := 36) rfl (hb hby d6_27) rfl (feq hc27_8).2 (by decide) (by decide) ?_
        refine oIn X7 hx hby d6_36 rfl ?_
        exact retI X7 hx hret (hb hby d6_37) hr
def Q_sgSk_3_0 (Z : State) (r0 : Addr) (p1 w_CS : Int32) (w_F : Value) (x0 x1 x2 : Int32) (h0 : Heap) (n0 : Nat) (v : Option Value) (h : Heap) (L : List Loc) : Prop := v = some (.int (own_sk3_0 x0 x1 x2)) ∧ Fr n0 L ∧ h = h0
theorem sgSk_3_0 (l : Launch) (Z : State) (a0 : Array Value) (hw : own_HW a0 Z) {p : Program} {e : Env} {s : State} {m : MethodId} {args : Array Value} {below : List Frame} {meth : Method} {c : Code} {T0 : State} {locs : List Loc} (r0 : Addr) (p1 w_CS : Int32) (w_F : Value) (x0 x1 x2 : Int32) (h0 : Heap) (n0 : Nat) (Z0 : n0 ≤ h0.size) (S_CS : Sta Z h0 cS1 cS10 "Z" (.int w_CS)) (hcs : ¬ (w_CS = (0 : Int32))) (S_F : Sta Z h0 cS2 cS9 cS3 w_F) (hwF : w_F.isRef = true) (S_AD : Sta Z h0 cS0 cS5 "Z" (.int 1)) (S_HI : Sta Z h0 cS0 cS7 "I" (.int 0)) (S_LO : Sta Z h0 cS0 cS8 "I" (.int 8)) (P_r0 : own_S3 Z h0 r0 x0 x1 x2) (hch_x0 : own_ch x0) (hch_x1 : own_ch x1) (hch_x2 : own_ch x2) (E_r0 : Exa Z h0 r0 cS1)
    (X0 : Stand p l e ({ frames := 5, cells := 0, slots := 0, locals := 69 } : Room) s m args below meth c T0 locs 0 0) (hx : p.tables.exec = Jvm.exec) (hZ : Z.Warmed39 s.vm) (hby : c.code = prog_10_method_4_code) (hml : c.maxLocals = 3) (hown : s.vm.findClass cS4 = some m.cls) (hret : meth.sig.returnType = some .int) (hlk : meth.locks = false) (e0 : T0.heap = h0) (N0 : Fr n0 locs) :
    ∃ s₂ o, Steps p.tables e below (T0.setTop (mkF m 2 #[rv r0, iv p1, iv 0] [])) s₂ ∧ s₂.status = .running ∧ Ended s₂ below o ∧ ∃ v L, o = .returned v ∧ Q_sgSk_3_0 Z r0 p1 w_CS w_F x0 x1 x2 h0 n0 v s₂.heap L ∧ FrameEnd s o s₂ L ({ frames := 5, cells := 0, slots := 0, locals := 69 } : Room).cells ({ frames := 5, cells := 0, slots := 0, locals := 69 } : Room).slots := by
  have k0 : ∀ t, OwnS p e below T0 (mkF m 2 #[rv r0, iv p1, iv 0] []) t → OwnS p e below T0 (mkF m 2 #[rv r0, iv p1, iv 0] []) t := fun _ q => q
  obtain ⟨_, T1, L1, X1, hQ1, st1⟩ := own_cV 1 (rmLen_3 l Z a0 hw [] r0 w_CS x0 x1 x2 h0 n0 Z0 S_CS hcs P_r0) X0 hx hZ hown hw 35 36 38 37 12 39 rfl rfl rfl rfl rfl rfl r0 E_r0 4 #[rv r0, iv p1, iv 0] [] [(.int 0)] (hb hby d6_4) hml (lenOf pd_16 rfl) e0 rfl (Nat.le_refl _) (by decide)
  obtain ⟨rfl, N1q, e1⟩ := hQ1
  have N1 := Fr.app N0 N1q
  obtain ⟨_, T2, L2, X2, hQ2, st2⟩ := own_cV 0 (rmCA_3_0 l Z a0 hw [] r0 w_CS w_F x0 x1 x2 h0 n0 Z0 S_CS hcs S_F hwF S_AD S_HI S_LO P_r0 hch_x0) X1 hx hZ hown hw 59 60 62 61 12 63 rfl rfl rfl rfl rfl rfl r0 E_r0 12 #[rv r0, iv p1, iv 0] [(.int 0)] [] (hb hby d6_12) hml (lenOf pd_17 rfl) e1 rfl (Nat.le_refl _) (by decide)
  obtain ⟨rfl, N2q, e2⟩ := hQ2
  have N2 := Fr.app N1 N2q
  have k4 : ∀ t, OwnS p e below T2 (mkF m 17 #[rv r0, iv p1, iv 0] [(.int 32), (.int x0)]) t → OwnS p e below T0 (mkF m 2 #[rv r0, iv p1, iv 0] []) t := fun t q => by
   refine k0 t ?_
   show OwnS p e below T0 (mkF m 2 #[rv r0, iv p1, iv 0] []) _
   refine oIn X0 hx hby d6_2 rfl (oAn X0 hx hby d6_3 rfl rfl ?_)
   refine st1 _ ?_
   refine XS.icmpNo X1.here hx rfl (hb hby d6_7) rfl (tlt (by decide : (0 : Int32) < (3 : Int32))).2.1 ?_
   refine oAn X1 hx hby d6_10 rfl rfl (oIn X1 hx hby d6_11 rfl ?_)
   refine st2 _ ?_
   refine oBp X2 hx hby d6_15 ?_
   exact q
  by_cases hc17_3 : x0 = (32 : Int32)
  · have k5 : ∀ t, OwnS p e below T2 (mkF m 2 #[rv r0, iv p1, iv 1] []) t → OwnS p e below T0 (mkF m 2 #[rv r0, iv p1, iv 0] []) t := fun t q => by
     refine k4 t ?_
     refine XS.icmpYes X2.here hx rfl (pc0 := 17) (pc' := 30) rfl (hb hby d6_17) rfl (teq hc17_3).1 (by decide) (by decide) ?_
     refine XS.iinc X2.here hx rfl (hb hby d6_30) rfl (l' := #[rv r0, iv p1, iv 1]) rfl ?_
     refine oGo X2 hx hby 33 2 d6_33 (by decide) (by decide) ?_
     exact q
    obtain ⟨s6, o6, ja6, jb6, jc6, v6, L6, rfl, ⟨hv6, jN6, jh6⟩, jF6⟩ := sgSk_3_1 l Z a0 hw r0 p1 w_CS w_F x0 x1 x2 h0 n0 Z0 S_CS hcs S_F hwF S_AD S_HI S_LO P_r0 hch_x0 hch_x1 hch_x2 E_r0 X2 hx hZ hby hml hown hret hlk e2 N2 
    exact ⟨s6, _, k5 _ ja6, jb6, jc6, v6, L6, rfl, ⟨hv6.trans (by simp [own_sp, own_sk3_0, own_sk3_3, hc17_3]), jN6, jh6⟩, jF6⟩
  · obtain ⟨_, T7, L7, X7, hQ7, st7⟩ := own_cV 0 (rmCA_3_0 l Z a0 hw [] r0 w_CS w_F x0 x1 x2 h0 n0 Z0 S_CS hcs S_F hwF S_AD S_HI S_LO P_r0 hch_x0) X2 hx hZ hown hw 59 60 62 61 12 63 rfl rfl rfl rfl rfl rfl r0 E_r0 22 #[rv r0, iv p1, iv 0] [(.int 0)] [] (hb hby d6_22) hml (lenOf pd_17 rfl) e2 rfl (Nat.le_refl _) (by decide)
    obtain ⟨rfl, N7q, e7⟩ := hQ7
    have N7 := Fr.app N2 N7q
    have k9 : ∀ t, OwnS p e below T7 (mkF m 27 #[rv r0, iv p1, iv 0] [(.int 9), (.int x0)]) t → OwnS p e below T0 (mkF m 2 #[rv r0, iv p1, iv 0] []) t := fun t q => by
     refine k4 t ?_
     refine XS.icmpNo X2.here hx rfl (hb hby d6_17) rfl (feq hc17_3).1 ?_
     refine oAn X2 hx hby d6_20 rfl rfl (oIn X2 hx hby d6_21 rfl ?_)
     refine st7 _ ?_
     refine oBp X7 hx hby d6_25 ?_
     exact q
    by_cases hc27_8 : x0 = (9 : Int32)
    · have k10 : ∀ t, OwnS p e below T7 (mkF m 2 #[rv r0, iv p1, iv 1] []) t → OwnS p e below T0 (mkF m 2 #[rv r0, iv p1, iv 0] []) t := fun t q => by
       refine k9 t ?_
       refine XS.icmpNo X7.here hx rfl (hb hby d6_27) rfl (teq hc27_8).2 ?_
       refine XS.iinc X7.here hx rfl (hb hby d6_30) rfl (l' := #[rv r0, iv p1, iv 1]) rfl ?_
       refine oGo X7 hx hby 33 2 d6_33 (by decide) (by decide) ?_
       exact q
      obtain ⟨s11, o11, ja11, jb11, jc11, v11, L11, rfl, ⟨hv11, jN11, jh11⟩, jF11⟩ := sgSk_3_1 l Z a0 hw r0 p1 w_CS w_F x0 x1 x2 h0 n0 Z0 S_CS hcs S_F hwF S_AD S_HI S_LO P_r0 hch_x0 hch_x1 hch_x2 E_r0 X7 hx hZ hby hml hown hret hlk e7 N7 
      exact ⟨s11, _, k10 _ ja11, jb11, jc11, v11, L11, rfl, ⟨hv11.trans (by simp [own_sp, own_sk3_0, own_sk3_3, hc17_3, hc27_8]), jN11, jh11⟩, jF11⟩
    · refine own_out X7 hlk hret (some (.int 0)) nofun (by decide) (by decide) ?_ fun fs hr => k9 _ ?_
      · rw [e7]; exact ⟨(by simp [own_sp, own_sk3_0, own_sk3_3, hc17_3, hc27_8]), N7, rfl⟩
      · refine XS.icmpYes X7.here hx rfl (pc0 := 27) (pc' := 36) rfl (hb hby d6_27) rfl (feq hc27_8).2 (by decide) (by decide) ?_
        refine oIn X7 hx hby d6_36 rfl ?_
        exact retI X7 hx hret (hb hby d6_37) hr
def Q_sgSk_4_4 (Z : State) (r0 : Addr) (p1 w_CS : Int32) (w_F : Value) (x0 x1 x2 x3 : Int32) (h0 : Heap) (n0 : Nat) (v : Option Value) (h : Heap) (L : List Loc) : Prop := v = some (.int (own_sk4_4 x0 x1 x2 x3)) ∧ Fr n0 L ∧ h = h0
theorem sgSk_4_4 (l : Launch) (Z : State) (a0 : Array Value) (hw : own_HW a0 Z) {p : Program} {e : Env} {s : State} {m : MethodId} {args : Array Value} {below : List Frame} {meth : Method} {c : Code} {T0 : State} {locs : List Loc} (r0 : Addr) (p1 w_CS : Int32) (w_F : Value) (x0 x1 x2 x3 : Int32) (h0 : Heap) (n0 : Nat) (Z0 : n0 ≤ h0.size) (S_CS : Sta Z h0 cS1 cS10 "Z" (.int w_CS)) (hcs : ¬ (w_CS = (0 : Int32))) (S_F : Sta Z h0 cS2 cS9 cS3 w_F) (hwF : w_F.isRef = true) (S_AD : Sta Z h0 cS0 cS5 "Z" (.int 1)) (S_HI : Sta Z h0 cS0 cS7 "I" (.int 0)) (S_LO : Sta Z h0 cS0 cS8 "I" (.int 8)) (P_r0 : own_S4 Z h0 r0 x0 x1 x2 x3) (hch_x0 : own_ch x0) (hch_x1 : own_ch x1) (hch_x2 : own_ch x2) (hch_x3 : own_ch x3) (E_r0 : Exa Z h0 r0 cS1)
    (X0 : Stand p l e ({ frames := 5, cells := 0, slots := 0, locals := 69 } : Room) s m args below meth c T0 locs 0 0) (hx : p.tables.exec = Jvm.exec) (hZ : Z.Warmed39 s.vm) (hby : c.code = prog_10_method_4_code) (hml : c.maxLocals = 3) (hown : s.vm.findClass cS4 = some m.cls) (hret : meth.sig.returnType = some .int) (hlk : meth.locks = false) (e0 : T0.heap = h0) (N0 : Fr n0 locs) :
    ∃ s₂ o, Steps p.tables e below (T0.setTop (mkF m 2 #[rv r0, iv p1, iv 4] [])) s₂ ∧ s₂.status = .running ∧ Ended s₂ below o ∧ ∃ v L, o = .returned v ∧ Q_sgSk_4_4 Z r0 p1 w_CS w_F x0 x1 x2 x3 h0 n0 v s₂.heap L ∧ FrameEnd s o s₂ L ({ frames := 5, cells := 0, slots := 0, locals := 69 } : Room).cells ({ frames := 5, cells := 0, slots := 0, locals := 69 } : Room).slots := by
  have k0 : ∀ t, OwnS p e below T0 (mkF m 2 #[rv r0, iv p1, iv 4] []) t → OwnS p e below T0 (mkF m 2 #[rv r0, iv p1, iv 4] []) t := fun _ q => q
  obtain ⟨_, T1, L1, X1, hQ1, st1⟩ := own_cV 1 (rmLen_4 l Z a0 hw [] r0 w_CS x0 x1 x2 x3 h0 n0 Z0 S_CS hcs P_r0) X0 hx hZ hown hw 35 36 38 37 12 39 rfl rfl rfl rfl rfl rfl r0 E_r0 4 #[rv r0, iv p1, iv 4] [] [(.int 4)] (hb hby d6_4) hml (lenOf pd_16 rfl) e0 rfl (Nat.le_refl _) (by decide)
  obtain ⟨rfl, N1q, e1⟩ := hQ1
  have N1 := Fr.app N0 N1q
  refine own_out X1 hlk hret (some (.int 4)) nofun (by decide) (by decide) ?_ fun fs hr => k0 _ ?_
  · rw [e1]; exact ⟨(by simp [own_sp, own_sk4_4]), N1, rfl⟩
  · show OwnS p e below T0 (mkF m 2 #[rv r0, iv p1, iv 4] []) _
    refine oIn X0 hx hby d6_2 rfl (oAn X0 hx hby d6_3 rfl rfl ?_)
    refine st1 _ ?_
    refine XS.icmpYes X1.here hx rfl (pc0 := 7) (pc' := 36) rfl (hb hby d6_7) rfl (flt (by decide : ¬ ((4 : Int32) < (4 : Int32)))).2.1 (by decide) (by decide) ?_
    refine oIn X1 hx hby d6_36 rfl ?_
    exact retI X1 hx hret (hb hby d6_37) hr
def Q_sgSk_4_3 (Z : State) (r0 : Addr) (p1 w_CS : Int32) (w_F : Value) (x0 x1 x2 x3 : Int32) (h0 : Heap) (n0 : Nat) (v : Option Value) (h : Heap) (L : List Loc) : Prop := v = some (.int (own_sk4_3 x0 x1 x2 x3)) ∧ Fr n0 L ∧ h = h0
theorem sgSk_4_3 (l : Launch) (Z : State) (a0 : Array Value) (hw : own_HW a0 Z) {p : Program} {e : Env} {s : State} {m : MethodId} {args : Array Value} {below : List Frame} {meth : Method} {c : Code} {T0 : State} {locs : List Loc} (r0 : Addr) (p1 w_CS : Int32) (w_F : Value) (x0 x1 x2 x3 : Int32) (h0 : Heap) (n0 : Nat) (Z0 : n0 ≤ h0.size) (S_CS : Sta Z h0 cS1 cS10 "Z" (.int w_CS)) (hcs : ¬ (w_CS = (0 : Int32))) (S_F : Sta Z h0 cS2 cS9 cS3 w_F) (hwF : w_F.isRef = true) (S_AD : Sta Z h0 cS0 cS5 "Z" (.int 1)) (S_HI : Sta Z h0 cS0 cS7 "I" (.int 0)) (S_LO : Sta Z h0 cS0 cS8 "I" (.int 8)) (P_r0 : own_S4 Z h0 r0 x0 x1 x2 x3) (hch_x0 : own_ch x0) (hch_x1 : own_ch x1) (hch_x2 : own_ch x2) (hch_x3 : own_ch x3) (E_r0 : Exa Z h0 r0 cS1)
    (X0 : Stand p l e ({ frames := 5, cells := 0, slots := 0, locals := 69 } : Room) s m args below meth c T0 locs 0 0) (hx : p.tables.exec = Jvm.exec) (hZ : Z.Warmed39 s.vm) (hby : c.code = prog_10_method_4_code) (hml : c.maxLocals = 3) (hown : s.vm.findClass cS4 = some m.cls) (hret : meth.sig.returnType = some .int) (hlk : meth.locks = false) (e0 : T0.heap = h0) (N0 : Fr n0 locs) :
    ∃ s₂ o, Steps p.tables e below (T0.setTop (mkF m 2 #[rv r0, iv p1, iv 3] [])) s₂ ∧ s₂.status = .running ∧ Ended s₂ below o ∧ ∃ v L, o = .returned v ∧ Q_sgSk_4_3 Z r0 p1 w_CS w_F x0 x1 x2 x3 h0 n0 v s₂.heap L ∧ FrameEnd s o s₂ L ({ frames := 5, cells := 0, slots := 0, locals := 69 } : Room).cells ({ frames := 5, cells := 0, slots := 0, locals := 69 } : Room).slots := by
  have k0 : ∀ t, OwnS p e below T0 (mkF m 2 #[rv r0, iv p1, iv 3] []) t → OwnS p e below T0 (mkF m 2 #[rv r0, iv p1, iv 3] []) t := fun _ q => q
  obtain ⟨_, T1, L1, X1, hQ1, st1⟩ := own_cV 1 (rmLen_4 l Z a0 hw [] r0 w_CS x0 x1 x2 x3 h0 n0 Z0 S_CS hcs P_r0) X0 hx hZ hown hw 35 36 38 37 12 39 rfl rfl rfl rfl rfl rfl r0 E_r0 4 #[rv r0, iv p1, iv 3] [] [(.int 3)] (hb hby d6_4) hml (lenOf pd_16 rfl) e0 rfl (Nat.le_refl _) (by decide)
  obtain ⟨rfl, N1q, e1⟩ := hQ1
  have N1 := Fr.app N0 N1q
  obtain ⟨_, T2, L2, X2, hQ2, st2⟩ := own_cV 0 (rmCA_4_3 l Z a0 hw [] r0 w_CS w_F x0 x1 x2 x3 h0 n0 Z0 S_CS hcs S_F hwF S_AD S_HI S_LO P_r0 hch_x3) X1 hx hZ hown hw 59 60 62 61 12 63 rfl rfl rfl rfl rfl rfl r0 E_r0 12 #[rv r0, iv p1, iv 3] [(.int 3)] [] (hb hby d6_12) hml (lenOf pd_17 rfl) e1 rfl (Nat.le_refl _) (by decide)
  obtain ⟨rfl, N2q, e2⟩ := hQ2
  have N2 := Fr.app N1 N2q
  have k4 : ∀ t, OwnS p e below T2 (mkF m 17 #[rv r0, iv p1, iv 3] [(.int 32), (.int x3)]) t → OwnS p e below T0 (mkF m 2 #[rv r0, iv p1, iv 3] []) t := fun t q => by
   refine k0 t ?_
   show OwnS p e below T0 (mkF m 2 #[rv r0, iv p1, iv 3] []) _
   refine oIn X0 hx hby d6_2 rfl (oAn X0 hx hby d6_3 rfl rfl ?_)
   refine st1 _ ?_
   refine XS.icmpNo X1.here hx rfl (hb hby d6_7) rfl (tlt (by decide : (3 : Int32) < (4 : Int32))).2.1 ?_
   refine oAn X1 hx hby d6_10 rfl rfl (oIn X1 hx hby d6_11 rfl ?_)
   refine st2 _ ?_
   refine oBp X2 hx hby d6_15 ?_
   exact q
  by_cases hc17_3 : x3 = (32 : Int32)
  · have k5 : ∀ t, OwnS p e below T2 (mkF m 2 #[rv r0, iv p1, iv 4] []) t → OwnS p e below T0 (mkF m 2 #[rv r0, iv p1, iv 3] []) t := fun t q => by
     refine k4 t ?_
     refine XS.icmpYes X2.here hx rfl (pc0 := 17) (pc' := 30) rfl (hb hby d6_17) rfl (teq hc17_3).1 (by decide) (by decide) ?_
     refine XS.iinc X2.here hx rfl (hb hby d6_30) rfl (l' := #[rv r0, iv p1, iv 4]) rfl ?_
     refine oGo X2 hx hby 33 2 d6_33 (by decide) (by decide) ?_
     exact q
    obtain ⟨s6, o6, ja6, jb6, jc6, v6, L6, rfl, ⟨hv6, jN6, jh6⟩, jF6⟩ := sgSk_4_4 l Z a0 hw r0 p1 w_CS w_F x0 x1 x2 x3 h0 n0 Z0 S_CS hcs S_F hwF S_AD S_HI S_LO P_r0 hch_x0 hch_x1 hch_x2 hch_x3 E_r0 X2 hx hZ hby hml hown hret hlk e2 N2 
    exact ⟨s6, _, k5 _ ja6, jb6, jc6, v6, L6, rfl, ⟨hv6.trans (by simp [own_sp, own_sk4_3, own_sk4_4, hc17_3]), jN6, jh6⟩, jF6⟩
  · obtain ⟨_, T7, L7, X7, hQ7, st7⟩ := own_cV 0 (rmCA_4_3 l Z a0 hw [] r0 w_CS w_F x0 x1 x2 x3 h0 n0 Z0 S_CS hcs S_F hwF S_AD S_HI S_LO P_r0 hch_x3) X2 hx hZ hown hw 59 60 62 61 12 63 rfl rfl rfl rfl rfl rfl r0 E_r0 22 #[rv r0, iv p1, iv 3] [(.int 3)] [] (hb hby d6_22) hml (lenOf pd_17 rfl) e2 rfl (Nat.le_refl _) (by decide)
    obtain ⟨rfl, N7q, e7⟩ := hQ7
    have N7 := Fr.app N2 N7q
    have k9 : ∀ t, OwnS p e below T7 (mkF m 27 #[rv r0, iv p1, iv 3] [(.int 9), (.int x3)]) t → OwnS p e below T0 (mkF m 2 #[rv r0, iv p1, iv 3] []) t := fun t q => by
     refine k4 t ?_
     refine XS.icmpNo X2.here hx rfl (hb hby d6_17) rfl (feq hc17_3).1 ?_
     refine oAn X2 hx hby d6_20 rfl rfl (oIn X2 hx hby d6_21 rfl ?_)
     refine st7 _ ?_
     refine oBp X7 hx hby d6_25 ?_
     exact q
    by_cases hc27_8 : x3 = (9 : Int32)
    · have k10 : ∀ t, OwnS p e below T7 (mkF m 2 #[rv r0, iv p1, iv 4] []) t → OwnS p e below T0 (mkF m 2 #[rv r0, iv p1, iv 3] []) t := fun t q => by
       refine k9 t ?_
       refine XS.icmpNo X7.here hx rfl (hb hby d6_27) rfl (teq hc27_8).2 ?_
       refine XS.iinc X7.here hx rfl (hb hby d6_30) rfl (l' := #[rv r0, iv p1, iv 4]) rfl ?_
       refine oGo X7 hx hby 33 2 d6_33 (by decide) (by decide) ?_
       exact q
      obtain ⟨s11, o11, ja11, jb11, jc11, v11, L11, rfl, ⟨hv11, jN11, jh11⟩, jF11⟩ := sgSk_4_4 l Z a0 hw r0 p1 w_CS w_F x0 x1 x2 x3 h0 n0 Z0 S_CS hcs S_F hwF S_AD S_HI S_LO P_r0 hch_x0 hch_x1 hch_x2 hch_x3 E_r0 X7 hx hZ hby hml hown hret hlk e7 N7 
      exact ⟨s11, _, k10 _ ja11, jb11, jc11, v11, L11, rfl, ⟨hv11.trans (by simp [own_sp, own_sk4_3, own_sk4_4, hc17_3, hc27_8]), jN11, jh11⟩, jF11⟩
    · refine own_out X7 hlk hret (some (.int 3)) nofun (by decide) (by decide) ?_ fun fs hr => k9 _ ?_
      · rw [e7]; exact ⟨(by simp [own_sp, own_sk4_3, own_sk4_4, hc17_3, hc27_8]), N7, rfl⟩
      · refine XS.icmpYes X7.here hx rfl (pc0 := 27) (pc' := 36) rfl (hb hby d6_27) rfl (feq hc27_8).2 (by decide) (by decide) ?_
        refine oIn X7 hx hby d6_36 rfl ?_
        exact retI X7 hx hret (hb hby d6_37) hr
def Q_sgSk_4_2 (Z : State) (r0 : Addr) (p1 w_CS : Int32) (w_F : Value) (x0 x1 x2 x3 : Int32) (h0 : Heap) (n0 : Nat) (v : Option Value) (h : Heap) (L : List Loc) : Prop := v = some (.int (own_sk4_2 x0 x1 x2 x3)) ∧ Fr n0 L ∧ h = h0
theorem sgSk_4_2 (l : Launch) (Z : State) (a0 : Array Value) (hw : own_HW a0 Z) {p : Program} {e : Env} {s : State} {m : MethodId} {args : Array Value} {below : List Frame} {meth : Method} {c : Code} {T0 : State} {locs : List Loc} (r0 : Addr) (p1 w_CS : Int32) (w_F : Value) (x0 x1 x2 x3 : Int32) (h0 : Heap) (n0 : Nat) (Z0 : n0 ≤ h0.size) (S_CS : Sta Z h0 cS1 cS10 "Z" (.int w_CS)) (hcs : ¬ (w_CS = (0 : Int32))) (S_F : Sta Z h0 cS2 cS9 cS3 w_F) (hwF : w_F.isRef = true) (S_AD : Sta Z h0 cS0 cS5 "Z" (.int 1)) (S_HI : Sta Z h0 cS0 cS7 "I" (.int 0)) (S_LO : Sta Z h0 cS0 cS8 "I" (.int 8)) (P_r0 : own_S4 Z h0 r0 x0 x1 x2 x3) (hch_x0 : own_ch x0) (hch_x1 : own_ch x1) (hch_x2 : own_ch x2) (hch_x3 : own_ch x3) (E_r0 : Exa Z h0 r0 cS1)
    (X0 : Stand p l e ({ frames := 5, cells := 0, slots := 0, locals := 69 } : Room) s m args below meth c T0 locs 0 0) (hx : p.tables.exec = Jvm.exec) (hZ : Z.Warmed39 s.vm) (hby : c.code = prog_10_method_4_code) (hml : c.maxLocals = 3) (hown : s.vm.findClass cS4 = some m.cls) (hret : meth.sig.returnType = some .int) (hlk : meth.locks = false) (e0 : T0.heap = h0) (N0 : Fr n0 locs) :
    ∃ s₂ o, Steps p.tables e below (T0.setTop (mkF m 2 #[rv r0, iv p1, iv 2] [])) s₂ ∧ s₂.status = .running ∧ Ended s₂ below o ∧ ∃ v L, o = .returned v ∧ Q_sgSk_4_2 Z r0 p1 w_CS w_F x0 x1 x2 x3 h0 n0 v s₂.heap L ∧ FrameEnd s o s₂ L ({ frames := 5, cells := 0, slots := 0, locals := 69 } : Room).cells ({ frames := 5, cells := 0, slots := 0, locals := 69 } : Room).slots := by
  have k0 : ∀ t, OwnS p e below T0 (mkF m 2 #[rv r0, iv p1, iv 2] []) t → OwnS p e below T0 (mkF m 2 #[rv r0, iv p1, iv 2] []) t := fun _ q => q
  obtain ⟨_, T1, L1, X1, hQ1, st1⟩ := own_cV 1 (rmLen_4 l Z a0 hw [] r0 w_CS x0 x1 x2 x3 h0 n0 Z0 S_CS hcs P_r0) X0 hx hZ hown hw 35 36 38 37 12 39 rfl rfl rfl rfl rfl rfl r0 E_r0 4 #[rv r0, iv p1, iv 2] [] [(.int 2)] (hb hby d6_4) hml (lenOf pd_16 rfl) e0 rfl (Nat.le_refl _) (by decide)
  obtain ⟨rfl, N1q, e1⟩ := hQ1
  have N1 := Fr.app N0 N1q
  obtain ⟨_, T2, L2, X2, hQ2, st2⟩ := own_cV 0 (rmCA_4_2 l Z a0 hw [] r0 w_CS w_F x0 x1 x2 x3 h0 n0 Z0 S_CS hcs S_F hwF S_AD S_HI S_LO P_r0 hch_x2) X1 hx hZ hown hw 59 60 62 61 12 63 rfl rfl rfl rfl rfl rfl r0 E_r0 12 #[rv r0, iv p1, iv 2] [(.int 2)] [] (hb hby d6_12) hml (lenOf pd_17 rfl) e1 rfl (Nat.le_refl _) (by decide)
  obtain ⟨rfl, N2q, e2⟩ := hQ2
  have N2 := Fr.app N1 N2q
  have k4 : ∀ t, OwnS p e below T2 (mkF m 17 #[rv r0, iv p1, iv 2] [(.int 32), (.int x2)]) t → OwnS p e below T0 (mkF m 2 #[rv r0, iv p1, iv 2] []) t := fun t q => by
   refine k0 t ?_
   show OwnS p e below T0 (mkF m 2 #[rv r0, iv p1, iv 2] []) _
   refine oIn X0 hx hby d6_2 rfl (oAn X0 hx hby d6_3 rfl rfl ?_)
   refine st1 _ ?_
   refine XS.icmpNo X1.here hx rfl (hb hby d6_7) rfl (tlt (by decide : (2 : Int32) < (4 : Int32))).2.1 ?_
   refine oAn X1 hx hby d6_10 rfl rfl (oIn X1 hx hby d6_11 rfl ?_)
   refine st2 _ ?_
   refine oBp X2 hx hby d6_15 ?_
   exact q
  by_cases hc17_3 : x2 = (32 : Int32)
  · have k5 : ∀ t, OwnS p e below T2 (mkF m 2 #[rv r0, iv p1, iv 3] []) t → OwnS p e below T0 (mkF m 2 #[rv r0, iv p1, iv 2] []) t := fun t q => by
     refine k4 t ?_
     refine XS.icmpYes X2.here hx rfl (pc0 := 17) (pc' := 30) rfl (hb hby d6_17) rfl (teq hc17_3).1 (by decide) (by decide) ?_
     refine XS.iinc X2.here hx rfl (hb hby d6_30) rfl (l' := #[rv r0, iv p1, iv 3]) rfl ?_
     refine oGo X2 hx hby 33 2 d6_33 (by decide) (by decide) ?_
     exact q
    obtain ⟨s6, o6, ja6, jb6, jc6, v6, L6, rfl, ⟨hv6, jN6, jh6⟩, jF6⟩ := sgSk_4_3 l Z a0 hw r0 p1 w_CS w_F x0 x1 x2 x3 h0 n0 Z0 S_CS hcs S_F hwF S_AD S_HI S_LO P_r0 hch_x0 hch_x1 hch_x2 hch_x3 E_r0 X2 hx hZ hby hml hown hret hlk e2 N2 
    exact ⟨s6, _, k5 _ ja6, jb6, jc6, v6, L6, rfl, ⟨hv6.trans (by simp [own_sp, own_sk4_2, own_sk4_4, hc17_3]), jN6, jh6⟩, jF6⟩
  · obtain ⟨_, T7, L7, X7, hQ7, st7⟩ := own_cV 0 (rmCA_4_2 l Z a0 hw [] r0 w_CS w_F x0 x1 x2 x3 h0 n0 Z0 S_CS hcs S_F hwF S_AD S_HI S_LO P_r0 hch_x2) X2 hx hZ hown hw 59 60 62 61 12 63 rfl rfl rfl rfl rfl rfl r0 E_r0 22 #[rv r0, iv p1, iv 2] [(.int 2)] [] (hb hby d6_22) hml (lenOf pd_17 rfl) e2 rfl (Nat.le_refl _) (by decide)
    obtain ⟨rfl, N7q, e7⟩ := hQ7
    have N7 := Fr.app N2 N7q
    have k9 : ∀ t, OwnS p e below T7 (mkF m 27 #[rv r0, iv p1, iv 2] [(.int 9), (.int x2)]) t → OwnS p e below T0 (mkF m 2 #[rv r0, iv p1, iv 2] []) t := fun t q => by
     refine k4 t ?_
     refine XS.icmpNo X2.here hx rfl (hb hby d6_17) rfl (feq hc17_3).1 ?_
     refine oAn X2 hx hby d6_20 rfl rfl (oIn X2 hx hby d6_21 rfl ?_)
     refine st7 _ ?_
     refine oBp X7 hx hby d6_25 ?_
     exact q
    by_cases hc27_8 : x2 = (9 : Int32)
    · have k10 : ∀ t, OwnS p e below T7 (mkF m 2 #[rv r0, iv p1, iv 3] []) t → OwnS p e below T0 (mkF m 2 #[rv r0, iv p1, iv 2] []) t := fun t q => by
       refine k9 t ?_
       refine XS.icmpNo X7.here hx rfl (hb hby d6_27) rfl (teq hc27_8).2 ?_
       refine XS.iinc X7.here hx rfl (hb hby d6_30) rfl (l' := #[rv r0, iv p1, iv 3]) rfl ?_
       refine oGo X7 hx hby 33 2 d6_33 (by decide) (by decide) ?_
       exact q
      obtain ⟨s11, o11, ja11, jb11, jc11, v11, L11, rfl, ⟨hv11, jN11, jh11⟩, jF11⟩ := sgSk_4_3 l Z a0 hw r0 p1 w_CS w_F x0 x1 x2 x3 h0 n0 Z0 S_CS hcs S_F hwF S_AD S_HI S_LO P_r0 hch_x0 hch_x1 hch_x2 hch_x3 E_r0 X7 hx hZ hby hml hown hret hlk e7 N7 
      exact ⟨s11, _, k10 _ ja11, jb11, jc11, v11, L11, rfl, ⟨hv11.trans (by simp [own_sp, own_sk4_2, own_sk4_4, hc17_3, hc27_8]), jN11, jh11⟩, jF11⟩
    · refine own_out X7 hlk hret (some (.int 2)) nofun (by decide) (by decide) ?_ fun fs hr => k9 _ ?_
      · rw [e7]; exact ⟨(by simp [own_sp, own_sk4_2, own_sk4_4, hc17_3, hc27_8]), N7, rfl⟩
      · refine XS.icmpYes X7.here hx rfl (pc0 := 27) (pc' := 36) rfl (hb hby d6_27) rfl (feq hc27_8).2 (by decide) (by decide) ?_
        refine oIn X7 hx hby d6_36 rfl ?_
        exact retI X7 hx hret (hb hby d6_37) hr
def Q_sgSk_4_1 (Z : State) (r0 : Addr) (p1 w_CS : Int32) (w_F : Value) (x0 x1 x2 x3 : Int32) (h0 : Heap) (n0 : Nat) (v : Option Value) (h : Heap) (L : List Loc) : Prop := v = some (.int (own_sk4_1 x0 x1 x2 x3)) ∧ Fr n0 L ∧ h = h0
theorem sgSk_4_1 (l : Launch) (Z : State) (a0 : Array Value) (hw : own_HW a0 Z) {p : Program} {e : Env} {s : State} {m : MethodId} {args : Array Value} {below : List Frame} {meth : Method} {c : Code} {T0 : State} {locs : List Loc} (r0 : Addr) (p1 w_CS : Int32) (w_F : Value) (x0 x1 x2 x3 : Int32) (h0 : Heap) (n0 : Nat) (Z0 : n0 ≤ h0.size) (S_CS : Sta Z h0 cS1 cS10 "Z" (.int w_CS)) (hcs : ¬ (w_CS = (0 : Int32))) (S_F : Sta Z h0 cS2 cS9 cS3 w_F) (hwF : w_F.isRef = true) (S_AD : Sta Z h0 cS0 cS5 "Z" (.int 1)) (S_HI : Sta Z h0 cS0 cS7 "I" (.int 0)) (S_LO : Sta Z h0 cS0 cS8 "I" (.int 8)) (P_r0 : own_S4 Z h0 r0 x0 x1 x2 x3) (hch_x0 : own_ch x0) (hch_x1 : own_ch x1) (hch_x2 : own_ch x2) (hch_x3 : own_ch x3) (E_r0 : Exa Z h0 r0 cS1)
    (X0 : Stand p l e ({ frames := 5, cells := 0, slots := 0, locals := 69 } : Room) s m args below meth c T0 locs 0 0) (hx : p.tables.exec = Jvm.exec) (hZ : Z.Warmed39 s.vm) (hby : c.code = prog_10_method_4_code) (hml : c.maxLocals = 3) (hown : s.vm.findClass cS4 = some m.cls) (hret : meth.sig.returnType = some .int) (hlk : meth.locks = false) (e0 : T0.heap = h0) (N0 : Fr n0 locs) :
    ∃ s₂ o, Steps p.tables e below (T0.setTop (mkF m 2 #[rv r0, iv p1, iv 1] [])) s₂ ∧ s₂.status = .running ∧ Ended s₂ below o ∧ ∃ v L, o = .returned v ∧ Q_sgSk_4_1 Z r0 p1 w_CS w_F x0 x1 x2 x3 h0 n0 v s₂.heap L ∧ FrameEnd s o s₂ L ({ frames := 5, cells := 0, slots := 0, locals := 69 } : Room).cells ({ frames := 5, cells := 0, slots := 0, locals := 69 } : Room).slots := by
  have k0 : ∀ t, OwnS p e below T0 (mkF m 2 #[rv r0, iv p1, iv 1] []) t → OwnS p e below T0 (mkF m 2 #[rv r0, iv p1, iv 1] []) t := fun _ q => q
  obtain ⟨_, T1, L1, X1, hQ1, st1⟩ := own_cV 1 (rmLen_4 l Z a0 hw [] r0 w_CS x0 x1 x2 x3 h0 n0 Z0 S_CS hcs P_r0) X0 hx hZ hown hw 35 36 38 37 12 39 rfl rfl rfl rfl rfl rfl r0 E_r0 4 #[rv r0, iv p1, iv 1] [] [(.int 1)] (hb hby d6_4) hml (lenOf pd_16 rfl) e0 rfl (Nat.le_refl _) (by decide)
  obtain ⟨rfl, N1q, e1⟩ := hQ1
  have N1 := Fr.app N0 N1q
  obtain ⟨_, T2, L2, X2, hQ2, st2⟩ := own_cV 0 (rmCA_4_1 l Z a0 hw [] r0 w_CS w_F x0 x1 x2 x3 h0 n0 Z0 S_CS hcs S_F hwF S_AD S_HI S_LO P_r0 hch_x1) X1 hx hZ hown hw 59 60 62 61 12 63 rfl rfl rfl rfl rfl rfl r0 E_r0 12 #[rv r0, iv p1, iv 1] [(.int 1)] [] (hb hby d6_12) hml (lenOf pd_17 rfl) e1 rfl (Nat.le_refl _) (by decide)
  obtain ⟨rfl, N2q, e2⟩ := hQ2
  have N2 := Fr.app N1 N2q
  have k4 : ∀ t, OwnS p e below T2 (mkF m 17 #[rv r0, iv p1, iv 1] [(.int 32), (.int x1)]) t → OwnS p e below T0 (mkF m 2 #[rv r0, iv p1, iv 1] []) t := fun t q => by
   refine k0 t ?_
   show OwnS p e below T0 (mkF m 2 #[rv r0, iv p1, iv 1] []) _
   refine oIn X0 hx hby d6_2 rfl (oAn X0 hx hby d6_3 rfl rfl ?_)
   refine st1 _ ?_
   refine XS.icmpNo X1.here hx rfl (hb hby d6_7) rfl (tlt (by decide : (1 : Int32) < (4 : Int32))).2.1 ?_
   refine oAn X1 hx hby d6_10 rfl rfl (oIn X1 hx hby d6_11 rfl ?_)
   refine st2 _ ?_
   refine oBp X2 hx hby d6_15 ?_
   exact q
  by_cases hc17_3 : x1 = (32 : Int32)
  · have k5 : ∀ t, OwnS p e below T2 (mkF m 2 #[rv r0, iv p1, iv 2] []) t → OwnS p e below T0 (mkF m 2 #[rv r0, iv p1, iv 1] []) t := fun t q => by
     refine k4 t ?_
     refine XS.icmpYes X2.here hx rfl (pc0 := 17) (pc' := 30) rfl (hb hby d6_17) rfl (teq hc17_3).1 (by decide) (by decide) ?_
     refine XS.iinc X2.here hx rfl (hb hby d6_30) rfl (l' := #[rv r0, iv p1, iv 2]) rfl ?_
     refine oGo X2 hx hby 33 2 d6_33 (by decide) (by decide) ?_
     exact q
    obtain ⟨s6, o6, ja6, jb6, jc6, v6, L6, rfl, ⟨hv6, jN6, jh6⟩, jF6⟩ := sgSk_4_2 l Z a0 hw r0 p1 w_CS w_F x0 x1 x2 x3 h0 n0 Z0 S_CS hcs S_F hwF S_AD S_HI S_LO P_r0 hch_x0 hch_x1 hch_x2 hch_x3 E_r0 X2 hx hZ hby hml hown hret hlk e2 N2 
    exact ⟨s6, _, k5 _ ja6, jb6, jc6, v6, L6, rfl, ⟨hv6.trans (by simp [own_sp, own_sk4_1, own_sk4_4, hc17_3]), jN6, jh6⟩, jF6⟩
  · obtain ⟨_, T7, L7, X7, hQ7, st7⟩ := own_cV 0 (rmCA_4_1 l Z a0 hw [] r0 w_CS w_F x0 x1 x2 x3 h0 n0 Z0 S_CS hcs S_F hwF S_AD S_HI S_LO P_r0 hch_x1) X2 hx hZ hown hw 59 60 62 61 12 63 rfl rfl rfl rfl rfl rfl r0 E_r0 22 #[rv r0, iv p1, iv 1] [(.int 1)] [] (hb hby d6_22) hml (lenOf pd_17 rfl) e2 rfl (Nat.le_refl _) (by decide)
    obtain ⟨rfl, N7q, e7⟩ := hQ7
    have N7 := Fr.app N2 N7q
    have k9 : ∀ t, OwnS p e below T7 (mkF m 27 #[rv r0, iv p1, iv 1] [(.int 9), (.int x1)]) t → OwnS p e below T0 (mkF m 2 #[rv r0, iv p1, iv 1] []) t := fun t q => by
     refine k4 t ?_
     refine XS.icmpNo X2.here hx rfl (hb hby d6_17) rfl (feq hc17_3).1 ?_
     refine oAn X2 hx hby d6_20 rfl rfl (oIn X2 hx hby d6_21 rfl ?_)
     refine st7 _ ?_
     refine oBp X7 hx hby d6_25 ?_
     exact q
    by_cases hc27_8 : x1 = (9 : Int32)
    · have k10 : ∀ t, OwnS p e below T7 (mkF m 2 #[rv r0, iv p1, iv 2] []) t → OwnS p e below T0 (mkF m 2 #[rv r0, iv p1, iv 1] []) t := fun t q => by
       refine k9 t ?_
       refine XS.icmpNo X7.here hx rfl (hb hby d6_27) rfl (teq hc27_8).2 ?_
       refine XS.iinc X7.here hx rfl (hb hby d6_30) rfl (l' := #[rv r0, iv p1, iv 2]) rfl ?_
       refine oGo X7 hx hby 33 2 d6_33 (by decide) (by decide) ?_
       exact q
      obtain ⟨s11, o11, ja11, jb11, jc11, v11, L11, rfl, ⟨hv11, jN11, jh11⟩, jF11⟩ := sgSk_4_2 l Z a0 hw r0 p1 w_CS w_F x0 x1 x2 x3 h0 n0 Z0 S_CS hcs S_F hwF S_AD S_HI S_LO P_r0 hch_x0 hch_x1 hch_x2 hch_x3 E_r0 X7 hx hZ hby hml hown hret hlk e7 N7 
      exact ⟨s11, _, k10 _ ja11, jb11, jc11, v11, L11, rfl, ⟨hv11.trans (by simp [own_sp, own_sk4_1, own_sk4_4, hc17_3, hc27_8]), jN11, jh11⟩, jF11⟩
    · refine own_out X7 hlk hret (some (.int 1)) nofun (by decide) (by decide) ?_ fun fs hr => k9 _ ?_
      · rw [e7]; exact ⟨(by simp [own_sp, own_sk4_1, own_sk4_4, hc17_3, hc27_8]), N7, rfl⟩
      · refine XS.icmpYes X7.here hx rfl (pc0 := 27) (pc' := 36) rfl (hb hby d6_27) rfl (feq hc27_8).2 (by decide) (by decide) ?_
        refine oIn X7 hx hby d6_36 rfl ?_
        exact retI X7 hx hret (hb hby d6_37) hr
def Q_sgSk_4_0 (Z : State) (r0 : Addr) (p1 w_CS : Int32) (w_F : Value) (x0 x1 x2 x3 : Int32) (h0 : Heap) (n0 : Nat) (v : Option Value) (h : Heap) (L : List Loc) : Prop := v = some (.int (own_sk4_0 x0 x1 x2 x3)) ∧ Fr n0 L ∧ h = h0
theorem sgSk_4_0 (l : Launch) (Z : State) (a0 : Array Value) (hw : own_HW a0 Z) {p : Program} {e : Env} {s : State} {m : MethodId} {args : Array Value} {below : List Frame} {meth : Method} {c : Code} {T0 : State} {locs : List Loc} (r0 : Addr) (p1 w_CS : Int32) (w_F : Value) (x0 x1 x2 x3 : Int32) (h0 : Heap) (n0 : Nat) (Z0 : n0 ≤ h0.size) (S_CS : Sta Z h0 cS1 cS10 "Z" (.int w_CS)) (hcs : ¬ (w_CS = (0 : Int32))) (S_F : Sta Z h0 cS2 cS9 cS3 w_F) (hwF : w_F.isRef = true) (S_AD : Sta Z h0 cS0 cS5 "Z" (.int 1)) (S_HI : Sta Z h0 cS0 cS7 "I" (.int 0)) (S_LO : Sta Z h0 cS0 cS8 "I" (.int 8)) (P_r0 : own_S4 Z h0 r0 x0 x1 x2 x3) (hch_x0 : own_ch x0) (hch_x1 : own_ch x1) (hch_x2 : own_ch x2) (hch_x3 : own_ch x3) (E_r0 : Exa Z h0 r0 cS1)
    (X0 : Stand p l e ({ frames := 5, cells := 0, slots := 0, locals := 69 } : Room) s m args below meth c T0 locs 0 0) (hx : p.tables.exec = Jvm.exec) (hZ : Z.Warmed39 s.vm) (hby : c.code = prog_10_method_4_code) (hml : c.maxLocals = 3) (hown : s.vm.findClass cS4 = some m.cls) (hret : meth.sig.returnType = some .int) (hlk : meth.locks = false) (e0 : T0.heap = h0) (N0 : Fr n0 locs) :
    ∃ s₂ o, Steps p.tables e below (T0.setTop (mkF m 2 #[rv r0, iv p1, iv 0] [])) s₂ ∧ s₂.status = .running ∧ Ended s₂ below o ∧ ∃ v L, o = .returned v ∧ Q_sgSk_4_0 Z r0 p1 w_CS w_F x0 x1 x2 x3 h0 n0 v s₂.heap L ∧ FrameEnd s o s₂ L ({ frames := 5, cells := 0, slots := 0, locals := 69 } : Room).cells ({ frames := 5, cells := 0, slots := 0, locals := 69 } : Room).slots := by
  have k0 : ∀ t, OwnS p e below T0 (mkF m 2 #[rv r0, iv p1, iv 0] []) t → OwnS p e below T0 (mkF m 2 #[rv r0, iv p1, iv 0] []) t := fun _ q => q
  obtain ⟨_, T1, L1, X1, hQ1, st1⟩ := own_cV 1 (rmLen_4 l Z a0 hw [] r0 w_CS x0 x1 x2 x3 h0 n0 Z0 S_CS hcs P_r0) X0 hx hZ hown hw 35 36 38 37 12 39 rfl rfl rfl rfl rfl rfl r0 E_r0 4 #[rv r0, iv p1, iv 0] [] [(.int 0)] (hb hby d6_4) hml (lenOf pd_16 rfl) e0 rfl (Nat.le_refl _) (by decide)
  obtain ⟨rfl, N1q, e1⟩ := hQ1
  have N1 := Fr.app N0 N1q
  obtain ⟨_, T2, L2, X2, hQ2, st2⟩ := own_cV 0 (rmCA_4_0 l Z a0 hw [] r0 w_CS w_F x0 x1 x2 x3 h0 n0 Z0 S_CS hcs S_F hwF S_AD S_HI S_LO P_r0 hch_x0) X1 hx hZ hown hw 59 60 62 61 12 63 rfl rfl rfl rfl rfl rfl r0 E_r0 12 #[rv r0, iv p1, iv 0] [(.int 0)] [] (hb hby d6_12) hml (lenOf pd_17 rfl) e1 rfl (Nat.le_refl _) (by decide)
  obtain ⟨rfl, N2q, e2⟩ := hQ2
  have N2 := Fr.app N1 N2q
  have k4 : ∀ t, OwnS p e below T2 (mkF m 17 #[rv r0, iv p1, iv 0] [(.int 32), (.int x0)]) t → OwnS p e below T0 (mkF m 2 #[rv r0, iv p1, iv 0] []) t := fun t q => by
   refine k0 t ?_
   show OwnS p e below T0 (mkF m 2 #[rv r0, iv p1, iv 0] []) _
   refine oIn X0 hx hby d6_2 rfl (oAn X0 hx hby d6_3 rfl rfl ?_)
   refine st1 _ ?_
   refine XS.icmpNo X1.here hx rfl (hb hby d6_7) rfl (tlt (by decide : (0 : Int32) < (4 : Int32))).2.1 ?_
   refine oAn X1 hx hby d6_10 rfl rfl (oIn X1 hx hby d6_11 rfl ?_)
   refine st2 _ ?_
   refine oBp X2 hx hby d6_15 ?_
   exact q
  by_cases hc17_3 : x0 = (32 : Int32)
  · have k5 : ∀ t, OwnS p e below T2 (mkF m 2 #[rv r0, iv p1, iv 1] []) t → OwnS p e below T0 (mkF m 2 #[rv r0, iv p1, iv 0] []) t := fun t q => by
     refine k4 t ?_
     refine XS.icmpYes X2.here hx rfl (pc0 := 17) (pc' := 30) rfl (hb hby d6_17) rfl (teq hc17_3).1 (by decide) (by decide) ?_
     refine XS.iinc X2.here hx rfl (hb hby d6_30) rfl (l' := #[rv r0, iv p1, iv 1]) rfl ?_
     refine oGo X2 hx hby 33 2 d6_33 (by decide) (by decide) ?_
     exact q
    obtain ⟨s6, o6, ja6, jb6, jc6, v6, L6, rfl, ⟨hv6, jN6, jh6⟩, jF6⟩ := sgSk_4_1 l Z a0 hw r0 p1 w_CS w_F x0 x1 x2 x3 h0 n0 Z0 S_CS hcs S_F hwF S_AD S_HI S_LO P_r0 hch_x0 hch_x1 hch_x2 hch_x3 E_r0 X2 hx hZ hby hml hown hret hlk e2 N2 
    exact ⟨s6, _, k5 _ ja6, jb6, jc6, v6, L6, rfl, ⟨hv6.trans (by simp [own_sp, own_sk4_0, own_sk4_4, hc17_3]), jN6, jh6⟩, jF6⟩
  · obtain ⟨_, T7, L7, X7, hQ7, st7⟩ := own_cV 0 (rmCA_4_0 l Z a0 hw [] r0 w_CS w_F x0 x1 x2 x3 h0 n0 Z0 S_CS hcs S_F hwF S_AD S_HI S_LO P_r0 hch_x0) X2 hx hZ hown hw 59 60 62 61 12 63 rfl rfl rfl rfl rfl rfl r0 E_r0 22 #[rv r0, iv p1, iv 0] [(.int 0)] [] (hb hby d6_22) hml (lenOf pd_17 rfl) e2 rfl (Nat.le_refl _) (by decide)
    obtain ⟨rfl, N7q, e7⟩ := hQ7
    have N7 := Fr.app N2 N7q
    have k9 : ∀ t, OwnS p e below T7 (mkF m 27 #[rv r0, iv p1, iv 0] [(.int 9), (.int x0)]) t → OwnS p e below T0 (mkF m 2 #[rv r0, iv p1, iv 0] []) t := fun t q => by
     refine k4 t ?_
     refine XS.icmpNo X2.here hx rfl (hb hby d6_17) rfl (feq hc17_3).1 ?_
     refine oAn X2 hx hby d6_20 rfl rfl (oIn X2 hx hby d6_21 rfl ?_)
     refine st7 _ ?_
     refine oBp X7 hx hby d6_25 ?_
     exact q
    by_cases hc27_8 : x0 = (9 : Int32)
    · have k10 : ∀ t, OwnS p e below T7 (mkF m 2 #[rv r0, iv p1, iv 1] []) t → OwnS p e below T0 (mkF m 2 #[rv r0, iv p1, iv 0] []) t := fun t q => by
       refine k9 t ?_
       refine XS.icmpNo X7.here hx rfl (hb hby d6_27) rfl (teq hc27_8).2 ?_
       refine XS.iinc X7.here hx rfl (hb hby d6_30) rfl (l' := #[rv r0, iv p1, iv 1]) rfl ?_
       refine oGo X7 hx hby 33 2 d6_33 (by decide) (by decide) ?_
       exact q
      obtain ⟨s11, o11, ja11, jb11, jc11, v11, L11, rfl, ⟨hv11, jN11, jh11⟩, jF11⟩ := sgSk_4_1 l Z a0 hw r0 p1 w_CS w_F x0 x1 x2 x3 h0 n0 Z0 S_CS hcs S_F hwF S_AD S_HI S_LO P_r0 hch_x0 hch_x1 hch_x2 hch_x3 E_r0 X7 hx hZ hby hml hown hret hlk e7 N7 
      exact ⟨s11, _, k10 _ ja11, jb11, jc11, v11, L11, rfl, ⟨hv11.trans (by simp [own_sp, own_sk4_0, own_sk4_4, hc17_3, hc27_8]), jN11, jh11⟩, jF11⟩
    · refine own_out X7 hlk hret (some (.int 0)) nofun (by decide) (by decide) ?_ fun fs hr => k9 _ ?_
      · rw [e7]; exact ⟨(by simp [own_sp, own_sk4_0, own_sk4_4, hc17_3, hc27_8]), N7, rfl⟩
      · refine XS.icmpYes X7.here hx rfl (pc0 := 27) (pc' := 36) rfl (hb hby d6_27) rfl (feq hc27_8).2 (by decide) (by decide) ?_
        refine oIn X7 hx hby d6_36 rfl ?_
        exact retI X7 hx hret (hb hby d6_37) hr
theorem d6_0 : decode prog_10_method_4_code 0 = .ok (.iload_n 1, 1) := by decide +kernel
theorem d6_1 : decode prog_10_method_4_code 1 = .ok (.istore_n 2, 1) := by decide +kernel
theorem ef_6 (m : MethodId) (x0 : Addr) (x1 : Int32) : entryFrame m #[(.ref x0), (.int x1)] 3 = mkF m 0 #[.val (.ref x0), .val (.int x1), .unset] [] := by first | (simp [entryFrame, mkF, argsToLocals, Value.category]; done) | rfl
def Q_Sk_0_0 (Z : State) (r0 : Addr) (w_CS : Int32) (va : Addr) (kA : ClassId) (h0 : Heap) (n0 : Nat) (v : Option Value) (h : Heap) (L : List Loc) : Prop := v = some (.int 0) ∧ Fr n0 L ∧ h = h0
theorem rmSk_0_0 (l : Launch) (Z : State) (a0 : Array Value) (hw : own_HW a0 Z) (ws : List Jvm.Cond) (r0 : Addr) (w_CS : Int32) (va : Addr) (kA : ClassId) (h0 : Heap) (n0 : Nat) (Z0 : n0 ≤ h0.size) (S_CS : Sta Z h0 cS1 cS10 "Z" (.int w_CS)) (hcs : ¬ (w_CS = (0 : Int32))) (E_r0 : Exa Z h0 r0 cS1) (F_coder_r0 : Fld Z h0 r0 cS1 "coder" "B" (.int 0)) (F_value_r0 : Fld Z h0 r0 cS1 "value" "[B" (.ref va)) (V_va : Arv Z h0 va kA .byte (0 : Int32) [] (.int 0)) :
    own_M l Z (⟨cS4, "skipSpace", "(Ljava/lang/String;I)I"⟩ : MethodName) prog_10_method_4_code 3 (some .int) ws ({ frames := 2, cells := 0, slots := 0, locals := 26 } : Room) #[(.ref r0), (.int 0)] h0 (Q_Sk_0_0 Z r0 w_CS va kA h0 n0) := by
  refine own_in cS4 rfl (plainFor_of_name pn_com_example_strict_lock_strictlock_IfHeader) ?_
  intro p e s m below meth c s₁ Bd hml hZ hh hx hby hown X0 e0
  have N0 := Fr.nil n0
  have k0 := own_k (p := p) (e := e) (below := below) (T := s₁) (ef_6 m r0 (0 : Int32))
  obtain ⟨_, T1, L1, X1, hQ1, st1⟩ := own_cV 1 (rmLen_0 l Z a0 hw [] r0 w_CS va kA h0 n0 Z0 S_CS hcs E_r0 F_coder_r0 F_value_r0 V_va) X0 hx hZ hown hw 35 36 38 37 12 39 rfl rfl rfl rfl rfl rfl r0 E_r0 4 #[rv r0, iv 0, iv 0] [] [(.int 0)] (hb hby d6_4) hml (lenOf pd_16 rfl) e0 rfl (Nat.le_refl _) (by decide)
  obtain ⟨rfl, N1q, e1⟩ := hQ1
  have N1 := Fr.app N0 N1q
  refine own_out X1 Bd.notSynchronized Bd.returns (some (.int 0)) nofun (by decide) (by decide) ?_ fun fs hr => k0 _ ?_
  · rw [e1]; exact ⟨rfl, N1, rfl⟩
  · show OwnS p e below s₁ (mkF m 0 #[rv r0, iv 0, .unset] []) _
    refine oIn X0 hx hby d6_0 rfl ?_
    refine XS.istoreN X0.here hx rfl (hb hby d6_1) rfl (l' := #[rv r0, iv 0, iv 0]) rfl ?_
    refine oIn X0 hx hby d6_2 rfl (oAn X0 hx hby d6_3 rfl rfl ?_)
    refine st1 _ ?_
    refine XS.icmpYes X1.here hx rfl (pc0 := 7) (pc' := 36) rfl (hb hby d6_7) rfl (flt (by decide : ¬ ((0 : Int32) < (0 : Int32)))).2.1 (by decide) (by decide) ?_
    refine oIn X1 hx hby d6_36 rfl ?_
    exact retI X1 hx Bd.returns (hb hby d6_37) hr
def Q_Sk_1_0 (Z : State) (r0 : Addr) (w_CS : Int32) (w_F : Value) (x0 : Int32) (h0 : Heap) (n0 : Nat) (v : Option Value) (h : Heap) (L : List Loc) : Prop := v = some (.int (own_sk1_0 x0)) ∧ Fr n0 L ∧ h = h0
theorem rmSk_1_0 (l : Launch) (Z : State) (a0 : Array Value) (hw : own_HW a0 Z) (ws : List Jvm.Cond) (r0 : Addr) (w_CS : Int32) (w_F : Value) (x0 : Int32) (h0 : Heap) (n0 : Nat) (Z0 : n0 ≤ h0.size) (S_CS : Sta Z h0 cS1 cS10 "Z" (.int w_CS)) (hcs : ¬ (w_CS = (0 : Int32))) (S_F : Sta Z h0 cS2 cS9 cS3 w_F) (hwF : w_F.isRef = true) (S_AD : Sta Z h0 cS0 cS5 "Z" (.int 1)) (S_HI : Sta Z h0 cS0 cS7 "I" (.int 0)) (S_LO : Sta Z h0 cS0 cS8 "I" (.int 8)) (P_r0 : own_S1 Z h0 r0 x0) (hch_x0 : own_ch x0) (E_r0 : Exa Z h0 r0 cS1) :
    own_M l Z (⟨cS4, "skipSpace", "(Ljava/lang/String;I)I"⟩ : MethodName) prog_10_method_4_code 3 (some .int) ws ({ frames := 5, cells := 0, slots := 0, locals := 69 } : Room) #[(.ref r0), (.int 0)] h0 (Q_Sk_1_0 Z r0 w_CS w_F x0 h0 n0) := by
  refine own_in cS4 rfl (plainFor_of_name pn_com_example_strict_lock_strictlock_IfHeader) ?_
  intro p e s m below meth c s₁ Bd hml hZ hh hx hby hown X0 e0
  have N0 := Fr.nil n0
  have k0 := own_k (p := p) (e := e) (below := below) (T := s₁) (ef_6 m r0 (0 : Int32))
  have k1 : ∀ t, OwnS p e below s₁ (mkF m 2 #[rv r0, iv 0, iv 0] []) t → OwnS p e below s₁ (entryFrame m #[(.ref r0), (.int 0)] 3) t := fun t q => by
   refine k0 t ?_
   show OwnS p e below s₁ (mkF m 0 #[rv r0, iv 0, .unset] []) _
   refine oIn X0 hx hby d6_0 rfl ?_
   refine XS.istoreN X0.here hx rfl (hb hby d6_1) rfl (l' := #[rv r0, iv 0, iv 0]) rfl ?_
   exact q
  obtain ⟨s2, o2, ja2, jb2, jc2, v2, L2, rfl, ⟨hv2, jN2, jh2⟩, jF2⟩ := sgSk_1_0 l Z a0 hw r0 (0 : Int32) w_CS w_F x0 h0 n0 Z0 S_CS hcs S_F hwF S_AD S_HI S_LO P_r0 hch_x0 E_r0 X0 hx hZ hby hml hown Bd.returns Bd.notSynchronized e0 N0 
  exact ⟨s2, _, k1 _ ja2, jb2, jc2, v2, L2, rfl, ⟨hv2.trans rfl, jN2, jh2⟩, jF2⟩
def Q_Sk_1_1 (Z : State) (r0 : Addr) (w_CS : Int32) (w_F : Value) (x0 : Int32) (h0 : Heap) (n0 : Nat) (v : Option Value) (h : Heap) (L : List Loc) : Prop := v = some (.int (own_sk1_1 x0)) ∧ Fr n0 L ∧ h = h0
theorem rmSk_1_1 (l : Launch) (Z : State) (a0 : Array Value) (hw : own_HW a0 Z) (ws : List Jvm.Cond) (r0 : Addr) (w_CS : Int32) (w_F : Value) (x0 : Int32) (h0 : Heap) (n0 : Nat) (Z0 : n0 ≤ h0.size) (S_CS : Sta Z h0 cS1 cS10 "Z" (.int w_CS)) (hcs : ¬ (w_CS = (0 : Int32))) (S_F : Sta Z h0 cS2 cS9 cS3 w_F) (hwF : w_F.isRef = true) (S_AD : Sta Z h0 cS0 cS5 "Z" (.int 1)) (S_HI : Sta Z h0 cS0 cS7 "I" (.int 0)) (S_LO : Sta Z h0 cS0 cS8 "I" (.int 8)) (P_r0 : own_S1 Z h0 r0 x0) (hch_x0 : own_ch x0) (E_r0 : Exa Z h0 r0 cS1) :
    own_M l Z (⟨cS4, "skipSpace", "(Ljava/lang/String;I)I"⟩ : MethodName) prog_10_method_4_code 3 (some .int) ws ({ frames := 5, cells := 0, slots := 0, locals := 69 } : Room) #[(.ref r0), (.int 1)] h0 (Q_Sk_1_1 Z r0 w_CS w_F x0 h0 n0) := by
  refine own_in cS4 rfl (plainFor_of_name pn_com_example_strict_lock_strictlock_IfHeader) ?_
  intro p e s m below meth c s₁ Bd hml hZ hh hx hby hown X0 e0
  have N0 := Fr.nil n0
  have k0 := own_k (p := p) (e := e) (below := below) (T := s₁) (ef_6 m r0 (1 : Int32))
  have k1 : ∀ t, OwnS p e below s₁ (mkF m 2 #[rv r0, iv 1, iv 1] []) t → OwnS p e below s₁ (entryFrame m #[(.ref r0), (.int 1)] 3) t := fun t q => by
   refine k0 t ?_
   show OwnS p e below s₁ (mkF m 0 #[rv r0, iv 1, .unset] []) _
   refine oIn X0 hx hby d6_0 rfl ?_
   refine XS.istoreN X0.here hx rfl (hb hby d6_1) rfl (l' := #[rv r0, iv 1, iv 1]) rfl ?_
   exact q
  obtain ⟨s2, o2, ja2, jb2, jc2, v2, L2, rfl, ⟨hv2, jN2, jh2⟩, jF2⟩ := sgSk_1_1 l Z a0 hw r0 (1 : Int32) w_CS w_F x0 h0 n0 Z0 S_CS hcs S_F hwF S_AD S_HI S_LO P_r0 hch_x0 E_r0 X0 hx hZ hby hml hown Bd.returns Bd.notSynchronized e0 N0 
  exact ⟨s2, _, k1 _ ja2, jb2, jc2, v2, L2, rfl, ⟨hv2.trans rfl, jN2, jh2⟩, jF2⟩
def Q_Sk_2_0 (Z : State) (r0 : Addr) (w_CS : Int32) (w_F : Value) (x0 x1 : Int32) (h0 : Heap) (n0 : Nat) (v : Option Value) (h : Heap) (L : List Loc) : Prop := v = some (.int (own_sk2_0 x0 x1)) ∧ Fr n0 L ∧ h = h0
theorem rmSk_2_0 (l : Launch) (Z : State) (a0 : Array Value) (hw : own_HW a0 Z) (ws : List Jvm.Cond) (r0 : Addr) (w_CS : Int32) (w_F : Value) (x0 x1 : Int32) (h0 : Heap) (n0 : Nat) (Z0 : n0 ≤ h0.size) (S_CS : Sta Z h0 cS1 cS10 "Z" (.int w_CS)) (hcs : ¬ (w_CS = (0 : Int32))) (S_F : Sta Z h0 cS2 cS9 cS3 w_F) (hwF : w_F.isRef = true) (S_AD : Sta Z h0 cS0 cS5 "Z" (.int 1)) (S_HI : Sta Z h0 cS0 cS7 "I" (.int 0)) (S_LO : Sta Z h0 cS0 cS8 "I" (.int 8)) (P_r0 : own_S2 Z h0 r0 x0 x1) (hch_x0 : own_ch x0) (hch_x1 : own_ch x1) (E_r0 : Exa Z h0 r0 cS1) :
    own_M l Z (⟨cS4, "skipSpace", "(Ljava/lang/String;I)I"⟩ : MethodName) prog_10_method_4_code 3 (some .int) ws ({ frames := 5, cells := 0, slots := 0, locals := 69 } : Room) #[(.ref r0), (.int 0)] h0 (Q_Sk_2_0 Z r0 w_CS w_F x0 x1 h0 n0) := by
  refine own_in cS4 rfl (plainFor_of_name pn_com_example_strict_lock_strictlock_IfHeader) ?_
  intro p e s m below meth c s₁ Bd hml hZ hh hx hby hown X0 e0
  have N0 := Fr.nil n0
  have k0 := own_k (p := p) (e := e) (below := below) (T := s₁) (ef_6 m r0 (0 : Int32))
  have k1 : ∀ t, OwnS p e below s₁ (mkF m 2 #[rv r0, iv 0, iv 0] []) t → OwnS p e below s₁ (entryFrame m #[(.ref r0), (.int 0)] 3) t := fun t q => by
   refine k0 t ?_
   show OwnS p e below s₁ (mkF m 0 #[rv r0, iv 0, .unset] []) _
   refine oIn X0 hx hby d6_0 rfl ?_
   refine XS.istoreN X0.here hx rfl (hb hby d6_1) rfl (l' := #[rv r0, iv 0, iv 0]) rfl ?_
   exact q
  obtain ⟨s2, o2, ja2, jb2, jc2, v2, L2, rfl, ⟨hv2, jN2, jh2⟩, jF2⟩ := sgSk_2_0 l Z a0 hw r0 (0 : Int32) w_CS w_F x0 x1 h0 n0 Z0 S_CS hcs S_F hwF S_AD S_HI S_LO P_r0 hch_x0 hch_x1 E_r0 X0 hx hZ hby hml hown Bd.returns Bd.notSynchronized e0 N0 
  exact ⟨s2, _, k1 _ ja2, jb2, jc2, v2, L2, rfl, ⟨hv2.trans rfl, jN2, jh2⟩, jF2⟩
def Q_Sk_2_1 (Z : State) (r0 : Addr) (w_CS : Int32) (w_F : Value) (x0 x1 : Int32) (h0 : Heap) (n0 : Nat) (v : Option Value) (h : Heap) (L : List Loc) : Prop := v = some (.int (own_sk2_1 x0 x1)) ∧ Fr n0 L ∧ h = h0
theorem rmSk_2_1 (l : Launch) (Z : State) (a0 : Array Value) (hw : own_HW a0 Z) (ws : List Jvm.Cond) (r0 : Addr) (w_CS : Int32) (w_F : Value) (x0 x1 : Int32) (h0 : Heap) (n0 : Nat) (Z0 : n0 ≤ h0.size) (S_CS : Sta Z h0 cS1 cS10 "Z" (.int w_CS)) (hcs : ¬ (w_CS = (0 : Int32))) (S_F : Sta Z h0 cS2 cS9 cS3 w_F) (hwF : w_F.isRef = true) (S_AD : Sta Z h0 cS0 cS5 "Z" (.int 1)) (S_HI : Sta Z h0 cS0 cS7 "I" (.int 0)) (S_LO : Sta Z h0 cS0 cS8 "I" (.int 8)) (P_r0 : own_S2 Z h0 r0 x0 x1) (hch_x0 : own_ch x0) (hch_x1 : own_ch x1) (E_r0 : Exa Z h0 r0 cS1) :
    own_M l Z (⟨cS4, "skipSpace", "(Ljava/lang/String;I)I"⟩ : MethodName) prog_10_method_4_code 3 (some .int) ws ({ frames := 5, cells := 0, slots := 0, locals := 69 } : Room) #[(.ref r0), (.int 1)] h0 (Q_Sk_2_1 Z r0 w_CS w_F x0 x1 h0 n0) := by
  refine own_in cS4 rfl (plainFor_of_name pn_com_example_strict_lock_strictlock_IfHeader) ?_
  intro p e s m below meth c s₁ Bd hml hZ hh hx hby hown X0 e0
  have N0 := Fr.nil n0
  have k0 := own_k (p := p) (e := e) (below := below) (T := s₁) (ef_6 m r0 (1 : Int32))
  have k1 : ∀ t, OwnS p e below s₁ (mkF m 2 #[rv r0, iv 1, iv 1] []) t → OwnS p e below s₁ (entryFrame m #[(.ref r0), (.int 1)] 3) t := fun t q => by
   refine k0 t ?_
   show OwnS p e below s₁ (mkF m 0 #[rv r0, iv 1, .unset] []) _
   refine oIn X0 hx hby d6_0 rfl ?_
   refine XS.istoreN X0.here hx rfl (hb hby d6_1) rfl (l' := #[rv r0, iv 1, iv 1]) rfl ?_
   exact q
  obtain ⟨s2, o2, ja2, jb2, jc2, v2, L2, rfl, ⟨hv2, jN2, jh2⟩, jF2⟩ := sgSk_2_1 l Z a0 hw r0 (1 : Int32) w_CS w_F x0 x1 h0 n0 Z0 S_CS hcs S_F hwF S_AD S_HI S_LO P_r0 hch_x0 hch_x1 E_r0 X0 hx hZ hby hml hown Bd.returns Bd.notSynchronized e0 N0 
  exact ⟨s2, _, k1 _ ja2, jb2, jc2, v2, L2, rfl, ⟨hv2.trans rfl, jN2, jh2⟩, jF2⟩
def Q_Sk_2_2 (Z : State) (r0 : Addr) (w_CS : Int32) (w_F : Value) (x0 x1 : Int32) (h0 : Heap) (n0 : Nat) (v : Option Value) (h : Heap) (L : List Loc) : Prop := v = some (.int (own_sk2_2 x0 x1)) ∧ Fr n0 L ∧ h = h0
theorem rmSk_2_2 (l : Launch) (Z : State) (a0 : Array Value) (hw : own_HW a0 Z) (ws : List Jvm.Cond) (r0 : Addr) (w_CS : Int32) (w_F : Value) (x0 x1 : Int32) (h0 : Heap) (n0 : Nat) (Z0 : n0 ≤ h0.size) (S_CS : Sta Z h0 cS1 cS10 "Z" (.int w_CS)) (hcs : ¬ (w_CS = (0 : Int32))) (S_F : Sta Z h0 cS2 cS9 cS3 w_F) (hwF : w_F.isRef = true) (S_AD : Sta Z h0 cS0 cS5 "Z" (.int 1)) (S_HI : Sta Z h0 cS0 cS7 "I" (.int 0)) (S_LO : Sta Z h0 cS0 cS8 "I" (.int 8)) (P_r0 : own_S2 Z h0 r0 x0 x1) (hch_x0 : own_ch x0) (hch_x1 : own_ch x1) (E_r0 : Exa Z h0 r0 cS1) :
    own_M l Z (⟨cS4, "skipSpace", "(Ljava/lang/String;I)I"⟩ : MethodName) prog_10_method_4_code 3 (some .int) ws ({ frames := 5, cells := 0, slots := 0, locals := 69 } : Room) #[(.ref r0), (.int 2)] h0 (Q_Sk_2_2 Z r0 w_CS w_F x0 x1 h0 n0) := by
  refine own_in cS4 rfl (plainFor_of_name pn_com_example_strict_lock_strictlock_IfHeader) ?_
  intro p e s m below meth c s₁ Bd hml hZ hh hx hby hown X0 e0
  have N0 := Fr.nil n0
  have k0 := own_k (p := p) (e := e) (below := below) (T := s₁) (ef_6 m r0 (2 : Int32))
  have k1 : ∀ t, OwnS p e below s₁ (mkF m 2 #[rv r0, iv 2, iv 2] []) t → OwnS p e below s₁ (entryFrame m #[(.ref r0), (.int 2)] 3) t := fun t q => by
   refine k0 t ?_
   show OwnS p e below s₁ (mkF m 0 #[rv r0, iv 2, .unset] []) _
   refine oIn X0 hx hby d6_0 rfl ?_
   refine XS.istoreN X0.here hx rfl (hb hby d6_1) rfl (l' := #[rv r0, iv 2, iv 2]) rfl ?_
   exact q
  obtain ⟨s2, o2, ja2, jb2, jc2, v2, L2, rfl, ⟨hv2, jN2, jh2⟩, jF2⟩ := sgSk_2_2 l Z a0 hw r0 (2 : Int32) w_CS w_F x0 x1 h0 n0 Z0 S_CS hcs S_F hwF S_AD S_HI S_LO P_r0 hch_x0 hch_x1 E_r0 X0 hx hZ hby hml hown Bd.returns Bd.notSynchronized e0 N0 
  exact ⟨s2, _, k1 _ ja2, jb2, jc2, v2, L2, rfl, ⟨hv2.trans rfl, jN2, jh2⟩, jF2⟩
def Q_Sk_3_0 (Z : State) (r0 : Addr) (w_CS : Int32) (w_F : Value) (x0 x1 x2 : Int32) (h0 : Heap) (n0 : Nat) (v : Option Value) (h : Heap) (L : List Loc) : Prop := v = some (.int (own_sk3_0 x0 x1 x2)) ∧ Fr n0 L ∧ h = h0
theorem rmSk_3_0 (l : Launch) (Z : State) (a0 : Array Value) (hw : own_HW a0 Z) (ws : List Jvm.Cond) (r0 : Addr) (w_CS : Int32) (w_F : Value) (x0 x1 x2 : Int32) (h0 : Heap) (n0 : Nat) (Z0 : n0 ≤ h0.size) (S_CS : Sta Z h0 cS1 cS10 "Z" (.int w_CS)) (hcs : ¬ (w_CS = (0 : Int32))) (S_F : Sta Z h0 cS2 cS9 cS3 w_F) (hwF : w_F.isRef = true) (S_AD : Sta Z h0 cS0 cS5 "Z" (.int 1)) (S_HI : Sta Z h0 cS0 cS7 "I" (.int 0)) (S_LO : Sta Z h0 cS0 cS8 "I" (.int 8)) (P_r0 : own_S3 Z h0 r0 x0 x1 x2) (hch_x0 : own_ch x0) (hch_x1 : own_ch x1) (hch_x2 : own_ch x2) (E_r0 : Exa Z h0 r0 cS1) :
    own_M l Z (⟨cS4, "skipSpace", "(Ljava/lang/String;I)I"⟩ : MethodName) prog_10_method_4_code 3 (some .int) ws ({ frames := 5, cells := 0, slots := 0, locals := 69 } : Room) #[(.ref r0), (.int 0)] h0 (Q_Sk_3_0 Z r0 w_CS w_F x0 x1 x2 h0 n0) := by
  refine own_in cS4 rfl (plainFor_of_name pn_com_example_strict_lock_strictlock_IfHeader) ?_
  intro p e s m below meth c s₁ Bd hml hZ hh hx hby hown X0 e0
  have N0 := Fr.nil n0
  have k0 := own_k (p := p) (e := e) (below := below) (T := s₁) (ef_6 m r0 (0 : Int32))
  have k1 : ∀ t, OwnS p e below s₁ (mkF m 2 #[rv r0, iv 0, iv 0] []) t → OwnS p e below s₁ (entryFrame m #[(.ref r0), (.int 0)] 3) t := fun t q => by
   refine k0 t ?_
   show OwnS p e below s₁ (mkF m 0 #[rv r0, iv 0, .unset] []) _
   refine oIn X0 hx hby d6_0 rfl ?_
   refine XS.istoreN X0.here hx rfl (hb hby d6_1) rfl (l' := #[rv r0, iv 0, iv 0]) rfl ?_
   exact q
  obtain ⟨s2, o2, ja2, jb2, jc2, v2, L2, rfl, ⟨hv2, jN2, jh2⟩, jF2⟩ := sgSk_3_0 l Z a0 hw r0 (0 : Int32) w_CS w_F x0 x1 x2 h0 n0 Z0 S_CS hcs S_F hwF S_AD S_HI S_LO P_r0 hch_x0 hch_x1 hch_x2 E_r0 X0 hx hZ hby hml hown Bd.returns Bd.notSynchronized e0 N0 
  exact ⟨s2, _, k1 _ ja2, jb2, jc2, v2, L2, rfl, ⟨hv2.trans rfl, jN2, jh2⟩, jF2⟩
def Q_Sk_3_1 (Z : State) (r0 : Addr) (w_CS : Int32) (w_F : Value) (x0 x1 x2 : Int32) (h0 : Heap) (n0 : Nat) (v : Option Value) (h : Heap) (L : List Loc) : Prop := v = some (.int (own_sk3_1 x0 x1 x2)) ∧ Fr n0 L ∧ h = h0
theorem rmSk_3_1 (l : Launch) (Z : State) (a0 : Array Value) (hw : own_HW a0 Z) (ws : List Jvm.Cond) (r0 : Addr) (w_CS : Int32) (w_F : Value) (x0 x1 x2 : Int32) (h0 : Heap) (n0 : Nat) (Z0 : n0 ≤ h0.size) (S_CS : Sta Z h0 cS1 cS10 "Z" (.int w_CS)) (hcs : ¬ (w_CS = (0 : Int32))) (S_F : Sta Z h0 cS2 cS9 cS3 w_F) (hwF : w_F.isRef = true) (S_AD : Sta Z h0 cS0 cS5 "Z" (.int 1)) (S_HI : Sta Z h0 cS0 cS7 "I" (.int 0)) (S_LO : Sta Z h0 cS0 cS8 "I" (.int 8)) (P_r0 : own_S3 Z h0 r0 x0 x1 x2) (hch_x0 : own_ch x0) (hch_x1 : own_ch x1) (hch_x2 : own_ch x2) (E_r0 : Exa Z h0 r0 cS1) :
    own_M l Z (⟨cS4, "skipSpace", "(Ljava/lang/String;I)I"⟩ : MethodName) prog_10_method_4_code 3 (some .int) ws ({ frames := 5, cells := 0, slots := 0, locals := 69 } : Room) #[(.ref r0), (.int 1)] h0 (Q_Sk_3_1 Z r0 w_CS w_F x0 x1 x2 h0 n0) := by
  refine own_in cS4 rfl (plainFor_of_name pn_com_example_strict_lock_strictlock_IfHeader) ?_
  intro p e s m below meth c s₁ Bd hml hZ hh hx hby hown X0 e0
  have N0 := Fr.nil n0
  have k0 := own_k (p := p) (e := e) (below := below) (T := s₁) (ef_6 m r0 (1 : Int32))
  have k1 : ∀ t, OwnS p e below s₁ (mkF m 2 #[rv r0, iv 1, iv 1] []) t → OwnS p e below s₁ (entryFrame m #[(.ref r0), (.int 1)] 3) t := fun t q => by
   refine k0 t ?_
   show OwnS p e below s₁ (mkF m 0 #[rv r0, iv 1, .unset] []) _
   refine oIn X0 hx hby d6_0 rfl ?_
   refine XS.istoreN X0.here hx rfl (hb hby d6_1) rfl (l' := #[rv r0, iv 1, iv 1]) rfl ?_
   exact q
  obtain ⟨s2, o2, ja2, jb2, jc2, v2, L2, rfl, ⟨hv2, jN2, jh2⟩, jF2⟩ := sgSk_3_1 l Z a0 hw r0 (1 : Int32) w_CS w_F x0 x1 x2 h0 n0 Z0 S_CS hcs S_F hwF S_AD S_HI S_LO P_r0 hch_x0 hch_x1 hch_x2 E_r0 X0 hx hZ hby hml hown Bd.returns Bd.notSynchronized e0 N0 
  exact ⟨s2, _, k1 _ ja2, jb2, jc2, v2, L2, rfl, ⟨hv2.trans rfl, jN2, jh2⟩, jF2⟩
def Q_Sk_3_2 (Z : State) (r0 : Addr) (w_CS : Int32) (w_F : Value) (x0 x1 x2 : Int32) (h0 : Heap) (n0 : Nat) (v : Option Value) (h : Heap) (L : List Loc) : Prop := v = some (.int (own_sk3_2 x0 x1 x2)) ∧ Fr n0 L ∧ h = h0
theorem rmSk_3_2 (l : Launch) (Z : State) (a0 : Array Value) (hw : own_HW a0 Z) (ws : List Jvm.Cond) (r0 : Addr) (w_CS : Int32) (w_F : Value) (x0 x1 x2 : Int32) (h0 : Heap) (n0 : Nat) (Z0 : n0 ≤ h0.size) (S_CS : Sta Z h0 cS1 cS10 "Z" (.int w_CS)) (hcs : ¬ (w_CS = (0 : Int32))) (S_F : Sta Z h0 cS2 cS9 cS3 w_F) (hwF : w_F.isRef = true) (S_AD : Sta Z h0 cS0 cS5 "Z" (.int 1)) (S_HI : Sta Z h0 cS0 cS7 "I" (.int 0)) (S_LO : Sta Z h0 cS0 cS8 "I" (.int 8)) (P_r0 : own_S3 Z h0 r0 x0 x1 x2) (hch_x0 : own_ch x0) (hch_x1 : own_ch x1) (hch_x2 : own_ch x2) (E_r0 : Exa Z h0 r0 cS1) :
    own_M l Z (⟨cS4, "skipSpace", "(Ljava/lang/String;I)I"⟩ : MethodName) prog_10_method_4_code 3 (some .int) ws ({ frames := 5, cells := 0, slots := 0, locals := 69 } : Room) #[(.ref r0), (.int 2)] h0 (Q_Sk_3_2 Z r0 w_CS w_F x0 x1 x2 h0 n0) := by
  refine own_in cS4 rfl (plainFor_of_name pn_com_example_strict_lock_strictlock_IfHeader) ?_
  intro p e s m below meth c s₁ Bd hml hZ hh hx hby hown X0 e0
  have N0 := Fr.nil n0
  have k0 := own_k (p := p) (e := e) (below := below) (T := s₁) (ef_6 m r0 (2 : Int32))
  have k1 : ∀ t, OwnS p e below s₁ (mkF m 2 #[rv r0, iv 2, iv 2] []) t → OwnS p e below s₁ (entryFrame m #[(.ref r0), (.int 2)] 3) t := fun t q => by
   refine k0 t ?_
   show OwnS p e below s₁ (mkF m 0 #[rv r0, iv 2, .unset] []) _
   refine oIn X0 hx hby d6_0 rfl ?_
   refine XS.istoreN X0.here hx rfl (hb hby d6_1) rfl (l' := #[rv r0, iv 2, iv 2]) rfl ?_
   exact q
  obtain ⟨s2, o2, ja2, jb2, jc2, v2, L2, rfl, ⟨hv2, jN2, jh2⟩, jF2⟩ := sgSk_3_2 l Z a0 hw r0 (2 : Int32) w_CS w_F x0 x1 x2 h0 n0 Z0 S_CS hcs S_F hwF S_AD S_HI S_LO P_r0 hch_x0 hch_x1 hch_x2 E_r0 X0 hx hZ hby hml hown Bd.returns Bd.notSynchronized e0 N0 
  exact ⟨s2, _, k1 _ ja2, jb2, jc2, v2, L2, rfl, ⟨hv2.trans rfl, jN2, jh2⟩, jF2⟩
def Q_Sk_3_3 (Z : State) (r0 : Addr) (w_CS : Int32) (w_F : Value) (x0 x1 x2 : Int32) (h0 : Heap) (n0 : Nat) (v : Option Value) (h : Heap) (L : List Loc) : Prop := v = some (.int (own_sk3_3 x0 x1 x2)) ∧ Fr n0 L ∧ h = h0
theorem rmSk_3_3 (l : Launch) (Z : State) (a0 : Array Value) (hw : own_HW a0 Z) (ws : List Jvm.Cond) (r0 : Addr) (w_CS : Int32) (w_F : Value) (x0 x1 x2 : Int32) (h0 : Heap) (n0 : Nat) (Z0 : n0 ≤ h0.size) (S_CS : Sta Z h0 cS1 cS10 "Z" (.int w_CS)) (hcs : ¬ (w_CS = (0 : Int32))) (S_F : Sta Z h0 cS2 cS9 cS3 w_F) (hwF : w_F.isRef = true) (S_AD : Sta Z h0 cS0 cS5 "Z" (.int 1)) (S_HI : Sta Z h0 cS0 cS7 "I" (.int 0)) (S_LO : Sta Z h0 cS0 cS8 "I" (.int 8)) (P_r0 : own_S3 Z h0 r0 x0 x1 x2) (hch_x0 : own_ch x0) (hch_x1 : own_ch x1) (hch_x2 : own_ch x2) (E_r0 : Exa Z h0 r0 cS1) :
    own_M l Z (⟨cS4, "skipSpace", "(Ljava/lang/String;I)I"⟩ : MethodName) prog_10_method_4_code 3 (some .int) ws ({ frames := 5, cells := 0, slots := 0, locals := 69 } : Room) #[(.ref r0), (.int 3)] h0 (Q_Sk_3_3 Z r0 w_CS w_F x0 x1 x2 h0 n0) := by
  refine own_in cS4 rfl (plainFor_of_name pn_com_example_strict_lock_strictlock_IfHeader) ?_
  intro p e s m below meth c s₁ Bd hml hZ hh hx hby hown X0 e0
  have N0 := Fr.nil n0
  have k0 := own_k (p := p) (e := e) (below := below) (T := s₁) (ef_6 m r0 (3 : Int32))
  have k1 : ∀ t, OwnS p e below s₁ (mkF m 2 #[rv r0, iv 3, iv 3] []) t → OwnS p e below s₁ (entryFrame m #[(.ref r0), (.int 3)] 3) t := fun t q => by
   refine k0 t ?_
   show OwnS p e below s₁ (mkF m 0 #[rv r0, iv 3, .unset] []) _
   refine oIn X0 hx hby d6_0 rfl ?_
   refine XS.istoreN X0.here hx rfl (hb hby d6_1) rfl (l' := #[rv r0, iv 3, iv 3]) rfl ?_
   exact q
  obtain ⟨s2, o2, ja2, jb2, jc2, v2, L2, rfl, ⟨hv2, jN2, jh2⟩, jF2⟩ := sgSk_3_3 l Z a0 hw r0 (3 : Int32) w_CS w_F x0 x1 x2 h0 n0 Z0 S_CS hcs S_F hwF S_AD S_HI S_LO P_r0 hch_x0 hch_x1 hch_x2 E_r0 X0 hx hZ hby hml hown Bd.returns Bd.notSynchronized e0 N0 
  exact ⟨s2, _, k1 _ ja2, jb2, jc2, v2, L2, rfl, ⟨hv2.trans rfl, jN2, jh2⟩, jF2⟩
def Q_Sk_4_0 (Z : State) (r0 : Addr) (w_CS : Int32) (w_F : Value) (x0 x1 x2 x3 : Int32) (h0 : Heap) (n0 : Nat) (v : Option Value) (h : Heap) (L : List Loc) : Prop := v = some (.int (own_sk4_0 x0 x1 x2 x3)) ∧ Fr n0 L ∧ h = h0
theorem rmSk_4_0 (l : Launch) (Z : State) (a0 : Array Value) (hw : own_HW a0 Z) (ws : List Jvm.Cond) (r0 : Addr) (w_CS : Int32) (w_F : Value) (x0 x1 x2 x3 : Int32) (h0 : Heap) (n0 : Nat) (Z0 : n0 ≤ h0.size) (S_CS : Sta Z h0 cS1 cS10 "Z" (.int w_CS)) (hcs : ¬ (w_CS = (0 : Int32))) (S_F : Sta Z h0 cS2 cS9 cS3 w_F) (hwF : w_F.isRef = true) (S_AD : Sta Z h0 cS0 cS5 "Z" (.int 1)) (S_HI : Sta Z h0 cS0 cS7 "I" (.int 0)) (S_LO : Sta Z h0 cS0 cS8 "I" (.int 8)) (P_r0 : own_S4 Z h0 r0 x0 x1 x2 x3) (hch_x0 : own_ch x0) (hch_x1 : own_ch x1) (hch_x2 : own_ch x2) (hch_x3 : own_ch x3) (E_r0 : Exa Z h0 r0 cS1) :
    own_M l Z (⟨cS4, "skipSpace", "(Ljava/lang/String;I)I"⟩ : MethodName) prog_10_method_4_code 3 (some .int) ws ({ frames := 5, cells := 0, slots := 0, locals := 69 } : Room) #[(.ref r0), (.int 0)] h0 (Q_Sk_4_0 Z r0 w_CS w_F x0 x1 x2 x3 h0 n0) := by
  refine own_in cS4 rfl (plainFor_of_name pn_com_example_strict_lock_strictlock_IfHeader) ?_
  intro p e s m below meth c s₁ Bd hml hZ hh hx hby hown X0 e0
  have N0 := Fr.nil n0
  have k0 := own_k (p := p) (e := e) (below := below) (T := s₁) (ef_6 m r0 (0 : Int32))
  have k1 : ∀ t, OwnS p e below s₁ (mkF m 2 #[rv r0, iv 0, iv 0] []) t → OwnS p e below s₁ (entryFrame m #[(.ref r0), (.int 0)] 3) t := fun t q => by
   refine k0 t ?_
   show OwnS p e below s₁ (mkF m 0 #[rv r0, iv 0, .unset] []) _
   refine oIn X0 hx hby d6_0 rfl ?_
   refine XS.istoreN X0.here hx rfl (hb hby d6_1) rfl (l' := #[rv r0, iv 0, iv 0]) rfl ?_
   exact q
  obtain ⟨s2, o2, ja2, jb2, jc2, v2, L2, rfl, ⟨hv2, jN2, jh2⟩, jF2⟩ := sgSk_4_0 l Z a0 hw r0 (0 : Int32) w_CS w_F x0 x1 x2 x3 h0 n0 Z0 S_CS hcs S_F hwF S_AD S_HI S_LO P_r0 hch_x0 hch_x1 hch_x2 hch_x3 E_r0 X0 hx hZ hby hml hown Bd.returns Bd.notSynchronized e0 N0 
  exact ⟨s2, _, k1 _ ja2, jb2, jc2, v2, L2, rfl, ⟨hv2.trans rfl, jN2, jh2⟩, jF2⟩
def Q_Sk_4_1 (Z : State) (r0 : Addr) (w_CS : Int32) (w_F : Value) (x0 x1 x2 x3 : Int32) (h0 : Heap) (n0 : Nat) (v : Option Value) (h : Heap) (L : List Loc) : Prop := v = some (.int (own_sk4_1 x0 x1 x2 x3)) ∧ Fr n0 L ∧ h = h0
theorem rmSk_4_1 (l : Launch) (Z : State) (a0 : Array Value) (hw : own_HW a0 Z) (ws : List Jvm.Cond) (r0 : Addr) (w_CS : Int32) (w_F : Value) (x0 x1 x2 x3 : Int32) (h0 : Heap) (n0 : Nat) (Z0 : n0 ≤ h0.size) (S_CS : Sta Z h0 cS1 cS10 "Z" (.int w_CS)) (hcs : ¬ (w_CS = (0 : Int32))) (S_F : Sta Z h0 cS2 cS9 cS3 w_F) (hwF : w_F.isRef = true) (S_AD : Sta Z h0 cS0 cS5 "Z" (.int 1)) (S_HI : Sta Z h0 cS0 cS7 "I" (.int 0)) (S_LO : Sta Z h0 cS0 cS8 "I" (.int 8)) (P_r0 : own_S4 Z h0 r0 x0 x1 x2 x3) (hch_x0 : own_ch x0) (hch_x1 : own_ch x1) (hch_x2 : own_ch x2) (hch_x3 : own_ch x3) (E_r0 : Exa Z h0 r0 cS1) :
    own_M l Z (⟨cS4, "skipSpace", "(Ljava/lang/String;I)I"⟩ : MethodName) prog_10_method_4_code 3 (some .int) ws ({ frames := 5, cells := 0, slots := 0, locals := 69 } : Room) #[(.ref r0), (.int 1)] h0 (Q_Sk_4_1 Z r0 w_CS w_F x0 x1 x2 x3 h0 n0) := by
  refine own_in cS4 rfl (plainFor_of_name pn_com_example_strict_lock_strictlock_IfHeader) ?_
  intro p e s m below meth c s₁ Bd hml hZ hh hx hby hown X0 e0
  have N0 := Fr.nil n0
  have k0 := own_k (p := p) (e := e) (below := below) (T := s₁) (ef_6 m r0 (1 : Int32))
  have k1 : ∀ t, OwnS p e below s₁ (mkF m 2 #[rv r0, iv 1, iv 1] []) t → OwnS p e below s₁ (entryFrame m #[(.ref r0), (.int 1)] 3) t := fun t q => by
   refine k0 t ?_
   show OwnS p e below s₁ (mkF m 0 #[rv r0, iv 1, .unset] []) _
   refine oIn X0 hx hby d6_0 rfl ?_
   refine XS.istoreN X0.here hx rfl (hb hby d6_1) rfl (l' := #[rv r0, iv 1, iv 1]) rfl ?_
   exact q
  obtain ⟨s2, o2, ja2, jb2, jc2, v2, L2, rfl, ⟨hv2, jN2, jh2⟩, jF2⟩ := sgSk_4_1 l Z a0 hw r0 (1 : Int32) w_CS w_F x0 x1 x2 x3 h0 n0 Z0 S_CS hcs S_F hwF S_AD S_HI S_LO P_r0 hch_x0 hch_x1 hch_x2 hch_x3 E_r0 X0 hx hZ hby hml hown Bd.returns Bd.notSynchronized e0 N0 
  exact ⟨s2, _, k1 _ ja2, jb2, jc2, v2, L2, rfl, ⟨hv2.trans rfl, jN2, jh2⟩, jF2⟩
def Q_Sk_4_2 (Z : State) (r0 : Addr) (w_CS : Int32) (w_F : Value) (x0 x1 x2 x3 : Int32) (h0 : Heap) (n0 : Nat) (v : Option Value) (h : Heap) (L : List Loc) : Prop := v = some (.int (own_sk4_2 x0 x1 x2 x3)) ∧ Fr n0 L ∧ h = h0
theorem rmSk_4_2 (l : Launch) (Z : State) (a0 : Array Value) (hw : own_HW a0 Z) (ws : List Jvm.Cond) (r0 : Addr) (w_CS : Int32) (w_F : Value) (x0 x1 x2 x3 : Int32) (h0 : Heap) (n0 : Nat) (Z0 : n0 ≤ h0.size) (S_CS : Sta Z h0 cS1 cS10 "Z" (.int w_CS)) (hcs : ¬ (w_CS = (0 : Int32))) (S_F : Sta Z h0 cS2 cS9 cS3 w_F) (hwF : w_F.isRef = true) (S_AD : Sta Z h0 cS0 cS5 "Z" (.int 1)) (S_HI : Sta Z h0 cS0 cS7 "I" (.int 0)) (S_LO : Sta Z h0 cS0 cS8 "I" (.int 8)) (P_r0 : own_S4 Z h0 r0 x0 x1 x2 x3) (hch_x0 : own_ch x0) (hch_x1 : own_ch x1) (hch_x2 : own_ch x2) (hch_x3 : own_ch x3) (E_r0 : Exa Z h0 r0 cS1) :
    own_M l Z (⟨cS4, "skipSpace", "(Ljava/lang/String;I)I"⟩ : MethodName) prog_10_method_4_code 3 (some .int) ws ({ frames := 5, cells := 0, slots := 0, locals := 69 } : Room) #[(.ref r0), (.int 2)] h0 (Q_Sk_4_2 Z r0 w_CS w_F x0 x1 x2 x3 h0 n0) := by
  refine own_in cS4 rfl (plainFor_of_name pn_com_example_strict_lock_strictlock_IfHeader) ?_
  intro p e s m below meth c s₁ Bd hml hZ hh hx hby hown X0 e0
  have N0 := Fr.nil n0
  have k0 := own_k (p := p) (e := e) (below := below) (T := s₁) (ef_6 m r0 (2 : Int32))
  have k1 : ∀ t, OwnS p e below s₁ (mkF m 2 #[rv r0, iv 2, iv 2] []) t → OwnS p e below s₁ (entryFrame m #[(.ref r0), (.int 2)] 3) t := fun t q => by
   refine k0 t ?_
   show OwnS p e below s₁ (mkF m 0 #[rv r0, iv 2, .unset] []) _
   refine oIn X0 hx hby d6_0 rfl ?_
   refine XS.istoreN X0.here hx rfl (hb hby d6_1) rfl (l' := #[rv r0, iv 2, iv 2]) rfl ?_
   exact q
  obtain ⟨s2, o2, ja2, jb2, jc2, v2, L2, rfl, ⟨hv2, jN2, jh2⟩, jF2⟩ := sgSk_4_2 l Z a0 hw r0 (2 : Int32) w_CS w_F x0 x1 x2 x3 h0 n0 Z0 S_CS hcs S_F hwF S_AD S_HI S_LO P_r0 hch_x0 hch_x1 hch_x2 hch_x3 E_r0 X0 hx hZ hby hml hown Bd.returns Bd.notSynchronized e0 N0 
  exact ⟨s2, _, k1 _ ja2, jb2, jc2, v2, L2, rfl, ⟨hv2.trans rfl, jN2, jh2⟩, jF2⟩
def Q_Sk_4_3 (Z : State) (r0 : Addr) (w_CS : Int32) (w_F : Value) (x0 x1 x2 x3 : Int32) (h0 : Heap) (n0 : Nat) (v : Option Value) (h : Heap) (L : List Loc) : Prop := v = some (.int (own_sk4_3 x0 x1 x2 x3)) ∧ Fr n0 L ∧ h = h0
theorem rmSk_4_3 (l : Launch) (Z : State) (a0 : Array Value) (hw : own_HW a0 Z) (ws : List Jvm.Cond) (r0 : Addr) (w_CS : Int32) (w_F : Value) (x0 x1 x2 x3 : Int32) (h0 : Heap) (n0 : Nat) (Z0 : n0 ≤ h0.size) (S_CS : Sta Z h0 cS1 cS10 "Z" (.int w_CS)) (hcs : ¬ (w_CS = (0 : Int32))) (S_F : Sta Z h0 cS2 cS9 cS3 w_F) (hwF : w_F.isRef = true) (S_AD : Sta Z h0 cS0 cS5 "Z" (.int 1)) (S_HI : Sta Z h0 cS0 cS7 "I" (.int 0)) (S_LO : Sta Z h0 cS0 cS8 "I" (.int 8)) (P_r0 : own_S4 Z h0 r0 x0 x1 x2 x3) (hch_x0 : own_ch x0) (hch_x1 : own_ch x1) (hch_x2 : own_ch x2) (hch_x3 : own_ch x3) (E_r0 : Exa Z h0 r0 cS1) :
    own_M l Z (⟨cS4, "skipSpace", "(Ljava/lang/String;I)I"⟩ : MethodName) prog_10_method_4_code 3 (some .int) ws ({ frames := 5, cells := 0, slots := 0, locals := 69 } : Room) #[(.ref r0), (.int 3)] h0 (Q_Sk_4_3 Z r0 w_CS w_F x0 x1 x2 x3 h0 n0) := by
  refine own_in cS4 rfl (plainFor_of_name pn_com_example_strict_lock_strictlock_IfHeader) ?_
  intro p e s m below meth c s₁ Bd hml hZ hh hx hby hown X0 e0
  have N0 := Fr.nil n0
  have k0 := own_k (p := p) (e := e) (below := below) (T := s₁) (ef_6 m r0 (3 : Int32))
  have k1 : ∀ t, OwnS p e below s₁ (mkF m 2 #[rv r0, iv 3, iv 3] []) t → OwnS p e below s₁ (entryFrame m #[(.ref r0), (.int 3)] 3) t := fun t q => by
   refine k0 t ?_
   show OwnS p e below s₁ (mkF m 0 #[rv r0, iv 3, .unset] []) _
   refine oIn X0 hx hby d6_0 rfl ?_
   refine XS.istoreN X0.here hx rfl (hb hby d6_1) rfl (l' := #[rv r0, iv 3, iv 3]) rfl ?_
   exact q
  obtain ⟨s2, o2, ja2, jb2, jc2, v2, L2, rfl, ⟨hv2, jN2, jh2⟩, jF2⟩ := sgSk_4_3 l Z a0 hw r0 (3 : Int32) w_CS w_F x0 x1 x2 x3 h0 n0 Z0 S_CS hcs S_F hwF S_AD S_HI S_LO P_r0 hch_x0 hch_x1 hch_x2 hch_x3 E_r0 X0 hx hZ hby hml hown Bd.returns Bd.notSynchronized e0 N0 
  exact ⟨s2, _, k1 _ ja2, jb2, jc2, v2, L2, rfl, ⟨hv2.trans rfl, jN2, jh2⟩, jF2⟩
def Q_Sk_4_4 (Z : State) (r0 : Addr) (w_CS : Int32) (w_F : Value) (x0 x1 x2 x3 : Int32) (h0 : Heap) (n0 : Nat) (v : Option Value) (h : Heap) (L : List Loc) : Prop := v = some (.int (own_sk4_4 x0 x1 x2 x3)) ∧ Fr n0 L ∧ h = h0
theorem rmSk_4_4 (l : Launch) (Z : State) (a0 : Array Value) (hw : own_HW a0 Z) (ws : List Jvm.Cond) (r0 : Addr) (w_CS : Int32) (w_F : Value) (x0 x1 x2 x3 : Int32) (h0 : Heap) (n0 : Nat) (Z0 : n0 ≤ h0.size) (S_CS : Sta Z h0 cS1 cS10 "Z" (.int w_CS)) (hcs : ¬ (w_CS = (0 : Int32))) (S_F : Sta Z h0 cS2 cS9 cS3 w_F) (hwF : w_F.isRef = true) (S_AD : Sta Z h0 cS0 cS5 "Z" (.int 1)) (S_HI : Sta Z h0 cS0 cS7 "I" (.int 0)) (S_LO : Sta Z h0 cS0 cS8 "I" (.int 8)) (P_r0 : own_S4 Z h0 r0 x0 x1 x2 x3) (hch_x0 : own_ch x0) (hch_x1 : own_ch x1) (hch_x2 : own_ch x2) (hch_x3 : own_ch x3) (E_r0 : Exa Z h0 r0 cS1) :
    own_M l Z (⟨cS4, "skipSpace", "(Ljava/lang/String;I)I"⟩ : MethodName) prog_10_method_4_code 3 (some .int) ws ({ frames := 5, cells := 0, slots := 0, locals := 69 } : Room) #[(.ref r0), (.int 4)] h0 (Q_Sk_4_4 Z r0 w_CS w_F x0 x1 x2 x3 h0 n0) := by
  refine own_in cS4 rfl (plainFor_of_name pn_com_example_strict_lock_strictlock_IfHeader) ?_
  intro p e s m below meth c s₁ Bd hml hZ hh hx hby hown X0 e0
  have N0 := Fr.nil n0
  have k0 := own_k (p := p) (e := e) (below := below) (T := s₁) (ef_6 m r0 (4 : Int32))
  have k1 : ∀ t, OwnS p e below s₁ (mkF m 2 #[rv r0, iv 4, iv 4] []) t → OwnS p e below s₁ (entryFrame m #[(.ref r0), (.int 4)] 3) t := fun t q => by
   refine k0 t ?_
   show OwnS p e below s₁ (mkF m 0 #[rv r0, iv 4, .unset] []) _
   refine oIn X0 hx hby d6_0 rfl ?_
   refine XS.istoreN X0.here hx rfl (hb hby d6_1) rfl (l' := #[rv r0, iv 4, iv 4]) rfl ?_
   exact q
  obtain ⟨s2, o2, ja2, jb2, jc2, v2, L2, rfl, ⟨hv2, jN2, jh2⟩, jF2⟩ := sgSk_4_4 l Z a0 hw r0 (4 : Int32) w_CS w_F x0 x1 x2 x3 h0 n0 Z0 S_CS hcs S_F hwF S_AD S_HI S_LO P_r0 hch_x0 hch_x1 hch_x2 hch_x3 E_r0 X0 hx hZ hby hml hown Bd.returns Bd.notSynchronized e0 N0 
  exact ⟨s2, _, k1 _ ja2, jb2, jc2, v2, L2, rfl, ⟨hv2.trans rfl, jN2, jh2⟩, jF2⟩
theorem pd_18 : parseMethodDescriptor "(IIIC)Z" = some ⟨[.int, .int, .int, .char], some .boolean⟩ := by decide +kernel
def Q_sgT (Z : State) (p0 p1 p2 p3 p4 n fr : Int32) (aa tt : Addr) (r : Int32) (kC : ClassId) (x0 x1 x2 x3 : Int32) (h0 : Heap) (n0 : Nat) (v : Option Value) (h : Heap) (L : List Loc) : Prop := v = some (.int 1) ∧ Fr n0 L ∧ h = h0 ∧ True
theorem sgT (l : Launch) (Z : State) (a0 : Array Value) (hw : own_HW a0 Z) {p : Program} {e : Env} {s : State} {m : MethodId} {args : Array Value} {below : List Frame} {meth : Method} {c : Code} {T0 : State} {locs : List Loc} {vm0 : Vm} {kS : Nat} {hs : Heap} (p0 p1 p2 p3 p4 n fr : Int32) (aa tt : Addr) (r : Int32) (kC : ClassId) (x0 x1 x2 x3 : Int32) (h0 : Heap) (n0 : Nat) (Z0 : n0 ≤ h0.size) (V_aa : Arv Z h0 aa kC .char (4 : Int32) [(.int x0), (.int x1), (.int x2), (.int x3)] (.int 0)) (hok0 : own_ok (0 : Int32) fr r x0 = true) (hok1 : own_ok (1 : Int32) fr r x1 = true) (hok2 : own_ok (2 : Int32) fr r x2 = true) (hok3 : own_ok (3 : Int32) fr r x3 = true)
    (X0 : Stand p l e room_1 (s.setVm vm0) m args below meth c T0 locs 24 1152) (hx : p.tables.exec = Jvm.exec) (hZ : Z.Warmed39 (s.setVm vm0).vm) (hby : c.code = code) (hml : c.maxLocals = 10) (hown : (s.setVm vm0).vm.findClass cS6 = some m.cls) (hret : meth.sig.returnType = some .boolean) (hlk : meth.locks = false) (e0 : T0.heap = h0) (N0 : Fr n0 locs) (hS0 : s.Since vm0 kS) (hk0 : kS ≤ h0.size) (H0c : CHv Z own_EL vm0 h0) (R0c : CHr Z own_EL s.vm hs vm0 h0) (hh : s.heap = hs) :
    ∃ s₂ o, Steps p.tables e below (T0.setTop (mkF m 123 #[iv p0, iv p1, iv p2, iv p3, iv p4, iv n, iv fr, rv aa, rv tt, iv r] [])) s₂ ∧ s₂.status = .running ∧ Ended s₂ below o ∧ ∃ v L, o = .returned v ∧ Q_sgT Z p0 p1 p2 p3 p4 n fr aa tt r kC x0 x1 x2 x3 h0 n0 v s₂.heap L ∧ CHr Z own_EL s.vm s.heap s₂.vm s₂.heap ∧ ReturnedEndW s o s₂ L room_1.cells room_1.slots := by
  have k0 : ∀ t, OwnS p e below T0 (mkF m 123 #[iv p0, iv p1, iv p2, iv p3, iv p4, iv n, iv fr, rv aa, rv tt, iv r] []) t → OwnS p e below T0 (mkF m 123 #[iv p0, iv p1, iv p2, iv p3, iv p4, iv n, iv fr, rv aa, rv tt, iv r] []) t := fun _ q => q
  obtain ⟨cl_z1, Ar_z1, q_z1, S_z1, N_z1, H_z1, G_z1⟩ := id V_aa
  have hin2 : ¬ ((0 : Int32) < 0 ∨ cl_z1.slots.size ≤ ((0 : Int32)).toNatClampNeg) := inb_of S_z1 ⟨by decide, by decide⟩
  obtain ⟨_, T3, L3, X3, hQ3, st3⟩ := own_cS 0 (rmOk l Z a0 hw [] (0 : Int32) fr r x0 h0 n0 Z0 hok0) X0 hx hZ hown hw 46 47 4 48 rfl rfl rfl rfl 132 #[iv p0, iv p1, iv p2, iv p3, iv p4, iv n, iv fr, rv aa, rv tt, iv r] [(.int 0), (.int fr), (.int r), (.int x0)] [] (hb hby at_132) hml (lenOf pd_18 rfl) e0 rfl (Nat.le_refl _) (by decide)
  obtain ⟨rfl, N3q, e3⟩ := hQ3
  have N3 := Fr.app N0 N3q
  have hin4 : ¬ ((1 : Int32) < 0 ∨ cl_z1.slots.size ≤ ((1 : Int32)).toNatClampNeg) := inb_of S_z1 ⟨by decide, by decide⟩
  obtain ⟨_, T5, L5, X5, hQ5, st5⟩ := own_cS 0 (rmOk l Z a0 hw [] (1 : Int32) fr r x1 h0 n0 Z0 hok1) X3 hx hZ hown hw 46 47 4 48 rfl rfl rfl rfl 147 #[iv p0, iv p1, iv p2, iv p3, iv p4, iv n, iv fr, rv aa, rv tt, iv r] [(.int 1), (.int fr), (.int r), (.int x1)] [] (hb hby at_147) hml (lenOf pd_18 rfl) e3 rfl (Nat.le_refl _) (by decide)
  obtain ⟨rfl, N5q, e5⟩ := hQ5
  have N5 := Fr.app N3 N5q
  have hin6 : ¬ ((2 : Int32) < 0 ∨ cl_z1.slots.size ≤ ((2 : Int32)).toNatClampNeg) := inb_of S_z1 ⟨by decide, by decide⟩
  obtain ⟨_, T7, L7, X7, hQ7, st7⟩ := own_cS 0 (rmOk l Z a0 hw [] (2 : Int32) fr r x2 h0 n0 Z0 hok2) X5 hx hZ hown hw 46 47 4 48 rfl rfl rfl rfl 162 #[iv p0, iv p1, iv p2, iv p3, iv p4, iv n, iv fr, rv aa, rv tt, iv r] [(.int 2), (.int fr), (.int r), (.int x2)] [] (hb hby at_162) hml (lenOf pd_18 rfl) e5 rfl (Nat.le_refl _) (by decide)
  obtain ⟨rfl, N7q, e7⟩ := hQ7
  have N7 := Fr.app N5 N7q
  have hin8 : ¬ ((3 : Int32) < 0 ∨ cl_z1.slots.size ≤ ((3 : Int32)).toNatClampNeg) := inb_of S_z1 ⟨by decide, by decide⟩
  obtain ⟨_, T9, L9, X9, hQ9, st9⟩ := own_cS 0 (rmOk l Z a0 hw [] (3 : Int32) fr r x3 h0 n0 Z0 hok3) X7 hx hZ hown hw 46 47 4 48 rfl rfl rfl rfl 177 #[iv p0, iv p1, iv p2, iv p3, iv p4, iv n, iv fr, rv aa, rv tt, iv r] [(.int 3), (.int fr), (.int r), (.int x3)] [] (hb hby at_177) hml (lenOf pd_18 rfl) e7 rfl (Nat.le_refl _) (by decide)
  obtain ⟨rfl, N9q, e9⟩ := hQ9
  have N9 := Fr.app N7 N9q
  obtain ⟨fs, hr, hrun, hended, hRW⟩ := X9.leaveW hS0 (by rw [e9]; exact hk0) (v := some (.int 1)) (fun h => by rw [hret] at h; cases h)
  have hCE : CHr Z own_EL s.vm s.heap T9.vm T9.heap := by rw [hh, e9]; exact R0c.trans (CHv.at X9 hZ (own_ew hw) H0c)
  refine ⟨_, _, k0 _ ?_, hrun, hended, _, _, rfl, ?_, hCE, hRW.1, hRW.2.1, hRW.2.2.1, hRW.2.2.2.mono (by decide) (by decide)⟩
  · show OwnS p e below T0 (mkF m 123 #[iv p0, iv p1, iv p2, iv p3, iv p4, iv n, iv fr, rv aa, rv tt, iv r] []) _
    refine oIc X0 hx hby at_123 (oIl X0 hx hby at_124 rfl (oIl X0 hx hby at_126 rfl (oAl X0 hx hby at_128 rfl rfl (oIc X0 hx hby at_130 ?_))))
    refine X0.caload hx (j := (0 : Int32)) (v := (.int x0)) (by rw [e0]; exact Ar_z1.1) (State.isArrayOf_alike hZ.alike Ar_z1.2.1) Ar_z1.2.2 hin2 (Has.at H_z1 hin2 rfl) (g := (mkF m 131 #[iv p0, iv p1, iv p2, iv p3, iv p4, iv n, iv fr, rv aa, rv tt, iv r] [(.int 0), (.ref aa), (.int r), (.int fr), (.int 0)])) rfl rfl (hb hby at_131) _ ?_
    refine st3 _ ?_
    refine XS.ifNo X3.here hx rfl (hb hby at_135) rfl ((if0 _ _).trans (feq (by decide : ¬ ((1 : Int32) = (0 : Int32)))).1) ?_
    refine oIc X3 hx hby at_138 (oIl X3 hx hby at_139 rfl (oIl X3 hx hby at_141 rfl (oAl X3 hx hby at_143 rfl rfl (oIc X3 hx hby at_145 ?_))))
    refine X3.caload hx (j := (1 : Int32)) (v := (.int x1)) (by rw [e3]; exact Ar_z1.1) (State.isArrayOf_alike hZ.alike Ar_z1.2.1) Ar_z1.2.2 hin4 (Has.at H_z1 hin4 rfl) (g := (mkF m 146 #[iv p0, iv p1, iv p2, iv p3, iv p4, iv n, iv fr, rv aa, rv tt, iv r] [(.int 1), (.ref aa), (.int r), (.int fr), (.int 1)])) rfl rfl (hb hby at_146) _ ?_
    refine st5 _ ?_
    refine XS.ifNo X5.here hx rfl (hb hby at_150) rfl ((if0 _ _).trans (feq (by decide : ¬ ((1 : Int32) = (0 : Int32)))).1) ?_
    refine oIc X5 hx hby at_153 (oIl X5 hx hby at_154 rfl (oIl X5 hx hby at_156 rfl (oAl X5 hx hby at_158 rfl rfl (oIc X5 hx hby at_160 ?_))))
    refine X5.caload hx (j := (2 : Int32)) (v := (.int x2)) (by rw [e5]; exact Ar_z1.1) (State.isArrayOf_alike hZ.alike Ar_z1.2.1) Ar_z1.2.2 hin6 (Has.at H_z1 hin6 rfl) (g := (mkF m 161 #[iv p0, iv p1, iv p2, iv p3, iv p4, iv n, iv fr, rv aa, rv tt, iv r] [(.int 2), (.ref aa), (.int r), (.int fr), (.int 2)])) rfl rfl (hb hby at_161) _ ?_
    refine st7 _ ?_
    refine XS.ifNo X7.here hx rfl (hb hby at_165) rfl ((if0 _ _).trans (feq (by decide : ¬ ((1 : Int32) = (0 : Int32)))).1) ?_
    refine oIc X7 hx hby at_168 (oIl X7 hx hby at_169 rfl (oIl X7 hx hby at_171 rfl (oAl X7 hx hby at_173 rfl rfl (oIc X7 hx hby at_175 ?_))))
    refine X7.caload hx (j := (3 : Int32)) (v := (.int x3)) (by rw [e7]; exact Ar_z1.1) (State.isArrayOf_alike hZ.alike Ar_z1.2.1) Ar_z1.2.2 hin8 (Has.at H_z1 hin8 rfl) (g := (mkF m 176 #[iv p0, iv p1, iv p2, iv p3, iv p4, iv n, iv fr, rv aa, rv tt, iv r] [(.int 3), (.ref aa), (.int r), (.int fr), (.int 3)])) rfl rfl (hb hby at_176) _ ?_
    refine st9 _ ?_
    refine XS.ifNo X9.here hx rfl (hb hby at_180) rfl ((if0 _ _).trans (feq (by decide : ¬ ((1 : Int32) = (0 : Int32)))).1) ?_
    refine oIc X9 hx hby at_183 (oGo X9 hx hby 184 188 at_184 (by decide) (by decide) ?_)
    exact retN X9 hx (t := .boolean) hret (by simp) (hb hby at_188) hr
  · show Q_sgT Z _ _ _ _ _ _ _ _ _ _ _ _ _ _ _ h0 n0 _ T9.heap _
    rw [e9]
    exact ⟨rfl, N9, rfl, trivial⟩
def Q_sgW0 (Z : State) (p0 p1 p2 p3 p4 n fr : Int32) (aa tt : Addr) (kC : ClassId) (x0 x1 x2 x3 : Int32) (h0 : Heap) (n0 : Nat) (v : Option Value) (h : Heap) (L : List Loc) : Prop := v = some (.int 1) ∧ Fr n0 L ∧ h = h0 ∧ True
theorem sgW0 (l : Launch) (Z : State) (a0 : Array Value) (hw : own_HW a0 Z) {p : Program} {e : Env} {s : State} {m : MethodId} {args : Array Value} {below : List Frame} {meth : Method} {c : Code} {T0 : State} {locs : List Loc} {vm0 : Vm} {kS : Nat} {hs : Heap} (p0 p1 p2 p3 p4 n fr : Int32) (aa tt : Addr) (kC : ClassId) (x0 x1 x2 x3 : Int32) (h0 : Heap) (n0 : Nat) (Z0 : n0 ≤ h0.size) (V_aa : Arv Z h0 aa kC .char (4 : Int32) [(.int x0), (.int x1), (.int x2), (.int x3)] (.int 0)) (hok0 : own_ok (0 : Int32) fr (0 : Int32) x0 = true) (hok1 : own_ok (1 : Int32) fr (0 : Int32) x1 = true) (hok2 : own_ok (2 : Int32) fr (0 : Int32) x2 = true) (hok3 : own_ok (3 : Int32) fr (0 : Int32) x3 = true) (hsp : own_sp x0 = false)
    (X0 : Stand p l e room_1 (s.setVm vm0) m args below meth c T0 locs 24 1152) (hx : p.tables.exec = Jvm.exec) (hZ : Z.Warmed39 (s.setVm vm0).vm) (hby : c.code = code) (hml : c.maxLocals = 10) (hown : (s.setVm vm0).vm.findClass cS6 = some m.cls) (hret : meth.sig.returnType = some .boolean) (hlk : meth.locks = false) (e0 : T0.heap = h0) (N0 : Fr n0 locs) (hS0 : s.Since vm0 kS) (hk0 : kS ≤ h0.size) (H0c : CHv Z own_EL vm0 h0) (R0c : CHr Z own_EL s.vm hs vm0 h0) (hh : s.heap = hs) :
    ∃ s₂ o, Steps p.tables e below (T0.setTop (mkF m 110 #[iv p0, iv p1, iv p2, iv p3, iv p4, iv n, iv fr, rv aa, rv tt, iv 0] [])) s₂ ∧ s₂.status = .running ∧ Ended s₂ below o ∧ ∃ v L, o = .returned v ∧ Q_sgW0 Z p0 p1 p2 p3 p4 n fr aa tt kC x0 x1 x2 x3 h0 n0 v s₂.heap L ∧ CHr Z own_EL s.vm s.heap s₂.vm s₂.heap ∧ ReturnedEndW s o s₂ L room_1.cells room_1.slots := by
  have k0 : ∀ t, OwnS p e below T0 (mkF m 110 #[iv p0, iv p1, iv p2, iv p3, iv p4, iv n, iv fr, rv aa, rv tt, iv 0] []) t → OwnS p e below T0 (mkF m 110 #[iv p0, iv p1, iv p2, iv p3, iv p4, iv n, iv fr, rv aa, rv tt, iv 0] []) t := fun _ q => q
  obtain ⟨cl_z1, Ar_z1, q_z1, S_z1, N_z1, H_z1, G_z1⟩ := id V_aa
  have hin2 : ¬ ((0 : Int32) < 0 ∨ cl_z1.slots.size ≤ ((0 : Int32)).toNatClampNeg) := inb_of S_z1 ⟨by decide, by decide⟩
  obtain ⟨_, T3, L3, X3, hQ3, st3⟩ := own_cS 0 (rmWs_f l Z a0 hw [] x0 h0 n0 Z0 hsp) X0 hx hZ hown hw 81 82 4 83 rfl rfl rfl rfl 115 #[iv p0, iv p1, iv p2, iv p3, iv p4, iv n, iv fr, rv aa, rv tt, iv 0] [(.int x0)] [] (hb hby at_115) hml (lenOf pd_14 rfl) e0 rfl (Nat.le_refl _) (by decide)
  obtain ⟨rfl, N3q, e3⟩ := hQ3
  have N3 := Fr.app N0 N3q
  have k4 : ∀ t, OwnS p e below T3 (mkF m 123 #[iv p0, iv p1, iv p2, iv p3, iv p4, iv n, iv fr, rv aa, rv tt, iv 0] []) t → OwnS p e below T0 (mkF m 110 #[iv p0, iv p1, iv p2, iv p3, iv p4, iv n, iv fr, rv aa, rv tt, iv 0] []) t := fun t q => by
   refine k0 t ?_
   show OwnS p e below T0 (mkF m 110 #[iv p0, iv p1, iv p2, iv p3, iv p4, iv n, iv fr, rv aa, rv tt, iv 0] []) _
   refine oAl X0 hx hby at_110 rfl rfl (oIl X0 hx hby at_112 rfl ?_)
   refine X0.caload hx (j := (0 : Int32)) (v := (.int x0)) (by rw [e0]; exact Ar_z1.1) (State.isArrayOf_alike hZ.alike Ar_z1.2.1) Ar_z1.2.2 hin2 (Has.at H_z1 hin2 rfl) (g := (mkF m 114 #[iv p0, iv p1, iv p2, iv p3, iv p4, iv n, iv fr, rv aa, rv tt, iv 0] [(.int 0), (.ref aa)])) rfl rfl (hb hby at_114) _ ?_
   refine st3 _ ?_
   refine XS.ifYes X3.here hx rfl (pc0 := 118) (pc' := 123) rfl (hb hby at_118) rfl ((if0 _ _).trans (teq (by decide : (0 : Int32) = (0 : Int32))).1) (by decide) (by decide) ?_
   exact q
  obtain ⟨s5, o5, ja5, jb5, jc5, v5, L5, rfl, ⟨hv5, jN5, jh5, -⟩, jF5⟩ := sgT l Z a0 hw p0 p1 p2 p3 p4 n fr aa tt (0 : Int32) kC x0 x1 x2 x3 h0 n0 Z0 V_aa hok0 hok1 hok2 hok3 (own_more X3 (by decide) (by decide)) hx hZ hby hml hown hret hlk e3 N3 hS0 hk0 H0c R0c hh
  exact ⟨s5, _, k4 _ ja5, jb5, jc5, v5, L5, rfl, ⟨hv5.trans rfl, jN5, jh5, trivial⟩, jF5⟩
def Q_sgW1 (Z : State) (p0 p1 p2 p3 p4 n fr : Int32) (aa tt : Addr) (kC : ClassId) (x0 x1 x2 x3 : Int32) (h0 : Heap) (n0 : Nat) (v : Option Value) (h : Heap) (L : List Loc) : Prop := v = some (.int 1) ∧ Fr n0 L ∧ h = h0 ∧ True
theorem sgW1 (l : Launch) (Z : State) (a0 : Array Value) (hw : own_HW a0 Z) {p : Program} {e : Env} {s : State} {m : MethodId} {args : Array Value} {below : List Frame} {meth : Method} {c : Code} {T0 : State} {locs : List Loc} {vm0 : Vm} {kS : Nat} {hs : Heap} (p0 p1 p2 p3 p4 n fr : Int32) (aa tt : Addr) (kC : ClassId) (x0 x1 x2 x3 : Int32) (h0 : Heap) (n0 : Nat) (Z0 : n0 ≤ h0.size) (V_aa : Arv Z h0 aa kC .char (4 : Int32) [(.int x0), (.int x1), (.int x2), (.int x3)] (.int 0)) (hok0 : own_ok (0 : Int32) fr (1 : Int32) x0 = true) (hok1 : own_ok (1 : Int32) fr (1 : Int32) x1 = true) (hok2 : own_ok (2 : Int32) fr (1 : Int32) x2 = true) (hok3 : own_ok (3 : Int32) fr (1 : Int32) x3 = true) (hsp : own_sp x1 = false)
    (X0 : Stand p l e room_1 (s.setVm vm0) m args below meth c T0 locs 24 1152) (hx : p.tables.exec = Jvm.exec) (hZ : Z.Warmed39 (s.setVm vm0).vm) (hby : c.code = code) (hml : c.maxLocals = 10) (hown : (s.setVm vm0).vm.findClass cS6 = some m.cls) (hret : meth.sig.returnType = some .boolean) (hlk : meth.locks = false) (e0 : T0.heap = h0) (N0 : Fr n0 locs) (hS0 : s.Since vm0 kS) (hk0 : kS ≤ h0.size) (H0c : CHv Z own_EL vm0 h0) (R0c : CHr Z own_EL s.vm hs vm0 h0) (hh : s.heap = hs) :
    ∃ s₂ o, Steps p.tables e below (T0.setTop (mkF m 110 #[iv p0, iv p1, iv p2, iv p3, iv p4, iv n, iv fr, rv aa, rv tt, iv 1] [])) s₂ ∧ s₂.status = .running ∧ Ended s₂ below o ∧ ∃ v L, o = .returned v ∧ Q_sgW1 Z p0 p1 p2 p3 p4 n fr aa tt kC x0 x1 x2 x3 h0 n0 v s₂.heap L ∧ CHr Z own_EL s.vm s.heap s₂.vm s₂.heap ∧ ReturnedEndW s o s₂ L room_1.cells room_1.slots := by
  have k0 : ∀ t, OwnS p e below T0 (mkF m 110 #[iv p0, iv p1, iv p2, iv p3, iv p4, iv n, iv fr, rv aa, rv tt, iv 1] []) t → OwnS p e below T0 (mkF m 110 #[iv p0, iv p1, iv p2, iv p3, iv p4, iv n, iv fr, rv aa, rv tt, iv 1] []) t := fun _ q => q
  obtain ⟨cl_z1, Ar_z1, q_z1, S_z1, N_z1, H_z1, G_z1⟩ := id V_aa
  have hin2 : ¬ ((1 : Int32) < 0 ∨ cl_z1.slots.size ≤ ((1 : Int32)).toNatClampNeg) := inb_of S_z1 ⟨by decide, by decide⟩
  obtain ⟨_, T3, L3, X3, hQ3, st3⟩ := own_cS 0 (rmWs_f l Z a0 hw [] x1 h0 n0 Z0 hsp) X0 hx hZ hown hw 81 82 4 83 rfl rfl rfl rfl 115 #[iv p0, iv p1, iv p2, iv p3, iv p4, iv n, iv fr, rv aa, rv tt, iv 1] [(.int x1)] [] (hb hby at_115) hml (lenOf pd_14 rfl) e0 rfl (Nat.le_refl _) (by decide)
  obtain ⟨rfl, N3q, e3⟩ := hQ3
  have N3 := Fr.app N0 N3q
  have k4 : ∀ t, OwnS p e below T3 (mkF m 123 #[iv p0, iv p1, iv p2, iv p3, iv p4, iv n, iv fr, rv aa, rv tt, iv 1] []) t → OwnS p e below T0 (mkF m 110 #[iv p0, iv p1, iv p2, iv p3, iv p4, iv n, iv fr, rv aa, rv tt, iv 1] []) t := fun t q => by
   refine k0 t ?_
   show OwnS p e below T0 (mkF m 110 #[iv p0, iv p1, iv p2, iv p3, iv p4, iv n, iv fr, rv aa, rv tt, iv 1] []) _
   refine oAl X0 hx hby at_110 rfl rfl (oIl X0 hx hby at_112 rfl ?_)
   refine X0.caload hx (j := (1 : Int32)) (v := (.int x1)) (by rw [e0]; exact Ar_z1.1) (State.isArrayOf_alike hZ.alike Ar_z1.2.1) Ar_z1.2.2 hin2 (Has.at H_z1 hin2 rfl) (g := (mkF m 114 #[iv p0, iv p1, iv p2, iv p3, iv p4, iv n, iv fr, rv aa, rv tt, iv 1] [(.int 1), (.ref aa)])) rfl rfl (hb hby at_114) _ ?_
   refine st3 _ ?_
   refine XS.ifYes X3.here hx rfl (pc0 := 118) (pc' := 123) rfl (hb hby at_118) rfl ((if0 _ _).trans (teq (by decide : (0 : Int32) = (0 : Int32))).1) (by decide) (by decide) ?_
   exact q
  obtain ⟨s5, o5, ja5, jb5, jc5, v5, L5, rfl, ⟨hv5, jN5, jh5, -⟩, jF5⟩ := sgT l Z a0 hw p0 p1 p2 p3 p4 n fr aa tt (1 : Int32) kC x0 x1 x2 x3 h0 n0 Z0 V_aa hok0 hok1 hok2 hok3 (own_more X3 (by decide) (by decide)) hx hZ hby hml hown hret hlk e3 N3 hS0 hk0 H0c R0c hh
  exact ⟨s5, _, k4 _ ja5, jb5, jc5, v5, L5, rfl, ⟨hv5.trans rfl, jN5, jh5, trivial⟩, jF5⟩
def Q_sgW2 (Z : State) (p0 p1 p2 p3 p4 n fr : Int32) (aa tt : Addr) (kC : ClassId) (x0 x1 x2 x3 : Int32) (h0 : Heap) (n0 : Nat) (v : Option Value) (h : Heap) (L : List Loc) : Prop := v = some (.int 1) ∧ Fr n0 L ∧ h = h0 ∧ True
theorem sgW2 (l : Launch) (Z : State) (a0 : Array Value) (hw : own_HW a0 Z) {p : Program} {e : Env} {s : State} {m : MethodId} {args : Array Value} {below : List Frame} {meth : Method} {c : Code} {T0 : State} {locs : List Loc} {vm0 : Vm} {kS : Nat} {hs : Heap} (p0 p1 p2 p3 p4 n fr : Int32) (aa tt : Addr) (kC : ClassId) (x0 x1 x2 x3 : Int32) (h0 : Heap) (n0 : Nat) (Z0 : n0 ≤ h0.size) (V_aa : Arv Z h0 aa kC .char (4 : Int32) [(.int x0), (.int x1), (.int x2), (.int x3)] (.int 0)) (hok0 : own_ok (0 : Int32) fr (2 : Int32) x0 = true) (hok1 : own_ok (1 : Int32) fr (2 : Int32) x1 = true) (hok2 : own_ok (2 : Int32) fr (2 : Int32) x2 = true) (hok3 : own_ok (3 : Int32) fr (2 : Int32) x3 = true) (hsp : own_sp x2 = false)
    (X0 : Stand p l e room_1 (s.setVm vm0) m args below meth c T0 locs 24 1152) (hx : p.tables.exec = Jvm.exec) (hZ : Z.Warmed39 (s.setVm vm0).vm) (hby : c.code = code) (hml : c.maxLocals = 10) (hown : (s.setVm vm0).vm.findClass cS6 = some m.cls) (hret : meth.sig.returnType = some .boolean) (hlk : meth.locks = false) (e0 : T0.heap = h0) (N0 : Fr n0 locs) (hS0 : s.Since vm0 kS) (hk0 : kS ≤ h0.size) (H0c : CHv Z own_EL vm0 h0) (R0c : CHr Z own_EL s.vm hs vm0 h0) (hh : s.heap = hs) :
    ∃ s₂ o, Steps p.tables e below (T0.setTop (mkF m 110 #[iv p0, iv p1, iv p2, iv p3, iv p4, iv n, iv fr, rv aa, rv tt, iv 2] [])) s₂ ∧ s₂.status = .running ∧ Ended s₂ below o ∧ ∃ v L, o = .returned v ∧ Q_sgW2 Z p0 p1 p2 p3 p4 n fr aa tt kC x0 x1 x2 x3 h0 n0 v s₂.heap L ∧ CHr Z own_EL s.vm s.heap s₂.vm s₂.heap ∧ ReturnedEndW s o s₂ L room_1.cells room_1.slots := by
  have k0 : ∀ t, OwnS p e below T0 (mkF m 110 #[iv p0, iv p1, iv p2, iv p3, iv p4, iv n, iv fr, rv aa, rv tt, iv 2] []) t → OwnS p e below T0 (mkF m 110 #[iv p0, iv p1, iv p2, iv p3, iv p4, iv n, iv fr, rv aa, rv tt, iv 2] []) t := fun _ q => q
  obtain ⟨cl_z1, Ar_z1, q_z1, S_z1, N_z1, H_z1, G_z1⟩ := id V_aa
  have hin2 : ¬ ((2 : Int32) < 0 ∨ cl_z1.slots.size ≤ ((2 : Int32)).toNatClampNeg) := inb_of S_z1 ⟨by decide, by decide⟩
  obtain ⟨_, T3, L3, X3, hQ3, st3⟩ := own_cS 0 (rmWs_f l Z a0 hw [] x2 h0 n0 Z0 hsp) X0 hx hZ hown hw 81 82 4 83 rfl rfl rfl rfl 115 #[iv p0, iv p1, iv p2, iv p3, iv p4, iv n, iv fr, rv aa, rv tt, iv 2] [(.int x2)] [] (hb hby at_115) hml (lenOf pd_14 rfl) e0 rfl (Nat.le_refl _) (by decide)
  obtain ⟨rfl, N3q, e3⟩ := hQ3
  have N3 := Fr.app N0 N3q
  have k4 : ∀ t, OwnS p e below T3 (mkF m 123 #[iv p0, iv p1, iv p2, iv p3, iv p4, iv n, iv fr, rv aa, rv tt, iv 2] []) t → OwnS p e below T0 (mkF m 110 #[iv p0, iv p1, iv p2, iv p3, iv p4, iv n, iv fr, rv aa, rv tt, iv 2] []) t := fun t q => by
   refine k0 t ?_
   show OwnS p e below T0 (mkF m 110 #[iv p0, iv p1, iv p2, iv p3, iv p4, iv n, iv fr, rv aa, rv tt, iv 2] []) _
   refine oAl X0 hx hby at_110 rfl rfl (oIl X0 hx hby at_112 rfl ?_)
   refine X0.caload hx (j := (2 : Int32)) (v := (.int x2)) (by rw [e0]; exact Ar_z1.1) (State.isArrayOf_alike hZ.alike Ar_z1.2.1) Ar_z1.2.2 hin2 (Has.at H_z1 hin2 rfl) (g := (mkF m 114 #[iv p0, iv p1, iv p2, iv p3, iv p4, iv n, iv fr, rv aa, rv tt, iv 2] [(.int 2), (.ref aa)])) rfl rfl (hb hby at_114) _ ?_
   refine st3 _ ?_
   refine XS.ifYes X3.here hx rfl (pc0 := 118) (pc' := 123) rfl (hb hby at_118) rfl ((if0 _ _).trans (teq (by decide : (0 : Int32) = (0 : Int32))).1) (by decide) (by decide) ?_
   exact q
  obtain ⟨s5, o5, ja5, jb5, jc5, v5, L5, rfl, ⟨hv5, jN5, jh5, -⟩, jF5⟩ := sgT l Z a0 hw p0 p1 p2 p3 p4 n fr aa tt (2 : Int32) kC x0 x1 x2 x3 h0 n0 Z0 V_aa hok0 hok1 hok2 hok3 (own_more X3 (by decide) (by decide)) hx hZ hby hml hown hret hlk e3 N3 hS0 hk0 H0c R0c hh
  exact ⟨s5, _, k4 _ ja5, jb5, jc5, v5, L5, rfl, ⟨hv5.trans rfl, jN5, jh5, trivial⟩, jF5⟩
def Q_sgW3 (Z : State) (p0 p1 p2 p3 p4 n fr : Int32) (aa tt : Addr) (kC : ClassId) (x0 x1 x2 x3 : Int32) (h0 : Heap) (n0 : Nat) (v : Option Value) (h : Heap) (L : List Loc) : Prop := v = some (.int 1) ∧ Fr n0 L ∧ h = h0 ∧ True
theorem sgW3 (l : Launch) (Z : State) (a0 : Array Value) (hw : own_HW a0 Z) {p : Program} {e : Env} {s : State} {m : MethodId} {args : Array Value} {below : List Frame} {meth : Method} {c : Code} {T0 : State} {locs : List Loc} {vm0 : Vm} {kS : Nat} {hs : Heap} (p0 p1 p2 p3 p4 n fr : Int32) (aa tt : Addr) (kC : ClassId) (x0 x1 x2 x3 : Int32) (h0 : Heap) (n0 : Nat) (Z0 : n0 ≤ h0.size) (V_aa : Arv Z h0 aa kC .char (4 : Int32) [(.int x0), (.int x1), (.int x2), (.int x3)] (.int 0)) (hok0 : own_ok (0 : Int32) fr (3 : Int32) x0 = true) (hok1 : own_ok (1 : Int32) fr (3 : Int32) x1 = true) (hok2 : own_ok (2 : Int32) fr (3 : Int32) x2 = true) (hok3 : own_ok (3 : Int32) fr (3 : Int32) x3 = true) (hsp : own_sp x3 = false)
    (X0 : Stand p l e room_1 (s.setVm vm0) m args below meth c T0 locs 24 1152) (hx : p.tables.exec = Jvm.exec) (hZ : Z.Warmed39 (s.setVm vm0).vm) (hby : c.code = code) (hml : c.maxLocals = 10) (hown : (s.setVm vm0).vm.findClass cS6 = some m.cls) (hret : meth.sig.returnType = some .boolean) (hlk : meth.locks = false) (e0 : T0.heap = h0) (N0 : Fr n0 locs) (hS0 : s.Since vm0 kS) (hk0 : kS ≤ h0.size) (H0c : CHv Z own_EL vm0 h0) (R0c : CHr Z own_EL s.vm hs vm0 h0) (hh : s.heap = hs) :
    ∃ s₂ o, Steps p.tables e below (T0.setTop (mkF m 110 #[iv p0, iv p1, iv p2, iv p3, iv p4, iv n, iv fr, rv aa, rv tt, iv 3] [])) s₂ ∧ s₂.status = .running ∧ Ended s₂ below o ∧ ∃ v L, o = .returned v ∧ Q_sgW3 Z p0 p1 p2 p3 p4 n fr aa tt kC x0 x1 x2 x3 h0 n0 v s₂.heap L ∧ CHr Z own_EL s.vm s.heap s₂.vm s₂.heap ∧ ReturnedEndW s o s₂ L room_1.cells room_1.slots := by
  have k0 : ∀ t, OwnS p e below T0 (mkF m 110 #[iv p0, iv p1, iv p2, iv p3, iv p4, iv n, iv fr, rv aa, rv tt, iv 3] []) t → OwnS p e below T0 (mkF m 110 #[iv p0, iv p1, iv p2, iv p3, iv p4, iv n, iv fr, rv aa, rv tt, iv 3] []) t := fun _ q => q
  obtain ⟨cl_z1, Ar_z1, q_z1, S_z1, N_z1, H_z1, G_z1⟩ := id V_aa
  have hin2 : ¬ ((3 : Int32) < 0 ∨ cl_z1.slots.size ≤ ((3 : Int32)).toNatClampNeg) := inb_of S_z1 ⟨by decide, by decide⟩
  obtain ⟨_, T3, L3, X3, hQ3, st3⟩ := own_cS 0 (rmWs_f l Z a0 hw [] x3 h0 n0 Z0 hsp) X0 hx hZ hown hw 81 82 4 83 rfl rfl rfl rfl 115 #[iv p0, iv p1, iv p2, iv p3, iv p4, iv n, iv fr, rv aa, rv tt, iv 3] [(.int x3)] [] (hb hby at_115) hml (lenOf pd_14 rfl) e0 rfl (Nat.le_refl _) (by decide)
  obtain ⟨rfl, N3q, e3⟩ := hQ3
  have N3 := Fr.app N0 N3q
  have k4 : ∀ t, OwnS p e below T3 (mkF m 123 #[iv p0, iv p1, iv p2, iv p3, iv p4, iv n, iv fr, rv aa, rv tt, iv 3] []) t → OwnS p e below T0 (mkF m 110 #[iv p0, iv p1, iv p2, iv p3, iv p4, iv n, iv fr, rv aa, rv tt, iv 3] []) t := fun t q => by
   refine k0 t ?_
   show OwnS p e below T0 (mkF m 110 #[iv p0, iv p1, iv p2, iv p3, iv p4, iv n, iv fr, rv aa, rv tt, iv 3] []) _
   refine oAl X0 hx hby at_110 rfl rfl (oIl X0 hx hby at_112 rfl ?_)
   refine X0.caload hx (j := (3 : Int32)) (v := (.int x3)) (by rw [e0]; exact Ar_z1.1) (State.isArrayOf_alike hZ.alike Ar_z1.2.1) Ar_z1.2.2 hin2 (Has.at H_z1 hin2 rfl) (g := (mkF m 114 #[iv p0, iv p1, iv p2, iv p3, iv p4, iv n, iv fr, rv aa, rv tt, iv 3] [(.int 3), (.ref aa)])) rfl rfl (hb hby at_114) _ ?_
   refine st3 _ ?_
   refine XS.ifYes X3.here hx rfl (pc0 := 118) (pc' := 123) rfl (hb hby at_118) rfl ((if0 _ _).trans (teq (by decide : (0 : Int32) = (0 : Int32))).1) (by decide) (by decide) ?_
   exact q
  obtain ⟨s5, o5, ja5, jb5, jc5, v5, L5, rfl, ⟨hv5, jN5, jh5, -⟩, jF5⟩ := sgT l Z a0 hw p0 p1 p2 p3 p4 n fr aa tt (3 : Int32) kC x0 x1 x2 x3 h0 n0 Z0 V_aa hok0 hok1 hok2 hok3 (own_more X3 (by decide) (by decide)) hx hZ hby hml hown hret hlk e3 N3 hS0 hk0 H0c R0c hh
  exact ⟨s5, _, k4 _ ja5, jb5, jc5, v5, L5, rfl, ⟨hv5.trans rfl, jN5, jh5, trivial⟩, jF5⟩
theorem pd_19 : parseMethodDescriptor "(ICCCC)Ljava/lang/String;" = some ⟨[.int, .char, .char, .char, .char], some (.object cS1)⟩ := by decide +kernel
theorem pd_20 : parseMethodDescriptor "(Ljava/lang/String;I)I" = some ⟨[(.object cS1), .int], some .int⟩ := by decide +kernel
theorem ef_0 (m : MethodId) (x0 : Int32) (x1 : Int32) (x2 : Int32) (x3 : Int32) (x4 : Int32) : entryFrame m #[(.int x0), (.int x1), (.int x2), (.int x3), (.int x4)] maxLocals = mkF m 0 #[.val (.int x0), .val (.int x1), .val (.int x2), .val (.int x3), .val (.int x4), .unset, .unset, .unset, .unset, .unset] [] := by first | (simp [entryFrame, mkF, argsToLocals, Value.category, maxLocals]; done) | rfl
def Q_0 (Z : State) (p0 p1 p2 p3 p4 w_CS : Int32) (w_F : Value) (h0 : Heap) (n0 : Nat) (v : Option Value) (h : Heap) (L : List Loc) : Prop := v = some (.int 1) ∧ Fr n0 L ∧ True
theorem rm0 (l : Launch) (Z : State) (a0 : Array Value) (hw : ∀ d ∈ tables_1, d.before a0 Z = true) (ws : List Jvm.Cond) (p0 p1 p2 p3 p4 w_CS : Int32) (w_F : Value) (h0 : Heap) (n0 : Nat) (Z0 : n0 ≤ h0.size) (S_CS : Sta Z h0 cS1 cS10 "Z" (.int w_CS)) (hcs : ¬ (w_CS = (0 : Int32))) (S_F : Sta Z h0 cS2 cS9 cS3 w_F) (hwF : w_F.isRef = true) (S_AD : Sta Z h0 cS0 cS5 "Z" (.int 1)) (S_HI : Sta Z h0 cS0 cS7 "I" (.int 0)) (S_LO : Sta Z h0 cS0 cS8 "I" (.int 8)) :
    MetFree l x (head1 (Jvm.Cond.code x code maxLocals ret :: ws) room_1) (fun a U => a = #[(.int p0), (.int p1), (.int p2), (.int p3), (.int p4)] ∧ Z.Warmed39 U.vm ∧ U.heap = h0 ∧ CHv Z own_EL U.vm h0) (fun _ _ _ _ _ => True) (fun _ U o U' => ∃ v L, o = .returned v ∧ Q_0 Z p0 p1 p2 p3 p4 w_CS w_F h0 n0 v U'.heap L ∧ CHr Z own_EL U.vm U.heap U'.vm U'.heap ∧ ReturnedEndW U o U' L room_1.cells room_1.slots) := by
  refine MetFree.of_bodySF (plainFor_of_name pn_com_example_strict_lock_strictlock_IfHeaderSkipSpacePinLaw) hisR ?_
  intro p e s m args below meth c s₁ Bd hml0 hP hK
  obtain ⟨rfl, hZ, hh, H0c⟩ := hP
  have hx := Bd.exec
  have hby := Bd.bytes
  have hml : c.maxLocals = 10 := hml0
  have hown : (s.setVm s.vm).vm.findClass cS6 = some m.cls := findClass_of_methodNamed Bd.named
  have hnm := (name_of_methodNamed Bd.named Bd.method).1
  have X0 : Stand p l e room_1 (s.setVm s.vm) m #[(.int p0), (.int p1), (.int p2), (.int p3), (.int p4)] below meth c s₁ [] 0 0 := Stand.of_body Bd
  have e0 : s₁.heap = h0 := by rw [← hh, Bd.state]; rfl
  have N0 := Fr.nil n0
  have k0 : ∀ t, OwnS p e below s₁ (mkF m 0 #[iv p0, iv p1, iv p2, iv p3, iv p4, .unset, .unset, .unset, .unset, .unset] []) t → OwnS p e below s₁ (entryFrame m #[(.int p0), (.int p1), (.int p2), (.int p3), (.int p4)] maxLocals) t := fun t k => castTop (ef_0 m p0 p1 p2 p3 p4) k
  have hZ : Z.Warmed39 (s.setVm s.vm).vm := hZ
  have hS0 : s.Since s.vm h0.size := (State.WarmedH.refl s).since _
  have hk0 : h0.size ≤ h0.size := Nat.le_refl _
  have R0c := CHr.refl H0c
  have k1 : ∀ t, OwnS p e below s₁ (mkF m 6 #[iv p0, iv p1, iv p2, iv p3, iv p4, .unset, .unset, .unset, .unset, .unset] [(.int ((p0 &&& (7 : Int32)) % (5 : Int32)))]) t → OwnS p e below s₁ (entryFrame m #[(.int p0), (.int p1), (.int p2), (.int p3), (.int p4)] maxLocals) t := fun t q => by
   refine k0 t ?_
   show OwnS p e below s₁ (mkF m 0 #[iv p0, iv p1, iv p2, iv p3, iv p4, .unset, .unset, .unset, .unset, .unset] []) _
   refine oIn X0 hx hby at_0 rfl (oBp X0 hx hby at_1 ?_)
   refine XS.iand X0.here hx rfl (hb hby at_3) rfl ?_
   refine oIc X0 hx hby at_4 ?_
   refine iremM X0 hx (g := (mkF m 5 #[iv p0, iv p1, iv p2, iv p3, iv p4, .unset, .unset, .unset, .unset, .unset] [(.int 5), (.int (p0 &&& (7 : Int32)))])) rfl (hb hby at_5) rfl (by decide) ?_
   exact q
  rcases own_m7 p0 with hn | hn | hn | hn | hn
  · obtain ⟨T2, h2, k2, X2, e2, E2, A2, EA2, st2⟩ := newPE X0 hx hZ (own_at hw 1 rfl) e0 (g := (mkF m 22 #[iv p0, iv p1, iv p2, iv p3, iv p4, iv 0, iv ((((p0.toUInt32 >>> ((3 : Int32) &&& 31).toUInt32).toInt32) &&& (2147483647 : Int32)) % (1 : Int32)), .unset, .unset, .unset] [(.int 4)])) rfl (hb hby at_22) rfl (by decide) (cap := 4) (by decide) (by decide) (by decide) (by decide) (ad := "[C") (by decide)
    obtain ⟨b2, g2⟩ : ∃ z, z = h0.size := ⟨_, rfl⟩
    rw [← g2] at A2 EA2 st2
    have g_b2 : n0 ≤ b2 := Nat.le_trans Z0 (Nat.le_of_eq g2.symm)
    have sz_b2 : h0.size ≤ b2 := Nat.le_trans (Keep.refl h0 []).1 (Nat.le_of_eq g2.symm)
    have Hc2 := CHv.ext E2 H0c
    have Rc2 := R0c.trans (CHr.ext E2 H0c)
    have hk2 := Nat.le_trans hk0 E2.1
    have Sf2_b2 := Safe.ext (EL := own_EL) E2 H0c (Safe.new (Nat.le_of_eq g2.symm))
    have V_b2 : Arv Z h2 b2 k2 .char (4 : Int32) [(.int 0), (.int 0), (.int 0), (.int 0)] (.int 0) := (Arv.new A2 (by decide)).pad (pad_rep [] (.int 0) 4)
    obtain ⟨_, T3, L3, X3, hQ3, st3⟩ := own_cS 3 (rmDr l Z a0 hw [] p1 h2 n0 (Nat.le_trans Z0 E2.1) ) X2 hx hZ hown hw 2 3 4 5 rfl rfl rfl rfl 27 #[iv p0, iv p1, iv p2, iv p3, iv p4, iv 0, iv ((((p0.toUInt32 >>> ((3 : Int32) &&& 31).toUInt32).toInt32) &&& (2147483647 : Int32)) % (1 : Int32)), .unset, .unset, .unset] [(.int p1)] [(.int 0), (.ref b2), (.ref b2)] (hb hby at_27) hml (lenOf pd_17 rfl) e2 rfl (Nat.le_refl _) (by decide)
    obtain ⟨rr_3, rfl, N3q, e3, p3_0⟩ := hQ3
    have N3 := Fr.app N0 N3q
    obtain ⟨cl_z4, Ar_z4, q_z4, S_z4, N_z4, H_z4, G_z4⟩ := id V_b2
    have hin5 : ¬ ((0 : Int32) < 0 ∨ cl_z4.slots.size ≤ ((0 : Int32)).toNatClampNeg) := inb_of S_z4 ⟨by decide, by decide⟩
    obtain ⟨T6, h6, X6, e6, W6, st6⟩ := stC X3 hx hZ e3 Ar_z4 (j := (0 : Int32)) hin5 (g := (mkF m 30 #[iv p0, iv p1, iv p2, iv p3, iv p4, iv 0, iv ((((p0.toUInt32 >>> ((3 : Int32) &&& 31).toUInt32).toInt32) &&& (2147483647 : Int32)) % (1 : Int32)), .unset, .unset, .unset] [(.int rr_3), (.int 0), (.ref b2), (.ref b2)])) rfl rfl (hb hby at_30)
    have Hc6 := CHv.wr W6 Sf2_b2 Hc2
    have Rc6 := Rc2.trans (CHr.wr W6 Sf2_b2 Hc2)
    have hk6 := Nat.le_trans hk2 (Keep.of_wr W6).1
    have Sf6_b2 := Safe.wr W6 Sf2_b2 Hc2 Sf2_b2
    have V6 : Arv Z h6 b2 k2 .char (4 : Int32) [(.int (rr_3.toUInt32.toUInt16.toUInt32.toInt32)), (.int 0), (.int 0), (.int 0)] (.int 0) := Arv.set Ar_z4 q_z4 S_z4 N_z4 H_z4 G_z4 (fits_nar_char _) W6 0 rfl (Nat.le_of_ble_eq_true rfl)
    have N6 := Fr.snoc X6 N3 g_b2
    obtain ⟨_, T7, L7, X7, hQ7, st7⟩ := own_cS 3 (rmDr l Z a0 hw [] p2 h6 n0 (Nat.le_trans (Nat.le_trans Z0 E2.1) (Keep.of_wr W6).1) ) X6 hx hZ hown hw 2 3 4 5 rfl rfl rfl rfl 34 #[iv p0, iv p1, iv p2, iv p3, iv p4, iv 0, iv ((((p0.toUInt32 >>> ((3 : Int32) &&& 31).toUInt32).toInt32) &&& (2147483647 : Int32)) % (1 : Int32)), .unset, .unset, .unset] [(.int p2)] [(.int 1), (.ref b2), (.ref b2)] (hb hby at_34) hml (lenOf pd_17 rfl) e6 rfl (Nat.le_refl _) (by decide)
    obtain ⟨rr_7, rfl, N7q, e7, p7_0⟩ := hQ7
    have N7 := Fr.app N6 N7q
    obtain ⟨cl_z8, Ar_z8, q_z8, S_z8, N_z8, H_z8, G_z8⟩ := id V6
    have hin9 : ¬ ((1 : Int32) < 0 ∨ cl_z8.slots.size ≤ ((1 : Int32)).toNatClampNeg) := inb_of S_z8 ⟨by decide, by decide⟩
    obtain ⟨T10, h10, X10, e10, W10, st10⟩ := stC X7 hx hZ e7 Ar_z8 (j := (1 : Int32)) hin9 (g := (mkF m 37 #[iv p0, iv p1, iv p2, iv p3, iv p4, iv 0, iv ((((p0.toUInt32 >>> ((3 : Int32) &&& 31).toUInt32).toInt32) &&& (2147483647 : Int32)) % (1 : Int32)), .unset, .unset, .unset] [(.int rr_7), (.int 1), (.ref b2), (.ref b2)])) rfl rfl (hb hby at_37)
    have Hc10 := CHv.wr W10 Sf6_b2 Hc6
    have Rc10 := Rc6.trans (CHr.wr W10 Sf6_b2 Hc6)
    have hk10 := Nat.le_trans hk6 (Keep.of_wr W10).1
    have Sf10_b2 := Safe.wr W10 Sf6_b2 Hc6 Sf6_b2
    have V10 : Arv Z h10 b2 k2 .char (4 : Int32) [(.int (rr_3.toUInt32.toUInt16.toUInt32.toInt32)), (.int (rr_7.toUInt32.toUInt16.toUInt32.toInt32)), (.int 0), (.int 0)] (.int 0) := Arv.set Ar_z8 q_z8 S_z8 N_z8 H_z8 G_z8 (fits_nar_char _) W10 1 rfl (Nat.le_of_ble_eq_true rfl)
    have N10 := Fr.snoc X10 N7 g_b2
    obtain ⟨_, T11, L11, X11, hQ11, st11⟩ := own_cS 3 (rmDr l Z a0 hw [] p3 h10 n0 (Nat.le_trans (Nat.le_trans (Nat.le_trans Z0 E2.1) (Keep.of_wr W6).1) (Keep.of_wr W10).1) ) X10 hx hZ hown hw 2 3 4 5 rfl rfl rfl rfl 41 #[iv p0, iv p1, iv p2, iv p3, iv p4, iv 0, iv ((((p0.toUInt32 >>> ((3 : Int32) &&& 31).toUInt32).toInt32) &&& (2147483647 : Int32)) % (1 : Int32)), .unset, .unset, .unset] [(.int p3)] [(.int 2), (.ref b2), (.ref b2)] (hb hby at_41) hml (lenOf pd_17 rfl) e10 rfl (Nat.le_refl _) (by decide)
    obtain ⟨rr_11, rfl, N11q, e11, p11_0⟩ := hQ11
    have N11 := Fr.app N10 N11q
    obtain ⟨cl_z12, Ar_z12, q_z12, S_z12, N_z12, H_z12, G_z12⟩ := id V10
    have hin13 : ¬ ((2 : Int32) < 0 ∨ cl_z12.slots.size ≤ ((2 : Int32)).toNatClampNeg) := inb_of S_z12 ⟨by decide, by decide⟩
    obtain ⟨T14, h14, X14, e14, W14, st14⟩ := stC X11 hx hZ e11 Ar_z12 (j := (2 : Int32)) hin13 (g := (mkF m 44 #[iv p0, iv p1, iv p2, iv p3, iv p4, iv 0, iv ((((p0.toUInt32 >>> ((3 : Int32) &&& 31).toUInt32).toInt32) &&& (2147483647 : Int32)) % (1 : Int32)), .unset, .unset, .unset] [(.int rr_11), (.int 2), (.ref b2), (.ref b2)])) rfl rfl (hb hby at_44)
    have Hc14 := CHv.wr W14 Sf10_b2 Hc10
    have Rc14 := Rc10.trans (CHr.wr W14 Sf10_b2 Hc10)
    have hk14 := Nat.le_trans hk10 (Keep.of_wr W14).1
    have Sf14_b2 := Safe.wr W14 Sf10_b2 Hc10 Sf10_b2
    have V14 : Arv Z h14 b2 k2 .char (4 : Int32) [(.int (rr_3.toUInt32.toUInt16.toUInt32.toInt32)), (.int (rr_7.toUInt32.toUInt16.toUInt32.toInt32)), (.int (rr_11.toUInt32.toUInt16.toUInt32.toInt32)), (.int 0)] (.int 0) := Arv.set Ar_z12 q_z12 S_z12 N_z12 H_z12 G_z12 (fits_nar_char _) W14 2 rfl (Nat.le_of_ble_eq_true rfl)
    have N14 := Fr.snoc X14 N11 g_b2
    obtain ⟨_, T15, L15, X15, hQ15, st15⟩ := own_cS 3 (rmDr l Z a0 hw [] p4 h14 n0 (Nat.le_trans (Nat.le_trans (Nat.le_trans (Nat.le_trans Z0 E2.1) (Keep.of_wr W6).1) (Keep.of_wr W10).1) (Keep.of_wr W14).1) ) X14 hx hZ hown hw 2 3 4 5 rfl rfl rfl rfl 49 #[iv p0, iv p1, iv p2, iv p3, iv p4, iv 0, iv ((((p0.toUInt32 >>> ((3 : Int32) &&& 31).toUInt32).toInt32) &&& (2147483647 : Int32)) % (1 : Int32)), .unset, .unset, .unset] [(.int p4)] [(.int 3), (.ref b2), (.ref b2)] (hb hby at_49) hml (lenOf pd_17 rfl) e14 rfl (Nat.le_refl _) (by decide)
    obtain ⟨rr_15, rfl, N15q, e15, p15_0⟩ := hQ15
    have N15 := Fr.app N14 N15q
    obtain ⟨cl_z16, Ar_z16, q_z16, S_z16, N_z16, H_z16, G_z16⟩ := id V14
    have hin17 : ¬ ((3 : Int32) < 0 ∨ cl_z16.slots.size ≤ ((3 : Int32)).toNatClampNeg) := inb_of S_z16 ⟨by decide, by decide⟩
    obtain ⟨T18, h18, X18, e18, W18, st18⟩ := stC X15 hx hZ e15 Ar_z16 (j := (3 : Int32)) hin17 (g := (mkF m 52 #[iv p0, iv p1, iv p2, iv p3, iv p4, iv 0, iv ((((p0.toUInt32 >>> ((3 : Int32) &&& 31).toUInt32).toInt32) &&& (2147483647 : Int32)) % (1 : Int32)), .unset, .unset, .unset] [(.int rr_15), (.int 3), (.ref b2), (.ref b2)])) rfl rfl (hb hby at_52)
    have Hc18 := CHv.wr W18 Sf14_b2 Hc14
    have Rc18 := Rc14.trans (CHr.wr W18 Sf14_b2 Hc14)
    have hk18 := Nat.le_trans hk14 (Keep.of_wr W18).1
    have Sf18_b2 := Safe.wr W18 Sf14_b2 Hc14 Sf14_b2
    have V18 : Arv Z h18 b2 k2 .char (4 : Int32) [(.int (rr_3.toUInt32.toUInt16.toUInt32.toInt32)), (.int (rr_7.toUInt32.toUInt16.toUInt32.toInt32)), (.int (rr_11.toUInt32.toUInt16.toUInt32.toInt32)), (.int (rr_15.toUInt32.toUInt16.toUInt32.toInt32))] (.int 0) := Arv.set Ar_z16 q_z16 S_z16 N_z16 H_z16 G_z16 (fits_nar_char _) W18 3 rfl (Nat.le_of_ble_eq_true rfl)
    have N18 := Fr.snoc X18 N15 g_b2
    obtain ⟨cl_z19, Ar_z19, q_z19, S_z19, N_z19, H_z19, G_z19⟩ := id V18
    have hin20 : ¬ ((0 : Int32) < 0 ∨ cl_z19.slots.size ≤ ((0 : Int32)).toNatClampNeg) := inb_of S_z19 ⟨by decide, by decide⟩
    have hin21 : ¬ ((1 : Int32) < 0 ∨ cl_z19.slots.size ≤ ((1 : Int32)).toNatClampNeg) := inb_of S_z19 ⟨by decide, by decide⟩
    have hin22 : ¬ ((2 : Int32) < 0 ∨ cl_z19.slots.size ≤ ((2 : Int32)).toNatClampNeg) := inb_of S_z19 ⟨by decide, by decide⟩
    have hin23 : ¬ ((3 : Int32) < 0 ∨ cl_z19.slots.size ≤ ((3 : Int32)).toNatClampNeg) := inb_of S_z19 ⟨by decide, by decide⟩
    have f25 := ((((EA2.wr W6).wr W10).wr W14).wr W18)
    have lt_b2 := f25.lt
    obtain ⟨_, _, ⟨T24, L24, j24, i24⟩, -, X24, hSq24, hgq24, ⟨Lc24, hQ24, l24, y24, z24, CR24⟩, st24⟩ := Jvm.RoadKit.callSS X18 hx (y := (⟨cS6, "text", "(ICCCC)Ljava/lang/String;"⟩ : MethodName)) hown (mvT hZ (own_at hw 7 rfl)) (mvT hZ (own_at hw 8 rfl)) (mvT hZ (own_at hw 4 rfl)) (mvT hZ (own_at hw 9 rfl)) (by decide) (backOfSH (W := 0) (rmTx_0 l Z a0 hw [] (rr_3.toUInt32.toUInt16.toUInt32.toInt32) (rr_7.toUInt32.toUInt16.toUInt32.toInt32) (rr_11.toUInt32.toUInt16.toUInt32.toInt32) (rr_15.toUInt32.toUInt16.toUInt32.toInt32) h18 n0 (Nat.le_trans (Nat.le_trans (Nat.le_trans (Nat.le_trans (Nat.le_trans Z0 E2.1) (Keep.of_wr W6).1) (Keep.of_wr W10).1) (Keep.of_wr W14).1) (Keep.of_wr W18).1) ) hZ (own_at hw 9 rfl) (own_at hw 4 rfl) (by decide) (by decide) (own_ew hw) Hc18) (g := (mkF m 73 #[iv p0, iv p1, iv p2, iv p3, iv p4, iv 0, iv ((((p0.toUInt32 >>> ((3 : Int32) &&& 31).toUInt32).toInt32) &&& (2147483647 : Int32)) % (1 : Int32)), rv b2, .unset, .unset] [(.int (rr_15.toUInt32.toUInt16.toUInt32.toInt32)), (.int (rr_11.toUInt32.toUInt16.toUInt32.toInt32)), (.int (rr_7.toUInt32.toUInt16.toUInt32.toInt32)), (.int (rr_3.toUInt32.toUInt16.toUInt32.toInt32)), (.int 0)])) rfl (by rw [hml]; rfl) (argsL := [(.int 0), (.int (rr_3.toUInt32.toUInt16.toUInt32.toInt32)), (.int (rr_7.toUInt32.toUInt16.toUInt32.toInt32)), (.int (rr_11.toUInt32.toUInt16.toUInt32.toInt32)), (.int (rr_15.toUInt32.toUInt16.toUInt32.toInt32))]) (rest := []) (lenOf pd_19 rfl) rfl (Nat.le_refl _) (hb hby at_73) (fun _ _ => ⟨rfl, e18, (by decide : 1 + 6 ≤ _), (by decide : 4 + 12 ≤ _)⟩)
    dsimp only [Pt.U, Pt.locs, Pt.cells, Pt.slots] at X24 l24 y24 z24 st24 hQ24 CR24 hSq24 hgq24
    subst l24 y24 z24
    obtain ⟨X24, hS24, hZ24, hown24⟩ := rebS hS0 (by rw [e18]; exact hk18) X24 hSq24 hgq24 hZ hown
    have hk24 : T24.heap.size ≤ T24.heap.size := Nat.le_refl _
    obtain ⟨ob_24, ar_24, kk_24, rfl, N24q, K24, p24_0, p24_1, p24_2, p24_3, p24_4⟩ := hQ24
    have lt_b2 := f25.lt
    have Hc24 := CR24.1
    have Rc24 := Rc18.trans CR24
    have Sf24_b2 := CHr.safe CR24 lt_b2 Sf18_b2
    have g_ob_24 : n0 ≤ ob_24 := Nat.le_trans (Nat.le_trans (Nat.le_trans (Nat.le_trans (Nat.le_trans (Nat.le_trans Z0 E2.1) (Keep.of_wr W6).1) (Keep.of_wr W10).1) (Keep.of_wr W14).1) (Keep.of_wr W18).1) p24_0
    have sz_ob_24 : h0.size ≤ ob_24 := Nat.le_trans ((((((Keep.refl h0 []).ext E2).wr W6 (Or.inr sz_b2)).wr W10 (Or.inr sz_b2)).wr W14 (Or.inr sz_b2)).wr W18 (Or.inr sz_b2)).1 p24_0
    have N24 := Fr.app N18 N24q
    have k26 : ∀ t, OwnS p e below T24 (mkF m 82 #[iv p0, iv p1, iv p2, iv p3, iv p4, iv 0, iv ((((p0.toUInt32 >>> ((3 : Int32) &&& 31).toUInt32).toInt32) &&& (2147483647 : Int32)) % (1 : Int32)), rv b2, rv ob_24, .unset] [(.int ((((p0.toUInt32 >>> ((3 : Int32) &&& 31).toUInt32).toInt32) &&& (2147483647 : Int32)) % (1 : Int32))), (.ref ob_24)]) t → OwnS p e below s₁ (entryFrame m #[(.int p0), (.int p1), (.int p2), (.int p3), (.int p4)] maxLocals) t := fun t q => by
     refine k1 t ?_
     rw [hn]
     refine XS.istore X0.here hx rfl (hb hby at_6) rfl (l' := #[iv p0, iv p1, iv p2, iv p3, iv p4, iv 0, .unset, .unset, .unset, .unset]) rfl ?_
     refine oIn X0 hx hby at_8 rfl (oIc X0 hx hby at_9 ?_)
     refine XS.iushr X0.here hx rfl (hb hby at_10) rfl ?_
     refine X0.ldcInt hx hown (mvT hZ (own_at hw 0 rfl)) (g := (mkF m 11 #[iv p0, iv p1, iv p2, iv p3, iv p4, iv 0, .unset, .unset, .unset, .unset] [(.int ((p0.toUInt32 >>> ((3 : Int32) &&& 31).toUInt32).toInt32))])) rfl (hb hby at_11) _ ?_
     refine XS.iand X0.here hx rfl (hb hby at_13) rfl ?_
     refine oIl X0 hx hby at_14 rfl (oIc X0 hx hby at_16 ?_)
     refine XS.iadd X0.here hx rfl (hb hby at_17) rfl ?_
     refine iremM X0 hx (g := (mkF m 18 #[iv p0, iv p1, iv p2, iv p3, iv p4, iv 0, .unset, .unset, .unset, .unset] [(.int 1), (.int (((p0.toUInt32 >>> ((3 : Int32) &&& 31).toUInt32).toInt32) &&& (2147483647 : Int32)))])) rfl (hb hby at_18) rfl (by decide) ?_
     refine XS.istore X0.here hx rfl (hb hby at_19) rfl (l' := #[iv p0, iv p1, iv p2, iv p3, iv p4, iv 0, iv ((((p0.toUInt32 >>> ((3 : Int32) &&& 31).toUInt32).toInt32) &&& (2147483647 : Int32)) % (1 : Int32)), .unset, .unset, .unset]) rfl ?_
     refine oIc X0 hx hby at_21 ?_
     refine st2 _ ?_
     refine XS.dup X2.here hx rfl (hb hby at_24) rfl rfl ?_
     refine oIc X2 hx hby at_25 (oIn X2 hx hby at_26 rfl ?_)
     refine st3 _ ?_
     refine st6 _ ?_
     refine XS.dup X6.here hx rfl (hb hby at_31) rfl rfl ?_
     refine oIc X6 hx hby at_32 (oIn X6 hx hby at_33 rfl ?_)
     refine st7 _ ?_
     refine st10 _ ?_
     refine XS.dup X10.here hx rfl (hb hby at_38) rfl rfl ?_
     refine oIc X10 hx hby at_39 (oIn X10 hx hby at_40 rfl ?_)
     refine st11 _ ?_
     refine st14 _ ?_
     refine XS.dup X14.here hx rfl (hb hby at_45) rfl rfl ?_
     refine oIc X14 hx hby at_46 (oIl X14 hx hby at_47 rfl ?_)
     refine st15 _ ?_
     refine st18 _ ?_
     refine XS.astore X18.here hx rfl (hb hby at_53) rfl rfl (l' := #[iv p0, iv p1, iv p2, iv p3, iv p4, iv 0, iv ((((p0.toUInt32 >>> ((3 : Int32) &&& 31).toUInt32).toInt32) &&& (2147483647 : Int32)) % (1 : Int32)), rv b2, .unset, .unset]) rfl ?_
     refine oIl X18 hx hby at_55 rfl (oAl X18 hx hby at_57 rfl rfl (oIc X18 hx hby at_59 ?_))
     refine X18.caload hx (j := (0 : Int32)) (v := (.int (rr_3.toUInt32.toUInt16.toUInt32.toInt32))) (by rw [e18]; exact Ar_z19.1) (State.isArrayOf_alike hZ.alike Ar_z19.2.1) Ar_z19.2.2 hin20 (Has.at H_z19 hin20 rfl) (g := (mkF m 60 #[iv p0, iv p1, iv p2, iv p3, iv p4, iv 0, iv ((((p0.toUInt32 >>> ((3 : Int32) &&& 31).toUInt32).toInt32) &&& (2147483647 : Int32)) % (1 : Int32)), rv b2, .unset, .unset] [(.int 0), (.ref b2), (.int 0)])) rfl rfl (hb hby at_60) _ ?_
     refine oAl X18 hx hby at_61 rfl rfl ?_
     show OwnS p e below T18 (mkF m 63 #[iv p0, iv p1, iv p2, iv p3, iv p4, iv 0, iv ((((p0.toUInt32 >>> ((3 : Int32) &&& 31).toUInt32).toInt32) &&& (2147483647 : Int32)) % (1 : Int32)), rv b2, .unset, .unset] [(.ref b2), (.int (rr_3.toUInt32.toUInt16.toUInt32.toInt32)), (.int 0)]) _
     refine oIc X18 hx hby at_63 ?_
     refine X18.caload hx (j := (1 : Int32)) (v := (.int (rr_7.toUInt32.toUInt16.toUInt32.toInt32))) (by rw [e18]; exact Ar_z19.1) (State.isArrayOf_alike hZ.alike Ar_z19.2.1) Ar_z19.2.2 hin21 (Has.at H_z19 hin21 rfl) (g := (mkF m 64 #[iv p0, iv p1, iv p2, iv p3, iv p4, iv 0, iv ((((p0.toUInt32 >>> ((3 : Int32) &&& 31).toUInt32).toInt32) &&& (2147483647 : Int32)) % (1 : Int32)), rv b2, .unset, .unset] [(.int 1), (.ref b2), (.int (rr_3.toUInt32.toUInt16.toUInt32.toInt32)), (.int 0)])) rfl rfl (hb hby at_64) _ ?_
     refine oAl X18 hx hby at_65 rfl rfl (oIc X18 hx hby at_67 ?_)
     refine X18.caload hx (j := (2 : Int32)) (v := (.int (rr_11.toUInt32.toUInt16.toUInt32.toInt32))) (by rw [e18]; exact Ar_z19.1) (State.isArrayOf_alike hZ.alike Ar_z19.2.1) Ar_z19.2.2 hin22 (Has.at H_z19 hin22 rfl) (g := (mkF m 68 #[iv p0, iv p1, iv p2, iv p3, iv p4, iv 0, iv ((((p0.toUInt32 >>> ((3 : Int32) &&& 31).toUInt32).toInt32) &&& (2147483647 : Int32)) % (1 : Int32)), rv b2, .unset, .unset] [(.int 2), (.ref b2), (.int (rr_7.toUInt32.toUInt16.toUInt32.toInt32)), (.int (rr_3.toUInt32.toUInt16.toUInt32.toInt32)), (.int 0)])) rfl rfl (hb hby at_68) _ ?_
     refine oAl X18 hx hby at_69 rfl rfl (oIc X18 hx hby at_71 ?_)
     refine X18.caload hx (j := (3 : Int32)) (v := (.int (rr_15.toUInt32.toUInt16.toUInt32.toInt32))) (by rw [e18]; exact Ar_z19.1) (State.isArrayOf_alike hZ.alike Ar_z19.2.1) Ar_z19.2.2 hin23 (Has.at H_z19 hin23 rfl) (g := (mkF m 72 #[iv p0, iv p1, iv p2, iv p3, iv p4, iv 0, iv ((((p0.toUInt32 >>> ((3 : Int32) &&& 31).toUInt32).toInt32) &&& (2147483647 : Int32)) % (1 : Int32)), rv b2, .unset, .unset] [(.int 3), (.ref b2), (.int (rr_11.toUInt32.toUInt16.toUInt32.toInt32)), (.int (rr_7.toUInt32.toUInt16.toUInt32.toInt32)), (.int (rr_3.toUInt32.toUInt16.toUInt32.toInt32)), (.int 0)])) rfl rfl (hb hby at_72) _ ?_
     refine st24.trans ?_
     refine XS.astore X24.here hx rfl (hb hby at_76) rfl rfl (l' := #[iv p0, iv p1, iv p2, iv p3, iv p4, iv 0, iv ((((p0.toUInt32 >>> ((3 : Int32) &&& 31).toUInt32).toInt32) &&& (2147483647 : Int32)) % (1 : Int32)), rv b2, rv ob_24, .unset]) rfl ?_
     refine oAl X24 hx hby at_78 rfl rfl (oIl X24 hx hby at_80 rfl ?_)
     exact q
    rcases own_mod1 ((p0.toUInt32 >>> ((3 : Int32) &&& 31).toUInt32).toInt32) with hf
    · have f28 := (own_sta_keep (((((S_CS.ext E2).wr W6).wr W10).wr W14).wr W18) K24 all0)
      obtain ⟨_, T27, L27, X27, hQ27, st27⟩ := own_cS 0 (rmSk_0_0 l Z a0 hw [] ob_24 w_CS ar_24 kk_24 T24.heap n0 (Nat.le_trans (Nat.le_trans (Nat.le_trans (Nat.le_trans (Nat.le_trans (Nat.le_trans Z0 E2.1) (Keep.of_wr W6).1) (Keep.of_wr W10).1) (Keep.of_wr W14).1) (Keep.of_wr W18).1) K24.1) f28 hcs p24_1 p24_2 p24_3 p24_4) X24 hx hZ24 hown24 hw 31 32 33 34 rfl rfl rfl rfl 82 #[iv p0, iv p1, iv p2, iv p3, iv p4, iv 0, iv 0, rv b2, rv ob_24, .unset] [(.ref ob_24), (.int 0)] [] (hb hby at_82) hml (lenOf pd_20 rfl) rfl rfl (Nat.le_refl _) (by decide)
      obtain ⟨rfl, N27q, e27⟩ := hQ27
      have N27 := Fr.app N24 N27q
      have f29 := (V18.keep K24 nin0)
      have k30 : ∀ t, OwnS p e below T27 (mkF m 123 #[iv p0, iv p1, iv p2, iv p3, iv p4, iv 0, iv 0, rv b2, rv ob_24, iv 0] []) t → OwnS p e below s₁ (entryFrame m #[(.int p0), (.int p1), (.int p2), (.int p3), (.int p4)] maxLocals) t := fun t q => by
       refine k26 t ?_
       rw [hf]
       refine st27 _ ?_
       refine XS.istore X27.here hx rfl (hb hby at_85) rfl (l' := #[iv p0, iv p1, iv p2, iv p3, iv p4, iv 0, iv 0, rv b2, rv ob_24, iv 0]) rfl ?_
       refine oIl X27 hx hby at_87 rfl (oIl X27 hx hby at_89 rfl ?_)
       refine XS.icmpNo X27.here hx rfl (hb hby at_91) rfl (flt (by decide : ¬ ((0 : Int32) < (0 : Int32)))).1 ?_
       refine oIl X27 hx hby at_94 rfl (oIl X27 hx hby at_96 rfl ?_)
       refine XS.icmpYes X27.here hx rfl (pc0 := 98) (pc' := 103) rfl (hb hby at_98) rfl (flt (by decide : ¬ ((0 : Int32) < (0 : Int32)))).2.2.2 (by decide) (by decide) ?_
       refine oIl X27 hx hby at_103 rfl (oIl X27 hx hby at_105 rfl ?_)
       refine XS.icmpYes X27.here hx rfl (pc0 := 107) (pc' := 123) rfl (hb hby at_107) rfl (flt (by decide : ¬ ((0 : Int32) < (0 : Int32)))).2.1 (by decide) (by decide) ?_
       exact q
      obtain ⟨s31, o31, ja31, jb31, jc31, v31, L31, rfl, ⟨hv31, jN31, jh31, -⟩, jF31⟩ := sgT l Z a0 hw p0 p1 p2 p3 p4 (0 : Int32) (0 : Int32) b2 ob_24 (0 : Int32) k2 (rr_3.toUInt32.toUInt16.toUInt32.toInt32) (rr_7.toUInt32.toUInt16.toUInt32.toInt32) (rr_11.toUInt32.toUInt16.toUInt32.toInt32) (rr_15.toUInt32.toUInt16.toUInt32.toInt32) T24.heap n0 (Nat.le_trans (Nat.le_trans (Nat.le_trans (Nat.le_trans (Nat.le_trans (Nat.le_trans Z0 E2.1) (Keep.of_wr W6).1) (Keep.of_wr W10).1) (Keep.of_wr W14).1) (Keep.of_wr W18).1) K24.1) f29 (own_ok2 (by decide)) (own_ok2 (by decide)) (own_ok2 (by decide)) (own_ok2 (by decide)) (own_more X27 (by decide) (by decide)) hx hZ24 hby hml hown24 Bd.returns Bd.notSynchronized e27 N27 hS24 hk24 Hc24 Rc24 hh
      exact ⟨s31, _, k30 _ ja31, jb31, jc31, v31, L31, rfl, ⟨hv31.trans rfl, jN31, trivial⟩, jF31⟩
  · obtain ⟨T32, h32, k32, X32, e32, E32, A32, EA32, st32⟩ := newPE X0 hx hZ (own_at hw 1 rfl) e0 (g := (mkF m 22 #[iv p0, iv p1, iv p2, iv p3, iv p4, iv 1, iv ((((p0.toUInt32 >>> ((3 : Int32) &&& 31).toUInt32).toInt32) &&& (2147483647 : Int32)) % (2 : Int32)), .unset, .unset, .unset] [(.int 4)])) rfl (hb hby at_22) rfl (by decide) (cap := 4) (by decide) (by decide) (by decide) (by decide) (ad := "[C") (by decide)
    obtain ⟨b32, g32⟩ : ∃ z, z = h0.size := ⟨_, rfl⟩
    rw [← g32] at A32 EA32 st32
    have g_b32 : n0 ≤ b32 := Nat.le_trans Z0 (Nat.le_of_eq g32.symm)
    have sz_b32 : h0.size ≤ b32 := Nat.le_trans (Keep.refl h0 []).1 (Nat.le_of_eq g32.symm)
    have Hc32 := CHv.ext E32 H0c
    have Rc32 := R0c.trans (CHr.ext E32 H0c)
    have hk32 := Nat.le_trans hk0 E32.1
    have Sf32_b32 := Safe.ext (EL := own_EL) E32 H0c (Safe.new (Nat.le_of_eq g32.symm))
    have V_b32 : Arv Z h32 b32 k32 .char (4 : Int32) [(.int 0), (.int 0), (.int 0), (.int 0)] (.int 0) := (Arv.new A32 (by decide)).pad (pad_rep [] (.int 0) 4)
    obtain ⟨_, T33, L33, X33, hQ33, st33⟩ := own_cS 3 (rmDr l Z a0 hw [] p1 h32 n0 (Nat.le_trans Z0 E32.1) ) X32 hx hZ hown hw 2 3 4 5 rfl rfl rfl rfl 27 #[iv p0, iv p1, iv p2, iv p3, iv p4, iv 1, iv ((((p0.toUInt32 >>> ((3 : Int32) &&& 31).toUInt32).toInt32) &&& (2147483647 : Int32)) % (2 : Int32)), .unset, .unset, .unset] [(.int p1)] [(.int 0), (.ref b32), (.ref b32)] (hb hby at_27) hml (lenOf pd_17 rfl) e32 rfl (Nat.le_refl _) (by decide)
    obtain ⟨rr_33, rfl, N33q, e33, p33_0⟩ := hQ33
    have N33 := Fr.app N0 N33q
    obtain ⟨cl_z34, Ar_z34, q_z34, S_z34, N_z34, H_z34, G_z34⟩ := id V_b32
    have hin35 : ¬ ((0 : Int32) < 0 ∨ cl_z34.slots.size ≤ ((0 : Int32)).toNatClampNeg) := inb_of S_z34 ⟨by decide, by decide⟩
    obtain ⟨T36, h36, X36, e36, W36, st36⟩ := stC X33 hx hZ e33 Ar_z34 (j := (0 : Int32)) hin35 (g := (mkF m 30 #[iv p0, iv p1, iv p2, iv p3, iv p4, iv 1, iv ((((p0.toUInt32 >>> ((3 : Int32) &&& 31).toUInt32).toInt32) &&& (2147483647 : Int32)) % (2 : Int32)), .unset, .unset, .unset] [(.int rr_33), (.int 0), (.ref b32), (.ref b32)])) rfl rfl (hb hby at_30)
    have Hc36 := CHv.wr W36 Sf32_b32 Hc32
    have Rc36 := Rc32.trans (CHr.wr W36 Sf32_b32 Hc32)
    have hk36 := Nat.le_trans hk32 (Keep.of_wr W36).1
    have Sf36_b32 := Safe.wr W36 Sf32_b32 Hc32 Sf32_b32
    have V36 : Arv Z h36 b32 k32 .char (4 : Int32) [(.int (rr_33.toUInt32.toUInt16.toUInt32.toInt32)), (.int 0), (.int 0), (.int 0)] (.int 0) := Arv.set Ar_z34 q_z34 S_z34 N_z34 H_z34 G_z34 (fits_nar_char _) W36 0 rfl (Nat.le_of_ble_eq_true rfl)
    have N36 := Fr.snoc X36 N33 g_b32
    obtain ⟨_, T37, L37, X37, hQ37, st37⟩ := own_cS 3 (rmDr l Z a0 hw [] p2 h36 n0 (Nat.le_trans (Nat.le_trans Z0 E32.1) (Keep.of_wr W36).1) ) X36 hx hZ hown hw 2 3 4 5 rfl rfl rfl rfl 34 #[iv p0, iv p1, iv p2, iv p3, iv p4, iv 1, iv ((((p0.toUInt32 >>> ((3 : Int32) &&& 31).toUInt32).toInt32) &&& (2147483647 : Int32)) % (2 : Int32)), .unset, .unset, .unset] [(.int p2)] [(.int 1), (.ref b32), (.ref b32)] (hb hby at_34) hml (lenOf pd_17 rfl) e36 rfl (Nat.le_refl _) (by decide)
    obtain ⟨rr_37, rfl, N37q, e37, p37_0⟩ := hQ37
    have N37 := Fr.app N36 N37q
    obtain ⟨cl_z38, Ar_z38, q_z38, S_z38, N_z38, H_z38, G_z38⟩ := id V36
    have hin39 : ¬ ((1 : Int32) < 0 ∨ cl_z38.slots.size ≤ ((1 : Int32)).toNatClampNeg) := inb_of S_z38 ⟨by decide, by decide⟩
    obtain ⟨T40, h40, X40, e40, W40, st40⟩ := stC X37 hx hZ e37 Ar_z38 (j := (1 : Int32)) hin39 (g := (mkF m 37 #[iv p0, iv p1, iv p2, iv p3, iv p4, iv 1, iv ((((p0.toUInt32 >>> ((3 : Int32) &&& 31).toUInt32).toInt32) &&& (2147483647 : Int32)) % (2 : Int32)), .unset, .unset, .unset] [(.int rr_37), (.int 1), (.ref b32), (.ref b32)])) rfl rfl (hb hby at_37)
    have Hc40 := CHv.wr W40 Sf36_b32 Hc36
    have Rc40 := Rc36.trans (CHr.wr W40 Sf36_b32 Hc36)
    have hk40 := Nat.le_trans hk36 (Keep.of_wr W40).1
    have Sf40_b32 := Safe.wr W40 Sf36_b32 Hc36 Sf36_b32
    have V40 : Arv Z h40 b32 k32 .char (4 : Int32) [(.int (rr_33.toUInt32.toUInt16.toUInt32.toInt32)), (.int (rr_37.toUInt32.toUInt16.toUInt32.toInt32)), (.int 0), (.int 0)] (.int 0) := Arv.set Ar_z38 q_z38 S_z38 N_z38 H_z38 G_z38 (fits_nar_char _) W40 1 rfl (Nat.le_of_ble_eq_true rfl)
    have N40 := Fr.snoc X40 N37 g_b32
    obtain ⟨_, T41, L41, X41, hQ41, st41⟩ := own_cS 3 (rmDr l Z a0 hw [] p3 h40 n0 (Nat.le_trans (Nat.le_trans (Nat.le_trans Z0 E32.1) (Keep.of_wr W36).1) (Keep.of_wr W40).1) ) X40 hx hZ hown hw 2 3 4 5 rfl rfl rfl rfl 41 #[iv p0, iv p1, iv p2, iv p3, iv p4, iv 1, iv ((((p0.toUInt32 >>> ((3 : Int32) &&& 31).toUInt32).toInt32) &&& (2147483647 : Int32)) % (2 : Int32)), .unset, .unset, .unset] [(.int p3)] [(.int 2), (.ref b32), (.ref b32)] (hb hby at_41) hml (lenOf pd_17 rfl) e40 rfl (Nat.le_refl _) (by decide)
    obtain ⟨rr_41, rfl, N41q, e41, p41_0⟩ := hQ41
    have N41 := Fr.app N40 N41q
    obtain ⟨cl_z42, Ar_z42, q_z42, S_z42, N_z42, H_z42, G_z42⟩ := id V40
    have hin43 : ¬ ((2 : Int32) < 0 ∨ cl_z42.slots.size ≤ ((2 : Int32)).toNatClampNeg) := inb_of S_z42 ⟨by decide, by decide⟩
    obtain ⟨T44, h44, X44, e44, W44, st44⟩ := stC X41 hx hZ e41 Ar_z42 (j := (2 : Int32)) hin43 (g := (mkF m 44 #[iv p0, iv p1, iv p2, iv p3, iv p4, iv 1, iv ((((p0.toUInt32 >>> ((3 : Int32) &&& 31).toUInt32).toInt32) &&& (2147483647 : Int32)) % (2 : Int32)), .unset, .unset, .unset] [(.int rr_41), (.int 2), (.ref b32), (.ref b32)])) rfl rfl (hb hby at_44)
    have Hc44 := CHv.wr W44 Sf40_b32 Hc40
    have Rc44 := Rc40.trans (CHr.wr W44 Sf40_b32 Hc40)
    have hk44 := Nat.le_trans hk40 (Keep.of_wr W44).1
    have Sf44_b32 := Safe.wr W44 Sf40_b32 Hc40 Sf40_b32
    have V44 : Arv Z h44 b32 k32 .char (4 : Int32) [(.int (rr_33.toUInt32.toUInt16.toUInt32.toInt32)), (.int (rr_37.toUInt32.toUInt16.toUInt32.toInt32)), (.int (rr_41.toUInt32.toUInt16.toUInt32.toInt32)), (.int 0)] (.int 0) := Arv.set Ar_z42 q_z42 S_z42 N_z42 H_z42 G_z42 (fits_nar_char _) W44 2 rfl (Nat.le_of_ble_eq_true rfl)
    have N44 := Fr.snoc X44 N41 g_b32
    obtain ⟨_, T45, L45, X45, hQ45, st45⟩ := own_cS 3 (rmDr l Z a0 hw [] p4 h44 n0 (Nat.le_trans (Nat.le_trans (Nat.le_trans (Nat.le_trans Z0 E32.1) (Keep.of_wr W36).1) (Keep.of_wr W40).1) (Keep.of_wr W44).1) ) X44 hx hZ hown hw 2 3 4 5 rfl rfl rfl rfl 49 #[iv p0, iv p1, iv p2, iv p3, iv p4, iv 1, iv ((((p0.toUInt32 >>> ((3 : Int32) &&& 31).toUInt32).toInt32) &&& (2147483647 : Int32)) % (2 : Int32)), .unset, .unset, .unset] [(.int p4)] [(.int 3), (.ref b32), (.ref b32)] (hb hby at_49) hml (lenOf pd_17 rfl) e44 rfl (Nat.le_refl _) (by decide)
    obtain ⟨rr_45, rfl, N45q, e45, p45_0⟩ := hQ45
    have N45 := Fr.app N44 N45q
    obtain ⟨cl_z46, Ar_z46, q_z46, S_z46, N_z46, H_z46, G_z46⟩ := id V44
    have hin47 : ¬ ((3 : Int32) < 0 ∨ cl_z46.slots.size ≤ ((3 : Int32)).toNatClampNeg) := inb_of S_z46 ⟨by decide, by decide⟩
    obtain ⟨T48, h48, X48, e48, W48, st48⟩ := stC X45 hx hZ e45 Ar_z46 (j := (3 : Int32)) hin47 (g := (mkF m 52 #[iv p0, iv p1, iv p2, iv p3, iv p4, iv 1, iv ((((p0.toUInt32 >>> ((3 : Int32) &&& 31).toUInt32).toInt32) &&& (2147483647 : Int32)) % (2 : Int32)), .unset, .unset, .unset] [(.int rr_45), (.int 3), (.ref b32), (.ref b32)])) rfl rfl (hb hby at_52)
    have Hc48 := CHv.wr W48 Sf44_b32 Hc44
    have Rc48 := Rc44.trans (CHr.wr W48 Sf44_b32 Hc44)
    have hk48 := Nat.le_trans hk44 (Keep.of_wr W48).1
    have Sf48_b32 := Safe.wr W48 Sf44_b32 Hc44 Sf44_b32
    have V48 : Arv Z h48 b32 k32 .char (4 : Int32) [(.int (rr_33.toUInt32.toUInt16.toUInt32.toInt32)), (.int (rr_37.toUInt32.toUInt16.toUInt32.toInt32)), (.int (rr_41.toUInt32.toUInt16.toUInt32.toInt32)), (.int (rr_45.toUInt32.toUInt16.toUInt32.toInt32))] (.int 0) := Arv.set Ar_z46 q_z46 S_z46 N_z46 H_z46 G_z46 (fits_nar_char _) W48 3 rfl (Nat.le_of_ble_eq_true rfl)
    have N48 := Fr.snoc X48 N45 g_b32
    obtain ⟨cl_z49, Ar_z49, q_z49, S_z49, N_z49, H_z49, G_z49⟩ := id V48
    have hin50 : ¬ ((0 : Int32) < 0 ∨ cl_z49.slots.size ≤ ((0 : Int32)).toNatClampNeg) := inb_of S_z49 ⟨by decide, by decide⟩
    have hin51 : ¬ ((1 : Int32) < 0 ∨ cl_z49.slots.size ≤ ((1 : Int32)).toNatClampNeg) := inb_of S_z49 ⟨by decide, by decide⟩
    have hin52 : ¬ ((2 : Int32) < 0 ∨ cl_z49.slots.size ≤ ((2 : Int32)).toNatClampNeg) := inb_of S_z49 ⟨by decide, by decide⟩
    have hin53 : ¬ ((3 : Int32) < 0 ∨ cl_z49.slots.size ≤ ((3 : Int32)).toNatClampNeg) := inb_of S_z49 ⟨by decide, by decide⟩
    have f55 := (((((S_CS.ext E32).wr W36).wr W40).wr W44).wr W48)
    have f56 := (((((S_AD.ext E32).wr W36).wr W40).wr W44).wr W48)
    have f57 := (((((S_HI.ext E32).wr W36).wr W40).wr W44).wr W48)
    have f58 := (((((S_LO.ext E32).wr W36).wr W40).wr W44).wr W48)
    obtain ⟨_, T54, L54, X54, hQ54, st54⟩ := own_cS 0 (rmTx_1 l Z a0 hw [] (rr_33.toUInt32.toUInt16.toUInt32.toInt32) (rr_37.toUInt32.toUInt16.toUInt32.toInt32) (rr_41.toUInt32.toUInt16.toUInt32.toInt32) (rr_45.toUInt32.toUInt16.toUInt32.toInt32) w_CS h48 n0 (Nat.le_trans (Nat.le_trans (Nat.le_trans (Nat.le_trans (Nat.le_trans Z0 E32.1) (Keep.of_wr W36).1) (Keep.of_wr W40).1) (Keep.of_wr W44).1) (Keep.of_wr W48).1) f55 hcs f56 f57 f58 (own_chc _)) X48 hx hZ hown hw 7 8 4 9 rfl rfl rfl rfl 73 #[iv p0, iv p1, iv p2, iv p3, iv p4, iv 1, iv ((((p0.toUInt32 >>> ((3 : Int32) &&& 31).toUInt32).toInt32) &&& (2147483647 : Int32)) % (2 : Int32)), rv b32, .unset, .unset] [(.int 1), (.int (rr_33.toUInt32.toUInt16.toUInt32.toInt32)), (.int (rr_37.toUInt32.toUInt16.toUInt32.toInt32)), (.int (rr_41.toUInt32.toUInt16.toUInt32.toInt32)), (.int (rr_45.toUInt32.toUInt16.toUInt32.toInt32))] [] (hb hby at_73) hml (lenOf pd_19 rfl) e48 rfl (Nat.le_refl _) (by decide)
    have f59 := ((((EA32.wr W36).wr W40).wr W44).wr W48)
    obtain ⟨ob_54, rfl, N54q, K54, p54_0, p54_1, p54_2⟩ := hQ54
    have Hc54 := CHv.keep K54 sf0 Hc48
    have Rc54 := Rc48.trans (CHr.keep K54 sf0 Hc48)
    have hk54 := Nat.le_trans hk48 K54.1
    have Sf54_b32 := Safe.keep K54 sf0 Hc48 Sf48_b32
    have g_ob_54 : n0 ≤ ob_54 := Nat.le_trans (Nat.le_trans (Nat.le_trans (Nat.le_trans (Nat.le_trans (Nat.le_trans Z0 E32.1) (Keep.of_wr W36).1) (Keep.of_wr W40).1) (Keep.of_wr W44).1) (Keep.of_wr W48).1) p54_0
    have sz_ob_54 : h0.size ≤ ob_54 := Nat.le_trans ((((((Keep.refl h0 []).ext E32).wr W36 (Or.inr sz_b32)).wr W40 (Or.inr sz_b32)).wr W44 (Or.inr sz_b32)).wr W48 (Or.inr sz_b32)).1 p54_0
    have N54 := Fr.app N48 N54q
    have k60 : ∀ t, OwnS p e below T54 (mkF m 82 #[iv p0, iv p1, iv p2, iv p3, iv p4, iv 1, iv ((((p0.toUInt32 >>> ((3 : Int32) &&& 31).toUInt32).toInt32) &&& (2147483647 : Int32)) % (2 : Int32)), rv b32, rv ob_54, .unset] [(.int ((((p0.toUInt32 >>> ((3 : Int32) &&& 31).toUInt32).toInt32) &&& (2147483647 : Int32)) % (2 : Int32))), (.ref ob_54)]) t → OwnS p e below s₁ (entryFrame m #[(.int p0), (.int p1), (.int p2), (.int p3), (.int p4)] maxLocals) t := fun t q => by
     refine k1 t ?_
     rw [hn]
     refine XS.istore X0.here hx rfl (hb hby at_6) rfl (l' := #[iv p0, iv p1, iv p2, iv p3, iv p4, iv 1, .unset, .unset, .unset, .unset]) rfl ?_
     refine oIn X0 hx hby at_8 rfl (oIc X0 hx hby at_9 ?_)
     refine XS.iushr X0.here hx rfl (hb hby at_10) rfl ?_
     refine X0.ldcInt hx hown (mvT hZ (own_at hw 0 rfl)) (g := (mkF m 11 #[iv p0, iv p1, iv p2, iv p3, iv p4, iv 1, .unset, .unset, .unset, .unset] [(.int ((p0.toUInt32 >>> ((3 : Int32) &&& 31).toUInt32).toInt32))])) rfl (hb hby at_11) _ ?_
     refine XS.iand X0.here hx rfl (hb hby at_13) rfl ?_
     refine oIl X0 hx hby at_14 rfl (oIc X0 hx hby at_16 ?_)
     refine XS.iadd X0.here hx rfl (hb hby at_17) rfl ?_
     refine iremM X0 hx (g := (mkF m 18 #[iv p0, iv p1, iv p2, iv p3, iv p4, iv 1, .unset, .unset, .unset, .unset] [(.int 2), (.int (((p0.toUInt32 >>> ((3 : Int32) &&& 31).toUInt32).toInt32) &&& (2147483647 : Int32)))])) rfl (hb hby at_18) rfl (by decide) ?_
     refine XS.istore X0.here hx rfl (hb hby at_19) rfl (l' := #[iv p0, iv p1, iv p2, iv p3, iv p4, iv 1, iv ((((p0.toUInt32 >>> ((3 : Int32) &&& 31).toUInt32).toInt32) &&& (2147483647 : Int32)) % (2 : Int32)), .unset, .unset, .unset]) rfl ?_
     refine oIc X0 hx hby at_21 ?_
     refine st32 _ ?_
     refine XS.dup X32.here hx rfl (hb hby at_24) rfl rfl ?_
     refine oIc X32 hx hby at_25 (oIn X32 hx hby at_26 rfl ?_)
     refine st33 _ ?_
     refine st36 _ ?_
     refine XS.dup X36.here hx rfl (hb hby at_31) rfl rfl ?_
     refine oIc X36 hx hby at_32 (oIn X36 hx hby at_33 rfl ?_)
     refine st37 _ ?_
     refine st40 _ ?_
     refine XS.dup X40.here hx rfl (hb hby at_38) rfl rfl ?_
     refine oIc X40 hx hby at_39 (oIn X40 hx hby at_40 rfl ?_)
     refine st41 _ ?_
     refine st44 _ ?_
     refine XS.dup X44.here hx rfl (hb hby at_45) rfl rfl ?_
     refine oIc X44 hx hby at_46 (oIl X44 hx hby at_47 rfl ?_)
     refine st45 _ ?_
     refine st48 _ ?_
     refine XS.astore X48.here hx rfl (hb hby at_53) rfl rfl (l' := #[iv p0, iv p1, iv p2, iv p3, iv p4, iv 1, iv ((((p0.toUInt32 >>> ((3 : Int32) &&& 31).toUInt32).toInt32) &&& (2147483647 : Int32)) % (2 : Int32)), rv b32, .unset, .unset]) rfl ?_
     refine oIl X48 hx hby at_55 rfl (oAl X48 hx hby at_57 rfl rfl (oIc X48 hx hby at_59 ?_))
     refine X48.caload hx (j := (0 : Int32)) (v := (.int (rr_33.toUInt32.toUInt16.toUInt32.toInt32))) (by rw [e48]; exact Ar_z49.1) (State.isArrayOf_alike hZ.alike Ar_z49.2.1) Ar_z49.2.2 hin50 (Has.at H_z49 hin50 rfl) (g := (mkF m 60 #[iv p0, iv p1, iv p2, iv p3, iv p4, iv 1, iv ((((p0.toUInt32 >>> ((3 : Int32) &&& 31).toUInt32).toInt32) &&& (2147483647 : Int32)) % (2 : Int32)), rv b32, .unset, .unset] [(.int 0), (.ref b32), (.int 1)])) rfl rfl (hb hby at_60) _ ?_
     refine oAl X48 hx hby at_61 rfl rfl ?_
     show OwnS p e below T48 (mkF m 63 #[iv p0, iv p1, iv p2, iv p3, iv p4, iv 1, iv ((((p0.toUInt32 >>> ((3 : Int32) &&& 31).toUInt32).toInt32) &&& (2147483647 : Int32)) % (2 : Int32)), rv b32, .unset, .unset] [(.ref b32), (.int (rr_33.toUInt32.toUInt16.toUInt32.toInt32)), (.int 1)]) _
     refine oIc X48 hx hby at_63 ?_
     refine X48.caload hx (j := (1 : Int32)) (v := (.int (rr_37.toUInt32.toUInt16.toUInt32.toInt32))) (by rw [e48]; exact Ar_z49.1) (State.isArrayOf_alike hZ.alike Ar_z49.2.1) Ar_z49.2.2 hin51 (Has.at H_z49 hin51 rfl) (g := (mkF m 64 #[iv p0, iv p1, iv p2, iv p3, iv p4, iv 1, iv ((((p0.toUInt32 >>> ((3 : Int32) &&& 31).toUInt32).toInt32) &&& (2147483647 : Int32)) % (2 : Int32)), rv b32, .unset, .unset] [(.int 1), (.ref b32), (.int (rr_33.toUInt32.toUInt16.toUInt32.toInt32)), (.int 1)])) rfl rfl (hb hby at_64) _ ?_
     refine oAl X48 hx hby at_65 rfl rfl (oIc X48 hx hby at_67 ?_)
     refine X48.caload hx (j := (2 : Int32)) (v := (.int (rr_41.toUInt32.toUInt16.toUInt32.toInt32))) (by rw [e48]; exact Ar_z49.1) (State.isArrayOf_alike hZ.alike Ar_z49.2.1) Ar_z49.2.2 hin52 (Has.at H_z49 hin52 rfl) (g := (mkF m 68 #[iv p0, iv p1, iv p2, iv p3, iv p4, iv 1, iv ((((p0.toUInt32 >>> ((3 : Int32) &&& 31).toUInt32).toInt32) &&& (2147483647 : Int32)) % (2 : Int32)), rv b32, .unset, .unset] [(.int 2), (.ref b32), (.int (rr_37.toUInt32.toUInt16.toUInt32.toInt32)), (.int (rr_33.toUInt32.toUInt16.toUInt32.toInt32)), (.int 1)])) rfl rfl (hb hby at_68) _ ?_
     refine oAl X48 hx hby at_69 rfl rfl (oIc X48 hx hby at_71 ?_)
     refine X48.caload hx (j := (3 : Int32)) (v := (.int (rr_45.toUInt32.toUInt16.toUInt32.toInt32))) (by rw [e48]; exact Ar_z49.1) (State.isArrayOf_alike hZ.alike Ar_z49.2.1) Ar_z49.2.2 hin53 (Has.at H_z49 hin53 rfl) (g := (mkF m 72 #[iv p0, iv p1, iv p2, iv p3, iv p4, iv 1, iv ((((p0.toUInt32 >>> ((3 : Int32) &&& 31).toUInt32).toInt32) &&& (2147483647 : Int32)) % (2 : Int32)), rv b32, .unset, .unset] [(.int 3), (.ref b32), (.int (rr_41.toUInt32.toUInt16.toUInt32.toInt32)), (.int (rr_37.toUInt32.toUInt16.toUInt32.toInt32)), (.int (rr_33.toUInt32.toUInt16.toUInt32.toInt32)), (.int 1)])) rfl rfl (hb hby at_72) _ ?_
     refine st54 _ ?_
     refine XS.astore X54.here hx rfl (hb hby at_76) rfl rfl (l' := #[iv p0, iv p1, iv p2, iv p3, iv p4, iv 1, iv ((((p0.toUInt32 >>> ((3 : Int32) &&& 31).toUInt32).toInt32) &&& (2147483647 : Int32)) % (2 : Int32)), rv b32, rv ob_54, .unset]) rfl ?_
     refine oAl X54 hx hby at_78 rfl rfl (oIl X54 hx hby at_80 rfl ?_)
     exact q
    rcases own_mod2 ((p0.toUInt32 >>> ((3 : Int32) &&& 31).toUInt32).toInt32) with hf | hf
    · have f62 := (own_sta_keep f55 K54 all0)
      have f63 := (own_sta_keep (((((S_F.ext E32).wr W36).wr W40).wr W44).wr W48) K54 all0)
      have f64 := (own_sta_keep f56 K54 all0)
      have f65 := (own_sta_keep f57 K54 all0)
      have f66 := (own_sta_keep f58 K54 all0)
      obtain ⟨_, T61, L61, X61, hQ61, st61⟩ := own_cS 0 (rmSk_1_0 l Z a0 hw [] ob_54 w_CS w_F (rr_33.toUInt32.toUInt16.toUInt32.toInt32) T54.heap n0 (Nat.le_trans (Nat.le_trans (Nat.le_trans (Nat.le_trans (Nat.le_trans (Nat.le_trans Z0 E32.1) (Keep.of_wr W36).1) (Keep.of_wr W40).1) (Keep.of_wr W44).1) (Keep.of_wr W48).1) K54.1) f62 hcs f63 hwF f64 f65 f66 p54_2 (own_chc _) p54_1) X54 hx hZ hown hw 31 32 33 34 rfl rfl rfl rfl 82 #[iv p0, iv p1, iv p2, iv p3, iv p4, iv 1, iv 0, rv b32, rv ob_54, .unset] [(.ref ob_54), (.int 0)] [] (hb hby at_82) hml (lenOf pd_20 rfl) rfl rfl (Nat.le_refl _) (by decide)
      obtain ⟨rfl, N61q, e61⟩ := hQ61
      have N61 := Fr.app N54 N61q
      have k67 : ∀ t, OwnS p e below T61 (mkF m 85 #[iv p0, iv p1, iv p2, iv p3, iv p4, iv 1, iv 0, rv b32, rv ob_54, .unset] [(.int (own_sk1_0 (rr_33.toUInt32.toUInt16.toUInt32.toInt32)))]) t → OwnS p e below s₁ (entryFrame m #[(.int p0), (.int p1), (.int p2), (.int p3), (.int p4)] maxLocals) t := fun t q => by
       refine k60 t ?_
       rw [hf]
       refine st61 _ ?_
       exact q
      rcases own_kc1_0 (rr_33.toUInt32.toUInt16.toUInt32.toInt32) with ⟨hs0, hr⟩ | ⟨hs0, hr⟩
      · have f68 := (V48.keep K54 nin0)
        have k69 : ∀ t, OwnS p e below T61 (mkF m 110 #[iv p0, iv p1, iv p2, iv p3, iv p4, iv 1, iv 0, rv b32, rv ob_54, iv 0] []) t → OwnS p e below s₁ (entryFrame m #[(.int p0), (.int p1), (.int p2), (.int p3), (.int p4)] maxLocals) t := fun t q => by
         refine k67 t ?_
         rw [hr]
         refine XS.istore X61.here hx rfl (hb hby at_85) rfl (l' := #[iv p0, iv p1, iv p2, iv p3, iv p4, iv 1, iv 0, rv b32, rv ob_54, iv 0]) rfl ?_
         refine oIl X61 hx hby at_87 rfl (oIl X61 hx hby at_89 rfl ?_)
         refine XS.icmpNo X61.here hx rfl (hb hby at_91) rfl (flt (by decide : ¬ ((0 : Int32) < (0 : Int32)))).1 ?_
         refine oIl X61 hx hby at_94 rfl (oIl X61 hx hby at_96 rfl ?_)
         refine XS.icmpYes X61.here hx rfl (pc0 := 98) (pc' := 103) rfl (hb hby at_98) rfl (flt (by decide : ¬ ((1 : Int32) < (0 : Int32)))).2.2.2 (by decide) (by decide) ?_
         refine oIl X61 hx hby at_103 rfl (oIl X61 hx hby at_105 rfl ?_)
         refine XS.icmpNo X61.here hx rfl (hb hby at_107) rfl (tlt (by decide : (0 : Int32) < (1 : Int32))).2.1 ?_
         exact q
        obtain ⟨s70, o70, ja70, jb70, jc70, v70, L70, rfl, ⟨hv70, jN70, jh70, -⟩, jF70⟩ := sgW0 l Z a0 hw p0 p1 p2 p3 p4 (1 : Int32) (0 : Int32) b32 ob_54 k32 (rr_33.toUInt32.toUInt16.toUInt32.toInt32) (rr_37.toUInt32.toUInt16.toUInt32.toInt32) (rr_41.toUInt32.toUInt16.toUInt32.toInt32) (rr_45.toUInt32.toUInt16.toUInt32.toInt32) T54.heap n0 (Nat.le_trans (Nat.le_trans (Nat.le_trans (Nat.le_trans (Nat.le_trans (Nat.le_trans Z0 E32.1) (Keep.of_wr W36).1) (Keep.of_wr W40).1) (Keep.of_wr W44).1) (Keep.of_wr W48).1) K54.1) f68 (own_ok2 (by decide)) (own_ok2 (by decide)) (own_ok2 (by decide)) (own_ok2 (by decide)) hs0 (own_more X61 (by decide) (by decide)) hx hZ hby hml hown Bd.returns Bd.notSynchronized e61 N61 hS0 hk54 Hc54 Rc54 hh
        exact ⟨s70, _, k69 _ ja70, jb70, jc70, v70, L70, rfl, ⟨hv70.trans rfl, jN70, trivial⟩, jF70⟩
      · have f71 := (V48.keep K54 nin0)
        have k72 : ∀ t, OwnS p e below T61 (mkF m 123 #[iv p0, iv p1, iv p2, iv p3, iv p4, iv 1, iv 0, rv b32, rv ob_54, iv 1] []) t → OwnS p e below s₁ (entryFrame m #[(.int p0), (.int p1), (.int p2), (.int p3), (.int p4)] maxLocals) t := fun t q => by
         refine k67 t ?_
         rw [hr]
         refine XS.istore X61.here hx rfl (hb hby at_85) rfl (l' := #[iv p0, iv p1, iv p2, iv p3, iv p4, iv 1, iv 0, rv b32, rv ob_54, iv 1]) rfl ?_
         refine oIl X61 hx hby at_87 rfl (oIl X61 hx hby at_89 rfl ?_)
         refine XS.icmpNo X61.here hx rfl (hb hby at_91) rfl (flt (by decide : ¬ ((1 : Int32) < (0 : Int32)))).1 ?_
         refine oIl X61 hx hby at_94 rfl (oIl X61 hx hby at_96 rfl ?_)
         refine XS.icmpYes X61.here hx rfl (pc0 := 98) (pc' := 103) rfl (hb hby at_98) rfl (flt (by decide : ¬ ((1 : Int32) < (1 : Int32)))).2.2.2 (by decide) (by decide) ?_
         refine oIl X61 hx hby at_103 rfl (oIl X61 hx hby at_105 rfl ?_)
         refine XS.icmpYes X61.here hx rfl (pc0 := 107) (pc' := 123) rfl (hb hby at_107) rfl (flt (by decide : ¬ ((1 : Int32) < (1 : Int32)))).2.1 (by decide) (by decide) ?_
         exact q
        obtain ⟨s73, o73, ja73, jb73, jc73, v73, L73, rfl, ⟨hv73, jN73, jh73, -⟩, jF73⟩ := sgT l Z a0 hw p0 p1 p2 p3 p4 (1 : Int32) (0 : Int32) b32 ob_54 (1 : Int32) k32 (rr_33.toUInt32.toUInt16.toUInt32.toInt32) (rr_37.toUInt32.toUInt16.toUInt32.toInt32) (rr_41.toUInt32.toUInt16.toUInt32.toInt32) (rr_45.toUInt32.toUInt16.toUInt32.toInt32) T54.heap n0 (Nat.le_trans (Nat.le_trans (Nat.le_trans (Nat.le_trans (Nat.le_trans (Nat.le_trans Z0 E32.1) (Keep.of_wr W36).1) (Keep.of_wr W40).1) (Keep.of_wr W44).1) (Keep.of_wr W48).1) K54.1) f71 (own_ok4 hs0) (own_ok2 (by decide)) (own_ok2 (by decide)) (own_ok2 (by decide)) (own_more X61 (by decide) (by decide)) hx hZ hby hml hown Bd.returns Bd.notSynchronized e61 N61 hS0 hk54 Hc54 Rc54 hh
        exact ⟨s73, _, k72 _ ja73, jb73, jc73, v73, L73, rfl, ⟨hv73.trans rfl, jN73, trivial⟩, jF73⟩
    · have f75 := (own_sta_keep f55 K54 all0)
      have f76 := (own_sta_keep (((((S_F.ext E32).wr W36).wr W40).wr W44).wr W48) K54 all0)
      have f77 := (own_sta_keep f56 K54 all0)
      have f78 := (own_sta_keep f57 K54 all0)
      have f79 := (own_sta_keep f58 K54 all0)
      obtain ⟨_, T74, L74, X74, hQ74, st74⟩ := own_cS 0 (rmSk_1_1 l Z a0 hw [] ob_54 w_CS w_F (rr_33.toUInt32.toUInt16.toUInt32.toInt32) T54.heap n0 (Nat.le_trans (Nat.le_trans (Nat.le_trans (Nat.le_trans (Nat.le_trans (Nat.le_trans Z0 E32.1) (Keep.of_wr W36).1) (Keep.of_wr W40).1) (Keep.of_wr W44).1) (Keep.of_wr W48).1) K54.1) f75 hcs f76 hwF f77 f78 f79 p54_2 (own_chc _) p54_1) X54 hx hZ hown hw 31 32 33 34 rfl rfl rfl rfl 82 #[iv p0, iv p1, iv p2, iv p3, iv p4, iv 1, iv 1, rv b32, rv ob_54, .unset] [(.ref ob_54), (.int 1)] [] (hb hby at_82) hml (lenOf pd_20 rfl) rfl rfl (Nat.le_refl _) (by decide)
      obtain ⟨rfl, N74q, e74⟩ := hQ74
      have N74 := Fr.app N54 N74q
      have k80 : ∀ t, OwnS p e below T74 (mkF m 85 #[iv p0, iv p1, iv p2, iv p3, iv p4, iv 1, iv 1, rv b32, rv ob_54, .unset] [(.int (own_sk1_1 (rr_33.toUInt32.toUInt16.toUInt32.toInt32)))]) t → OwnS p e below s₁ (entryFrame m #[(.int p0), (.int p1), (.int p2), (.int p3), (.int p4)] maxLocals) t := fun t q => by
       refine k60 t ?_
       rw [hf]
       refine st74 _ ?_
       exact q
      rcases own_kc1_1 (rr_33.toUInt32.toUInt16.toUInt32.toInt32) with hr
      · have f81 := (V48.keep K54 nin0)
        have k82 : ∀ t, OwnS p e below T74 (mkF m 123 #[iv p0, iv p1, iv p2, iv p3, iv p4, iv 1, iv 1, rv b32, rv ob_54, iv 1] []) t → OwnS p e below s₁ (entryFrame m #[(.int p0), (.int p1), (.int p2), (.int p3), (.int p4)] maxLocals) t := fun t q => by
         refine k80 t ?_
         rw [hr]
         refine XS.istore X74.here hx rfl (hb hby at_85) rfl (l' := #[iv p0, iv p1, iv p2, iv p3, iv p4, iv 1, iv 1, rv b32, rv ob_54, iv 1]) rfl ?_
         refine oIl X74 hx hby at_87 rfl (oIl X74 hx hby at_89 rfl ?_)
         refine XS.icmpNo X74.here hx rfl (hb hby at_91) rfl (flt (by decide : ¬ ((1 : Int32) < (1 : Int32)))).1 ?_
         refine oIl X74 hx hby at_94 rfl (oIl X74 hx hby at_96 rfl ?_)
         refine XS.icmpYes X74.here hx rfl (pc0 := 98) (pc' := 103) rfl (hb hby at_98) rfl (flt (by decide : ¬ ((1 : Int32) < (1 : Int32)))).2.2.2 (by decide) (by decide) ?_
         refine oIl X74 hx hby at_103 rfl (oIl X74 hx hby at_105 rfl ?_)
         refine XS.icmpYes X74.here hx rfl (pc0 := 107) (pc' := 123) rfl (hb hby at_107) rfl (flt (by decide : ¬ ((1 : Int32) < (1 : Int32)))).2.1 (by decide) (by decide) ?_
         exact q
        obtain ⟨s83, o83, ja83, jb83, jc83, v83, L83, rfl, ⟨hv83, jN83, jh83, -⟩, jF83⟩ := sgT l Z a0 hw p0 p1 p2 p3 p4 (1 : Int32) (1 : Int32) b32 ob_54 (1 : Int32) k32 (rr_33.toUInt32.toUInt16.toUInt32.toInt32) (rr_37.toUInt32.toUInt16.toUInt32.toInt32) (rr_41.toUInt32.toUInt16.toUInt32.toInt32) (rr_45.toUInt32.toUInt16.toUInt32.toInt32) T54.heap n0 (Nat.le_trans (Nat.le_trans (Nat.le_trans (Nat.le_trans (Nat.le_trans (Nat.le_trans Z0 E32.1) (Keep.of_wr W36).1) (Keep.of_wr W40).1) (Keep.of_wr W44).1) (Keep.of_wr W48).1) K54.1) f81 (own_ok1 (by decide)) (own_ok2 (by decide)) (own_ok2 (by decide)) (own_ok2 (by decide)) (own_more X74 (by decide) (by decide)) hx hZ hby hml hown Bd.returns Bd.notSynchronized e74 N74 hS0 hk54 Hc54 Rc54 hh
        exact ⟨s83, _, k82 _ ja83, jb83, jc83, v83, L83, rfl, ⟨hv83.trans rfl, jN83, trivial⟩, jF83⟩
  · obtain ⟨T84, h84, k84, X84, e84, E84, A84, EA84, st84⟩ := newPE X0 hx hZ (own_at hw 1 rfl) e0 (g := (mkF m 22 #[iv p0, iv p1, iv p2, iv p3, iv p4, iv 2, iv ((((p0.toUInt32 >>> ((3 : Int32) &&& 31).toUInt32).toInt32) &&& (2147483647 : Int32)) % (3 : Int32)), .unset, .unset, .unset] [(.int 4)])) rfl (hb hby at_22) rfl (by decide) (cap := 4) (by decide) (by decide) (by decide) (by decide) (ad := "[C") (by decide)
    obtain ⟨b84, g84⟩ : ∃ z, z = h0.size := ⟨_, rfl⟩
    rw [← g84] at A84 EA84 st84
    have g_b84 : n0 ≤ b84 := Nat.le_trans Z0 (Nat.le_of_eq g84.symm)
    have sz_b84 : h0.size ≤ b84 := Nat.le_trans (Keep.refl h0 []).1 (Nat.le_of_eq g84.symm)
    have Hc84 := CHv.ext E84 H0c
    have Rc84 := R0c.trans (CHr.ext E84 H0c)
    have hk84 := Nat.le_trans hk0 E84.1
    have Sf84_b84 := Safe.ext (EL := own_EL) E84 H0c (Safe.new (Nat.le_of_eq g84.symm))
    have V_b84 : Arv Z h84 b84 k84 .char (4 : Int32) [(.int 0), (.int 0), (.int 0), (.int 0)] (.int 0) := (Arv.new A84 (by decide)).pad (pad_rep [] (.int 0) 4)
    obtain ⟨_, T85, L85, X85, hQ85, st85⟩ := own_cS 3 (rmDr l Z a0 hw [] p1 h84 n0 (Nat.le_trans Z0 E84.1) ) X84 hx hZ hown hw 2 3 4 5 rfl rfl rfl rfl 27 #[iv p0, iv p1, iv p2, iv p3, iv p4, iv 2, iv ((((p0.toUInt32 >>> ((3 : Int32) &&& 31).toUInt32).toInt32) &&& (2147483647 : Int32)) % (3 : Int32)), .unset, .unset, .unset] [(.int p1)] [(.int 0), (.ref b84), (.ref b84)] (hb hby at_27) hml (lenOf pd_17 rfl) e84 rfl (Nat.le_refl _) (by decide)
    obtain ⟨rr_85, rfl, N85q, e85, p85_0⟩ := hQ85
    have N85 := Fr.app N0 N85q
    obtain ⟨cl_z86, Ar_z86, q_z86, S_z86, N_z86, H_z86, G_z86⟩ := id V_b84
    have hin87 : ¬ ((0 : Int32) < 0 ∨ cl_z86.slots.size ≤ ((0 : Int32)).toNatClampNeg) := inb_of S_z86 ⟨by decide, by decide⟩
    obtain ⟨T88, h88, X88, e88, W88, st88⟩ := stC X85 hx hZ e85 Ar_z86 (j := (0 : Int32)) hin87 (g := (mkF m 30 #[iv p0, iv p1, iv p2, iv p3, iv p4, iv 2, iv ((((p0.toUInt32 >>> ((3 : Int32) &&& 31).toUInt32).toInt32) &&& (2147483647 : Int32)) % (3 : Int32)), .unset, .unset, .unset] [(.int rr_85), (.int 0), (.ref b84), (.ref b84)])) rfl rfl (hb hby at_30)
    have Hc88 := CHv.wr W88 Sf84_b84 Hc84
    have Rc88 := Rc84.trans (CHr.wr W88 Sf84_b84 Hc84)
    have hk88 := Nat.le_trans hk84 (Keep.of_wr W88).1
    have Sf88_b84 := Safe.wr W88 Sf84_b84 Hc84 Sf84_b84
    have V88 : Arv Z h88 b84 k84 .char (4 : Int32) [(.int (rr_85.toUInt32.toUInt16.toUInt32.toInt32)), (.int 0), (.int 0), (.int 0)] (.int 0) := Arv.set Ar_z86 q_z86 S_z86 N_z86 H_z86 G_z86 (fits_nar_char _) W88 0 rfl (Nat.le_of_ble_eq_true rfl)
    have N88 := Fr.snoc X88 N85 g_b84
    obtain ⟨_, T89, L89, X89, hQ89, st89⟩ := own_cS 3 (rmDr l Z a0 hw [] p2 h88 n0 (Nat.le_trans (Nat.le_trans Z0 E84.1) (Keep.of_wr W88).1) ) X88 hx hZ hown hw 2 3 4 5 rfl rfl rfl rfl 34 #[iv p0, iv p1, iv p2, iv p3, iv p4, iv 2, iv ((((p0.toUInt32 >>> ((3 : Int32) &&& 31).toUInt32).toInt32) &&& (2147483647 : Int32)) % (3 : Int32)), .unset, .unset, .unset] [(.int p2)] [(.int 1), (.ref b84), (.ref b84)] (hb hby at_34) hml (lenOf pd_17 rfl) e88 rfl (Nat.le_refl _) (by decide)
    obtain ⟨rr_89, rfl, N89q, e89, p89_0⟩ := hQ89
    have N89 := Fr.app N88 N89q
    obtain ⟨cl_z90, Ar_z90, q_z90, S_z90, N_z90, H_z90, G_z90⟩ := id V88
    have hin91 : ¬ ((1 : Int32) < 0 ∨ cl_z90.slots.size ≤ ((1 : Int32)).toNatClampNeg) := inb_of S_z90 ⟨by decide, by decide⟩
    obtain ⟨T92, h92, X92, e92, W92, st92⟩ := stC X89 hx hZ e89 Ar_z90 (j := (1 : Int32)) hin91 (g := (mkF m 37 #[iv p0, iv p1, iv p2, iv p3, iv p4, iv 2, iv ((((p0.toUInt32 >>> ((3 : Int32) &&& 31).toUInt32).toInt32) &&& (2147483647 : Int32)) % (3 : Int32)), .unset, .unset, .unset] [(.int rr_89), (.int 1), (.ref b84), (.ref b84)])) rfl rfl (hb hby at_37)
    have Hc92 := CHv.wr W92 Sf88_b84 Hc88
    have Rc92 := Rc88.trans (CHr.wr W92 Sf88_b84 Hc88)
    have hk92 := Nat.le_trans hk88 (Keep.of_wr W92).1
    have Sf92_b84 := Safe.wr W92 Sf88_b84 Hc88 Sf88_b84
    have V92 : Arv Z h92 b84 k84 .char (4 : Int32) [(.int (rr_85.toUInt32.toUInt16.toUInt32.toInt32)), (.int (rr_89.toUInt32.toUInt16.toUInt32.toInt32)), (.int 0), (.int 0)] (.int 0) := Arv.set Ar_z90 q_z90 S_z90 N_z90 H_z90 G_z90 (fits_nar_char _) W92 1 rfl (Nat.le_of_ble_eq_true rfl)
    have N92 := Fr.snoc X92 N89 g_b84
    obtain ⟨_, T93, L93, X93, hQ93, st93⟩ := own_cS 3 (rmDr l Z a0 hw [] p3 h92 n0 (Nat.le_trans (Nat.le_trans (Nat.le_trans Z0 E84.1) (Keep.of_wr W88).1) (Keep.of_wr W92).1) ) X92 hx hZ hown hw 2 3 4 5 rfl rfl rfl rfl 41 #[iv p0, iv p1, iv p2, iv p3, iv p4, iv 2, iv ((((p0.toUInt32 >>> ((3 : Int32) &&& 31).toUInt32).toInt32) &&& (2147483647 : Int32)) % (3 : Int32)), .unset, .unset, .unset] [(.int p3)] [(.int 2), (.ref b84), (.ref b84)] (hb hby at_41) hml (lenOf pd_17 rfl) e92 rfl (Nat.le_refl _) (by decide)
    obtain ⟨rr_93, rfl, N93q, e93, p93_0⟩ := hQ93
    have N93 := Fr.app N92 N93q
    obtain ⟨cl_z94, Ar_z94, q_z94, S_z94, N_z94, H_z94, G_z94⟩ := id V92
    have hin95 : ¬ ((2 : Int32) < 0 ∨ cl_z94.slots.size ≤ ((2 : Int32)).toNatClampNeg) := inb_of S_z94 ⟨by decide, by decide⟩
    obtain ⟨T96, h96, X96, e96, W96, st96⟩ := stC X93 hx hZ e93 Ar_z94 (j := (2 : Int32)) hin95 (g := (mkF m 44 #[iv p0, iv p1, iv p2, iv p3, iv p4, iv 2, iv ((((p0.toUInt32 >>> ((3 : Int32) &&& 31).toUInt32).toInt32) &&& (2147483647 : Int32)) % (3 : Int32)), .unset, .unset, .unset] [(.int rr_93), (.int 2), (.ref b84), (.ref b84)])) rfl rfl (hb hby at_44)
    have Hc96 := CHv.wr W96 Sf92_b84 Hc92
    have Rc96 := Rc92.trans (CHr.wr W96 Sf92_b84 Hc92)
    have hk96 := Nat.le_trans hk92 (Keep.of_wr W96).1
    have Sf96_b84 := Safe.wr W96 Sf92_b84 Hc92 Sf92_b84
    have V96 : Arv Z h96 b84 k84 .char (4 : Int32) [(.int (rr_85.toUInt32.toUInt16.toUInt32.toInt32)), (.int (rr_89.toUInt32.toUInt16.toUInt32.toInt32)), (.int (rr_93.toUInt32.toUInt16.toUInt32.toInt32)), (.int 0)] (.int 0) := Arv.set Ar_z94 q_z94 S_z94 N_z94 H_z94 G_z94 (fits_nar_char _) W96 2 rfl (Nat.le_of_ble_eq_true rfl)
    have N96 := Fr.snoc X96 N93 g_b84
    obtain ⟨_, T97, L97, X97, hQ97, st97⟩ := own_cS 3 (rmDr l Z a0 hw [] p4 h96 n0 (Nat.le_trans (Nat.le_trans (Nat.le_trans (Nat.le_trans Z0 E84.1) (Keep.of_wr W88).1) (Keep.of_wr W92).1) (Keep.of_wr W96).1) ) X96 hx hZ hown hw 2 3 4 5 rfl rfl rfl rfl 49 #[iv p0, iv p1, iv p2, iv p3, iv p4, iv 2, iv ((((p0.toUInt32 >>> ((3 : Int32) &&& 31).toUInt32).toInt32) &&& (2147483647 : Int32)) % (3 : Int32)), .unset, .unset, .unset] [(.int p4)] [(.int 3), (.ref b84), (.ref b84)] (hb hby at_49) hml (lenOf pd_17 rfl) e96 rfl (Nat.le_refl _) (by decide)
    obtain ⟨rr_97, rfl, N97q, e97, p97_0⟩ := hQ97
    have N97 := Fr.app N96 N97q
    obtain ⟨cl_z98, Ar_z98, q_z98, S_z98, N_z98, H_z98, G_z98⟩ := id V96
    have hin99 : ¬ ((3 : Int32) < 0 ∨ cl_z98.slots.size ≤ ((3 : Int32)).toNatClampNeg) := inb_of S_z98 ⟨by decide, by decide⟩
    obtain ⟨T100, h100, X100, e100, W100, st100⟩ := stC X97 hx hZ e97 Ar_z98 (j := (3 : Int32)) hin99 (g := (mkF m 52 #[iv p0, iv p1, iv p2, iv p3, iv p4, iv 2, iv ((((p0.toUInt32 >>> ((3 : Int32) &&& 31).toUInt32).toInt32) &&& (2147483647 : Int32)) % (3 : Int32)), .unset, .unset, .unset] [(.int rr_97), (.int 3), (.ref b84), (.ref b84)])) rfl rfl (hb hby at_52)
    have Hc100 := CHv.wr W100 Sf96_b84 Hc96
    have Rc100 := Rc96.trans (CHr.wr W100 Sf96_b84 Hc96)
    have hk100 := Nat.le_trans hk96 (Keep.of_wr W100).1
    have Sf100_b84 := Safe.wr W100 Sf96_b84 Hc96 Sf96_b84
    have V100 : Arv Z h100 b84 k84 .char (4 : Int32) [(.int (rr_85.toUInt32.toUInt16.toUInt32.toInt32)), (.int (rr_89.toUInt32.toUInt16.toUInt32.toInt32)), (.int (rr_93.toUInt32.toUInt16.toUInt32.toInt32)), (.int (rr_97.toUInt32.toUInt16.toUInt32.toInt32))] (.int 0) := Arv.set Ar_z98 q_z98 S_z98 N_z98 H_z98 G_z98 (fits_nar_char _) W100 3 rfl (Nat.le_of_ble_eq_true rfl)
    have N100 := Fr.snoc X100 N97 g_b84
    obtain ⟨cl_z101, Ar_z101, q_z101, S_z101, N_z101, H_z101, G_z101⟩ := id V100
    have hin102 : ¬ ((0 : Int32) < 0 ∨ cl_z101.slots.size ≤ ((0 : Int32)).toNatClampNeg) := inb_of S_z101 ⟨by decide, by decide⟩
    have hin103 : ¬ ((1 : Int32) < 0 ∨ cl_z101.slots.size ≤ ((1 : Int32)).toNatClampNeg) := inb_of S_z101 ⟨by decide, by decide⟩
    have hin104 : ¬ ((2 : Int32) < 0 ∨ cl_z101.slots.size ≤ ((2 : Int32)).toNatClampNeg) := inb_of S_z101 ⟨by decide, by decide⟩
    have hin105 : ¬ ((3 : Int32) < 0 ∨ cl_z101.slots.size ≤ ((3 : Int32)).toNatClampNeg) := inb_of S_z101 ⟨by decide, by decide⟩
    have f107 := (((((S_CS.ext E84).wr W88).wr W92).wr W96).wr W100)
    have f108 := (((((S_AD.ext E84).wr W88).wr W92).wr W96).wr W100)
    have f109 := (((((S_HI.ext E84).wr W88).wr W92).wr W96).wr W100)
    have f110 := (((((S_LO.ext E84).wr W88).wr W92).wr W96).wr W100)
    obtain ⟨_, T106, L106, X106, hQ106, st106⟩ := own_cS 0 (rmTx_2 l Z a0 hw [] (rr_85.toUInt32.toUInt16.toUInt32.toInt32) (rr_89.toUInt32.toUInt16.toUInt32.toInt32) (rr_93.toUInt32.toUInt16.toUInt32.toInt32) (rr_97.toUInt32.toUInt16.toUInt32.toInt32) w_CS h100 n0 (Nat.le_trans (Nat.le_trans (Nat.le_trans (Nat.le_trans (Nat.le_trans Z0 E84.1) (Keep.of_wr W88).1) (Keep.of_wr W92).1) (Keep.of_wr W96).1) (Keep.of_wr W100).1) f107 hcs f108 f109 f110 (own_chc _) (own_chc _)) X100 hx hZ hown hw 7 8 4 9 rfl rfl rfl rfl 73 #[iv p0, iv p1, iv p2, iv p3, iv p4, iv 2, iv ((((p0.toUInt32 >>> ((3 : Int32) &&& 31).toUInt32).toInt32) &&& (2147483647 : Int32)) % (3 : Int32)), rv b84, .unset, .unset] [(.int 2), (.int (rr_85.toUInt32.toUInt16.toUInt32.toInt32)), (.int (rr_89.toUInt32.toUInt16.toUInt32.toInt32)), (.int (rr_93.toUInt32.toUInt16.toUInt32.toInt32)), (.int (rr_97.toUInt32.toUInt16.toUInt32.toInt32))] [] (hb hby at_73) hml (lenOf pd_19 rfl) e100 rfl (Nat.le_refl _) (by decide)
    have f111 := ((((EA84.wr W88).wr W92).wr W96).wr W100)
    obtain ⟨ob_106, rfl, N106q, K106, p106_0, p106_1, p106_2⟩ := hQ106
    have Hc106 := CHv.keep K106 sf0 Hc100
    have Rc106 := Rc100.trans (CHr.keep K106 sf0 Hc100)
    have hk106 := Nat.le_trans hk100 K106.1
    have Sf106_b84 := Safe.keep K106 sf0 Hc100 Sf100_b84
    have g_ob_106 : n0 ≤ ob_106 := Nat.le_trans (Nat.le_trans (Nat.le_trans (Nat.le_trans (Nat.le_trans (Nat.le_trans Z0 E84.1) (Keep.of_wr W88).1) (Keep.of_wr W92).1) (Keep.of_wr W96).1) (Keep.of_wr W100).1) p106_0
    have sz_ob_106 : h0.size ≤ ob_106 := Nat.le_trans ((((((Keep.refl h0 []).ext E84).wr W88 (Or.inr sz_b84)).wr W92 (Or.inr sz_b84)).wr W96 (Or.inr sz_b84)).wr W100 (Or.inr sz_b84)).1 p106_0
    have N106 := Fr.app N100 N106q
    have k112 : ∀ t, OwnS p e below T106 (mkF m 82 #[iv p0, iv p1, iv p2, iv p3, iv p4, iv 2, iv ((((p0.toUInt32 >>> ((3 : Int32) &&& 31).toUInt32).toInt32) &&& (2147483647 : Int32)) % (3 : Int32)), rv b84, rv ob_106, .unset] [(.int ((((p0.toUInt32 >>> ((3 : Int32) &&& 31).toUInt32).toInt32) &&& (2147483647 : Int32)) % (3 : Int32))), (.ref ob_106)]) t → OwnS p e below s₁ (entryFrame m #[(.int p0), (.int p1), (.int p2), (.int p3), (.int p4)] maxLocals) t := fun t q => by
     refine k1 t ?_
     rw [hn]
     refine XS.istore X0.here hx rfl (hb hby at_6) rfl (l' := #[iv p0, iv p1, iv p2, iv p3, iv p4, iv 2, .unset, .unset, .unset, .unset]) rfl ?_
     refine oIn X0 hx hby at_8 rfl (oIc X0 hx hby at_9 ?_)
     refine XS.iushr X0.here hx rfl (hb hby at_10) rfl ?_
     refine X0.ldcInt hx hown (mvT hZ (own_at hw 0 rfl)) (g := (mkF m 11 #[iv p0, iv p1, iv p2, iv p3, iv p4, iv 2, .unset, .unset, .unset, .unset] [(.int ((p0.toUInt32 >>> ((3 : Int32) &&& 31).toUInt32).toInt32))])) rfl (hb hby at_11) _ ?_
     refine XS.iand X0.here hx rfl (hb hby at_13) rfl ?_
     refine oIl X0 hx hby at_14 rfl (oIc X0 hx hby at_16 ?_)
     refine XS.iadd X0.here hx rfl (hb hby at_17) rfl ?_
     refine iremM X0 hx (g := (mkF m 18 #[iv p0, iv p1, iv p2, iv p3, iv p4, iv 2, .unset, .unset, .unset, .unset] [(.int 3), (.int (((p0.toUInt32 >>> ((3 : Int32) &&& 31).toUInt32).toInt32) &&& (2147483647 : Int32)))])) rfl (hb hby at_18) rfl (by decide) ?_
     refine XS.istore X0.here hx rfl (hb hby at_19) rfl (l' := #[iv p0, iv p1, iv p2, iv p3, iv p4, iv 2, iv ((((p0.toUInt32 >>> ((3 : Int32) &&& 31).toUInt32).toInt32) &&& (2147483647 : Int32)) % (3 : Int32)), .unset, .unset, .unset]) rfl ?_
     refine oIc X0 hx hby at_21 ?_
     refine st84 _ ?_
     refine XS.dup X84.here hx rfl (hb hby at_24) rfl rfl ?_
     refine oIc X84 hx hby at_25 (oIn X84 hx hby at_26 rfl ?_)
     refine st85 _ ?_
     refine st88 _ ?_
     refine XS.dup X88.here hx rfl (hb hby at_31) rfl rfl ?_
     refine oIc X88 hx hby at_32 (oIn X88 hx hby at_33 rfl ?_)
     refine st89 _ ?_
     refine st92 _ ?_
     refine XS.dup X92.here hx rfl (hb hby at_38) rfl rfl ?_
     refine oIc X92 hx hby at_39 (oIn X92 hx hby at_40 rfl ?_)
     refine st93 _ ?_
     refine st96 _ ?_
     refine XS.dup X96.here hx rfl (hb hby at_45) rfl rfl ?_
     refine oIc X96 hx hby at_46 (oIl X96 hx hby at_47 rfl ?_)
     refine st97 _ ?_
     refine st100 _ ?_
     refine XS.astore X100.here hx rfl (hb hby at_53) rfl rfl (l' := #[iv p0, iv p1, iv p2, iv p3, iv p4, iv 2, iv ((((p0.toUInt32 >>> ((3 : Int32) &&& 31).toUInt32).toInt32) &&& (2147483647 : Int32)) % (3 : Int32)), rv b84, .unset, .unset]) rfl ?_
     refine oIl X100 hx hby at_55 rfl (oAl X100 hx hby at_57 rfl rfl (oIc X100 hx hby at_59 ?_))
     refine X100.caload hx (j := (0 : Int32)) (v := (.int (rr_85.toUInt32.toUInt16.toUInt32.toInt32))) (by rw [e100]; exact Ar_z101.1) (State.isArrayOf_alike hZ.alike Ar_z101.2.1) Ar_z101.2.2 hin102 (Has.at H_z101 hin102 rfl) (g := (mkF m 60 #[iv p0, iv p1, iv p2, iv p3, iv p4, iv 2, iv ((((p0.toUInt32 >>> ((3 : Int32) &&& 31).toUInt32).toInt32) &&& (2147483647 : Int32)) % (3 : Int32)), rv b84, .unset, .unset] [(.int 0), (.ref b84), (.int 2)])) rfl rfl (hb hby at_60) _ ?_
     refine oAl X100 hx hby at_61 rfl rfl ?_
     show OwnS p e below T100 (mkF m 63 #[iv p0, iv p1, iv p2, iv p3, iv p4, iv 2, iv ((((p0.toUInt32 >>> ((3 : Int32) &&& 31).toUInt32).toInt32) &&& (2147483647 : Int32)) % (3 : Int32)), rv b84, .unset, .unset] [(.ref b84), (.int (rr_85.toUInt32.toUInt16.toUInt32.toInt32)), (.int 2)]) _
     refine oIc X100 hx hby at_63 ?_
     refine X100.caload hx (j := (1 : Int32)) (v := (.int (rr_89.toUInt32.toUInt16.toUInt32.toInt32))) (by rw [e100]; exact Ar_z101.1) (State.isArrayOf_alike hZ.alike Ar_z101.2.1) Ar_z101.2.2 hin103 (Has.at H_z101 hin103 rfl) (g := (mkF m 64 #[iv p0, iv p1, iv p2, iv p3, iv p4, iv 2, iv ((((p0.toUInt32 >>> ((3 : Int32) &&& 31).toUInt32).toInt32) &&& (2147483647 : Int32)) % (3 : Int32)), rv b84, .unset, .unset] [(.int 1), (.ref b84), (.int (rr_85.toUInt32.toUInt16.toUInt32.toInt32)), (.int 2)])) rfl rfl (hb hby at_64) _ ?_
     refine oAl X100 hx hby at_65 rfl rfl (oIc X100 hx hby at_67 ?_)
     refine X100.caload hx (j := (2 : Int32)) (v := (.int (rr_93.toUInt32.toUInt16.toUInt32.toInt32))) (by rw [e100]; exact Ar_z101.1) (State.isArrayOf_alike hZ.alike Ar_z101.2.1) Ar_z101.2.2 hin104 (Has.at H_z101 hin104 rfl) (g := (mkF m 68 #[iv p0, iv p1, iv p2, iv p3, iv p4, iv 2, iv ((((p0.toUInt32 >>> ((3 : Int32) &&& 31).toUInt32).toInt32) &&& (2147483647 : Int32)) % (3 : Int32)), rv b84, .unset, .unset] [(.int 2), (.ref b84), (.int (rr_89.toUInt32.toUInt16.toUInt32.toInt32)), (.int (rr_85.toUInt32.toUInt16.toUInt32.toInt32)), (.int 2)])) rfl rfl (hb hby at_68) _ ?_
     refine oAl X100 hx hby at_69 rfl rfl (oIc X100 hx hby at_71 ?_)
     refine X100.caload hx (j := (3 : Int32)) (v := (.int (rr_97.toUInt32.toUInt16.toUInt32.toInt32))) (by rw [e100]; exact Ar_z101.1) (State.isArrayOf_alike hZ.alike Ar_z101.2.1) Ar_z101.2.2 hin105 (Has.at H_z101 hin105 rfl) (g := (mkF m 72 #[iv p0, iv p1, iv p2, iv p3, iv p4, iv 2, iv ((((p0.toUInt32 >>> ((3 : Int32) &&& 31).toUInt32).toInt32) &&& (2147483647 : Int32)) % (3 : Int32)), rv b84, .unset, .unset] [(.int 3), (.ref b84), (.int (rr_93.toUInt32.toUInt16.toUInt32.toInt32)), (.int (rr_89.toUInt32.toUInt16.toUInt32.toInt32)), (.int (rr_85.toUInt32.toUInt16.toUInt32.toInt32)), (.int 2)])) rfl rfl (hb hby at_72) _ ?_
     refine st106 _ ?_
     refine XS.astore X106.here hx rfl (hb hby at_76) rfl rfl (l' := #[iv p0, iv p1, iv p2, iv p3, iv p4, iv 2, iv ((((p0.toUInt32 >>> ((3 : Int32) &&& 31).toUInt32).toInt32) &&& (2147483647 : Int32)) % (3 : Int32)), rv b84, rv ob_106, .unset]) rfl ?_
     refine oAl X106 hx hby at_78 rfl rfl (oIl X106 hx hby at_80 rfl ?_)
     exact q
    rcases own_mod3 ((p0.toUInt32 >>> ((3 : Int32) &&& 31).toUInt32).toInt32) with hf | hf | hf
    · have f114 := (own_sta_keep f107 K106 all0)
      have f115 := (own_sta_keep (((((S_F.ext E84).wr W88).wr W92).wr W96).wr W100) K106 all0)
      have f116 := (own_sta_keep f108 K106 all0)
      have f117 := (own_sta_keep f109 K106 all0)
      have f118 := (own_sta_keep f110 K106 all0)
      obtain ⟨_, T113, L113, X113, hQ113, st113⟩ := own_cS 0 (rmSk_2_0 l Z a0 hw [] ob_106 w_CS w_F (rr_85.toUInt32.toUInt16.toUInt32.toInt32) (rr_89.toUInt32.toUInt16.toUInt32.toInt32) T106.heap n0 (Nat.le_trans (Nat.le_trans (Nat.le_trans (Nat.le_trans (Nat.le_trans (Nat.le_trans Z0 E84.1) (Keep.of_wr W88).1) (Keep.of_wr W92).1) (Keep.of_wr W96).1) (Keep.of_wr W100).1) K106.1) f114 hcs f115 hwF f116 f117 f118 p106_2 (own_chc _) (own_chc _) p106_1) X106 hx hZ hown hw 31 32 33 34 rfl rfl rfl rfl 82 #[iv p0, iv p1, iv p2, iv p3, iv p4, iv 2, iv 0, rv b84, rv ob_106, .unset] [(.ref ob_106), (.int 0)] [] (hb hby at_82) hml (lenOf pd_20 rfl) rfl rfl (Nat.le_refl _) (by decide)
      obtain ⟨rfl, N113q, e113⟩ := hQ113
      have N113 := Fr.app N106 N113q
      have k119 : ∀ t, OwnS p e below T113 (mkF m 85 #[iv p0, iv p1, iv p2, iv p3, iv p4, iv 2, iv 0, rv b84, rv ob_106, .unset] [(.int (own_sk2_0 (rr_85.toUInt32.toUInt16.toUInt32.toInt32) (rr_89.toUInt32.toUInt16.toUInt32.toInt32)))]) t → OwnS p e below s₁ (entryFrame m #[(.int p0), (.int p1), (.int p2), (.int p3), (.int p4)] maxLocals) t := fun t q => by
       refine k112 t ?_
       rw [hf]
       refine st113 _ ?_
       exact q
      rcases own_kc2_0 (rr_85.toUInt32.toUInt16.toUInt32.toInt32) (rr_89.toUInt32.toUInt16.toUInt32.toInt32) with ⟨hs0, hr⟩ | ⟨hs0, hs1, hr⟩ | ⟨hs0, hs1, hr⟩
      · have f120 := (V100.keep K106 nin0)
        have k121 : ∀ t, OwnS p e below T113 (mkF m 110 #[iv p0, iv p1, iv p2, iv p3, iv p4, iv 2, iv 0, rv b84, rv ob_106, iv 0] []) t → OwnS p e below s₁ (entryFrame m #[(.int p0), (.int p1), (.int p2), (.int p3), (.int p4)] maxLocals) t := fun t q => by
         refine k119 t ?_
         rw [hr]
         refine XS.istore X113.here hx rfl (hb hby at_85) rfl (l' := #[iv p0, iv p1, iv p2, iv p3, iv p4, iv 2, iv 0, rv b84, rv ob_106, iv 0]) rfl ?_
         refine oIl X113 hx hby at_87 rfl (oIl X113 hx hby at_89 rfl ?_)
         refine XS.icmpNo X113.here hx rfl (hb hby at_91) rfl (flt (by decide : ¬ ((0 : Int32) < (0 : Int32)))).1 ?_
         refine oIl X113 hx hby at_94 rfl (oIl X113 hx hby at_96 rfl ?_)
         refine XS.icmpYes X113.here hx rfl (pc0 := 98) (pc' := 103) rfl (hb hby at_98) rfl (flt (by decide : ¬ ((2 : Int32) < (0 : Int32)))).2.2.2 (by decide) (by decide) ?_
         refine oIl X113 hx hby at_103 rfl (oIl X113 hx hby at_105 rfl ?_)
         refine XS.icmpNo X113.here hx rfl (hb hby at_107) rfl (tlt (by decide : (0 : Int32) < (2 : Int32))).2.1 ?_
         exact q
        obtain ⟨s122, o122, ja122, jb122, jc122, v122, L122, rfl, ⟨hv122, jN122, jh122, -⟩, jF122⟩ := sgW0 l Z a0 hw p0 p1 p2 p3 p4 (2 : Int32) (0 : Int32) b84 ob_106 k84 (rr_85.toUInt32.toUInt16.toUInt32.toInt32) (rr_89.toUInt32.toUInt16.toUInt32.toInt32) (rr_93.toUInt32.toUInt16.toUInt32.toInt32) (rr_97.toUInt32.toUInt16.toUInt32.toInt32) T106.heap n0 (Nat.le_trans (Nat.le_trans (Nat.le_trans (Nat.le_trans (Nat.le_trans (Nat.le_trans Z0 E84.1) (Keep.of_wr W88).1) (Keep.of_wr W92).1) (Keep.of_wr W96).1) (Keep.of_wr W100).1) K106.1) f120 (own_ok2 (by decide)) (own_ok2 (by decide)) (own_ok2 (by decide)) (own_ok2 (by decide)) hs0 (own_more X113 (by decide) (by decide)) hx hZ hby hml hown Bd.returns Bd.notSynchronized e113 N113 hS0 hk106 Hc106 Rc106 hh
        exact ⟨s122, _, k121 _ ja122, jb122, jc122, v122, L122, rfl, ⟨hv122.trans rfl, jN122, trivial⟩, jF122⟩
      · have f123 := (V100.keep K106 nin0)
        have k124 : ∀ t, OwnS p e below T113 (mkF m 110 #[iv p0, iv p1, iv p2, iv p3, iv p4, iv 2, iv 0, rv b84, rv ob_106, iv 1] []) t → OwnS p e below s₁ (entryFrame m #[(.int p0), (.int p1), (.int p2), (.int p3), (.int p4)] maxLocals) t := fun t q => by
         refine k119 t ?_
         rw [hr]
         refine XS.istore X113.here hx rfl (hb hby at_85) rfl (l' := #[iv p0, iv p1, iv p2, iv p3, iv p4, iv 2, iv 0, rv b84, rv ob_106, iv 1]) rfl ?_
         refine oIl X113 hx hby at_87 rfl (oIl X113 hx hby at_89 rfl ?_)
         refine XS.icmpNo X113.here hx rfl (hb hby at_91) rfl (flt (by decide : ¬ ((1 : Int32) < (0 : Int32)))).1 ?_
         refine oIl X113 hx hby at_94 rfl (oIl X113 hx hby at_96 rfl ?_)
         refine XS.icmpYes X113.here hx rfl (pc0 := 98) (pc' := 103) rfl (hb hby at_98) rfl (flt (by decide : ¬ ((2 : Int32) < (1 : Int32)))).2.2.2 (by decide) (by decide) ?_
         refine oIl X113 hx hby at_103 rfl (oIl X113 hx hby at_105 rfl ?_)
         refine XS.icmpNo X113.here hx rfl (hb hby at_107) rfl (tlt (by decide : (1 : Int32) < (2 : Int32))).2.1 ?_
         exact q
        obtain ⟨s125, o125, ja125, jb125, jc125, v125, L125, rfl, ⟨hv125, jN125, jh125, -⟩, jF125⟩ := sgW1 l Z a0 hw p0 p1 p2 p3 p4 (2 : Int32) (0 : Int32) b84 ob_106 k84 (rr_85.toUInt32.toUInt16.toUInt32.toInt32) (rr_89.toUInt32.toUInt16.toUInt32.toInt32) (rr_93.toUInt32.toUInt16.toUInt32.toInt32) (rr_97.toUInt32.toUInt16.toUInt32.toInt32) T106.heap n0 (Nat.le_trans (Nat.le_trans (Nat.le_trans (Nat.le_trans (Nat.le_trans (Nat.le_trans Z0 E84.1) (Keep.of_wr W88).1) (Keep.of_wr W92).1) (Keep.of_wr W96).1) (Keep.of_wr W100).1) K106.1) f123 (own_ok4 hs0) (own_ok2 (by decide)) (own_ok2 (by decide)) (own_ok2 (by decide)) hs1 (own_more X113 (by decide) (by decide)) hx hZ hby hml hown Bd.returns Bd.notSynchronized e113 N113 hS0 hk106 Hc106 Rc106 hh
        exact ⟨s125, _, k124 _ ja125, jb125, jc125, v125, L125, rfl, ⟨hv125.trans rfl, jN125, trivial⟩, jF125⟩
      · have f126 := (V100.keep K106 nin0)
        have k127 : ∀ t, OwnS p e below T113 (mkF m 123 #[iv p0, iv p1, iv p2, iv p3, iv p4, iv 2, iv 0, rv b84, rv ob_106, iv 2] []) t → OwnS p e below s₁ (entryFrame m #[(.int p0), (.int p1), (.int p2), (.int p3), (.int p4)] maxLocals) t := fun t q => by
         refine k119 t ?_
         rw [hr]
         refine XS.istore X113.here hx rfl (hb hby at_85) rfl (l' := #[iv p0, iv p1, iv p2, iv p3, iv p4, iv 2, iv 0, rv b84, rv ob_106, iv 2]) rfl ?_
         refine oIl X113 hx hby at_87 rfl (oIl X113 hx hby at_89 rfl ?_)
         refine XS.icmpNo X113.here hx rfl (hb hby at_91) rfl (flt (by decide : ¬ ((2 : Int32) < (0 : Int32)))).1 ?_
         refine oIl X113 hx hby at_94 rfl (oIl X113 hx hby at_96 rfl ?_)
         refine XS.icmpYes X113.here hx rfl (pc0 := 98) (pc' := 103) rfl (hb hby at_98) rfl (flt (by decide : ¬ ((2 : Int32) < (2 : Int32)))).2.2.2 (by decide) (by decide) ?_
         refine oIl X113 hx hby at_103 rfl (oIl X113 hx hby at_105 rfl ?_)
         refine XS.icmpYes X113.here hx rfl (pc0 := 107) (pc' := 123) rfl (hb hby at_107) rfl (flt (by decide : ¬ ((2 : Int32) < (2 : Int32)))).2.1 (by decide) (by decide) ?_
         exact q
        obtain ⟨s128, o128, ja128, jb128, jc128, v128, L128, rfl, ⟨hv128, jN128, jh128, -⟩, jF128⟩ := sgT l Z a0 hw p0 p1 p2 p3 p4 (2 : Int32) (0 : Int32) b84 ob_106 (2 : Int32) k84 (rr_85.toUInt32.toUInt16.toUInt32.toInt32) (rr_89.toUInt32.toUInt16.toUInt32.toInt32) (rr_93.toUInt32.toUInt16.toUInt32.toInt32) (rr_97.toUInt32.toUInt16.toUInt32.toInt32) T106.heap n0 (Nat.le_trans (Nat.le_trans (Nat.le_trans (Nat.le_trans (Nat.le_trans (Nat.le_trans Z0 E84.1) (Keep.of_wr W88).1) (Keep.of_wr W92).1) (Keep.of_wr W96).1) (Keep.of_wr W100).1) K106.1) f126 (own_ok4 hs0) (own_ok4 hs1) (own_ok2 (by decide)) (own_ok2 (by decide)) (own_more X113 (by decide) (by decide)) hx hZ hby hml hown Bd.returns Bd.notSynchronized e113 N113 hS0 hk106 Hc106 Rc106 hh
        exact ⟨s128, _, k127 _ ja128, jb128, jc128, v128, L128, rfl, ⟨hv128.trans rfl, jN128, trivial⟩, jF128⟩
    · have f130 := (own_sta_keep f107 K106 all0)
      have f131 := (own_sta_keep (((((S_F.ext E84).wr W88).wr W92).wr W96).wr W100) K106 all0)
      have f132 := (own_sta_keep f108 K106 all0)
      have f133 := (own_sta_keep f109 K106 all0)
      have f134 := (own_sta_keep f110 K106 all0)
      obtain ⟨_, T129, L129, X129, hQ129, st129⟩ := own_cS 0 (rmSk_2_1 l Z a0 hw [] ob_106 w_CS w_F (rr_85.toUInt32.toUInt16.toUInt32.toInt32) (rr_89.toUInt32.toUInt16.toUInt32.toInt32) T106.heap n0 (Nat.le_trans (Nat.le_trans (Nat.le_trans (Nat.le_trans (Nat.le_trans (Nat.le_trans Z0 E84.1) (Keep.of_wr W88).1) (Keep.of_wr W92).1) (Keep.of_wr W96).1) (Keep.of_wr W100).1) K106.1) f130 hcs f131 hwF f132 f133 f134 p106_2 (own_chc _) (own_chc _) p106_1) X106 hx hZ hown hw 31 32 33 34 rfl rfl rfl rfl 82 #[iv p0, iv p1, iv p2, iv p3, iv p4, iv 2, iv 1, rv b84, rv ob_106, .unset] [(.ref ob_106), (.int 1)] [] (hb hby at_82) hml (lenOf pd_20 rfl) rfl rfl (Nat.le_refl _) (by decide)
      obtain ⟨rfl, N129q, e129⟩ := hQ129
      have N129 := Fr.app N106 N129q
      have k135 : ∀ t, OwnS p e below T129 (mkF m 85 #[iv p0, iv p1, iv p2, iv p3, iv p4, iv 2, iv 1, rv b84, rv ob_106, .unset] [(.int (own_sk2_1 (rr_85.toUInt32.toUInt16.toUInt32.toInt32) (rr_89.toUInt32.toUInt16.toUInt32.toInt32)))]) t → OwnS p e below s₁ (entryFrame m #[(.int p0), (.int p1), (.int p2), (.int p3), (.int p4)] maxLocals) t := fun t q => by
       refine k112 t ?_
       rw [hf]
       refine st129 _ ?_
       exact q
      rcases own_kc2_1 (rr_85.toUInt32.toUInt16.toUInt32.toInt32) (rr_89.toUInt32.toUInt16.toUInt32.toInt32) with ⟨hs1, hr⟩ | ⟨hs1, hr⟩
      · have f136 := (V100.keep K106 nin0)
        have k137 : ∀ t, OwnS p e below T129 (mkF m 110 #[iv p0, iv p1, iv p2, iv p3, iv p4, iv 2, iv 1, rv b84, rv ob_106, iv 1] []) t → OwnS p e below s₁ (entryFrame m #[(.int p0), (.int p1), (.int p2), (.int p3), (.int p4)] maxLocals) t := fun t q => by
         refine k135 t ?_
         rw [hr]
         refine XS.istore X129.here hx rfl (hb hby at_85) rfl (l' := #[iv p0, iv p1, iv p2, iv p3, iv p4, iv 2, iv 1, rv b84, rv ob_106, iv 1]) rfl ?_
         refine oIl X129 hx hby at_87 rfl (oIl X129 hx hby at_89 rfl ?_)
         refine XS.icmpNo X129.here hx rfl (hb hby at_91) rfl (flt (by decide : ¬ ((1 : Int32) < (1 : Int32)))).1 ?_
         refine oIl X129 hx hby at_94 rfl (oIl X129 hx hby at_96 rfl ?_)
         refine XS.icmpYes X129.here hx rfl (pc0 := 98) (pc' := 103) rfl (hb hby at_98) rfl (flt (by decide : ¬ ((2 : Int32) < (1 : Int32)))).2.2.2 (by decide) (by decide) ?_
         refine oIl X129 hx hby at_103 rfl (oIl X129 hx hby at_105 rfl ?_)
         refine XS.icmpNo X129.here hx rfl (hb hby at_107) rfl (tlt (by decide : (1 : Int32) < (2 : Int32))).2.1 ?_
         exact q
        obtain ⟨s138, o138, ja138, jb138, jc138, v138, L138, rfl, ⟨hv138, jN138, jh138, -⟩, jF138⟩ := sgW1 l Z a0 hw p0 p1 p2 p3 p4 (2 : Int32) (1 : Int32) b84 ob_106 k84 (rr_85.toUInt32.toUInt16.toUInt32.toInt32) (rr_89.toUInt32.toUInt16.toUInt32.toInt32) (rr_93.toUInt32.toUInt16.toUInt32.toInt32) (rr_97.toUInt32.toUInt16.toUInt32.toInt32) T106.heap n0 (Nat.le_trans (Nat.le_trans (Nat.le_trans (Nat.le_trans (Nat.le_trans (Nat.le_trans Z0 E84.1) (Keep.of_wr W88).1) (Keep.of_wr W92).1) (Keep.of_wr W96).1) (Keep.of_wr W100).1) K106.1) f136 (own_ok1 (by decide)) (own_ok2 (by decide)) (own_ok2 (by decide)) (own_ok2 (by decide)) hs1 (own_more X129 (by decide) (by decide)) hx hZ hby hml hown Bd.returns Bd.notSynchronized e129 N129 hS0 hk106 Hc106 Rc106 hh
        exact ⟨s138, _, k137 _ ja138, jb138, jc138, v138, L138, rfl, ⟨hv138.trans rfl, jN138, trivial⟩, jF138⟩
      · have f139 := (V100.keep K106 nin0)
        have k140 : ∀ t, OwnS p e below T129 (mkF m 123 #[iv p0, iv p1, iv p2, iv p3, iv p4, iv 2, iv 1, rv b84, rv ob_106, iv 2] []) t → OwnS p e below s₁ (entryFrame m #[(.int p0), (.int p1), (.int p2), (.int p3), (.int p4)] maxLocals) t := fun t q => by
         refine k135 t ?_
         rw [hr]
         refine XS.istore X129.here hx rfl (hb hby at_85) rfl (l' := #[iv p0, iv p1, iv p2, iv p3, iv p4, iv 2, iv 1, rv b84, rv ob_106, iv 2]) rfl ?_
         refine oIl X129 hx hby at_87 rfl (oIl X129 hx hby at_89 rfl ?_)
         refine XS.icmpNo X129.here hx rfl (hb hby at_91) rfl (flt (by decide : ¬ ((2 : Int32) < (1 : Int32)))).1 ?_
         refine oIl X129 hx hby at_94 rfl (oIl X129 hx hby at_96 rfl ?_)
         refine XS.icmpYes X129.here hx rfl (pc0 := 98) (pc' := 103) rfl (hb hby at_98) rfl (flt (by decide : ¬ ((2 : Int32) < (2 : Int32)))).2.2.2 (by decide) (by decide) ?_
         refine oIl X129 hx hby at_103 rfl (oIl X129 hx hby at_105 rfl ?_)
         refine XS.icmpYes X129.here hx rfl (pc0 := 107) (pc' := 123) rfl (hb hby at_107) rfl (flt (by decide : ¬ ((2 : Int32) < (2 : Int32)))).2.1 (by decide) (by decide) ?_
         exact q
        obtain ⟨s141, o141, ja141, jb141, jc141, v141, L141, rfl, ⟨hv141, jN141, jh141, -⟩, jF141⟩ := sgT l Z a0 hw p0 p1 p2 p3 p4 (2 : Int32) (1 : Int32) b84 ob_106 (2 : Int32) k84 (rr_85.toUInt32.toUInt16.toUInt32.toInt32) (rr_89.toUInt32.toUInt16.toUInt32.toInt32) (rr_93.toUInt32.toUInt16.toUInt32.toInt32) (rr_97.toUInt32.toUInt16.toUInt32.toInt32) T106.heap n0 (Nat.le_trans (Nat.le_trans (Nat.le_trans (Nat.le_trans (Nat.le_trans (Nat.le_trans Z0 E84.1) (Keep.of_wr W88).1) (Keep.of_wr W92).1) (Keep.of_wr W96).1) (Keep.of_wr W100).1) K106.1) f139 (own_ok1 (by decide)) (own_ok4 hs1) (own_ok2 (by decide)) (own_ok2 (by decide)) (own_more X129 (by decide) (by decide)) hx hZ hby hml hown Bd.returns Bd.notSynchronized e129 N129 hS0 hk106 Hc106 Rc106 hh
        exact ⟨s141, _, k140 _ ja141, jb141, jc141, v141, L141, rfl, ⟨hv141.trans rfl, jN141, trivial⟩, jF141⟩
    · have f143 := (own_sta_keep f107 K106 all0)
      have f144 := (own_sta_keep (((((S_F.ext E84).wr W88).wr W92).wr W96).wr W100) K106 all0)
      have f145 := (own_sta_keep f108 K106 all0)
      have f146 := (own_sta_keep f109 K106 all0)
      have f147 := (own_sta_keep f110 K106 all0)
      obtain ⟨_, T142, L142, X142, hQ142, st142⟩ := own_cS 0 (rmSk_2_2 l Z a0 hw [] ob_106 w_CS w_F (rr_85.toUInt32.toUInt16.toUInt32.toInt32) (rr_89.toUInt32.toUInt16.toUInt32.toInt32) T106.heap n0 (Nat.le_trans (Nat.le_trans (Nat.le_trans (Nat.le_trans (Nat.le_trans (Nat.le_trans Z0 E84.1) (Keep.of_wr W88).1) (Keep.of_wr W92).1) (Keep.of_wr W96).1) (Keep.of_wr W100).1) K106.1) f143 hcs f144 hwF f145 f146 f147 p106_2 (own_chc _) (own_chc _) p106_1) X106 hx hZ hown hw 31 32 33 34 rfl rfl rfl rfl 82 #[iv p0, iv p1, iv p2, iv p3, iv p4, iv 2, iv 2, rv b84, rv ob_106, .unset] [(.ref ob_106), (.int 2)] [] (hb hby at_82) hml (lenOf pd_20 rfl) rfl rfl (Nat.le_refl _) (by decide)
      obtain ⟨rfl, N142q, e142⟩ := hQ142
      have N142 := Fr.app N106 N142q
      have k148 : ∀ t, OwnS p e below T142 (mkF m 85 #[iv p0, iv p1, iv p2, iv p3, iv p4, iv 2, iv 2, rv b84, rv ob_106, .unset] [(.int (own_sk2_2 (rr_85.toUInt32.toUInt16.toUInt32.toInt32) (rr_89.toUInt32.toUInt16.toUInt32.toInt32)))]) t → OwnS p e below s₁ (entryFrame m #[(.int p0), (.int p1), (.int p2), (.int p3), (.int p4)] maxLocals) t := fun t q => by
       refine k112 t ?_
       rw [hf]
       refine st142 _ ?_
       exact q
      rcases own_kc2_2 (rr_85.toUInt32.toUInt16.toUInt32.toInt32) (rr_89.toUInt32.toUInt16.toUInt32.toInt32) with hr
      · have f149 := (V100.keep K106 nin0)
        have k150 : ∀ t, OwnS p e below T142 (mkF m 123 #[iv p0, iv p1, iv p2, iv p3, iv p4, iv 2, iv 2, rv b84, rv ob_106, iv 2] []) t → OwnS p e below s₁ (entryFrame m #[(.int p0), (.int p1), (.int p2), (.int p3), (.int p4)] maxLocals) t := fun t q => by
         refine k148 t ?_
         rw [hr]
         refine XS.istore X142.here hx rfl (hb hby at_85) rfl (l' := #[iv p0, iv p1, iv p2, iv p3, iv p4, iv 2, iv 2, rv b84, rv ob_106, iv 2]) rfl ?_
         refine oIl X142 hx hby at_87 rfl (oIl X142 hx hby at_89 rfl ?_)
         refine XS.icmpNo X142.here hx rfl (hb hby at_91) rfl (flt (by decide : ¬ ((2 : Int32) < (2 : Int32)))).1 ?_
         refine oIl X142 hx hby at_94 rfl (oIl X142 hx hby at_96 rfl ?_)
         refine XS.icmpYes X142.here hx rfl (pc0 := 98) (pc' := 103) rfl (hb hby at_98) rfl (flt (by decide : ¬ ((2 : Int32) < (2 : Int32)))).2.2.2 (by decide) (by decide) ?_
         refine oIl X142 hx hby at_103 rfl (oIl X142 hx hby at_105 rfl ?_)
         refine XS.icmpYes X142.here hx rfl (pc0 := 107) (pc' := 123) rfl (hb hby at_107) rfl (flt (by decide : ¬ ((2 : Int32) < (2 : Int32)))).2.1 (by decide) (by decide) ?_
         exact q
        obtain ⟨s151, o151, ja151, jb151, jc151, v151, L151, rfl, ⟨hv151, jN151, jh151, -⟩, jF151⟩ := sgT l Z a0 hw p0 p1 p2 p3 p4 (2 : Int32) (2 : Int32) b84 ob_106 (2 : Int32) k84 (rr_85.toUInt32.toUInt16.toUInt32.toInt32) (rr_89.toUInt32.toUInt16.toUInt32.toInt32) (rr_93.toUInt32.toUInt16.toUInt32.toInt32) (rr_97.toUInt32.toUInt16.toUInt32.toInt32) T106.heap n0 (Nat.le_trans (Nat.le_trans (Nat.le_trans (Nat.le_trans (Nat.le_trans (Nat.le_trans Z0 E84.1) (Keep.of_wr W88).1) (Keep.of_wr W92).1) (Keep.of_wr W96).1) (Keep.of_wr W100).1) K106.1) f149 (own_ok1 (by decide)) (own_ok1 (by decide)) (own_ok2 (by decide)) (own_ok2 (by decide)) (own_more X142 (by decide) (by decide)) hx hZ hby hml hown Bd.returns Bd.notSynchronized e142 N142 hS0 hk106 Hc106 Rc106 hh
        exact ⟨s151, _, k150 _ ja151, jb151, jc151, v151, L151, rfl, ⟨hv151.trans rfl, jN151, trivial⟩, jF151⟩
  · obtain ⟨T152, h152, k152, X152, e152, E152, A152, EA152, st152⟩ := newPE X0 hx hZ (own_at hw 1 rfl) e0 (g := (mkF m 22 #[iv p0, iv p1, iv p2, iv p3, iv p4, iv 3, iv ((((p0.toUInt32 >>> ((3 : Int32) &&& 31).toUInt32).toInt32) &&& (2147483647 : Int32)) % (4 : Int32)), .unset, .unset, .unset] [(.int 4)])) rfl (hb hby at_22) rfl (by decide) (cap := 4) (by decide) (by decide) (by decide) (by decide) (ad := "[C") (by decide)
    obtain ⟨b152, g152⟩ : ∃ z, z = h0.size := ⟨_, rfl⟩
    rw [← g152] at A152 EA152 st152
    have g_b152 : n0 ≤ b152 := Nat.le_trans Z0 (Nat.le_of_eq g152.symm)
    have sz_b152 : h0.size ≤ b152 := Nat.le_trans (Keep.refl h0 []).1 (Nat.le_of_eq g152.symm)
    have Hc152 := CHv.ext E152 H0c
    have Rc152 := R0c.trans (CHr.ext E152 H0c)
    have hk152 := Nat.le_trans hk0 E152.1
    have Sf152_b152 := Safe.ext (EL := own_EL) E152 H0c (Safe.new (Nat.le_of_eq g152.symm))
    have V_b152 : Arv Z h152 b152 k152 .char (4 : Int32) [(.int 0), (.int 0), (.int 0), (.int 0)] (.int 0) := (Arv.new A152 (by decide)).pad (pad_rep [] (.int 0) 4)
    obtain ⟨_, T153, L153, X153, hQ153, st153⟩ := own_cS 3 (rmDr l Z a0 hw [] p1 h152 n0 (Nat.le_trans Z0 E152.1) ) X152 hx hZ hown hw 2 3 4 5 rfl rfl rfl rfl 27 #[iv p0, iv p1, iv p2, iv p3, iv p4, iv 3, iv ((((p0.toUInt32 >>> ((3 : Int32) &&& 31).toUInt32).toInt32) &&& (2147483647 : Int32)) % (4 : Int32)), .unset, .unset, .unset] [(.int p1)] [(.int 0), (.ref b152), (.ref b152)] (hb hby at_27) hml (lenOf pd_17 rfl) e152 rfl (Nat.le_refl _) (by decide)
    obtain ⟨rr_153, rfl, N153q, e153, p153_0⟩ := hQ153
    have N153 := Fr.app N0 N153q
    obtain ⟨cl_z154, Ar_z154, q_z154, S_z154, N_z154, H_z154, G_z154⟩ := id V_b152
    have hin155 : ¬ ((0 : Int32) < 0 ∨ cl_z154.slots.size ≤ ((0 : Int32)).toNatClampNeg) := inb_of S_z154 ⟨by decide, by decide⟩
    obtain ⟨T156, h156, X156, e156, W156, st156⟩ := stC X153 hx hZ e153 Ar_z154 (j := (0 : Int32)) hin155 (g := (mkF m 30 #[iv p0, iv p1, iv p2, iv p3, iv p4, iv 3, iv ((((p0.toUInt32 >>> ((3 : Int32) &&& 31).toUInt32).toInt32) &&& (2147483647 : Int32)) % (4 : Int32)), .unset, .unset, .unset] [(.int rr_153), (.int 0), (.ref b152), (.ref b152)])) rfl rfl (hb hby at_30)
    have Hc156 := CHv.wr W156 Sf152_b152 Hc152
    have Rc156 := Rc152.trans (CHr.wr W156 Sf152_b152 Hc152)
    have hk156 := Nat.le_trans hk152 (Keep.of_wr W156).1
    have Sf156_b152 := Safe.wr W156 Sf152_b152 Hc152 Sf152_b152
    have V156 : Arv Z h156 b152 k152 .char (4 : Int32) [(.int (rr_153.toUInt32.toUInt16.toUInt32.toInt32)), (.int 0), (.int 0), (.int 0)] (.int 0) := Arv.set Ar_z154 q_z154 S_z154 N_z154 H_z154 G_z154 (fits_nar_char _) W156 0 rfl (Nat.le_of_ble_eq_true rfl)
    have N156 := Fr.snoc X156 N153 g_b152
    obtain ⟨_, T157, L157, X157, hQ157, st157⟩ := own_cS 3 (rmDr l Z a0 hw [] p2 h156 n0 (Nat.le_trans (Nat.le_trans Z0 E152.1) (Keep.of_wr W156).1) ) X156 hx hZ hown hw 2 3 4 5 rfl rfl rfl rfl 34 #[iv p0, iv p1, iv p2, iv p3, iv p4, iv 3, iv ((((p0.toUInt32 >>> ((3 : Int32) &&& 31).toUInt32).toInt32) &&& (2147483647 : Int32)) % (4 : Int32)), .unset, .unset, .unset] [(.int p2)] [(.int 1), (.ref b152), (.ref b152)] (hb hby at_34) hml (lenOf pd_17 rfl) e156 rfl (Nat.le_refl _) (by decide)
    obtain ⟨rr_157, rfl, N157q, e157, p157_0⟩ := hQ157
    have N157 := Fr.app N156 N157q
    obtain ⟨cl_z158, Ar_z158, q_z158, S_z158, N_z158, H_z158, G_z158⟩ := id V156
    have hin159 : ¬ ((1 : Int32) < 0 ∨ cl_z158.slots.size ≤ ((1 : Int32)).toNatClampNeg) := inb_of S_z158 ⟨by decide, by decide⟩
    obtain ⟨T160, h160, X160, e160, W160, st160⟩ := stC X157 hx hZ e157 Ar_z158 (j := (1 : Int32)) hin159 (g := (mkF m 37 #[iv p0, iv p1, iv p2, iv p3, iv p4, iv 3, iv ((((p0.toUInt32 >>> ((3 : Int32) &&& 31).toUInt32).toInt32) &&& (2147483647 : Int32)) % (4 : Int32)), .unset, .unset, .unset] [(.int rr_157), (.int 1), (.ref b152), (.ref b152)])) rfl rfl (hb hby at_37)
    have Hc160 := CHv.wr W160 Sf156_b152 Hc156
    have Rc160 := Rc156.trans (CHr.wr W160 Sf156_b152 Hc156)
    have hk160 := Nat.le_trans hk156 (Keep.of_wr W160).1
    have Sf160_b152 := Safe.wr W160 Sf156_b152 Hc156 Sf156_b152
    have V160 : Arv Z h160 b152 k152 .char (4 : Int32) [(.int (rr_153.toUInt32.toUInt16.toUInt32.toInt32)), (.int (rr_157.toUInt32.toUInt16.toUInt32.toInt32)), (.int 0), (.int 0)] (.int 0) := Arv.set Ar_z158 q_z158 S_z158 N_z158 H_z158 G_z158 (fits_nar_char _) W160 1 rfl (Nat.le_of_ble_eq_true rfl)
    have N160 := Fr.snoc X160 N157 g_b152
    obtain ⟨_, T161, L161, X161, hQ161, st161⟩ := own_cS 3 (rmDr l Z a0 hw [] p3 h160 n0 (Nat.le_trans (Nat.le_trans (Nat.le_trans Z0 E152.1) (Keep.of_wr W156).1) (Keep.of_wr W160).1) ) X160 hx hZ hown hw 2 3 4 5 rfl rfl rfl rfl 41 #[iv p0, iv p1, iv p2, iv p3, iv p4, iv 3, iv ((((p0.toUInt32 >>> ((3 : Int32) &&& 31).toUInt32).toInt32) &&& (2147483647 : Int32)) % (4 : Int32)), .unset, .unset, .unset] [(.int p3)] [(.int 2), (.ref b152), (.ref b152)] (hb hby at_41) hml (lenOf pd_17 rfl) e160 rfl (Nat.le_refl _) (by decide)
    obtain ⟨rr_161, rfl, N161q, e161, p161_0⟩ := hQ161
    have N161 := Fr.app N160 N161q
    obtain ⟨cl_z162, Ar_z162, q_z162, S_z162, N_z162, H_z162, G_z162⟩ := id V160
    have hin163 : ¬ ((2 : Int32) < 0 ∨ cl_z162.slots.size ≤ ((2 : Int32)).toNatClampNeg) := inb_of S_z162 ⟨by decide, by decide⟩
    obtain ⟨T164, h164, X164, e164, W164, st164⟩ := stC X161 hx hZ e161 Ar_z162 (j := (2 : Int32)) hin163 (g := (mkF m 44 #[iv p0, iv p1, iv p2, iv p3, iv p4, iv 3, iv ((((p0.toUInt32 >>> ((3 : Int32) &&& 31).toUInt32).toInt32) &&& (2147483647 : Int32)) % (4 : Int32)), .unset, .unset, .unset] [(.int rr_161), (.int 2), (.ref b152), (.ref b152)])) rfl rfl (hb hby at_44)
    have Hc164 := CHv.wr W164 Sf160_b152 Hc160
    have Rc164 := Rc160.trans (CHr.wr W164 Sf160_b152 Hc160)
    have hk164 := Nat.le_trans hk160 (Keep.of_wr W164).1
    have Sf164_b152 := Safe.wr W164 Sf160_b152 Hc160 Sf160_b152
    have V164 : Arv Z h164 b152 k152 .char (4 : Int32) [(.int (rr_153.toUInt32.toUInt16.toUInt32.toInt32)), (.int (rr_157.toUInt32.toUInt16.toUInt32.toInt32)), (.int (rr_161.toUInt32.toUInt16.toUInt32.toInt32)), (.int 0)] (.int 0) := Arv.set Ar_z162 q_z162 S_z162 N_z162 H_z162 G_z162 (fits_nar_char _) W164 2 rfl (Nat.le_of_ble_eq_true rfl)
    have N164 := Fr.snoc X164 N161 g_b152
    obtain ⟨_, T165, L165, X165, hQ165, st165⟩ := own_cS 3 (rmDr l Z a0 hw [] p4 h164 n0 (Nat.le_trans (Nat.le_trans (Nat.le_trans (Nat.le_trans Z0 E152.1) (Keep.of_wr W156).1) (Keep.of_wr W160).1) (Keep.of_wr W164).1) ) X164 hx hZ hown hw 2 3 4 5 rfl rfl rfl rfl 49 #[iv p0, iv p1, iv p2, iv p3, iv p4, iv 3, iv ((((p0.toUInt32 >>> ((3 : Int32) &&& 31).toUInt32).toInt32) &&& (2147483647 : Int32)) % (4 : Int32)), .unset, .unset, .unset] [(.int p4)] [(.int 3), (.ref b152), (.ref b152)] (hb hby at_49) hml (lenOf pd_17 rfl) e164 rfl (Nat.le_refl _) (by decide)
    obtain ⟨rr_165, rfl, N165q, e165, p165_0⟩ := hQ165
    have N165 := Fr.app N164 N165q
    obtain ⟨cl_z166, Ar_z166, q_z166, S_z166, N_z166, H_z166, G_z166⟩ := id V164
    have hin167 : ¬ ((3 : Int32) < 0 ∨ cl_z166.slots.size ≤ ((3 : Int32)).toNatClampNeg) := inb_of S_z166 ⟨by decide, by decide⟩
    obtain ⟨T168, h168, X168, e168, W168, st168⟩ := stC X165 hx hZ e165 Ar_z166 (j := (3 : Int32)) hin167 (g := (mkF m 52 #[iv p0, iv p1, iv p2, iv p3, iv p4, iv 3, iv ((((p0.toUInt32 >>> ((3 : Int32) &&& 31).toUInt32).toInt32) &&& (2147483647 : Int32)) % (4 : Int32)), .unset, .unset, .unset] [(.int rr_165), (.int 3), (.ref b152), (.ref b152)])) rfl rfl (hb hby at_52)
    have Hc168 := CHv.wr W168 Sf164_b152 Hc164
    have Rc168 := Rc164.trans (CHr.wr W168 Sf164_b152 Hc164)
    have hk168 := Nat.le_trans hk164 (Keep.of_wr W168).1
    have Sf168_b152 := Safe.wr W168 Sf164_b152 Hc164 Sf164_b152
    have V168 : Arv Z h168 b152 k152 .char (4 : Int32) [(.int (rr_153.toUInt32.toUInt16.toUInt32.toInt32)), (.int (rr_157.toUInt32.toUInt16.toUInt32.toInt32)), (.int (rr_161.toUInt32.toUInt16.toUInt32.toInt32)), (.int (rr_165.toUInt32.toUInt16.toUInt32.toInt32))] (.int 0) := Arv.set Ar_z166 q_z166 S_z166 N_z166 H_z166 G_z166 (fits_nar_char _) W168 3 rfl (Nat.le_of_ble_eq_true rfl)
    have N168 := Fr.snoc X168 N165 g_b152
    obtain ⟨cl_z169, Ar_z169, q_z169, S_z169, N_z169, H_z169, G_z169⟩ := id V168
    have hin170 : ¬ ((0 : Int32) < 0 ∨ cl_z169.slots.size ≤ ((0 : Int32)).toNatClampNeg) := inb_of S_z169 ⟨by decide, by decide⟩
    have hin171 : ¬ ((1 : Int32) < 0 ∨ cl_z169.slots.size ≤ ((1 : Int32)).toNatClampNeg) := inb_of S_z169 ⟨by decide, by decide⟩
    have hin172 : ¬ ((2 : Int32) < 0 ∨ cl_z169.slots.size ≤ ((2 : Int32)).toNatClampNeg) := inb_of S_z169 ⟨by decide, by decide⟩
    have hin173 : ¬ ((3 : Int32) < 0 ∨ cl_z169.slots.size ≤ ((3 : Int32)).toNatClampNeg) := inb_of S_z169 ⟨by decide, by decide⟩
    have f175 := (((((S_CS.ext E152).wr W156).wr W160).wr W164).wr W168)
    have f176 := (((((S_AD.ext E152).wr W156).wr W160).wr W164).wr W168)
    have f177 := (((((S_HI.ext E152).wr W156).wr W160).wr W164).wr W168)
    have f178 := (((((S_LO.ext E152).wr W156).wr W160).wr W164).wr W168)
    obtain ⟨_, T174, L174, X174, hQ174, st174⟩ := own_cS 0 (rmTx_3 l Z a0 hw [] (rr_153.toUInt32.toUInt16.toUInt32.toInt32) (rr_157.toUInt32.toUInt16.toUInt32.toInt32) (rr_161.toUInt32.toUInt16.toUInt32.toInt32) (rr_165.toUInt32.toUInt16.toUInt32.toInt32) w_CS h168 n0 (Nat.le_trans (Nat.le_trans (Nat.le_trans (Nat.le_trans (Nat.le_trans Z0 E152.1) (Keep.of_wr W156).1) (Keep.of_wr W160).1) (Keep.of_wr W164).1) (Keep.of_wr W168).1) f175 hcs f176 f177 f178 (own_chc _) (own_chc _) (own_chc _)) X168 hx hZ hown hw 7 8 4 9 rfl rfl rfl rfl 73 #[iv p0, iv p1, iv p2, iv p3, iv p4, iv 3, iv ((((p0.toUInt32 >>> ((3 : Int32) &&& 31).toUInt32).toInt32) &&& (2147483647 : Int32)) % (4 : Int32)), rv b152, .unset, .unset] [(.int 3), (.int (rr_153.toUInt32.toUInt16.toUInt32.toInt32)), (.int (rr_157.toUInt32.toUInt16.toUInt32.toInt32)), (.int (rr_161.toUInt32.toUInt16.toUInt32.toInt32)), (.int (rr_165.toUInt32.toUInt16.toUInt32.toInt32))] [] (hb hby at_73) hml (lenOf pd_19 rfl) e168 rfl (Nat.le_refl _) (by decide)
    have f179 := ((((EA152.wr W156).wr W160).wr W164).wr W168)
    obtain ⟨ob_174, rfl, N174q, K174, p174_0, p174_1, p174_2⟩ := hQ174
    have Hc174 := CHv.keep K174 sf0 Hc168
    have Rc174 := Rc168.trans (CHr.keep K174 sf0 Hc168)
    have hk174 := Nat.le_trans hk168 K174.1
    have Sf174_b152 := Safe.keep K174 sf0 Hc168 Sf168_b152
    have g_ob_174 : n0 ≤ ob_174 := Nat.le_trans (Nat.le_trans (Nat.le_trans (Nat.le_trans (Nat.le_trans (Nat.le_trans Z0 E152.1) (Keep.of_wr W156).1) (Keep.of_wr W160).1) (Keep.of_wr W164).1) (Keep.of_wr W168).1) p174_0
    have sz_ob_174 : h0.size ≤ ob_174 := Nat.le_trans ((((((Keep.refl h0 []).ext E152).wr W156 (Or.inr sz_b152)).wr W160 (Or.inr sz_b152)).wr W164 (Or.inr sz_b152)).wr W168 (Or.inr sz_b152)).1 p174_0
    have N174 := Fr.app N168 N174q
    have k180 : ∀ t, OwnS p e below T174 (mkF m 82 #[iv p0, iv p1, iv p2, iv p3, iv p4, iv 3, iv ((((p0.toUInt32 >>> ((3 : Int32) &&& 31).toUInt32).toInt32) &&& (2147483647 : Int32)) % (4 : Int32)), rv b152, rv ob_174, .unset] [(.int ((((p0.toUInt32 >>> ((3 : Int32) &&& 31).toUInt32).toInt32) &&& (2147483647 : Int32)) % (4 : Int32))), (.ref ob_174)]) t → OwnS p e below s₁ (entryFrame m #[(.int p0), (.int p1), (.int p2), (.int p3), (.int p4)] maxLocals) t := fun t q => by
     refine k1 t ?_
     rw [hn]
     refine XS.istore X0.here hx rfl (hb hby at_6) rfl (l' := #[iv p0, iv p1, iv p2, iv p3, iv p4, iv 3, .unset, .unset, .unset, .unset]) rfl ?_
     refine oIn X0 hx hby at_8 rfl (oIc X0 hx hby at_9 ?_)
     refine XS.iushr X0.here hx rfl (hb hby at_10) rfl ?_
     refine X0.ldcInt hx hown (mvT hZ (own_at hw 0 rfl)) (g := (mkF m 11 #[iv p0, iv p1, iv p2, iv p3, iv p4, iv 3, .unset, .unset, .unset, .unset] [(.int ((p0.toUInt32 >>> ((3 : Int32) &&& 31).toUInt32).toInt32))])) rfl (hb hby at_11) _ ?_
     refine XS.iand X0.here hx rfl (hb hby at_13) rfl ?_
     refine oIl X0 hx hby at_14 rfl (oIc X0 hx hby at_16 ?_)
     refine XS.iadd X0.here hx rfl (hb hby at_17) rfl ?_
     refine iremM X0 hx (g := (mkF m 18 #[iv p0, iv p1, iv p2, iv p3, iv p4, iv 3, .unset, .unset, .unset, .unset] [(.int 4), (.int (((p0.toUInt32 >>> ((3 : Int32) &&& 31).toUInt32).toInt32) &&& (2147483647 : Int32)))])) rfl (hb hby at_18) rfl (by decide) ?_
     refine XS.istore X0.here hx rfl (hb hby at_19) rfl (l' := #[iv p0, iv p1, iv p2, iv p3, iv p4, iv 3, iv ((((p0.toUInt32 >>> ((3 : Int32) &&& 31).toUInt32).toInt32) &&& (2147483647 : Int32)) % (4 : Int32)), .unset, .unset, .unset]) rfl ?_
     refine oIc X0 hx hby at_21 ?_
     refine st152 _ ?_
     refine XS.dup X152.here hx rfl (hb hby at_24) rfl rfl ?_
     refine oIc X152 hx hby at_25 (oIn X152 hx hby at_26 rfl ?_)
     refine st153 _ ?_
     refine st156 _ ?_
     refine XS.dup X156.here hx rfl (hb hby at_31) rfl rfl ?_
     refine oIc X156 hx hby at_32 (oIn X156 hx hby at_33 rfl ?_)
     refine st157 _ ?_
     refine st160 _ ?_
     refine XS.dup X160.here hx rfl (hb hby at_38) rfl rfl ?_
     refine oIc X160 hx hby at_39 (oIn X160 hx hby at_40 rfl ?_)
     refine st161 _ ?_
     refine st164 _ ?_
     refine XS.dup X164.here hx rfl (hb hby at_45) rfl rfl ?_
     refine oIc X164 hx hby at_46 (oIl X164 hx hby at_47 rfl ?_)
     refine st165 _ ?_
     refine st168 _ ?_
     refine XS.astore X168.here hx rfl (hb hby at_53) rfl rfl (l' := #[iv p0, iv p1, iv p2, iv p3, iv p4, iv 3, iv ((((p0.toUInt32 >>> ((3 : Int32) &&& 31).toUInt32).toInt32) &&& (2147483647 : Int32)) % (4 : Int32)), rv b152, .unset, .unset]) rfl ?_
     refine oIl X168 hx hby at_55 rfl (oAl X168 hx hby at_57 rfl rfl (oIc X168 hx hby at_59 ?_))
     refine X168.caload hx (j := (0 : Int32)) (v := (.int (rr_153.toUInt32.toUInt16.toUInt32.toInt32))) (by rw [e168]; exact Ar_z169.1) (State.isArrayOf_alike hZ.alike Ar_z169.2.1) Ar_z169.2.2 hin170 (Has.at H_z169 hin170 rfl) (g := (mkF m 60 #[iv p0, iv p1, iv p2, iv p3, iv p4, iv 3, iv ((((p0.toUInt32 >>> ((3 : Int32) &&& 31).toUInt32).toInt32) &&& (2147483647 : Int32)) % (4 : Int32)), rv b152, .unset, .unset] [(.int 0), (.ref b152), (.int 3)])) rfl rfl (hb hby at_60) _ ?_
     refine oAl X168 hx hby at_61 rfl rfl ?_
     show OwnS p e below T168 (mkF m 63 #[iv p0, iv p1, iv p2, iv p3, iv p4, iv 3, iv ((((p0.toUInt32 >>> ((3 : Int32) &&& 31).toUInt32).toInt32) &&& (2147483647 : Int32)) % (4 : Int32)), rv b152, .unset, .unset] [(.ref b152), (.int (rr_153.toUInt32.toUInt16.toUInt32.toInt32)), (.int 3)]) _
     refine oIc X168 hx hby at_63 ?_
     refine X168.caload hx (j := (1 : Int32)) (v := (.int (rr_157.toUInt32.toUInt16.toUInt32.toInt32))) (by rw [e168]; exact Ar_z169.1) (State.isArrayOf_alike hZ.alike Ar_z169.2.1) Ar_z169.2.2 hin171 (Has.at H_z169 hin171 rfl) (g := (mkF m 64 #[iv p0, iv p1, iv p2, iv p3, iv p4, iv 3, iv ((((p0.toUInt32 >>> ((3 : Int32) &&& 31).toUInt32).toInt32) &&& (2147483647 : Int32)) % (4 : Int32)), rv b152, .unset, .unset] [(.int 1), (.ref b152), (.int (rr_153.toUInt32.toUInt16.toUInt32.toInt32)), (.int 3)])) rfl rfl (hb hby at_64) _ ?_
     refine oAl X168 hx hby at_65 rfl rfl (oIc X168 hx hby at_67 ?_)
     refine X168.caload hx (j := (2 : Int32)) (v := (.int (rr_161.toUInt32.toUInt16.toUInt32.toInt32))) (by rw [e168]; exact Ar_z169.1) (State.isArrayOf_alike hZ.alike Ar_z169.2.1) Ar_z169.2.2 hin172 (Has.at H_z169 hin172 rfl) (g := (mkF m 68 #[iv p0, iv p1, iv p2, iv p3, iv p4, iv 3, iv ((((p0.toUInt32 >>> ((3 : Int32) &&& 31).toUInt32).toInt32) &&& (2147483647 : Int32)) % (4 : Int32)), rv b152, .unset, .unset] [(.int 2), (.ref b152), (.int (rr_157.toUInt32.toUInt16.toUInt32.toInt32)), (.int (rr_153.toUInt32.toUInt16.toUInt32.toInt32)), (.int 3)])) rfl rfl (hb hby at_68) _ ?_
     refine oAl X168 hx hby at_69 rfl rfl (oIc X168 hx hby at_71 ?_)
     refine X168.caload hx (j := (3 : Int32)) (v := (.int (rr_165.toUInt32.toUInt16.toUInt32.toInt32))) (by rw [e168]; exact Ar_z169.1) (State.isArrayOf_alike hZ.alike Ar_z169.2.1) Ar_z169.2.2 hin173 (Has.at H_z169 hin173 rfl) (g := (mkF m 72 #[iv p0, iv p1, iv p2, iv p3, iv p4, iv 3, iv ((((p0.toUInt32 >>> ((3 : Int32) &&& 31).toUInt32).toInt32) &&& (2147483647 : Int32)) % (4 : Int32)), rv b152, .unset, .unset] [(.int 3), (.ref b152), (.int (rr_161.toUInt32.toUInt16.toUInt32.toInt32)), (.int (rr_157.toUInt32.toUInt16.toUInt32.toInt32)), (.int (rr_153.toUInt32.toUInt16.toUInt32.toInt32)), (.int 3)])) rfl rfl (hb hby at_72) _ ?_
     refine st174 _ ?_
     refine XS.astore X174.here hx rfl (hb hby at_76) rfl rfl (l' := #[iv p0, iv p1, iv p2, iv p3, iv p4, iv 3, iv ((((p0.toUInt32 >>> ((3 : Int32) &&& 31).toUInt32).toInt32) &&& (2147483647 : Int32)) % (4 : Int32)), rv b152, rv ob_174, .unset]) rfl ?_
     refine oAl X174 hx hby at_78 rfl rfl (oIl X174 hx hby at_80 rfl ?_)
     exact q
    rcases own_mod4 ((p0.toUInt32 >>> ((3 : Int32) &&& 31).toUInt32).toInt32) with hf | hf | hf | hf
    · have f182 := (own_sta_keep f175 K174 all0)
      have f183 := (own_sta_keep (((((S_F.ext E152).wr W156).wr W160).wr W164).wr W168) K174 all0)
      have f184 := (own_sta_keep f176 K174 all0)
      have f185 := (own_sta_keep f177 K174 all0)
      have f186 := (own_sta_keep f178 K174 all0)
      obtain ⟨_, T181, L181, X181, hQ181, st181⟩ := own_cS 0 (rmSk_3_0 l Z a0 hw [] ob_174 w_CS w_F (rr_153.toUInt32.toUInt16.toUInt32.toInt32) (rr_157.toUInt32.toUInt16.toUInt32.toInt32) (rr_161.toUInt32.toUInt16.toUInt32.toInt32) T174.heap n0 (Nat.le_trans (Nat.le_trans (Nat.le_trans (Nat.le_trans (Nat.le_trans (Nat.le_trans Z0 E152.1) (Keep.of_wr W156).1) (Keep.of_wr W160).1) (Keep.of_wr W164).1) (Keep.of_wr W168).1) K174.1) f182 hcs f183 hwF f184 f185 f186 p174_2 (own_chc _) (own_chc _) (own_chc _) p174_1) X174 hx hZ hown hw 31 32 33 34 rfl rfl rfl rfl 82 #[iv p0, iv p1, iv p2, iv p3, iv p4, iv 3, iv 0, rv b152, rv ob_174, .unset] [(.ref ob_174), (.int 0)] [] (hb hby at_82) hml (lenOf pd_20 rfl) rfl rfl (Nat.le_refl _) (by decide)
      obtain ⟨rfl, N181q, e181⟩ := hQ181
      have N181 := Fr.app N174 N181q
      have k187 : ∀ t, OwnS p e below T181 (mkF m 85 #[iv p0, iv p1, iv p2, iv p3, iv p4, iv 3, iv 0, rv b152, rv ob_174, .unset] [(.int (own_sk3_0 (rr_153.toUInt32.toUInt16.toUInt32.toInt32) (rr_157.toUInt32.toUInt16.toUInt32.toInt32) (rr_161.toUInt32.toUInt16.toUInt32.toInt32)))]) t → OwnS p e below s₁ (entryFrame m #[(.int p0), (.int p1), (.int p2), (.int p3), (.int p4)] maxLocals) t := fun t q => by
       refine k180 t ?_
       rw [hf]
       refine st181 _ ?_
       exact q
      rcases own_kc3_0 (rr_153.toUInt32.toUInt16.toUInt32.toInt32) (rr_157.toUInt32.toUInt16.toUInt32.toInt32) (rr_161.toUInt32.toUInt16.toUInt32.toInt32) with ⟨hs0, hr⟩ | ⟨hs0, hs1, hr⟩ | ⟨hs0, hs1, hs2, hr⟩ | ⟨hs0, hs1, hs2, hr⟩
      · have f188 := (V168.keep K174 nin0)
        have k189 : ∀ t, OwnS p e below T181 (mkF m 110 #[iv p0, iv p1, iv p2, iv p3, iv p4, iv 3, iv 0, rv b152, rv ob_174, iv 0] []) t → OwnS p e below s₁ (entryFrame m #[(.int p0), (.int p1), (.int p2), (.int p3), (.int p4)] maxLocals) t := fun t q => by
         refine k187 t ?_
         rw [hr]
         refine XS.istore X181.here hx rfl (hb hby at_85) rfl (l' := #[iv p0, iv p1, iv p2, iv p3, iv p4, iv 3, iv 0, rv b152, rv ob_174, iv 0]) rfl ?_
         refine oIl X181 hx hby at_87 rfl (oIl X181 hx hby at_89 rfl ?_)
         refine XS.icmpNo X181.here hx rfl (hb hby at_91) rfl (flt (by decide : ¬ ((0 : Int32) < (0 : Int32)))).1 ?_
         refine oIl X181 hx hby at_94 rfl (oIl X181 hx hby at_96 rfl ?_)
         refine XS.icmpYes X181.here hx rfl (pc0 := 98) (pc' := 103) rfl (hb hby at_98) rfl (flt (by decide : ¬ ((3 : Int32) < (0 : Int32)))).2.2.2 (by decide) (by decide) ?_
         refine oIl X181 hx hby at_103 rfl (oIl X181 hx hby at_105 rfl ?_)
         refine XS.icmpNo X181.here hx rfl (hb hby at_107) rfl (tlt (by decide : (0 : Int32) < (3 : Int32))).2.1 ?_
         exact q
        obtain ⟨s190, o190, ja190, jb190, jc190, v190, L190, rfl, ⟨hv190, jN190, jh190, -⟩, jF190⟩ := sgW0 l Z a0 hw p0 p1 p2 p3 p4 (3 : Int32) (0 : Int32) b152 ob_174 k152 (rr_153.toUInt32.toUInt16.toUInt32.toInt32) (rr_157.toUInt32.toUInt16.toUInt32.toInt32) (rr_161.toUInt32.toUInt16.toUInt32.toInt32) (rr_165.toUInt32.toUInt16.toUInt32.toInt32) T174.heap n0 (Nat.le_trans (Nat.le_trans (Nat.le_trans (Nat.le_trans (Nat.le_trans (Nat.le_trans Z0 E152.1) (Keep.of_wr W156).1) (Keep.of_wr W160).1) (Keep.of_wr W164).1) (Keep.of_wr W168).1) K174.1) f188 (own_ok2 (by decide)) (own_ok2 (by decide)) (own_ok2 (by decide)) (own_ok2 (by decide)) hs0 (own_more X181 (by decide) (by decide)) hx hZ hby hml hown Bd.returns Bd.notSynchronized e181 N181 hS0 hk174 Hc174 Rc174 hh
        exact ⟨s190, _, k189 _ ja190, jb190, jc190, v190, L190, rfl, ⟨hv190.trans rfl, jN190, trivial⟩, jF190⟩
      · have f191 := (V168.keep K174 nin0)
        have k192 : ∀ t, OwnS p e below T181 (mkF m 110 #[iv p0, iv p1, iv p2, iv p3, iv p4, iv 3, iv 0, rv b152, rv ob_174, iv 1] []) t → OwnS p e below s₁ (entryFrame m #[(.int p0), (.int p1), (.int p2), (.int p3), (.int p4)] maxLocals) t := fun t q => by
         refine k187 t ?_
         rw [hr]
         refine XS.istore X181.here hx rfl (hb hby at_85) rfl (l' := #[iv p0, iv p1, iv p2, iv p3, iv p4, iv 3, iv 0, rv b152, rv ob_174, iv 1]) rfl ?_
         refine oIl X181 hx hby at_87 rfl (oIl X181 hx hby at_89 rfl ?_)
         refine XS.icmpNo X181.here hx rfl (hb hby at_91) rfl (flt (by decide : ¬ ((1 : Int32) < (0 : Int32)))).1 ?_
         refine oIl X181 hx hby at_94 rfl (oIl X181 hx hby at_96 rfl ?_)
         refine XS.icmpYes X181.here hx rfl (pc0 := 98) (pc' := 103) rfl (hb hby at_98) rfl (flt (by decide : ¬ ((3 : Int32) < (1 : Int32)))).2.2.2 (by decide) (by decide) ?_
         refine oIl X181 hx hby at_103 rfl (oIl X181 hx hby at_105 rfl ?_)
         refine XS.icmpNo X181.here hx rfl (hb hby at_107) rfl (tlt (by decide : (1 : Int32) < (3 : Int32))).2.1 ?_
         exact q
        obtain ⟨s193, o193, ja193, jb193, jc193, v193, L193, rfl, ⟨hv193, jN193, jh193, -⟩, jF193⟩ := sgW1 l Z a0 hw p0 p1 p2 p3 p4 (3 : Int32) (0 : Int32) b152 ob_174 k152 (rr_153.toUInt32.toUInt16.toUInt32.toInt32) (rr_157.toUInt32.toUInt16.toUInt32.toInt32) (rr_161.toUInt32.toUInt16.toUInt32.toInt32) (rr_165.toUInt32.toUInt16.toUInt32.toInt32) T174.heap n0 (Nat.le_trans (Nat.le_trans (Nat.le_trans (Nat.le_trans (Nat.le_trans (Nat.le_trans Z0 E152.1) (Keep.of_wr W156).1) (Keep.of_wr W160).1) (Keep.of_wr W164).1) (Keep.of_wr W168).1) K174.1) f191 (own_ok4 hs0) (own_ok2 (by decide)) (own_ok2 (by decide)) (own_ok2 (by decide)) hs1 (own_more X181 (by decide) (by decide)) hx hZ hby hml hown Bd.returns Bd.notSynchronized e181 N181 hS0 hk174 Hc174 Rc174 hh
        exact ⟨s193, _, k192 _ ja193, jb193, jc193, v193, L193, rfl, ⟨hv193.trans rfl, jN193, trivial⟩, jF193⟩
      · have f194 := (V168.keep K174 nin0)
        have k195 : ∀ t, OwnS p e below T181 (mkF m 110 #[iv p0, iv p1, iv p2, iv p3, iv p4, iv 3, iv 0, rv b152, rv ob_174, iv 2] []) t → OwnS p e below s₁ (entryFrame m #[(.int p0), (.int p1), (.int p2), (.int p3), (.int p4)] maxLocals) t := fun t q => by
         refine k187 t ?_
         rw [hr]
         refine XS.istore X181.here hx rfl (hb hby at_85) rfl (l' := #[iv p0, iv p1, iv p2, iv p3, iv p4, iv 3, iv 0, rv b152, rv ob_174, iv 2]) rfl ?_
         refine oIl X181 hx hby at_87 rfl (oIl X181 hx hby at_89 rfl ?_)
         refine XS.icmpNo X181.here hx rfl (hb hby at_91) rfl (flt (by decide : ¬ ((2 : Int32) < (0 : Int32)))).1 ?_
         refine oIl X181 hx hby at_94 rfl (oIl X181 hx hby at_96 rfl ?_)
         refine XS.icmpYes X181.here hx rfl (pc0 := 98) (pc' := 103) rfl (hb hby at_98) rfl (flt (by decide : ¬ ((3 : Int32) < (2 : Int32)))).2.2.2 (by decide) (by decide) ?_
         refine oIl X181 hx hby at_103 rfl (oIl X181 hx hby at_105 rfl ?_)
         refine XS.icmpNo X181.here hx rfl (hb hby at_107) rfl (tlt (by decide : (2 : Int32) < (3 : Int32))).2.1 ?_
         exact q
        obtain ⟨s196, o196, ja196, jb196, jc196, v196, L196, rfl, ⟨hv196, jN196, jh196, -⟩, jF196⟩ := sgW2 l Z a0 hw p0 p1 p2 p3 p4 (3 : Int32) (0 : Int32) b152 ob_174 k152 (rr_153.toUInt32.toUInt16.toUInt32.toInt32) (rr_157.toUInt32.toUInt16.toUInt32.toInt32) (rr_161.toUInt32.toUInt16.toUInt32.toInt32) (rr_165.toUInt32.toUInt16.toUInt32.toInt32) T174.heap n0 (Nat.le_trans (Nat.le_trans (Nat.le_trans (Nat.le_trans (Nat.le_trans (Nat.le_trans Z0 E152.1) (Keep.of_wr W156).1) (Keep.of_wr W160).1) (Keep.of_wr W164).1) (Keep.of_wr W168).1) K174.1) f194 (own_ok4 hs0) (own_ok4 hs1) (own_ok2 (by decide)) (own_ok2 (by decide)) hs2 (own_more X181 (by decide) (by decide)) hx hZ hby hml hown Bd.returns Bd.notSynchronized e181 N181 hS0 hk174 Hc174 Rc174 hh
        exact ⟨s196, _, k195 _ ja196, jb196, jc196, v196, L196, rfl, ⟨hv196.trans rfl, jN196, trivial⟩, jF196⟩
      · have f197 := (V168.keep K174 nin0)
        have k198 : ∀ t, OwnS p e below T181 (mkF m 123 #[iv p0, iv p1, iv p2, iv p3, iv p4, iv 3, iv 0, rv b152, rv ob_174, iv 3] []) t → OwnS p e below s₁ (entryFrame m #[(.int p0), (.int p1), (.int p2), (.int p3), (.int p4)] maxLocals) t := fun t q => by
         refine k187 t ?_
         rw [hr]
         refine XS.istore X181.here hx rfl (hb hby at_85) rfl (l' := #[iv p0, iv p1, iv p2, iv p3, iv p4, iv 3, iv 0, rv b152, rv ob_174, iv 3]) rfl ?_
         refine oIl X181 hx hby at_87 rfl (oIl X181 hx hby at_89 rfl ?_)
         refine XS.icmpNo X181.here hx rfl (hb hby at_91) rfl (flt (by decide : ¬ ((3 : Int32) < (0 : Int32)))).1 ?_
         refine oIl X181 hx hby at_94 rfl (oIl X181 hx hby at_96 rfl ?_)
         refine XS.icmpYes X181.here hx rfl (pc0 := 98) (pc' := 103) rfl (hb hby at_98) rfl (flt (by decide : ¬ ((3 : Int32) < (3 : Int32)))).2.2.2 (by decide) (by decide) ?_
         refine oIl X181 hx hby at_103 rfl (oIl X181 hx hby at_105 rfl ?_)
         refine XS.icmpYes X181.here hx rfl (pc0 := 107) (pc' := 123) rfl (hb hby at_107) rfl (flt (by decide : ¬ ((3 : Int32) < (3 : Int32)))).2.1 (by decide) (by decide) ?_
         exact q
        obtain ⟨s199, o199, ja199, jb199, jc199, v199, L199, rfl, ⟨hv199, jN199, jh199, -⟩, jF199⟩ := sgT l Z a0 hw p0 p1 p2 p3 p4 (3 : Int32) (0 : Int32) b152 ob_174 (3 : Int32) k152 (rr_153.toUInt32.toUInt16.toUInt32.toInt32) (rr_157.toUInt32.toUInt16.toUInt32.toInt32) (rr_161.toUInt32.toUInt16.toUInt32.toInt32) (rr_165.toUInt32.toUInt16.toUInt32.toInt32) T174.heap n0 (Nat.le_trans (Nat.le_trans (Nat.le_trans (Nat.le_trans (Nat.le_trans (Nat.le_trans Z0 E152.1) (Keep.of_wr W156).1) (Keep.of_wr W160).1) (Keep.of_wr W164).1) (Keep.of_wr W168).1) K174.1) f197 (own_ok4 hs0) (own_ok4 hs1) (own_ok4 hs2) (own_ok2 (by decide)) (own_more X181 (by decide) (by decide)) hx hZ hby hml hown Bd.returns Bd.notSynchronized e181 N181 hS0 hk174 Hc174 Rc174 hh
        exact ⟨s199, _, k198 _ ja199, jb199, jc199, v199, L199, rfl, ⟨hv199.trans rfl, jN199, trivial⟩, jF199⟩
    · have f201 := (own_sta_keep f175 K174 all0)
      have f202 := (own_sta_keep (((((S_F.ext E152).wr W156).wr W160).wr W164).wr W168) K174 all0)
      have f203 := (own_sta_keep f176 K174 all0)
      have f204 := (own_sta_keep f177 K174 all0)
      have f205 := (own_sta_keep f178 K174 all0)
      obtain ⟨_, T200, L200, X200, hQ200, st200⟩ := own_cS 0 (rmSk_3_1 l Z a0 hw [] ob_174 w_CS w_F (rr_153.toUInt32.toUInt16.toUInt32.toInt32) (rr_157.toUInt32.toUInt16.toUInt32.toInt32) (rr_161.toUInt32.toUInt16.toUInt32.toInt32) T174.heap n0 (Nat.le_trans (Nat.le_trans (Nat.le_trans (Nat.le_trans (Nat.le_trans (Nat.le_trans Z0 E152.1) (Keep.of_wr W156).1) (Keep.of_wr W160).1) (Keep.of_wr W164).1) (Keep.of_wr W168).1) K174.1) f201 hcs f202 hwF f203 f204 f205 p174_2 (own_chc _) (own_chc _) (own_chc _) p174_1) X174 hx hZ hown hw 31 32 33 34 rfl rfl rfl rfl 82 #[iv p0, iv p1, iv p2, iv p3, iv p4, iv 3, iv 1, rv b152, rv ob_174, .unset] [(.ref ob_174), (.int 1)] [] (hb hby at_82) hml (lenOf pd_20 rfl) rfl rfl (Nat.le_refl _) (by decide)
      obtain ⟨rfl, N200q, e200⟩ := hQ200
      have N200 := Fr.app N174 N200q
      have k206 : ∀ t, OwnS p e below T200 (mkF m 85 #[iv p0, iv p1, iv p2, iv p3, iv p4, iv 3, iv 1, rv b152, rv ob_174, .unset] [(.int (own_sk3_1 (rr_153.toUInt32.toUInt16.toUInt32.toInt32) (rr_157.toUInt32.toUInt16.toUInt32.toInt32) (rr_161.toUInt32.toUInt16.toUInt32.toInt32)))]) t → OwnS p e below s₁ (entryFrame m #[(.int p0), (.int p1), (.int p2), (.int p3), (.int p4)] maxLocals) t := fun t q => by
       refine k180 t ?_
       rw [hf]
       refine st200 _ ?_
       exact q
      rcases own_kc3_1 (rr_153.toUInt32.toUInt16.toUInt32.toInt32) (rr_157.toUInt32.toUInt16.toUInt32.toInt32) (rr_161.toUInt32.toUInt16.toUInt32.toInt32) with ⟨hs1, hr⟩ | ⟨hs1, hs2, hr⟩ | ⟨hs1, hs2, hr⟩
      · have f207 := (V168.keep K174 nin0)
        have k208 : ∀ t, OwnS p e below T200 (mkF m 110 #[iv p0, iv p1, iv p2, iv p3, iv p4, iv 3, iv 1, rv b152, rv ob_174, iv 1] []) t → OwnS p e below s₁ (entryFrame m #[(.int p0), (.int p1), (.int p2), (.int p3), (.int p4)] maxLocals) t := fun t q => by
         refine k206 t ?_
         rw [hr]
         refine XS.istore X200.here hx rfl (hb hby at_85) rfl (l' := #[iv p0, iv p1, iv p2, iv p3, iv p4, iv 3, iv 1, rv b152, rv ob_174, iv 1]) rfl ?_
         refine oIl X200 hx hby at_87 rfl (oIl X200 hx hby at_89 rfl ?_)
         refine XS.icmpNo X200.here hx rfl (hb hby at_91) rfl (flt (by decide : ¬ ((1 : Int32) < (1 : Int32)))).1 ?_
         refine oIl X200 hx hby at_94 rfl (oIl X200 hx hby at_96 rfl ?_)
         refine XS.icmpYes X200.here hx rfl (pc0 := 98) (pc' := 103) rfl (hb hby at_98) rfl (flt (by decide : ¬ ((3 : Int32) < (1 : Int32)))).2.2.2 (by decide) (by decide) ?_
         refine oIl X200 hx hby at_103 rfl (oIl X200 hx hby at_105 rfl ?_)
         refine XS.icmpNo X200.here hx rfl (hb hby at_107) rfl (tlt (by decide : (1 : Int32) < (3 : Int32))).2.1 ?_
         exact q
        obtain ⟨s209, o209, ja209, jb209, jc209, v209, L209, rfl, ⟨hv209, jN209, jh209, -⟩, jF209⟩ := sgW1 l Z a0 hw p0 p1 p2 p3 p4 (3 : Int32) (1 : Int32) b152 ob_174 k152 (rr_153.toUInt32.toUInt16.toUInt32.toInt32) (rr_157.toUInt32.toUInt16.toUInt32.toInt32) (rr_161.toUInt32.toUInt16.toUInt32.toInt32) (rr_165.toUInt32.toUInt16.toUInt32.toInt32) T174.heap n0 (Nat.le_trans (Nat.le_trans (Nat.le_trans (Nat.le_trans (Nat.le_trans (Nat.le_trans Z0 E152.1) (Keep.of_wr W156).1) (Keep.of_wr W160).1) (Keep.of_wr W164).1) (Keep.of_wr W168).1) K174.1) f207 (own_ok1 (by decide)) (own_ok2 (by decide)) (own_ok2 (by decide)) (own_ok2 (by decide)) hs1 (own_more X200 (by decide) (by decide)) hx hZ hby hml hown Bd.returns Bd.notSynchronized e200 N200 hS0 hk174 Hc174 Rc174 hh
        exact ⟨s209, _, k208 _ ja209, jb209, jc209, v209, L209, rfl, ⟨hv209.trans rfl, jN209, trivial⟩, jF209⟩
      · have f210 := (V168.keep K174 nin0)
        have k211 : ∀ t, OwnS p e below T200 (mkF m 110 #[iv p0, iv p1, iv p2, iv p3, iv p4, iv 3, iv 1, rv b152, rv ob_174, iv 2] []) t → OwnS p e below s₁ (entryFrame m #[(.int p0), (.int p1), (.int p2), (.int p3), (.int p4)] maxLocals) t := fun t q => by
         refine k206 t ?_
         rw [hr]
         refine XS.istore X200.here hx rfl (hb hby at_85) rfl (l' := #[iv p0, iv p1, iv p2, iv p3, iv p4, iv 3, iv 1, rv b152, rv ob_174, iv 2]) rfl ?_
         refine oIl X200 hx hby at_87 rfl (oIl X200 hx hby at_89 rfl ?_)
         refine XS.icmpNo X200.here hx rfl (hb hby at_91) rfl (flt (by decide : ¬ ((2 : Int32) < (1 : Int32)))).1 ?_
         refine oIl X200 hx hby at_94 rfl (oIl X200 hx hby at_96 rfl ?_)
         refine XS.icmpYes X200.here hx rfl (pc0 := 98) (pc' := 103) rfl (hb hby at_98) rfl (flt (by decide : ¬ ((3 : Int32) < (2 : Int32)))).2.2.2 (by decide) (by decide) ?_
         refine oIl X200 hx hby at_103 rfl (oIl X200 hx hby at_105 rfl ?_)
         refine XS.icmpNo X200.here hx rfl (hb hby at_107) rfl (tlt (by decide : (2 : Int32) < (3 : Int32))).2.1 ?_
         exact q
        obtain ⟨s212, o212, ja212, jb212, jc212, v212, L212, rfl, ⟨hv212, jN212, jh212, -⟩, jF212⟩ := sgW2 l Z a0 hw p0 p1 p2 p3 p4 (3 : Int32) (1 : Int32) b152 ob_174 k152 (rr_153.toUInt32.toUInt16.toUInt32.toInt32) (rr_157.toUInt32.toUInt16.toUInt32.toInt32) (rr_161.toUInt32.toUInt16.toUInt32.toInt32) (rr_165.toUInt32.toUInt16.toUInt32.toInt32) T174.heap n0 (Nat.le_trans (Nat.le_trans (Nat.le_trans (Nat.le_trans (Nat.le_trans (Nat.le_trans Z0 E152.1) (Keep.of_wr W156).1) (Keep.of_wr W160).1) (Keep.of_wr W164).1) (Keep.of_wr W168).1) K174.1) f210 (own_ok1 (by decide)) (own_ok4 hs1) (own_ok2 (by decide)) (own_ok2 (by decide)) hs2 (own_more X200 (by decide) (by decide)) hx hZ hby hml hown Bd.returns Bd.notSynchronized e200 N200 hS0 hk174 Hc174 Rc174 hh
        exact ⟨s212, _, k211 _ ja212, jb212, jc212, v212, L212, rfl, ⟨hv212.trans rfl, jN212, trivial⟩, jF212⟩
      · have f213 := (V168.keep K174 nin0)
        have k214 : ∀ t, OwnS p e below T200 (mkF m 123 #[iv p0, iv p1, iv p2, iv p3, iv p4, iv 3, iv 1, rv b152, rv ob_174, iv 3] []) t → OwnS p e below s₁ (entryFrame m #[(.int p0), (.int p1), (.int p2), (.int p3), (.int p4)] maxLocals) t := fun t q => by
         refine k206 t ?_
         rw [hr]
         refine XS.istore X200.here hx rfl (hb hby at_85) rfl (l' := #[iv p0, iv p1, iv p2, iv p3, iv p4, iv 3, iv 1, rv b152, rv ob_174, iv 3]) rfl ?_
         refine oIl X200 hx hby at_87 rfl (oIl X200 hx hby at_89 rfl ?_)
         refine XS.icmpNo X200.here hx rfl (hb hby at_91) rfl (flt (by decide : ¬ ((3 : Int32) < (1 : Int32)))).1 ?_
         refine oIl X200 hx hby at_94 rfl (oIl X200 hx hby at_96 rfl ?_)
         refine XS.icmpYes X200.here hx rfl (pc0 := 98) (pc' := 103) rfl (hb hby at_98) rfl (flt (by decide : ¬ ((3 : Int32) < (3 : Int32)))).2.2.2 (by decide) (by decide) ?_
         refine oIl X200 hx hby at_103 rfl (oIl X200 hx hby at_105 rfl ?_)
         refine XS.icmpYes X200.here hx rfl (pc0 := 107) (pc' := 123) rfl (hb hby at_107) rfl (flt (by decide : ¬ ((3 : Int32) < (3 : Int32)))).2.1 (by decide) (by decide) ?_
         exact q
        obtain ⟨s215, o215, ja215, jb215, jc215, v215, L215, rfl, ⟨hv215, jN215, jh215, -⟩, jF215⟩ := sgT l Z a0 hw p0 p1 p2 p3 p4 (3 : Int32) (1 : Int32) b152 ob_174 (3 : Int32) k152 (rr_153.toUInt32.toUInt16.toUInt32.toInt32) (rr_157.toUInt32.toUInt16.toUInt32.toInt32) (rr_161.toUInt32.toUInt16.toUInt32.toInt32) (rr_165.toUInt32.toUInt16.toUInt32.toInt32) T174.heap n0 (Nat.le_trans (Nat.le_trans (Nat.le_trans (Nat.le_trans (Nat.le_trans (Nat.le_trans Z0 E152.1) (Keep.of_wr W156).1) (Keep.of_wr W160).1) (Keep.of_wr W164).1) (Keep.of_wr W168).1) K174.1) f213 (own_ok1 (by decide)) (own_ok4 hs1) (own_ok4 hs2) (own_ok2 (by decide)) (own_more X200 (by decide) (by decide)) hx hZ hby hml hown Bd.returns Bd.notSynchronized e200 N200 hS0 hk174 Hc174 Rc174 hh
        exact ⟨s215, _, k214 _ ja215, jb215, jc215, v215, L215, rfl, ⟨hv215.trans rfl, jN215, trivial⟩, jF215⟩
    · have f217 := (own_sta_keep f175 K174 all0)
      have f218 := (own_sta_keep (((((S_F.ext E152).wr W156).wr W160).wr W164).wr W168) K174 all0)
      have f219 := (own_sta_keep f176 K174 all0)
      have f220 := (own_sta_keep f177 K174 all0)
      have f221 := (own_sta_keep f178 K174 all0)
      obtain ⟨_, T216, L216, X216, hQ216, st216⟩ := own_cS 0 (rmSk_3_2 l Z a0 hw [] ob_174 w_CS w_F (rr_153.toUInt32.toUInt16.toUInt32.toInt32) (rr_157.toUInt32.toUInt16.toUInt32.toInt32) (rr_161.toUInt32.toUInt16.toUInt32.toInt32) T174.heap n0 (Nat.le_trans (Nat.le_trans (Nat.le_trans (Nat.le_trans (Nat.le_trans (Nat.le_trans Z0 E152.1) (Keep.of_wr W156).1) (Keep.of_wr W160).1) (Keep.of_wr W164).1) (Keep.of_wr W168).1) K174.1) f217 hcs f218 hwF f219 f220 f221 p174_2 (own_chc _) (own_chc _) (own_chc _) p174_1) X174 hx hZ hown hw 31 32 33 34 rfl rfl rfl rfl 82 #[iv p0, iv p1, iv p2, iv p3, iv p4, iv 3, iv 2, rv b152, rv ob_174, .unset] [(.ref ob_174), (.int 2)] [] (hb hby at_82) hml (lenOf pd_20 rfl) rfl rfl (Nat.le_refl _) (by decide)
      obtain ⟨rfl, N216q, e216⟩ := hQ216
      have N216 := Fr.app N174 N216q
      have k222 : ∀ t, OwnS p e below T216 (mkF m 85 #[iv p0, iv p1, iv p2, iv p3, iv p4, iv 3, iv 2, rv b152, rv ob_174, .unset] [(.int (own_sk3_2 (rr_153.toUInt32.toUInt16.toUInt32.toInt32) (rr_157.toUInt32.toUInt16.toUInt32.toInt32) (rr_161.toUInt32.toUInt16.toUInt32.toInt32)))]) t → OwnS p e below s₁ (entryFrame m #[(.int p0), (.int p1), (.int p2), (.int p3), (.int p4)] maxLocals) t := fun t q => by
       refine k180 t ?_
       rw [hf]
       refine st216 _ ?_
       exact q
      rcases own_kc3_2 (rr_153.toUInt32.toUInt16.toUInt32.toInt32) (rr_157.toUInt32.toUInt16.toUInt32.toInt32) (rr_161.toUInt32.toUInt16.toUInt32.toInt32) with ⟨hs2, hr⟩ | ⟨hs2, hr⟩
      · have f223 := (V168.keep K174 nin0)
        have k224 : ∀ t, OwnS p e below T216 (mkF m 110 #[iv p0, iv p1, iv p2, iv p3, iv p4, iv 3, iv 2, rv b152, rv ob_174, iv 2] []) t → OwnS p e below s₁ (entryFrame m #[(.int p0), (.int p1), (.int p2), (.int p3), (.int p4)] maxLocals) t := fun t q => by
         refine k222 t ?_
         rw [hr]
         refine XS.istore X216.here hx rfl (hb hby at_85) rfl (l' := #[iv p0, iv p1, iv p2, iv p3, iv p4, iv 3, iv 2, rv b152, rv ob_174, iv 2]) rfl ?_
         refine oIl X216 hx hby at_87 rfl (oIl X216 hx hby at_89 rfl ?_)
         refine XS.icmpNo X216.here hx rfl (hb hby at_91) rfl (flt (by decide : ¬ ((2 : Int32) < (2 : Int32)))).1 ?_
         refine oIl X216 hx hby at_94 rfl (oIl X216 hx hby at_96 rfl ?_)
         refine XS.icmpYes X216.here hx rfl (pc0 := 98) (pc' := 103) rfl (hb hby at_98) rfl (flt (by decide : ¬ ((3 : Int32) < (2 : Int32)))).2.2.2 (by decide) (by decide) ?_
         refine oIl X216 hx hby at_103 rfl (oIl X216 hx hby at_105 rfl ?_)
         refine XS.icmpNo X216.here hx rfl (hb hby at_107) rfl (tlt (by decide : (2 : Int32) < (3 : Int32))).2.1 ?_
         exact q
        obtain ⟨s225, o225, ja225, jb225, jc225, v225, L225, rfl, ⟨hv225, jN225, jh225, -⟩, jF225⟩ := sgW2 l Z a0 hw p0 p1 p2 p3 p4 (3 : Int32) (2 : Int32) b152 ob_174 k152 (rr_153.toUInt32.toUInt16.toUInt32.toInt32) (rr_157.toUInt32.toUInt16.toUInt32.toInt32) (rr_161.toUInt32.toUInt16.toUInt32.toInt32) (rr_165.toUInt32.toUInt16.toUInt32.toInt32) T174.heap n0 (Nat.le_trans (Nat.le_trans (Nat.le_trans (Nat.le_trans (Nat.le_trans (Nat.le_trans Z0 E152.1) (Keep.of_wr W156).1) (Keep.of_wr W160).1) (Keep.of_wr W164).1) (Keep.of_wr W168).1) K174.1) f223 (own_ok1 (by decide)) (own_ok1 (by decide)) (own_ok2 (by decide)) (own_ok2 (by decide)) hs2 (own_more X216 (by decide) (by decide)) hx hZ hby hml hown Bd.returns Bd.notSynchronized e216 N216 hS0 hk174 Hc174 Rc174 hh
        exact ⟨s225, _, k224 _ ja225, jb225, jc225, v225, L225, rfl, ⟨hv225.trans rfl, jN225, trivial⟩, jF225⟩
      · have f226 := (V168.keep K174 nin0)
        have k227 : ∀ t, OwnS p e below T216 (mkF m 123 #[iv p0, iv p1, iv p2, iv p3, iv p4, iv 3, iv 2, rv b152, rv ob_174, iv 3] []) t → OwnS p e below s₁ (entryFrame m #[(.int p0), (.int p1), (.int p2), (.int p3), (.int p4)] maxLocals) t := fun t q => by
         refine k222 t ?_
         rw [hr]
         refine XS.istore X216.here hx rfl (hb hby at_85) rfl (l' := #[iv p0, iv p1, iv p2, iv p3, iv p4, iv 3, iv 2, rv b152, rv ob_174, iv 3]) rfl ?_
         refine oIl X216 hx hby at_87 rfl (oIl X216 hx hby at_89 rfl ?_)
         refine XS.icmpNo X216.here hx rfl (hb hby at_91) rfl (flt (by decide : ¬ ((3 : Int32) < (2 : Int32)))).1 ?_
         refine oIl X216 hx hby at_94 rfl (oIl X216 hx hby at_96 rfl ?_)
         refine XS.icmpYes X216.here hx rfl (pc0 := 98) (pc' := 103) rfl (hb hby at_98) rfl (flt (by decide : ¬ ((3 : Int32) < (3 : Int32)))).2.2.2 (by decide) (by decide) ?_
         refine oIl X216 hx hby at_103 rfl (oIl X216 hx hby at_105 rfl ?_)
         refine XS.icmpYes X216.here hx rfl (pc0 := 107) (pc' := 123) rfl (hb hby at_107) rfl (flt (by decide : ¬ ((3 : Int32) < (3 : Int32)))).2.1 (by decide) (by decide) ?_
         exact q
        obtain ⟨s228, o228, ja228, jb228, jc228, v228, L228, rfl, ⟨hv228, jN228, jh228, -⟩, jF228⟩ := sgT l Z a0 hw p0 p1 p2 p3 p4 (3 : Int32) (2 : Int32) b152 ob_174 (3 : Int32) k152 (rr_153.toUInt32.toUInt16.toUInt32.toInt32) (rr_157.toUInt32.toUInt16.toUInt32.toInt32) (rr_161.toUInt32.toUInt16.toUInt32.toInt32) (rr_165.toUInt32.toUInt16.toUInt32.toInt32) T174.heap n0 (Nat.le_trans (Nat.le_trans (Nat.le_trans (Nat.le_trans (Nat.le_trans (Nat.le_trans Z0 E152.1) (Keep.of_wr W156).1) (Keep.of_wr W160).1) (Keep.of_wr W164).1) (Keep.of_wr W168).1) K174.1) f226 (own_ok1 (by decide)) (own_ok1 (by decide)) (own_ok4 hs2) (own_ok2 (by decide)) (own_more X216 (by decide) (by decide)) hx hZ hby hml hown Bd.returns Bd.notSynchronized e216 N216 hS0 hk174 Hc174 Rc174 hh
        exact ⟨s228, _, k227 _ ja228, jb228, jc228, v228, L228, rfl, ⟨hv228.trans rfl, jN228, trivial⟩, jF228⟩
    · have f230 := (own_sta_keep f175 K174 all0)
      have f231 := (own_sta_keep (((((S_F.ext E152).wr W156).wr W160).wr W164).wr W168) K174 all0)
      have f232 := (own_sta_keep f176 K174 all0)
      have f233 := (own_sta_keep f177 K174 all0)
      have f234 := (own_sta_keep f178 K174 all0)
      obtain ⟨_, T229, L229, X229, hQ229, st229⟩ := own_cS 0 (rmSk_3_3 l Z a0 hw [] ob_174 w_CS w_F (rr_153.toUInt32.toUInt16.toUInt32.toInt32) (rr_157.toUInt32.toUInt16.toUInt32.toInt32) (rr_161.toUInt32.toUInt16.toUInt32.toInt32) T174.heap n0 (Nat.le_trans (Nat.le_trans (Nat.le_trans (Nat.le_trans (Nat.le_trans (Nat.le_trans Z0 E152.1) (Keep.of_wr W156).1) (Keep.of_wr W160).1) (Keep.of_wr W164).1) (Keep.of_wr W168).1) K174.1) f230 hcs f231 hwF f232 f233 f234 p174_2 (own_chc _) (own_chc _) (own_chc _) p174_1) X174 hx hZ hown hw 31 32 33 34 rfl rfl rfl rfl 82 #[iv p0, iv p1, iv p2, iv p3, iv p4, iv 3, iv 3, rv b152, rv ob_174, .unset] [(.ref ob_174), (.int 3)] [] (hb hby at_82) hml (lenOf pd_20 rfl) rfl rfl (Nat.le_refl _) (by decide)
      obtain ⟨rfl, N229q, e229⟩ := hQ229
      have N229 := Fr.app N174 N229q
      have k235 : ∀ t, OwnS p e below T229 (mkF m 85 #[iv p0, iv p1, iv p2, iv p3, iv p4, iv 3, iv 3, rv b152, rv ob_174, .unset] [(.int (own_sk3_3 (rr_153.toUInt32.toUInt16.toUInt32.toInt32) (rr_157.toUInt32.toUInt16.toUInt32.toInt32) (rr_161.toUInt32.toUInt16.toUInt32.toInt32)))]) t → OwnS p e below s₁ (entryFrame m #[(.int p0), (.int p1), (.int p2), (.int p3), (.int p4)] maxLocals) t := fun t q => by
       refine k180 t ?_
       rw [hf]
       refine st229 _ ?_
       exact q
      rcases own_kc3_3 (rr_153.toUInt32.toUInt16.toUInt32.toInt32) (rr_157.toUInt32.toUInt16.toUInt32.toInt32) (rr_161.toUInt32.toUInt16.toUInt32.toInt32) with hr
      · have f236 := (V168.keep K174 nin0)
        have k237 : ∀ t, OwnS p e below T229 (mkF m 123 #[iv p0, iv p1, iv p2, iv p3, iv p4, iv 3, iv 3, rv b152, rv ob_174, iv 3] []) t → OwnS p e below s₁ (entryFrame m #[(.int p0), (.int p1), (.int p2), (.int p3), (.int p4)] maxLocals) t := fun t q => by
         refine k235 t ?_
         rw [hr]
         refine XS.istore X229.here hx rfl (hb hby at_85) rfl (l' := #[iv p0, iv p1, iv p2, iv p3, iv p4, iv 3, iv 3, rv b152, rv ob_174, iv 3]) rfl ?_
         refine oIl X229 hx hby at_87 rfl (oIl X229 hx hby at_89 rfl ?_)
         refine XS.icmpNo X229.here hx rfl (hb hby at_91) rfl (flt (by decide : ¬ ((3 : Int32) < (3 : Int32)))).1 ?_
         refine oIl X229 hx hby at_94 rfl (oIl X229 hx hby at_96 rfl ?_)
         refine XS.icmpYes X229.here hx rfl (pc0 := 98) (pc' := 103) rfl (hb hby at_98) rfl (flt (by decide : ¬ ((3 : Int32) < (3 : Int32)))).2.2.2 (by decide) (by decide) ?_
         refine oIl X229 hx hby at_103 rfl (oIl X229 hx hby at_105 rfl ?_)
         refine XS.icmpYes X229.here hx rfl (pc0 := 107) (pc' := 123) rfl (hb hby at_107) rfl (flt (by decide : ¬ ((3 : Int32) < (3 : Int32)))).2.1 (by decide) (by decide) ?_
         exact q
        obtain ⟨s238, o238, ja238, jb238, jc238, v238, L238, rfl, ⟨hv238, jN238, jh238, -⟩, jF238⟩ := sgT l Z a0 hw p0 p1 p2 p3 p4 (3 : Int32) (3 : Int32) b152 ob_174 (3 : Int32) k152 (rr_153.toUInt32.toUInt16.toUInt32.toInt32) (rr_157.toUInt32.toUInt16.toUInt32.toInt32) (rr_161.toUInt32.toUInt16.toUInt32.toInt32) (rr_165.toUInt32.toUInt16.toUInt32.toInt32) T174.heap n0 (Nat.le_trans (Nat.le_trans (Nat.le_trans (Nat.le_trans (Nat.le_trans (Nat.le_trans Z0 E152.1) (Keep.of_wr W156).1) (Keep.of_wr W160).1) (Keep.of_wr W164).1) (Keep.of_wr W168).1) K174.1) f236 (own_ok1 (by decide)) (own_ok1 (by decide)) (own_ok1 (by decide)) (own_ok2 (by decide)) (own_more X229 (by decide) (by decide)) hx hZ hby hml hown Bd.returns Bd.notSynchronized e229 N229 hS0 hk174 Hc174 Rc174 hh
        exact ⟨s238, _, k237 _ ja238, jb238, jc238, v238, L238, rfl, ⟨hv238.trans rfl, jN238, trivial⟩, jF238⟩
  · obtain ⟨T239, h239, k239, X239, e239, E239, A239, EA239, st239⟩ := newPE X0 hx hZ (own_at hw 1 rfl) e0 (g := (mkF m 22 #[iv p0, iv p1, iv p2, iv p3, iv p4, iv 4, iv ((((p0.toUInt32 >>> ((3 : Int32) &&& 31).toUInt32).toInt32) &&& (2147483647 : Int32)) % (5 : Int32)), .unset, .unset, .unset] [(.int 4)])) rfl (hb hby at_22) rfl (by decide) (cap := 4) (by decide) (by decide) (by decide) (by decide) (ad := "[C") (by decide)
    obtain ⟨b239, g239⟩ : ∃ z, z = h0.size := ⟨_, rfl⟩
    rw [← g239] at A239 EA239 st239
    have g_b239 : n0 ≤ b239 := Nat.le_trans Z0 (Nat.le_of_eq g239.symm)
    have sz_b239 : h0.size ≤ b239 := Nat.le_trans (Keep.refl h0 []).1 (Nat.le_of_eq g239.symm)
    have Hc239 := CHv.ext E239 H0c
    have Rc239 := R0c.trans (CHr.ext E239 H0c)
    have hk239 := Nat.le_trans hk0 E239.1
    have Sf239_b239 := Safe.ext (EL := own_EL) E239 H0c (Safe.new (Nat.le_of_eq g239.symm))
    have V_b239 : Arv Z h239 b239 k239 .char (4 : Int32) [(.int 0), (.int 0), (.int 0), (.int 0)] (.int 0) := (Arv.new A239 (by decide)).pad (pad_rep [] (.int 0) 4)
    obtain ⟨_, T240, L240, X240, hQ240, st240⟩ := own_cS 3 (rmDr l Z a0 hw [] p1 h239 n0 (Nat.le_trans Z0 E239.1) ) X239 hx hZ hown hw 2 3 4 5 rfl rfl rfl rfl 27 #[iv p0, iv p1, iv p2, iv p3, iv p4, iv 4, iv ((((p0.toUInt32 >>> ((3 : Int32) &&& 31).toUInt32).toInt32) &&& (2147483647 : Int32)) % (5 : Int32)), .unset, .unset, .unset] [(.int p1)] [(.int 0), (.ref b239), (.ref b239)] (hb hby at_27) hml (lenOf pd_17 rfl) e239 rfl (Nat.le_refl _) (by decide)
    obtain ⟨rr_240, rfl, N240q, e240, p240_0⟩ := hQ240
    have N240 := Fr.app N0 N240q
    obtain ⟨cl_z241, Ar_z241, q_z241, S_z241, N_z241, H_z241, G_z241⟩ := id V_b239
    have hin242 : ¬ ((0 : Int32) < 0 ∨ cl_z241.slots.size ≤ ((0 : Int32)).toNatClampNeg) := inb_of S_z241 ⟨by decide, by decide⟩
    obtain ⟨T243, h243, X243, e243, W243, st243⟩ := stC X240 hx hZ e240 Ar_z241 (j := (0 : Int32)) hin242 (g := (mkF m 30 #[iv p0, iv p1, iv p2, iv p3, iv p4, iv 4, iv ((((p0.toUInt32 >>> ((3 : Int32) &&& 31).toUInt32).toInt32) &&& (2147483647 : Int32)) % (5 : Int32)), .unset, .unset, .unset] [(.int rr_240), (.int 0), (.ref b239), (.ref b239)])) rfl rfl (hb hby at_30)
    have Hc243 := CHv.wr W243 Sf239_b239 Hc239
    have Rc243 := Rc239.trans (CHr.wr W243 Sf239_b239 Hc239)
    have hk243 := Nat.le_trans hk239 (Keep.of_wr W243).1
    have Sf243_b239 := Safe.wr W243 Sf239_b239 Hc239 Sf239_b239
    have V243 : Arv Z h243 b239 k239 .char (4 : Int32) [(.int (rr_240.toUInt32.toUInt16.toUInt32.toInt32)), (.int 0), (.int 0), (.int 0)] (.int 0) := Arv.set Ar_z241 q_z241 S_z241 N_z241 H_z241 G_z241 (fits_nar_char _) W243 0 rfl (Nat.le_of_ble_eq_true rfl)
    have N243 := Fr.snoc X243 N240 g_b239
    obtain ⟨_, T244, L244, X244, hQ244, st244⟩ := own_cS 3 (rmDr l Z a0 hw [] p2 h243 n0 (Nat.le_trans (Nat.le_trans Z0 E239.1) (Keep.of_wr W243).1) ) X243 hx hZ hown hw 2 3 4 5 rfl rfl rfl rfl 34 #[iv p0, iv p1, iv p2, iv p3, iv p4, iv 4, iv ((((p0.toUInt32 >>> ((3 : Int32) &&& 31).toUInt32).toInt32) &&& (2147483647 : Int32)) % (5 : Int32)), .unset, .unset, .unset] [(.int p2)] [(.int 1), (.ref b239), (.ref b239)] (hb hby at_34) hml (lenOf pd_17 rfl) e243 rfl (Nat.le_refl _) (by decide)
    obtain ⟨rr_244, rfl, N244q, e244, p244_0⟩ := hQ244
    have N244 := Fr.app N243 N244q
    obtain ⟨cl_z245, Ar_z245, q_z245, S_z245, N_z245, H_z245, G_z245⟩ := id V243
    have hin246 : ¬ ((1 : Int32) < 0 ∨ cl_z245.slots.size ≤ ((1 : Int32)).toNatClampNeg) := inb_of S_z245 ⟨by decide, by decide⟩
    obtain ⟨T247, h247, X247, e247, W247, st247⟩ := stC X244 hx hZ e244 Ar_z245 (j := (1 : Int32)) hin246 (g := (mkF m 37 #[iv p0, iv p1, iv p2, iv p3, iv p4, iv 4, iv ((((p0.toUInt32 >>> ((3 : Int32) &&& 31).toUInt32).toInt32) &&& (2147483647 : Int32)) % (5 : Int32)), .unset, .unset, .unset] [(.int rr_244), (.int 1), (.ref b239), (.ref b239)])) rfl rfl (hb hby at_37)
    have Hc247 := CHv.wr W247 Sf243_b239 Hc243
    have Rc247 := Rc243.trans (CHr.wr W247 Sf243_b239 Hc243)
    have hk247 := Nat.le_trans hk243 (Keep.of_wr W247).1
    have Sf247_b239 := Safe.wr W247 Sf243_b239 Hc243 Sf243_b239
    have V247 : Arv Z h247 b239 k239 .char (4 : Int32) [(.int (rr_240.toUInt32.toUInt16.toUInt32.toInt32)), (.int (rr_244.toUInt32.toUInt16.toUInt32.toInt32)), (.int 0), (.int 0)] (.int 0) := Arv.set Ar_z245 q_z245 S_z245 N_z245 H_z245 G_z245 (fits_nar_char _) W247 1 rfl (Nat.le_of_ble_eq_true rfl)
    have N247 := Fr.snoc X247 N244 g_b239
    obtain ⟨_, T248, L248, X248, hQ248, st248⟩ := own_cS 3 (rmDr l Z a0 hw [] p3 h247 n0 (Nat.le_trans (Nat.le_trans (Nat.le_trans Z0 E239.1) (Keep.of_wr W243).1) (Keep.of_wr W247).1) ) X247 hx hZ hown hw 2 3 4 5 rfl rfl rfl rfl 41 #[iv p0, iv p1, iv p2, iv p3, iv p4, iv 4, iv ((((p0.toUInt32 >>> ((3 : Int32) &&& 31).toUInt32).toInt32) &&& (2147483647 : Int32)) % (5 : Int32)), .unset, .unset, .unset] [(.int p3)] [(.int 2), (.ref b239), (.ref b239)] (hb hby at_41) hml (lenOf pd_17 rfl) e247 rfl (Nat.le_refl _) (by decide)
    obtain ⟨rr_248, rfl, N248q, e248, p248_0⟩ := hQ248
    have N248 := Fr.app N247 N248q
    obtain ⟨cl_z249, Ar_z249, q_z249, S_z249, N_z249, H_z249, G_z249⟩ := id V247
    have hin250 : ¬ ((2 : Int32) < 0 ∨ cl_z249.slots.size ≤ ((2 : Int32)).toNatClampNeg) := inb_of S_z249 ⟨by decide, by decide⟩
    obtain ⟨T251, h251, X251, e251, W251, st251⟩ := stC X248 hx hZ e248 Ar_z249 (j := (2 : Int32)) hin250 (g := (mkF m 44 #[iv p0, iv p1, iv p2, iv p3, iv p4, iv 4, iv ((((p0.toUInt32 >>> ((3 : Int32) &&& 31).toUInt32).toInt32) &&& (2147483647 : Int32)) % (5 : Int32)), .unset, .unset, .unset] [(.int rr_248), (.int 2), (.ref b239), (.ref b239)])) rfl rfl (hb hby at_44)
    have Hc251 := CHv.wr W251 Sf247_b239 Hc247
    have Rc251 := Rc247.trans (CHr.wr W251 Sf247_b239 Hc247)
    have hk251 := Nat.le_trans hk247 (Keep.of_wr W251).1
    have Sf251_b239 := Safe.wr W251 Sf247_b239 Hc247 Sf247_b239
    have V251 : Arv Z h251 b239 k239 .char (4 : Int32) [(.int (rr_240.toUInt32.toUInt16.toUInt32.toInt32)), (.int (rr_244.toUInt32.toUInt16.toUInt32.toInt32)), (.int (rr_248.toUInt32.toUInt16.toUInt32.toInt32)), (.int 0)] (.int 0) := Arv.set Ar_z249 q_z249 S_z249 N_z249 H_z249 G_z249 (fits_nar_char _) W251 2 rfl (Nat.le_of_ble_eq_true rfl)
    have N251 := Fr.snoc X251 N248 g_b239
    obtain ⟨_, T252, L252, X252, hQ252, st252⟩ := own_cS 3 (rmDr l Z a0 hw [] p4 h251 n0 (Nat.le_trans (Nat.le_trans (Nat.le_trans (Nat.le_trans Z0 E239.1) (Keep.of_wr W243).1) (Keep.of_wr W247).1) (Keep.of_wr W251).1) ) X251 hx hZ hown hw 2 3 4 5 rfl rfl rfl rfl 49 #[iv p0, iv p1, iv p2, iv p3, iv p4, iv 4, iv ((((p0.toUInt32 >>> ((3 : Int32) &&& 31).toUInt32).toInt32) &&& (2147483647 : Int32)) % (5 : Int32)), .unset, .unset, .unset] [(.int p4)] [(.int 3), (.ref b239), (.ref b239)] (hb hby at_49) hml (lenOf pd_17 rfl) e251 rfl (Nat.le_refl _) (by decide)
    obtain ⟨rr_252, rfl, N252q, e252, p252_0⟩ := hQ252
    have N252 := Fr.app N251 N252q
    obtain ⟨cl_z253, Ar_z253, q_z253, S_z253, N_z253, H_z253, G_z253⟩ := id V251
    have hin254 : ¬ ((3 : Int32) < 0 ∨ cl_z253.slots.size ≤ ((3 : Int32)).toNatClampNeg) := inb_of S_z253 ⟨by decide, by decide⟩
    obtain ⟨T255, h255, X255, e255, W255, st255⟩ := stC X252 hx hZ e252 Ar_z253 (j := (3 : Int32)) hin254 (g := (mkF m 52 #[iv p0, iv p1, iv p2, iv p3, iv p4, iv 4, iv ((((p0.toUInt32 >>> ((3 : Int32) &&& 31).toUInt32).toInt32) &&& (2147483647 : Int32)) % (5 : Int32)), .unset, .unset, .unset] [(.int rr_252), (.int 3), (.ref b239), (.ref b239)])) rfl rfl (hb hby at_52)
    have Hc255 := CHv.wr W255 Sf251_b239 Hc251
    have Rc255 := Rc251.trans (CHr.wr W255 Sf251_b239 Hc251)
    have hk255 := Nat.le_trans hk251 (Keep.of_wr W255).1
    have Sf255_b239 := Safe.wr W255 Sf251_b239 Hc251 Sf251_b239
    have V255 : Arv Z h255 b239 k239 .char (4 : Int32) [(.int (rr_240.toUInt32.toUInt16.toUInt32.toInt32)), (.int (rr_244.toUInt32.toUInt16.toUInt32.toInt32)), (.int (rr_248.toUInt32.toUInt16.toUInt32.toInt32)), (.int (rr_252.toUInt32.toUInt16.toUInt32.toInt32))] (.int 0) := Arv.set Ar_z253 q_z253 S_z253 N_z253 H_z253 G_z253 (fits_nar_char _) W255 3 rfl (Nat.le_of_ble_eq_true rfl)
    have N255 := Fr.snoc X255 N252 g_b239
    obtain ⟨cl_z256, Ar_z256, q_z256, S_z256, N_z256, H_z256, G_z256⟩ := id V255
    have hin257 : ¬ ((0 : Int32) < 0 ∨ cl_z256.slots.size ≤ ((0 : Int32)).toNatClampNeg) := inb_of S_z256 ⟨by decide, by decide⟩
    have hin258 : ¬ ((1 : Int32) < 0 ∨ cl_z256.slots.size ≤ ((1 : Int32)).toNatClampNeg) := inb_of S_z256 ⟨by decide, by decide⟩
    have hin259 : ¬ ((2 : Int32) < 0 ∨ cl_z256.slots.size ≤ ((2 : Int32)).toNatClampNeg) := inb_of S_z256 ⟨by decide, by decide⟩
    have hin260 : ¬ ((3 : Int32) < 0 ∨ cl_z256.slots.size ≤ ((3 : Int32)).toNatClampNeg) := inb_of S_z256 ⟨by decide, by decide⟩
    have f262 := (((((S_CS.ext E239).wr W243).wr W247).wr W251).wr W255)
    have f263 := (((((S_AD.ext E239).wr W243).wr W247).wr W251).wr W255)
    have f264 := (((((S_HI.ext E239).wr W243).wr W247).wr W251).wr W255)
    have f265 := (((((S_LO.ext E239).wr W243).wr W247).wr W251).wr W255)
    obtain ⟨_, T261, L261, X261, hQ261, st261⟩ := own_cS 0 (rmTx_4 l Z a0 hw [] (rr_240.toUInt32.toUInt16.toUInt32.toInt32) (rr_244.toUInt32.toUInt16.toUInt32.toInt32) (rr_248.toUInt32.toUInt16.toUInt32.toInt32) (rr_252.toUInt32.toUInt16.toUInt32.toInt32) w_CS h255 n0 (Nat.le_trans (Nat.le_trans (Nat.le_trans (Nat.le_trans (Nat.le_trans Z0 E239.1) (Keep.of_wr W243).1) (Keep.of_wr W247).1) (Keep.of_wr W251).1) (Keep.of_wr W255).1) f262 hcs f263 f264 f265 (own_chc _) (own_chc _) (own_chc _) (own_chc _)) X255 hx hZ hown hw 7 8 4 9 rfl rfl rfl rfl 73 #[iv p0, iv p1, iv p2, iv p3, iv p4, iv 4, iv ((((p0.toUInt32 >>> ((3 : Int32) &&& 31).toUInt32).toInt32) &&& (2147483647 : Int32)) % (5 : Int32)), rv b239, .unset, .unset] [(.int 4), (.int (rr_240.toUInt32.toUInt16.toUInt32.toInt32)), (.int (rr_244.toUInt32.toUInt16.toUInt32.toInt32)), (.int (rr_248.toUInt32.toUInt16.toUInt32.toInt32)), (.int (rr_252.toUInt32.toUInt16.toUInt32.toInt32))] [] (hb hby at_73) hml (lenOf pd_19 rfl) e255 rfl (Nat.le_refl _) (by decide)
    have f266 := ((((EA239.wr W243).wr W247).wr W251).wr W255)
    obtain ⟨ob_261, rfl, N261q, K261, p261_0, p261_1, p261_2⟩ := hQ261
    have Hc261 := CHv.keep K261 sf0 Hc255
    have Rc261 := Rc255.trans (CHr.keep K261 sf0 Hc255)
    have hk261 := Nat.le_trans hk255 K261.1
    have Sf261_b239 := Safe.keep K261 sf0 Hc255 Sf255_b239
    have g_ob_261 : n0 ≤ ob_261 := Nat.le_trans (Nat.le_trans (Nat.le_trans (Nat.le_trans (Nat.le_trans (Nat.le_trans Z0 E239.1) (Keep.of_wr W243).1) (Keep.of_wr W247).1) (Keep.of_wr W251).1) (Keep.of_wr W255).1) p261_0
    have sz_ob_261 : h0.size ≤ ob_261 := Nat.le_trans ((((((Keep.refl h0 []).ext E239).wr W243 (Or.inr sz_b239)).wr W247 (Or.inr sz_b239)).wr W251 (Or.inr sz_b239)).wr W255 (Or.inr sz_b239)).1 p261_0
    have N261 := Fr.app N255 N261q
    have k267 : ∀ t, OwnS p e below T261 (mkF m 82 #[iv p0, iv p1, iv p2, iv p3, iv p4, iv 4, iv ((((p0.toUInt32 >>> ((3 : Int32) &&& 31).toUInt32).toInt32) &&& (2147483647 : Int32)) % (5 : Int32)), rv b239, rv ob_261, .unset] [(.int ((((p0.toUInt32 >>> ((3 : Int32) &&& 31).toUInt32).toInt32) &&& (2147483647 : Int32)) % (5 : Int32))), (.ref ob_261)]) t → OwnS p e below s₁ (entryFrame m #[(.int p0), (.int p1), (.int p2), (.int p3), (.int p4)] maxLocals) t := fun t q => by
     refine k1 t ?_
     rw [hn]
     refine XS.istore X0.here hx rfl (hb hby at_6) rfl (l' := #[iv p0, iv p1, iv p2, iv p3, iv p4, iv 4, .unset, .unset, .unset, .unset]) rfl ?_
     refine oIn X0 hx hby at_8 rfl (oIc X0 hx hby at_9 ?_)
     refine XS.iushr X0.here hx rfl (hb hby at_10) rfl ?_
     refine X0.ldcInt hx hown (mvT hZ (own_at hw 0 rfl)) (g := (mkF m 11 #[iv p0, iv p1, iv p2, iv p3, iv p4, iv 4, .unset, .unset, .unset, .unset] [(.int ((p0.toUInt32 >>> ((3 : Int32) &&& 31).toUInt32).toInt32))])) rfl (hb hby at_11) _ ?_
     refine XS.iand X0.here hx rfl (hb hby at_13) rfl ?_
     refine oIl X0 hx hby at_14 rfl (oIc X0 hx hby at_16 ?_)
     refine XS.iadd X0.here hx rfl (hb hby at_17) rfl ?_
     refine iremM X0 hx (g := (mkF m 18 #[iv p0, iv p1, iv p2, iv p3, iv p4, iv 4, .unset, .unset, .unset, .unset] [(.int 5), (.int (((p0.toUInt32 >>> ((3 : Int32) &&& 31).toUInt32).toInt32) &&& (2147483647 : Int32)))])) rfl (hb hby at_18) rfl (by decide) ?_
     refine XS.istore X0.here hx rfl (hb hby at_19) rfl (l' := #[iv p0, iv p1, iv p2, iv p3, iv p4, iv 4, iv ((((p0.toUInt32 >>> ((3 : Int32) &&& 31).toUInt32).toInt32) &&& (2147483647 : Int32)) % (5 : Int32)), .unset, .unset, .unset]) rfl ?_
     refine oIc X0 hx hby at_21 ?_
     refine st239 _ ?_
     refine XS.dup X239.here hx rfl (hb hby at_24) rfl rfl ?_
     refine oIc X239 hx hby at_25 (oIn X239 hx hby at_26 rfl ?_)
     refine st240 _ ?_
     refine st243 _ ?_
     refine XS.dup X243.here hx rfl (hb hby at_31) rfl rfl ?_
     refine oIc X243 hx hby at_32 (oIn X243 hx hby at_33 rfl ?_)
     refine st244 _ ?_
     refine st247 _ ?_
     refine XS.dup X247.here hx rfl (hb hby at_38) rfl rfl ?_
     refine oIc X247 hx hby at_39 (oIn X247 hx hby at_40 rfl ?_)
     refine st248 _ ?_
     refine st251 _ ?_
     refine XS.dup X251.here hx rfl (hb hby at_45) rfl rfl ?_
     refine oIc X251 hx hby at_46 (oIl X251 hx hby at_47 rfl ?_)
     refine st252 _ ?_
     refine st255 _ ?_
     refine XS.astore X255.here hx rfl (hb hby at_53) rfl rfl (l' := #[iv p0, iv p1, iv p2, iv p3, iv p4, iv 4, iv ((((p0.toUInt32 >>> ((3 : Int32) &&& 31).toUInt32).toInt32) &&& (2147483647 : Int32)) % (5 : Int32)), rv b239, .unset, .unset]) rfl ?_
     refine oIl X255 hx hby at_55 rfl (oAl X255 hx hby at_57 rfl rfl (oIc X255 hx hby at_59 ?_))
     refine X255.caload hx (j := (0 : Int32)) (v := (.int (rr_240.toUInt32.toUInt16.toUInt32.toInt32))) (by rw [e255]; exact Ar_z256.1) (State.isArrayOf_alike hZ.alike Ar_z256.2.1) Ar_z256.2.2 hin257 (Has.at H_z256 hin257 rfl) (g := (mkF m 60 #[iv p0, iv p1, iv p2, iv p3, iv p4, iv 4, iv ((((p0.toUInt32 >>> ((3 : Int32) &&& 31).toUInt32).toInt32) &&& (2147483647 : Int32)) % (5 : Int32)), rv b239, .unset, .unset] [(.int 0), (.ref b239), (.int 4)])) rfl rfl (hb hby at_60) _ ?_
     refine oAl X255 hx hby at_61 rfl rfl ?_
     show OwnS p e below T255 (mkF m 63 #[iv p0, iv p1, iv p2, iv p3, iv p4, iv 4, iv ((((p0.toUInt32 >>> ((3 : Int32) &&& 31).toUInt32).toInt32) &&& (2147483647 : Int32)) % (5 : Int32)), rv b239, .unset, .unset] [(.ref b239), (.int (rr_240.toUInt32.toUInt16.toUInt32.toInt32)), (.int 4)]) _
     refine oIc X255 hx hby at_63 ?_
     refine X255.caload hx (j := (1 : Int32)) (v := (.int (rr_244.toUInt32.toUInt16.toUInt32.toInt32))) (by rw [e255]; exact Ar_z256.1) (State.isArrayOf_alike hZ.alike Ar_z256.2.1) Ar_z256.2.2 hin258 (Has.at H_z256 hin258 rfl) (g := (mkF m 64 #[iv p0, iv p1, iv p2, iv p3, iv p4, iv 4, iv ((((p0.toUInt32 >>> ((3 : Int32) &&& 31).toUInt32).toInt32) &&& (2147483647 : Int32)) % (5 : Int32)), rv b239, .unset, .unset] [(.int 1), (.ref b239), (.int (rr_240.toUInt32.toUInt16.toUInt32.toInt32)), (.int 4)])) rfl rfl (hb hby at_64) _ ?_
     refine oAl X255 hx hby at_65 rfl rfl (oIc X255 hx hby at_67 ?_)
     refine X255.caload hx (j := (2 : Int32)) (v := (.int (rr_248.toUInt32.toUInt16.toUInt32.toInt32))) (by rw [e255]; exact Ar_z256.1) (State.isArrayOf_alike hZ.alike Ar_z256.2.1) Ar_z256.2.2 hin259 (Has.at H_z256 hin259 rfl) (g := (mkF m 68 #[iv p0, iv p1, iv p2, iv p3, iv p4, iv 4, iv ((((p0.toUInt32 >>> ((3 : Int32) &&& 31).toUInt32).toInt32) &&& (2147483647 : Int32)) % (5 : Int32)), rv b239, .unset, .unset] [(.int 2), (.ref b239), (.int (rr_244.toUInt32.toUInt16.toUInt32.toInt32)), (.int (rr_240.toUInt32.toUInt16.toUInt32.toInt32)), (.int 4)])) rfl rfl (hb hby at_68) _ ?_
     refine oAl X255 hx hby at_69 rfl rfl (oIc X255 hx hby at_71 ?_)
     refine X255.caload hx (j := (3 : Int32)) (v := (.int (rr_252.toUInt32.toUInt16.toUInt32.toInt32))) (by rw [e255]; exact Ar_z256.1) (State.isArrayOf_alike hZ.alike Ar_z256.2.1) Ar_z256.2.2 hin260 (Has.at H_z256 hin260 rfl) (g := (mkF m 72 #[iv p0, iv p1, iv p2, iv p3, iv p4, iv 4, iv ((((p0.toUInt32 >>> ((3 : Int32) &&& 31).toUInt32).toInt32) &&& (2147483647 : Int32)) % (5 : Int32)), rv b239, .unset, .unset] [(.int 3), (.ref b239), (.int (rr_248.toUInt32.toUInt16.toUInt32.toInt32)), (.int (rr_244.toUInt32.toUInt16.toUInt32.toInt32)), (.int (rr_240.toUInt32.toUInt16.toUInt32.toInt32)), (.int 4)])) rfl rfl (hb hby at_72) _ ?_
     refine st261 _ ?_
     refine XS.astore X261.here hx rfl (hb hby at_76) rfl rfl (l' := #[iv p0, iv p1, iv p2, iv p3, iv p4, iv 4, iv ((((p0.toUInt32 >>> ((3 : Int32) &&& 31).toUInt32).toInt32) &&& (2147483647 : Int32)) % (5 : Int32)), rv b239, rv ob_261, .unset]) rfl ?_
     refine oAl X261 hx hby at_78 rfl rfl (oIl X261 hx hby at_80 rfl ?_)
     exact q
    rcases own_mod5 ((p0.toUInt32 >>> ((3 : Int32) &&& 31).toUInt32).toInt32) with hf | hf | hf | hf | hf
    · have f269 := (own_sta_keep f262 K261 all0)
      have f270 := (own_sta_keep (((((S_F.ext E239).wr W243).wr W247).wr W251).wr W255) K261 all0)
      have f271 := (own_sta_keep f263 K261 all0)
      have f272 := (own_sta_keep f264 K261 all0)
      have f273 := (own_sta_keep f265 K261 all0)
      obtain ⟨_, T268, L268, X268, hQ268, st268⟩ := own_cS 0 (rmSk_4_0 l Z a0 hw [] ob_261 w_CS w_F (rr_240.toUInt32.toUInt16.toUInt32.toInt32) (rr_244.toUInt32.toUInt16.toUInt32.toInt32) (rr_248.toUInt32.toUInt16.toUInt32.toInt32) (rr_252.toUInt32.toUInt16.toUInt32.toInt32) T261.heap n0 (Nat.le_trans (Nat.le_trans (Nat.le_trans (Nat.le_trans (Nat.le_trans (Nat.le_trans Z0 E239.1) (Keep.of_wr W243).1) (Keep.of_wr W247).1) (Keep.of_wr W251).1) (Keep.of_wr W255).1) K261.1) f269 hcs f270 hwF f271 f272 f273 p261_2 (own_chc _) (own_chc _) (own_chc _) (own_chc _) p261_1) X261 hx hZ hown hw 31 32 33 34 rfl rfl rfl rfl 82 #[iv p0, iv p1, iv p2, iv p3, iv p4, iv 4, iv 0, rv b239, rv ob_261, .unset] [(.ref ob_261), (.int 0)] [] (hb hby at_82) hml (lenOf pd_20 rfl) rfl rfl (Nat.le_refl _) (by decide)
      obtain ⟨rfl, N268q, e268⟩ := hQ268
      have N268 := Fr.app N261 N268q
      have k274 : ∀ t, OwnS p e below T268 (mkF m 85 #[iv p0, iv p1, iv p2, iv p3, iv p4, iv 4, iv 0, rv b239, rv ob_261, .unset] [(.int (own_sk4_0 (rr_240.toUInt32.toUInt16.toUInt32.toInt32) (rr_244.toUInt32.toUInt16.toUInt32.toInt32) (rr_248.toUInt32.toUInt16.toUInt32.toInt32) (rr_252.toUInt32.toUInt16.toUInt32.toInt32)))]) t → OwnS p e below s₁ (entryFrame m #[(.int p0), (.int p1), (.int p2), (.int p3), (.int p4)] maxLocals) t := fun t q => by
       refine k267 t ?_
       rw [hf]
       refine st268 _ ?_
       exact q
      rcases own_kc4_0 (rr_240.toUInt32.toUInt16.toUInt32.toInt32) (rr_244.toUInt32.toUInt16.toUInt32.toInt32) (rr_248.toUInt32.toUInt16.toUInt32.toInt32) (rr_252.toUInt32.toUInt16.toUInt32.toInt32) with ⟨hs0, hr⟩ | ⟨hs0, hs1, hr⟩ | ⟨hs0, hs1, hs2, hr⟩ | ⟨hs0, hs1, hs2, hs3, hr⟩ | ⟨hs0, hs1, hs2, hs3, hr⟩
      · have f275 := (V255.keep K261 nin0)
        have k276 : ∀ t, OwnS p e below T268 (mkF m 110 #[iv p0, iv p1, iv p2, iv p3, iv p4, iv 4, iv 0, rv b239, rv ob_261, iv 0] []) t → OwnS p e below s₁ (entryFrame m #[(.int p0), (.int p1), (.int p2), (.int p3), (.int p4)] maxLocals) t := fun t q => by
         refine k274 t ?_
         rw [hr]
         refine XS.istore X268.here hx rfl (hb hby at_85) rfl (l' := #[iv p0, iv p1, iv p2, iv p3, iv p4, iv 4, iv 0, rv b239, rv ob_261, iv 0]) rfl ?_
         refine oIl X268 hx hby at_87 rfl (oIl X268 hx hby at_89 rfl ?_)
         refine XS.icmpNo X268.here hx rfl (hb hby at_91) rfl (flt (by decide : ¬ ((0 : Int32) < (0 : Int32)))).1 ?_
         refine oIl X268 hx hby at_94 rfl (oIl X268 hx hby at_96 rfl ?_)
         refine XS.icmpYes X268.here hx rfl (pc0 := 98) (pc' := 103) rfl (hb hby at_98) rfl (flt (by decide : ¬ ((4 : Int32) < (0 : Int32)))).2.2.2 (by decide) (by decide) ?_
         refine oIl X268 hx hby at_103 rfl (oIl X268 hx hby at_105 rfl ?_)
         refine XS.icmpNo X268.here hx rfl (hb hby at_107) rfl (tlt (by decide : (0 : Int32) < (4 : Int32))).2.1 ?_
         exact q
        obtain ⟨s277, o277, ja277, jb277, jc277, v277, L277, rfl, ⟨hv277, jN277, jh277, -⟩, jF277⟩ := sgW0 l Z a0 hw p0 p1 p2 p3 p4 (4 : Int32) (0 : Int32) b239 ob_261 k239 (rr_240.toUInt32.toUInt16.toUInt32.toInt32) (rr_244.toUInt32.toUInt16.toUInt32.toInt32) (rr_248.toUInt32.toUInt16.toUInt32.toInt32) (rr_252.toUInt32.toUInt16.toUInt32.toInt32) T261.heap n0 (Nat.le_trans (Nat.le_trans (Nat.le_trans (Nat.le_trans (Nat.le_trans (Nat.le_trans Z0 E239.1) (Keep.of_wr W243).1) (Keep.of_wr W247).1) (Keep.of_wr W251).1) (Keep.of_wr W255).1) K261.1) f275 (own_ok2 (by decide)) (own_ok2 (by decide)) (own_ok2 (by decide)) (own_ok2 (by decide)) hs0 (own_more X268 (by decide) (by decide)) hx hZ hby hml hown Bd.returns Bd.notSynchronized e268 N268 hS0 hk261 Hc261 Rc261 hh
        exact ⟨s277, _, k276 _ ja277, jb277, jc277, v277, L277, rfl, ⟨hv277.trans rfl, jN277, trivial⟩, jF277⟩
      · have f278 := (V255.keep K261 nin0)
        have k279 : ∀ t, OwnS p e below T268 (mkF m 110 #[iv p0, iv p1, iv p2, iv p3, iv p4, iv 4, iv 0, rv b239, rv ob_261, iv 1] []) t → OwnS p e below s₁ (entryFrame m #[(.int p0), (.int p1), (.int p2), (.int p3), (.int p4)] maxLocals) t := fun t q => by
         refine k274 t ?_
         rw [hr]
         refine XS.istore X268.here hx rfl (hb hby at_85) rfl (l' := #[iv p0, iv p1, iv p2, iv p3, iv p4, iv 4, iv 0, rv b239, rv ob_261, iv 1]) rfl ?_
         refine oIl X268 hx hby at_87 rfl (oIl X268 hx hby at_89 rfl ?_)
         refine XS.icmpNo X268.here hx rfl (hb hby at_91) rfl (flt (by decide : ¬ ((1 : Int32) < (0 : Int32)))).1 ?_
         refine oIl X268 hx hby at_94 rfl (oIl X268 hx hby at_96 rfl ?_)
         refine XS.icmpYes X268.here hx rfl (pc0 := 98) (pc' := 103) rfl (hb hby at_98) rfl (flt (by decide : ¬ ((4 : Int32) < (1 : Int32)))).2.2.2 (by decide) (by decide) ?_
         refine oIl X268 hx hby at_103 rfl (oIl X268 hx hby at_105 rfl ?_)
         refine XS.icmpNo X268.here hx rfl (hb hby at_107) rfl (tlt (by decide : (1 : Int32) < (4 : Int32))).2.1 ?_
         exact q
        obtain ⟨s280, o280, ja280, jb280, jc280, v280, L280, rfl, ⟨hv280, jN280, jh280, -⟩, jF280⟩ := sgW1 l Z a0 hw p0 p1 p2 p3 p4 (4 : Int32) (0 : Int32) b239 ob_261 k239 (rr_240.toUInt32.toUInt16.toUInt32.toInt32) (rr_244.toUInt32.toUInt16.toUInt32.toInt32) (rr_248.toUInt32.toUInt16.toUInt32.toInt32) (rr_252.toUInt32.toUInt16.toUInt32.toInt32) T261.heap n0 (Nat.le_trans (Nat.le_trans (Nat.le_trans (Nat.le_trans (Nat.le_trans (Nat.le_trans Z0 E239.1) (Keep.of_wr W243).1) (Keep.of_wr W247).1) (Keep.of_wr W251).1) (Keep.of_wr W255).1) K261.1) f278 (own_ok4 hs0) (own_ok2 (by decide)) (own_ok2 (by decide)) (own_ok2 (by decide)) hs1 (own_more X268 (by decide) (by decide)) hx hZ hby hml hown Bd.returns Bd.notSynchronized e268 N268 hS0 hk261 Hc261 Rc261 hh
        exact ⟨s280, _, k279 _ ja280, jb280, jc280, v280, L280, rfl, ⟨hv280.trans rfl, jN280, trivial⟩, jF280⟩
      · have f281 := (V255.keep K261 nin0)
        have k282 : ∀ t, OwnS p e below T268 (mkF m 110 #[iv p0, iv p1, iv p2, iv p3, iv p4, iv 4, iv 0, rv b239, rv ob_261, iv 2] []) t → OwnS p e below s₁ (entryFrame m #[(.int p0), (.int p1), (.int p2), (.int p3), (.int p4)] maxLocals) t := fun t q => by
         refine k274 t ?_
         rw [hr]
         refine XS.istore X268.here hx rfl (hb hby at_85) rfl (l' := #[iv p0, iv p1, iv p2, iv p3, iv p4, iv 4, iv 0, rv b239, rv ob_261, iv 2]) rfl ?_
         refine oIl X268 hx hby at_87 rfl (oIl X268 hx hby at_89 rfl ?_)
         refine XS.icmpNo X268.here hx rfl (hb hby at_91) rfl (flt (by decide : ¬ ((2 : Int32) < (0 : Int32)))).1 ?_
         refine oIl X268 hx hby at_94 rfl (oIl X268 hx hby at_96 rfl ?_)
         refine XS.icmpYes X268.here hx rfl (pc0 := 98) (pc' := 103) rfl (hb hby at_98) rfl (flt (by decide : ¬ ((4 : Int32) < (2 : Int32)))).2.2.2 (by decide) (by decide) ?_
         refine oIl X268 hx hby at_103 rfl (oIl X268 hx hby at_105 rfl ?_)
         refine XS.icmpNo X268.here hx rfl (hb hby at_107) rfl (tlt (by decide : (2 : Int32) < (4 : Int32))).2.1 ?_
         exact q
        obtain ⟨s283, o283, ja283, jb283, jc283, v283, L283, rfl, ⟨hv283, jN283, jh283, -⟩, jF283⟩ := sgW2 l Z a0 hw p0 p1 p2 p3 p4 (4 : Int32) (0 : Int32) b239 ob_261 k239 (rr_240.toUInt32.toUInt16.toUInt32.toInt32) (rr_244.toUInt32.toUInt16.toUInt32.toInt32) (rr_248.toUInt32.toUInt16.toUInt32.toInt32) (rr_252.toUInt32.toUInt16.toUInt32.toInt32) T261.heap n0 (Nat.le_trans (Nat.le_trans (Nat.le_trans (Nat.le_trans (Nat.le_trans (Nat.le_trans Z0 E239.1) (Keep.of_wr W243).1) (Keep.of_wr W247).1) (Keep.of_wr W251).1) (Keep.of_wr W255).1) K261.1) f281 (own_ok4 hs0) (own_ok4 hs1) (own_ok2 (by decide)) (own_ok2 (by decide)) hs2 (own_more X268 (by decide) (by decide)) hx hZ hby hml hown Bd.returns Bd.notSynchronized e268 N268 hS0 hk261 Hc261 Rc261 hh
        exact ⟨s283, _, k282 _ ja283, jb283, jc283, v283, L283, rfl, ⟨hv283.trans rfl, jN283, trivial⟩, jF283⟩
      · have f284 := (V255.keep K261 nin0)
        have k285 : ∀ t, OwnS p e below T268 (mkF m 110 #[iv p0, iv p1, iv p2, iv p3, iv p4, iv 4, iv 0, rv b239, rv ob_261, iv 3] []) t → OwnS p e below s₁ (entryFrame m #[(.int p0), (.int p1), (.int p2), (.int p3), (.int p4)] maxLocals) t := fun t q => by
         refine k274 t ?_
         rw [hr]
         refine XS.istore X268.here hx rfl (hb hby at_85) rfl (l' := #[iv p0, iv p1, iv p2, iv p3, iv p4, iv 4, iv 0, rv b239, rv ob_261, iv 3]) rfl ?_
         refine oIl X268 hx hby at_87 rfl (oIl X268 hx hby at_89 rfl ?_)
         refine XS.icmpNo X268.here hx rfl (hb hby at_91) rfl (flt (by decide : ¬ ((3 : Int32) < (0 : Int32)))).1 ?_
         refine oIl X268 hx hby at_94 rfl (oIl X268 hx hby at_96 rfl ?_)
         refine XS.icmpYes X268.here hx rfl (pc0 := 98) (pc' := 103) rfl (hb hby at_98) rfl (flt (by decide : ¬ ((4 : Int32) < (3 : Int32)))).2.2.2 (by decide) (by decide) ?_
         refine oIl X268 hx hby at_103 rfl (oIl X268 hx hby at_105 rfl ?_)
         refine XS.icmpNo X268.here hx rfl (hb hby at_107) rfl (tlt (by decide : (3 : Int32) < (4 : Int32))).2.1 ?_
         exact q
        obtain ⟨s286, o286, ja286, jb286, jc286, v286, L286, rfl, ⟨hv286, jN286, jh286, -⟩, jF286⟩ := sgW3 l Z a0 hw p0 p1 p2 p3 p4 (4 : Int32) (0 : Int32) b239 ob_261 k239 (rr_240.toUInt32.toUInt16.toUInt32.toInt32) (rr_244.toUInt32.toUInt16.toUInt32.toInt32) (rr_248.toUInt32.toUInt16.toUInt32.toInt32) (rr_252.toUInt32.toUInt16.toUInt32.toInt32) T261.heap n0 (Nat.le_trans (Nat.le_trans (Nat.le_trans (Nat.le_trans (Nat.le_trans (Nat.le_trans Z0 E239.1) (Keep.of_wr W243).1) (Keep.of_wr W247).1) (Keep.of_wr W251).1) (Keep.of_wr W255).1) K261.1) f284 (own_ok4 hs0) (own_ok4 hs1) (own_ok4 hs2) (own_ok2 (by decide)) hs3 (own_more X268 (by decide) (by decide)) hx hZ hby hml hown Bd.returns Bd.notSynchronized e268 N268 hS0 hk261 Hc261 Rc261 hh
        exact ⟨s286, _, k285 _ ja286, jb286, jc286, v286, L286, rfl, ⟨hv286.trans rfl, jN286, trivial⟩, jF286⟩
      · have f287 := (V255.keep K261 nin0)
        have k288 : ∀ t, OwnS p e below T268 (mkF m 123 #[iv p0, iv p1, iv p2, iv p3, iv p4, iv 4, iv 0, rv b239, rv ob_261, iv 4] []) t → OwnS p e below s₁ (entryFrame m #[(.int p0), (.int p1), (.int p2), (.int p3), (.int p4)] maxLocals) t := fun t q => by
         refine k274 t ?_
         rw [hr]
         refine XS.istore X268.here hx rfl (hb hby at_85) rfl (l' := #[iv p0, iv p1, iv p2, iv p3, iv p4, iv 4, iv 0, rv b239, rv ob_261, iv 4]) rfl ?_
         refine oIl X268 hx hby at_87 rfl (oIl X268 hx hby at_89 rfl ?_)
         refine XS.icmpNo X268.here hx rfl (hb hby at_91) rfl (flt (by decide : ¬ ((4 : Int32) < (0 : Int32)))).1 ?_
         refine oIl X268 hx hby at_94 rfl (oIl X268 hx hby at_96 rfl ?_)
         refine XS.icmpYes X268.here hx rfl (pc0 := 98) (pc' := 103) rfl (hb hby at_98) rfl (flt (by decide : ¬ ((4 : Int32) < (4 : Int32)))).2.2.2 (by decide) (by decide) ?_
         refine oIl X268 hx hby at_103 rfl (oIl X268 hx hby at_105 rfl ?_)
         refine XS.icmpYes X268.here hx rfl (pc0 := 107) (pc' := 123) rfl (hb hby at_107) rfl (flt (by decide : ¬ ((4 : Int32) < (4 : Int32)))).2.1 (by decide) (by decide) ?_
         exact q
        obtain ⟨s289, o289, ja289, jb289, jc289, v289, L289, rfl, ⟨hv289, jN289, jh289, -⟩, jF289⟩ := sgT l Z a0 hw p0 p1 p2 p3 p4 (4 : Int32) (0 : Int32) b239 ob_261 (4 : Int32) k239 (rr_240.toUInt32.toUInt16.toUInt32.toInt32) (rr_244.toUInt32.toUInt16.toUInt32.toInt32) (rr_248.toUInt32.toUInt16.toUInt32.toInt32) (rr_252.toUInt32.toUInt16.toUInt32.toInt32) T261.heap n0 (Nat.le_trans (Nat.le_trans (Nat.le_trans (Nat.le_trans (Nat.le_trans (Nat.le_trans Z0 E239.1) (Keep.of_wr W243).1) (Keep.of_wr W247).1) (Keep.of_wr W251).1) (Keep.of_wr W255).1) K261.1) f287 (own_ok4 hs0) (own_ok4 hs1) (own_ok4 hs2) (own_ok4 hs3) (own_more X268 (by decide) (by decide)) hx hZ hby hml hown Bd.returns Bd.notSynchronized e268 N268 hS0 hk261 Hc261 Rc261 hh
        exact ⟨s289, _, k288 _ ja289, jb289, jc289, v289, L289, rfl, ⟨hv289.trans rfl, jN289, trivial⟩, jF289⟩
    · have f291 := (own_sta_keep f262 K261 all0)
      have f292 := (own_sta_keep (((((S_F.ext E239).wr W243).wr W247).wr W251).wr W255) K261 all0)
      have f293 := (own_sta_keep f263 K261 all0)
      have f294 := (own_sta_keep f264 K261 all0)
      have f295 := (own_sta_keep f265 K261 all0)
      obtain ⟨_, T290, L290, X290, hQ290, st290⟩ := own_cS 0 (rmSk_4_1 l Z a0 hw [] ob_261 w_CS w_F (rr_240.toUInt32.toUInt16.toUInt32.toInt32) (rr_244.toUInt32.toUInt16.toUInt32.toInt32) (rr_248.toUInt32.toUInt16.toUInt32.toInt32) (rr_252.toUInt32.toUInt16.toUInt32.toInt32) T261.heap n0 (Nat.le_trans (Nat.le_trans (Nat.le_trans (Nat.le_trans (Nat.le_trans (Nat.le_trans Z0 E239.1) (Keep.of_wr W243).1) (Keep.of_wr W247).1) (Keep.of_wr W251).1) (Keep.of_wr W255).1) K261.1) f291 hcs f292 hwF f293 f294 f295 p261_2 (own_chc _) (own_chc _) (own_chc _) (own_chc _) p261_1) X261 hx hZ hown hw 31 32 33 34 rfl rfl rfl rfl 82 #[iv p0, iv p1, iv p2, iv p3, iv p4, iv 4, iv 1, rv b239, rv ob_261, .unset] [(.ref ob_261), (.int 1)] [] (hb hby at_82) hml (lenOf pd_20 rfl) rfl rfl (Nat.le_refl _) (by decide)
      obtain ⟨rfl, N290q, e290⟩ := hQ290
      have N290 := Fr.app N261 N290q
      have k296 : ∀ t, OwnS p e below T290 (mkF m 85 #[iv p0, iv p1, iv p2, iv p3, iv p4, iv 4, iv 1, rv b239, rv ob_261, .unset] [(.int (own_sk4_1 (rr_240.toUInt32.toUInt16.toUInt32.toInt32) (rr_244.toUInt32.toUInt16.toUInt32.toInt32) (rr_248.toUInt32.toUInt16.toUInt32.toInt32) (rr_252.toUInt32.toUInt16.toUInt32.toInt32)))]) t → OwnS p e below s₁ (entryFrame m #[(.int p0), (.int p1), (.int p2), (.int p3), (.int p4)] maxLocals) t := fun t q => by
       refine k267 t ?_
       rw [hf]
       refine st290 _ ?_
       exact q
      rcases own_kc4_1 (rr_240.toUInt32.toUInt16.toUInt32.toInt32) (rr_244.toUInt32.toUInt16.toUInt32.toInt32) (rr_248.toUInt32.toUInt16.toUInt32.toInt32) (rr_252.toUInt32.toUInt16.toUInt32.toInt32) with ⟨hs1, hr⟩ | ⟨hs1, hs2, hr⟩ | ⟨hs1, hs2, hs3, hr⟩ | ⟨hs1, hs2, hs3, hr⟩
      · have f297 := (V255.keep K261 nin0)
        have k298 : ∀ t, OwnS p e below T290 (mkF m 110 #[iv p0, iv p1, iv p2, iv p3, iv p4, iv 4, iv 1, rv b239, rv ob_261, iv 1] []) t → OwnS p e below s₁ (entryFrame m #[(.int p0), (.int p1), (.int p2), (.int p3), (.int p4)] maxLocals) t := fun t q => by
         refine k296 t ?_
         rw [hr]
         refine XS.istore X290.here hx rfl (hb hby at_85) rfl (l' := #[iv p0, iv p1, iv p2, iv p3, iv p4, iv 4, iv 1, rv b239, rv ob_261, iv 1]) rfl ?_
         refine oIl X290 hx hby at_87 rfl (oIl X290 hx hby at_89 rfl ?_)
         refine XS.icmpNo X290.here hx rfl (hb hby at_91) rfl (flt (by decide : ¬ ((1 : Int32) < (1 : Int32)))).1 ?_
         refine oIl X290 hx hby at_94 rfl (oIl X290 hx hby at_96 rfl ?_)
         refine XS.icmpYes X290.here hx rfl (pc0 := 98) (pc' := 103) rfl (hb hby at_98) rfl (flt (by decide : ¬ ((4 : Int32) < (1 : Int32)))).2.2.2 (by decide) (by decide) ?_
         refine oIl X290 hx hby at_103 rfl (oIl X290 hx hby at_105 rfl ?_)
         refine XS.icmpNo X290.here hx rfl (hb hby at_107) rfl (tlt (by decide : (1 : Int32) < (4 : Int32))).2.1 ?_
         exact q
        obtain ⟨s299, o299, ja299, jb299, jc299, v299, L299, rfl, ⟨hv299, jN299, jh299, -⟩, jF299⟩ := sgW1 l Z a0 hw p0 p1 p2 p3 p4 (4 : Int32) (1 : Int32) b239 ob_261 k239 (rr_240.toUInt32.toUInt16.toUInt32.toInt32) (rr_244.toUInt32.toUInt16.toUInt32.toInt32) (rr_248.toUInt32.toUInt16.toUInt32.toInt32) (rr_252.toUInt32.toUInt16.toUInt32.toInt32) T261.heap n0 (Nat.le_trans (Nat.le_trans (Nat.le_trans (Nat.le_trans (Nat.le_trans (Nat.le_trans Z0 E239.1) (Keep.of_wr W243).1) (Keep.of_wr W247).1) (Keep.of_wr W251).1) (Keep.of_wr W255).1) K261.1) f297 (own_ok1 (by decide)) (own_ok2 (by decide)) (own_ok2 (by decide)) (own_ok2 (by decide)) hs1 (own_more X290 (by decide) (by decide)) hx hZ hby hml hown Bd.returns Bd.notSynchronized e290 N290 hS0 hk261 Hc261 Rc261 hh
        exact ⟨s299, _, k298 _ ja299, jb299, jc299, v299, L299, rfl, ⟨hv299.trans rfl, jN299, trivial⟩, jF299⟩
      · have f300 := (V255.keep K261 nin0)
        have k301 : ∀ t, OwnS p e below T290 (mkF m 110 #[iv p0, iv p1, iv p2, iv p3, iv p4, iv 4, iv 1, rv b239, rv ob_261, iv 2] []) t → OwnS p e below s₁ (entryFrame m #[(.int p0), (.int p1), (.int p2), (.int p3), (.int p4)] maxLocals) t := fun t q => by
         refine k296 t ?_
         rw [hr]
         refine XS.istore X290.here hx rfl (hb hby at_85) rfl (l' := #[iv p0, iv p1, iv p2, iv p3, iv p4, iv 4, iv 1, rv b239, rv ob_261, iv 2]) rfl ?_
         refine oIl X290 hx hby at_87 rfl (oIl X290 hx hby at_89 rfl ?_)
         refine XS.icmpNo X290.here hx rfl (hb hby at_91) rfl (flt (by decide : ¬ ((2 : Int32) < (1 : Int32)))).1 ?_
         refine oIl X290 hx hby at_94 rfl (oIl X290 hx hby at_96 rfl ?_)
         refine XS.icmpYes X290.here hx rfl (pc0 := 98) (pc' := 103) rfl (hb hby at_98) rfl (flt (by decide : ¬ ((4 : Int32) < (2 : Int32)))).2.2.2 (by decide) (by decide) ?_
         refine oIl X290 hx hby at_103 rfl (oIl X290 hx hby at_105 rfl ?_)
         refine XS.icmpNo X290.here hx rfl (hb hby at_107) rfl (tlt (by decide : (2 : Int32) < (4 : Int32))).2.1 ?_
         exact q
        obtain ⟨s302, o302, ja302, jb302, jc302, v302, L302, rfl, ⟨hv302, jN302, jh302, -⟩, jF302⟩ := sgW2 l Z a0 hw p0 p1 p2 p3 p4 (4 : Int32) (1 : Int32) b239 ob_261 k239 (rr_240.toUInt32.toUInt16.toUInt32.toInt32) (rr_244.toUInt32.toUInt16.toUInt32.toInt32) (rr_248.toUInt32.toUInt16.toUInt32.toInt32) (rr_252.toUInt32.toUInt16.toUInt32.toInt32) T261.heap n0 (Nat.le_trans (Nat.le_trans (Nat.le_trans (Nat.le_trans (Nat.le_trans (Nat.le_trans Z0 E239.1) (Keep.of_wr W243).1) (Keep.of_wr W247).1) (Keep.of_wr W251).1) (Keep.of_wr W255).1) K261.1) f300 (own_ok1 (by decide)) (own_ok4 hs1) (own_ok2 (by decide)) (own_ok2 (by decide)) hs2 (own_more X290 (by decide) (by decide)) hx hZ hby hml hown Bd.returns Bd.notSynchronized e290 N290 hS0 hk261 Hc261 Rc261 hh
        exact ⟨s302, _, k301 _ ja302, jb302, jc302, v302, L302, rfl, ⟨hv302.trans rfl, jN302, trivial⟩, jF302⟩
      · have f303 := (V255.keep K261 nin0)
        have k304 : ∀ t, OwnS p e below T290 (mkF m 110 #[iv p0, iv p1, iv p2, iv p3, iv p4, iv 4, iv 1, rv b239, rv ob_261, iv 3] []) t → OwnS p e below s₁ (entryFrame m #[(.int p0), (.int p1), (.int p2), (.int p3), (.int p4)] maxLocals) t := fun t q => by
         refine k296 t ?_
         rw [hr]
         refine XS.istore X290.here hx rfl (hb hby at_85) rfl (l' := #[iv p0, iv p1, iv p2, iv p3, iv p4, iv 4, iv 1, rv b239, rv ob_261, iv 3]) rfl ?_
         refine oIl X290 hx hby at_87 rfl (oIl X290 hx hby at_89 rfl ?_)
         refine XS.icmpNo X290.here hx rfl (hb hby at_91) rfl (flt (by decide : ¬ ((3 : Int32) < (1 : Int32)))).1 ?_
         refine oIl X290 hx hby at_94 rfl (oIl X290 hx hby at_96 rfl ?_)
         refine XS.icmpYes X290.here hx rfl (pc0 := 98) (pc' := 103) rfl (hb hby at_98) rfl (flt (by decide : ¬ ((4 : Int32) < (3 : Int32)))).2.2.2 (by decide) (by decide) ?_
         refine oIl X290 hx hby at_103 rfl (oIl X290 hx hby at_105 rfl ?_)
         refine XS.icmpNo X290.here hx rfl (hb hby at_107) rfl (tlt (by decide : (3 : Int32) < (4 : Int32))).2.1 ?_
         exact q
        obtain ⟨s305, o305, ja305, jb305, jc305, v305, L305, rfl, ⟨hv305, jN305, jh305, -⟩, jF305⟩ := sgW3 l Z a0 hw p0 p1 p2 p3 p4 (4 : Int32) (1 : Int32) b239 ob_261 k239 (rr_240.toUInt32.toUInt16.toUInt32.toInt32) (rr_244.toUInt32.toUInt16.toUInt32.toInt32) (rr_248.toUInt32.toUInt16.toUInt32.toInt32) (rr_252.toUInt32.toUInt16.toUInt32.toInt32) T261.heap n0 (Nat.le_trans (Nat.le_trans (Nat.le_trans (Nat.le_trans (Nat.le_trans (Nat.le_trans Z0 E239.1) (Keep.of_wr W243).1) (Keep.of_wr W247).1) (Keep.of_wr W251).1) (Keep.of_wr W255).1) K261.1) f303 (own_ok1 (by decide)) (own_ok4 hs1) (own_ok4 hs2) (own_ok2 (by decide)) hs3 (own_more X290 (by decide) (by decide)) hx hZ hby hml hown Bd.returns Bd.notSynchronized e290 N290 hS0 hk261 Hc261 Rc261 hh
        exact ⟨s305, _, k304 _ ja305, jb305, jc305, v305, L305, rfl, ⟨hv305.trans rfl, jN305, trivial⟩, jF305⟩
      · have f306 := (V255.keep K261 nin0)
        have k307 : ∀ t, OwnS p e below T290 (mkF m 123 #[iv p0, iv p1, iv p2, iv p3, iv p4, iv 4, iv 1, rv b239, rv ob_261, iv 4] []) t → OwnS p e below s₁ (entryFrame m #[(.int p0), (.int p1), (.int p2), (.int p3), (.int p4)] maxLocals) t := fun t q => by
         refine k296 t ?_
         rw [hr]
         refine XS.istore X290.here hx rfl (hb hby at_85) rfl (l' := #[iv p0, iv p1, iv p2, iv p3, iv p4, iv 4, iv 1, rv b239, rv ob_261, iv 4]) rfl ?_
         refine oIl X290 hx hby at_87 rfl (oIl X290 hx hby at_89 rfl ?_)
         refine XS.icmpNo X290.here hx rfl (hb hby at_91) rfl (flt (by decide : ¬ ((4 : Int32) < (1 : Int32)))).1 ?_
         refine oIl X290 hx hby at_94 rfl (oIl X290 hx hby at_96 rfl ?_)
         refine XS.icmpYes X290.here hx rfl (pc0 := 98) (pc' := 103) rfl (hb hby at_98) rfl (flt (by decide : ¬ ((4 : Int32) < (4 : Int32)))).2.2.2 (by decide) (by decide) ?_
         refine oIl X290 hx hby at_103 rfl (oIl X290 hx hby at_105 rfl ?_)
         refine XS.icmpYes X290.here hx rfl (pc0 := 107) (pc' := 123) rfl (hb hby at_107) rfl (flt (by decide : ¬ ((4 : Int32) < (4 : Int32)))).2.1 (by decide) (by decide) ?_
         exact q
        obtain ⟨s308, o308, ja308, jb308, jc308, v308, L308, rfl, ⟨hv308, jN308, jh308, -⟩, jF308⟩ := sgT l Z a0 hw p0 p1 p2 p3 p4 (4 : Int32) (1 : Int32) b239 ob_261 (4 : Int32) k239 (rr_240.toUInt32.toUInt16.toUInt32.toInt32) (rr_244.toUInt32.toUInt16.toUInt32.toInt32) (rr_248.toUInt32.toUInt16.toUInt32.toInt32) (rr_252.toUInt32.toUInt16.toUInt32.toInt32) T261.heap n0 (Nat.le_trans (Nat.le_trans (Nat.le_trans (Nat.le_trans (Nat.le_trans (Nat.le_trans Z0 E239.1) (Keep.of_wr W243).1) (Keep.of_wr W247).1) (Keep.of_wr W251).1) (Keep.of_wr W255).1) K261.1) f306 (own_ok1 (by decide)) (own_ok4 hs1) (own_ok4 hs2) (own_ok4 hs3) (own_more X290 (by decide) (by decide)) hx hZ hby hml hown Bd.returns Bd.notSynchronized e290 N290 hS0 hk261 Hc261 Rc261 hh
        exact ⟨s308, _, k307 _ ja308, jb308, jc308, v308, L308, rfl, ⟨hv308.trans rfl, jN308, trivial⟩, jF308⟩
    · have f310 := (own_sta_keep f262 K261 all0)
      have f311 := (own_sta_keep (((((S_F.ext E239).wr W243).wr W247).wr W251).wr W255) K261 all0)
      have f312 := (own_sta_keep f263 K261 all0)
      have f313 := (own_sta_keep f264 K261 all0)
      have f314 := (own_sta_keep f265 K261 all0)
      obtain ⟨_, T309, L309, X309, hQ309, st309⟩ := own_cS 0 (rmSk_4_2 l Z a0 hw [] ob_261 w_CS w_F (rr_240.toUInt32.toUInt16.toUInt32.toInt32) (rr_244.toUInt32.toUInt16.toUInt32.toInt32) (rr_248.toUInt32.toUInt16.toUInt32.toInt32) (rr_252.toUInt32.toUInt16.toUInt32.toInt32) T261.heap n0 (Nat.le_trans (Nat.le_trans (Nat.le_trans (Nat.le_trans (Nat.le_trans (Nat.le_trans Z0 E239.1) (Keep.of_wr W243).1) (Keep.of_wr W247).1) (Keep.of_wr W251).1) (Keep.of_wr W255).1) K261.1) f310 hcs f311 hwF f312 f313 f314 p261_2 (own_chc _) (own_chc _) (own_chc _) (own_chc _) p261_1) X261 hx hZ hown hw 31 32 33 34 rfl rfl rfl rfl 82 #[iv p0, iv p1, iv p2, iv p3, iv p4, iv 4, iv 2, rv b239, rv ob_261, .unset] [(.ref ob_261), (.int 2)] [] (hb hby at_82) hml (lenOf pd_20 rfl) rfl rfl (Nat.le_refl _) (by decide)
      obtain ⟨rfl, N309q, e309⟩ := hQ309
      have N309 := Fr.app N261 N309q
      have k315 : ∀ t, OwnS p e below T309 (mkF m 85 #[iv p0, iv p1, iv p2, iv p3, iv p4, iv 4, iv 2, rv b239, rv ob_261, .unset] [(.int (own_sk4_2 (rr_240.toUInt32.toUInt16.toUInt32.toInt32) (rr_244.toUInt32.toUInt16.toUInt32.toInt32) (rr_248.toUInt32.toUInt16.toUInt32.toInt32) (rr_252.toUInt32.toUInt16.toUInt32.toInt32)))]) t → OwnS p e below s₁ (entryFrame m #[(.int p0), (.int p1), (.int p2), (.int p3), (.int p4)] maxLocals) t := fun t q => by
       refine k267 t ?_
       rw [hf]
       refine st309 _ ?_
       exact q
      rcases own_kc4_2 (rr_240.toUInt32.toUInt16.toUInt32.toInt32) (rr_244.toUInt32.toUInt16.toUInt32.toInt32) (rr_248.toUInt32.toUInt16.toUInt32.toInt32) (rr_252.toUInt32.toUInt16.toUInt32.toInt32) with ⟨hs2, hr⟩ | ⟨hs2, hs3, hr⟩ | ⟨hs2, hs3, hr⟩
      · have f316 := (V255.keep K261 nin0)
        have k317 : ∀ t, OwnS p e below T309 (mkF m 110 #[iv p0, iv p1, iv p2, iv p3, iv p4, iv 4, iv 2, rv b239, rv ob_261, iv 2] []) t → OwnS p e below s₁ (entryFrame m #[(.int p0), (.int p1), (.int p2), (.int p3), (.int p4)] maxLocals) t := fun t q => by
         refine k315 t ?_
         rw [hr]
         refine XS.istore X309.here hx rfl (hb hby at_85) rfl (l' := #[iv p0, iv p1, iv p2, iv p3, iv p4, iv 4, iv 2, rv b239, rv ob_261, iv 2]) rfl ?_
         refine oIl X309 hx hby at_87 rfl (oIl X309 hx hby at_89 rfl ?_)
         refine XS.icmpNo X309.here hx rfl (hb hby at_91) rfl (flt (by decide : ¬ ((2 : Int32) < (2 : Int32)))).1 ?_
         refine oIl X309 hx hby at_94 rfl (oIl X309 hx hby at_96 rfl ?_)
         refine XS.icmpYes X309.here hx rfl (pc0 := 98) (pc' := 103) rfl (hb hby at_98) rfl (flt (by decide : ¬ ((4 : Int32) < (2 : Int32)))).2.2.2 (by decide) (by decide) ?_
         refine oIl X309 hx hby at_103 rfl (oIl X309 hx hby at_105 rfl ?_)
         refine XS.icmpNo X309.here hx rfl (hb hby at_107) rfl (tlt (by decide : (2 : Int32) < (4 : Int32))).2.1 ?_
         exact q
        obtain ⟨s318, o318, ja318, jb318, jc318, v318, L318, rfl, ⟨hv318, jN318, jh318, -⟩, jF318⟩ := sgW2 l Z a0 hw p0 p1 p2 p3 p4 (4 : Int32) (2 : Int32) b239 ob_261 k239 (rr_240.toUInt32.toUInt16.toUInt32.toInt32) (rr_244.toUInt32.toUInt16.toUInt32.toInt32) (rr_248.toUInt32.toUInt16.toUInt32.toInt32) (rr_252.toUInt32.toUInt16.toUInt32.toInt32) T261.heap n0 (Nat.le_trans (Nat.le_trans (Nat.le_trans (Nat.le_trans (Nat.le_trans (Nat.le_trans Z0 E239.1) (Keep.of_wr W243).1) (Keep.of_wr W247).1) (Keep.of_wr W251).1) (Keep.of_wr W255).1) K261.1) f316 (own_ok1 (by decide)) (own_ok1 (by decide)) (own_ok2 (by decide)) (own_ok2 (by decide)) hs2 (own_more X309 (by decide) (by decide)) hx hZ hby hml hown Bd.returns Bd.notSynchronized e309 N309 hS0 hk261 Hc261 Rc261 hh
        exact ⟨s318, _, k317 _ ja318, jb318, jc318, v318, L318, rfl, ⟨hv318.trans rfl, jN318, trivial⟩, jF318⟩
      · have f319 := (V255.keep K261 nin0)
        have k320 : ∀ t, OwnS p e below T309 (mkF m 110 #[iv p0, iv p1, iv p2, iv p3, iv p4, iv 4, iv 2, rv b239, rv ob_261, iv 3] []) t → OwnS p e below s₁ (entryFrame m #[(.int p0), (.int p1), (.int p2), (.int p3), (.int p4)] maxLocals) t := fun t q => by
         refine k315 t ?_
         rw [hr]
         refine XS.istore X309.here hx rfl (hb hby at_85) rfl (l' := #[iv p0, iv p1, iv p2, iv p3, iv p4, iv 4, iv 2, rv b239, rv ob_261, iv 3]) rfl ?_
         refine oIl X309 hx hby at_87 rfl (oIl X309 hx hby at_89 rfl ?_)
         refine XS.icmpNo X309.here hx rfl (hb hby at_91) rfl (flt (by decide : ¬ ((3 : Int32) < (2 : Int32)))).1 ?_
         refine oIl X309 hx hby at_94 rfl (oIl X309 hx hby at_96 rfl ?_)
         refine XS.icmpYes X309.here hx rfl (pc0 := 98) (pc' := 103) rfl (hb hby at_98) rfl (flt (by decide : ¬ ((4 : Int32) < (3 : Int32)))).2.2.2 (by decide) (by decide) ?_
         refine oIl X309 hx hby at_103 rfl (oIl X309 hx hby at_105 rfl ?_)
         refine XS.icmpNo X309.here hx rfl (hb hby at_107) rfl (tlt (by decide : (3 : Int32) < (4 : Int32))).2.1 ?_
         exact q
        obtain ⟨s321, o321, ja321, jb321, jc321, v321, L321, rfl, ⟨hv321, jN321, jh321, -⟩, jF321⟩ := sgW3 l Z a0 hw p0 p1 p2 p3 p4 (4 : Int32) (2 : Int32) b239 ob_261 k239 (rr_240.toUInt32.toUInt16.toUInt32.toInt32) (rr_244.toUInt32.toUInt16.toUInt32.toInt32) (rr_248.toUInt32.toUInt16.toUInt32.toInt32) (rr_252.toUInt32.toUInt16.toUInt32.toInt32) T261.heap n0 (Nat.le_trans (Nat.le_trans (Nat.le_trans (Nat.le_trans (Nat.le_trans (Nat.le_trans Z0 E239.1) (Keep.of_wr W243).1) (Keep.of_wr W247).1) (Keep.of_wr W251).1) (Keep.of_wr W255).1) K261.1) f319 (own_ok1 (by decide)) (own_ok1 (by decide)) (own_ok4 hs2) (own_ok2 (by decide)) hs3 (own_more X309 (by decide) (by decide)) hx hZ hby hml hown Bd.returns Bd.notSynchronized e309 N309 hS0 hk261 Hc261 Rc261 hh
        exact ⟨s321, _, k320 _ ja321, jb321, jc321, v321, L321, rfl, ⟨hv321.trans rfl, jN321, trivial⟩, jF321⟩
      · have f322 := (V255.keep K261 nin0)
        have k323 : ∀ t, OwnS p e below T309 (mkF m 123 #[iv p0, iv p1, iv p2, iv p3, iv p4, iv 4, iv 2, rv b239, rv ob_261, iv 4] []) t → OwnS p e below s₁ (entryFrame m #[(.int p0), (.int p1), (.int p2), (.int p3), (.int p4)] maxLocals) t := fun t q => by
         refine k315 t ?_
         rw [hr]
         refine XS.istore X309.here hx rfl (hb hby at_85) rfl (l' := #[iv p0, iv p1, iv p2, iv p3, iv p4, iv 4, iv 2, rv b239, rv ob_261, iv 4]) rfl ?_
         refine oIl X309 hx hby at_87 rfl (oIl X309 hx hby at_89 rfl ?_)
         refine XS.icmpNo X309.here hx rfl (hb hby at_91) rfl (flt (by decide : ¬ ((4 : Int32) < (2 : Int32)))).1 ?_
         refine oIl X309 hx hby at_94 rfl (oIl X309 hx hby at_96 rfl ?_)
         refine XS.icmpYes X309.here hx rfl (pc0 := 98) (pc' := 103) rfl (hb hby at_98) rfl (flt (by decide : ¬ ((4 : Int32) < (4 : Int32)))).2.2.2 (by decide) (by decide) ?_
         refine oIl X309 hx hby at_103 rfl (oIl X309 hx hby at_105 rfl ?_)
         refine XS.icmpYes X309.here hx rfl (pc0 := 107) (pc' := 123) rfl (hb hby at_107) rfl (flt (by decide : ¬ ((4 : Int32) < (4 : Int32)))).2.1 (by decide) (by decide) ?_
         exact q
        obtain ⟨s324, o324, ja324, jb324, jc324, v324, L324, rfl, ⟨hv324, jN324, jh324, -⟩, jF324⟩ := sgT l Z a0 hw p0 p1 p2 p3 p4 (4 : Int32) (2 : Int32) b239 ob_261 (4 : Int32) k239 (rr_240.toUInt32.toUInt16.toUInt32.toInt32) (rr_244.toUInt32.toUInt16.toUInt32.toInt32) (rr_248.toUInt32.toUInt16.toUInt32.toInt32) (rr_252.toUInt32.toUInt16.toUInt32.toInt32) T261.heap n0 (Nat.le_trans (Nat.le_trans (Nat.le_trans (Nat.le_trans (Nat.le_trans (Nat.le_trans Z0 E239.1) (Keep.of_wr W243).1) (Keep.of_wr W247).1) (Keep.of_wr W251).1) (Keep.of_wr W255).1) K261.1) f322 (own_ok1 (by decide)) (own_ok1 (by decide)) (own_ok4 hs2) (own_ok4 hs3) (own_more X309 (by decide) (by decide)) hx hZ hby hml hown Bd.returns Bd.notSynchronized e309 N309 hS0 hk261 Hc261 Rc261 hh
        exact ⟨s324, _, k323 _ ja324, jb324, jc324, v324, L324, rfl, ⟨hv324.trans rfl, jN324, trivial⟩, jF324⟩
    · have f326 := (own_sta_keep f262 K261 all0)
      have f327 := (own_sta_keep (((((S_F.ext E239).wr W243).wr W247).wr W251).wr W255) K261 all0)
      have f328 := (own_sta_keep f263 K261 all0)
      have f329 := (own_sta_keep f264 K261 all0)
      have f330 := (own_sta_keep f265 K261 all0)
      obtain ⟨_, T325, L325, X325, hQ325, st325⟩ := own_cS 0 (rmSk_4_3 l Z a0 hw [] ob_261 w_CS w_F (rr_240.toUInt32.toUInt16.toUInt32.toInt32) (rr_244.toUInt32.toUInt16.toUInt32.toInt32) (rr_248.toUInt32.toUInt16.toUInt32.toInt32) (rr_252.toUInt32.toUInt16.toUInt32.toInt32) T261.heap n0 (Nat.le_trans (Nat.le_trans (Nat.le_trans (Nat.le_trans (Nat.le_trans (Nat.le_trans Z0 E239.1) (Keep.of_wr W243).1) (Keep.of_wr W247).1) (Keep.of_wr W251).1) (Keep.of_wr W255).1) K261.1) f326 hcs f327 hwF f328 f329 f330 p261_2 (own_chc _) (own_chc _) (own_chc _) (own_chc _) p261_1) X261 hx hZ hown hw 31 32 33 34 rfl rfl rfl rfl 82 #[iv p0, iv p1, iv p2, iv p3, iv p4, iv 4, iv 3, rv b239, rv ob_261, .unset] [(.ref ob_261), (.int 3)] [] (hb hby at_82) hml (lenOf pd_20 rfl) rfl rfl (Nat.le_refl _) (by decide)
      obtain ⟨rfl, N325q, e325⟩ := hQ325
      have N325 := Fr.app N261 N325q
      have k331 : ∀ t, OwnS p e below T325 (mkF m 85 #[iv p0, iv p1, iv p2, iv p3, iv p4, iv 4, iv 3, rv b239, rv ob_261, .unset] [(.int (own_sk4_3 (rr_240.toUInt32.toUInt16.toUInt32.toInt32) (rr_244.toUInt32.toUInt16.toUInt32.toInt32) (rr_248.toUInt32.toUInt16.toUInt32.toInt32) (rr_252.toUInt32.toUInt16.toUInt32.toInt32)))]) t → OwnS p e below s₁ (entryFrame m #[(.int p0), (.int p1), (.int p2), (.int p3), (.int p4)] maxLocals) t := fun t q => by
       refine k267 t ?_
       rw [hf]
       refine st325 _ ?_
       exact q
      rcases own_kc4_3 (rr_240.toUInt32.toUInt16.toUInt32.toInt32) (rr_244.toUInt32.toUInt16.toUInt32.toInt32) (rr_248.toUInt32.toUInt16.toUInt32.toInt32) (rr_252.toUInt32.toUInt16.toUInt32.toInt32) with ⟨hs3, hr⟩ | ⟨hs3, hr⟩
      · have f332 := (V255.keep K261 nin0)
        have k333 : ∀ t, OwnS p e below T325 (mkF m 110 #[iv p0, iv p1, iv p2, iv p3, iv p4, iv 4, iv 3, rv b239, rv ob_261, iv 3] []) t → OwnS p e below s₁ (entryFrame m #[(.int p0), (.int p1), (.int p2), (.int p3), (.int p4)] maxLocals) t := fun t q => by
         refine k331 t ?_
         rw [hr]
         refine XS.istore X325.here hx rfl (hb hby at_85) rfl (l' := #[iv p0, iv p1, iv p2, iv p3, iv p4, iv 4, iv 3, rv b239, rv ob_261, iv 3]) rfl ?_
         refine oIl X325 hx hby at_87 rfl (oIl X325 hx hby at_89 rfl ?_)
         refine XS.icmpNo X325.here hx rfl (hb hby at_91) rfl (flt (by decide : ¬ ((3 : Int32) < (3 : Int32)))).1 ?_
         refine oIl X325 hx hby at_94 rfl (oIl X325 hx hby at_96 rfl ?_)
         refine XS.icmpYes X325.here hx rfl (pc0 := 98) (pc' := 103) rfl (hb hby at_98) rfl (flt (by decide : ¬ ((4 : Int32) < (3 : Int32)))).2.2.2 (by decide) (by decide) ?_
         refine oIl X325 hx hby at_103 rfl (oIl X325 hx hby at_105 rfl ?_)
         refine XS.icmpNo X325.here hx rfl (hb hby at_107) rfl (tlt (by decide : (3 : Int32) < (4 : Int32))).2.1 ?_
         exact q
        obtain ⟨s334, o334, ja334, jb334, jc334, v334, L334, rfl, ⟨hv334, jN334, jh334, -⟩, jF334⟩ := sgW3 l Z a0 hw p0 p1 p2 p3 p4 (4 : Int32) (3 : Int32) b239 ob_261 k239 (rr_240.toUInt32.toUInt16.toUInt32.toInt32) (rr_244.toUInt32.toUInt16.toUInt32.toInt32) (rr_248.toUInt32.toUInt16.toUInt32.toInt32) (rr_252.toUInt32.toUInt16.toUInt32.toInt32) T261.heap n0 (Nat.le_trans (Nat.le_trans (Nat.le_trans (Nat.le_trans (Nat.le_trans (Nat.le_trans Z0 E239.1) (Keep.of_wr W243).1) (Keep.of_wr W247).1) (Keep.of_wr W251).1) (Keep.of_wr W255).1) K261.1) f332 (own_ok1 (by decide)) (own_ok1 (by decide)) (own_ok1 (by decide)) (own_ok2 (by decide)) hs3 (own_more X325 (by decide) (by decide)) hx hZ hby hml hown Bd.returns Bd.notSynchronized e325 N325 hS0 hk261 Hc261 Rc261 hh
        exact ⟨s334, _, k333 _ ja334, jb334, jc334, v334, L334, rfl, ⟨hv334.trans rfl, jN334, trivial⟩, jF334⟩
      · have f335 := (V255.keep K261 nin0)
        have k336 : ∀ t, OwnS p e below T325 (mkF m 123 #[iv p0, iv p1, iv p2, iv p3, iv p4, iv 4, iv 3, rv b239, rv ob_261, iv 4] []) t → OwnS p e below s₁ (entryFrame m #[(.int p0), (.int p1), (.int p2), (.int p3), (.int p4)] maxLocals) t := fun t q => by
         refine k331 t ?_
         rw [hr]
         refine XS.istore X325.here hx rfl (hb hby at_85) rfl (l' := #[iv p0, iv p1, iv p2, iv p3, iv p4, iv 4, iv 3, rv b239, rv ob_261, iv 4]) rfl ?_
         refine oIl X325 hx hby at_87 rfl (oIl X325 hx hby at_89 rfl ?_)
         refine XS.icmpNo X325.here hx rfl (hb hby at_91) rfl (flt (by decide : ¬ ((4 : Int32) < (3 : Int32)))).1 ?_
         refine oIl X325 hx hby at_94 rfl (oIl X325 hx hby at_96 rfl ?_)
         refine XS.icmpYes X325.here hx rfl (pc0 := 98) (pc' := 103) rfl (hb hby at_98) rfl (flt (by decide : ¬ ((4 : Int32) < (4 : Int32)))).2.2.2 (by decide) (by decide) ?_
         refine oIl X325 hx hby at_103 rfl (oIl X325 hx hby at_105 rfl ?_)
         refine XS.icmpYes X325.here hx rfl (pc0 := 107) (pc' := 123) rfl (hb hby at_107) rfl (flt (by decide : ¬ ((4 : Int32) < (4 : Int32)))).2.1 (by decide) (by decide) ?_
         exact q
        obtain ⟨s337, o337, ja337, jb337, jc337, v337, L337, rfl, ⟨hv337, jN337, jh337, -⟩, jF337⟩ := sgT l Z a0 hw p0 p1 p2 p3 p4 (4 : Int32) (3 : Int32) b239 ob_261 (4 : Int32) k239 (rr_240.toUInt32.toUInt16.toUInt32.toInt32) (rr_244.toUInt32.toUInt16.toUInt32.toInt32) (rr_248.toUInt32.toUInt16.toUInt32.toInt32) (rr_252.toUInt32.toUInt16.toUInt32.toInt32) T261.heap n0 (Nat.le_trans (Nat.le_trans (Nat.le_trans (Nat.le_trans (Nat.le_trans (Nat.le_trans Z0 E239.1) (Keep.of_wr W243).1) (Keep.of_wr W247).1) (Keep.of_wr W251).1) (Keep.of_wr W255).1) K261.1) f335 (own_ok1 (by decide)) (own_ok1 (by decide)) (own_ok1 (by decide)) (own_ok4 hs3) (own_more X325 (by decide) (by decide)) hx hZ hby hml hown Bd.returns Bd.notSynchronized e325 N325 hS0 hk261 Hc261 Rc261 hh
        exact ⟨s337, _, k336 _ ja337, jb337, jc337, v337, L337, rfl, ⟨hv337.trans rfl, jN337, trivial⟩, jF337⟩
    · have f339 := (own_sta_keep f262 K261 all0)
      have f340 := (own_sta_keep (((((S_F.ext E239).wr W243).wr W247).wr W251).wr W255) K261 all0)
      have f341 := (own_sta_keep f263 K261 all0)
      have f342 := (own_sta_keep f264 K261 all0)
      have f343 := (own_sta_keep f265 K261 all0)
      obtain ⟨_, T338, L338, X338, hQ338, st338⟩ := own_cS 0 (rmSk_4_4 l Z a0 hw [] ob_261 w_CS w_F (rr_240.toUInt32.toUInt16.toUInt32.toInt32) (rr_244.toUInt32.toUInt16.toUInt32.toInt32) (rr_248.toUInt32.toUInt16.toUInt32.toInt32) (rr_252.toUInt32.toUInt16.toUInt32.toInt32) T261.heap n0 (Nat.le_trans (Nat.le_trans (Nat.le_trans (Nat.le_trans (Nat.le_trans (Nat.le_trans Z0 E239.1) (Keep.of_wr W243).1) (Keep.of_wr W247).1) (Keep.of_wr W251).1) (Keep.of_wr W255).1) K261.1) f339 hcs f340 hwF f341 f342 f343 p261_2 (own_chc _) (own_chc _) (own_chc _) (own_chc _) p261_1) X261 hx hZ hown hw 31 32 33 34 rfl rfl rfl rfl 82 #[iv p0, iv p1, iv p2, iv p3, iv p4, iv 4, iv 4, rv b239, rv ob_261, .unset] [(.ref ob_261), (.int 4)] [] (hb hby at_82) hml (lenOf pd_20 rfl) rfl rfl (Nat.le_refl _) (by decide)
      obtain ⟨rfl, N338q, e338⟩ := hQ338
      have N338 := Fr.app N261 N338q
      have k344 : ∀ t, OwnS p e below T338 (mkF m 85 #[iv p0, iv p1, iv p2, iv p3, iv p4, iv 4, iv 4, rv b239, rv ob_261, .unset] [(.int (own_sk4_4 (rr_240.toUInt32.toUInt16.toUInt32.toInt32) (rr_244.toUInt32.toUInt16.toUInt32.toInt32) (rr_248.toUInt32.toUInt16.toUInt32.toInt32) (rr_252.toUInt32.toUInt16.toUInt32.toInt32)))]) t → OwnS p e below s₁ (entryFrame m #[(.int p0), (.int p1), (.int p2), (.int p3), (.int p4)] maxLocals) t := fun t q => by
       refine k267 t ?_
       rw [hf]
       refine st338 _ ?_
       exact q
      rcases own_kc4_4 (rr_240.toUInt32.toUInt16.toUInt32.toInt32) (rr_244.toUInt32.toUInt16.toUInt32.toInt32) (rr_248.toUInt32.toUInt16.toUInt32.toInt32) (rr_252.toUInt32.toUInt16.toUInt32.toInt32) with hr
      · have f345 := (V255.keep K261 nin0)
        have k346 : ∀ t, OwnS p e below T338 (mkF m 123 #[iv p0, iv p1, iv p2, iv p3, iv p4, iv 4, iv 4, rv b239, rv ob_261, iv 4] []) t → OwnS p e below s₁ (entryFrame m #[(.int p0), (.int p1), (.int p2), (.int p3), (.int p4)] maxLocals) t := fun t q => by
         refine k344 t ?_
         rw [hr]
         refine XS.istore X338.here hx rfl (hb hby at_85) rfl (l' := #[iv p0, iv p1, iv p2, iv p3, iv p4, iv 4, iv 4, rv b239, rv ob_261, iv 4]) rfl ?_
         refine oIl X338 hx hby at_87 rfl (oIl X338 hx hby at_89 rfl ?_)
         refine XS.icmpNo X338.here hx rfl (hb hby at_91) rfl (flt (by decide : ¬ ((4 : Int32) < (4 : Int32)))).1 ?_
         refine oIl X338 hx hby at_94 rfl (oIl X338 hx hby at_96 rfl ?_)
         refine XS.icmpYes X338.here hx rfl (pc0 := 98) (pc' := 103) rfl (hb hby at_98) rfl (flt (by decide : ¬ ((4 : Int32) < (4 : Int32)))).2.2.2 (by decide) (by decide) ?_
         refine oIl X338 hx hby at_103 rfl (oIl X338 hx hby at_105 rfl ?_)
         refine XS.icmpYes X338.here hx rfl (pc0 := 107) (pc' := 123) rfl (hb hby at_107) rfl (flt (by decide : ¬ ((4 : Int32) < (4 : Int32)))).2.1 (by decide) (by decide) ?_
         exact q
        obtain ⟨s347, o347, ja347, jb347, jc347, v347, L347, rfl, ⟨hv347, jN347, jh347, -⟩, jF347⟩ := sgT l Z a0 hw p0 p1 p2 p3 p4 (4 : Int32) (4 : Int32) b239 ob_261 (4 : Int32) k239 (rr_240.toUInt32.toUInt16.toUInt32.toInt32) (rr_244.toUInt32.toUInt16.toUInt32.toInt32) (rr_248.toUInt32.toUInt16.toUInt32.toInt32) (rr_252.toUInt32.toUInt16.toUInt32.toInt32) T261.heap n0 (Nat.le_trans (Nat.le_trans (Nat.le_trans (Nat.le_trans (Nat.le_trans (Nat.le_trans Z0 E239.1) (Keep.of_wr W243).1) (Keep.of_wr W247).1) (Keep.of_wr W251).1) (Keep.of_wr W255).1) K261.1) f345 (own_ok1 (by decide)) (own_ok1 (by decide)) (own_ok1 (by decide)) (own_ok1 (by decide)) (own_more X338 (by decide) (by decide)) hx hZ hby hml hown Bd.returns Bd.notSynchronized e338 N338 hS0 hk261 Hc261 Rc261 hh
        exact ⟨s347, _, k346 _ ja347, jb347, jc347, v347, L347, rfl, ⟨hv347.trans rfl, jN347, trivial⟩, jF347⟩
set_option maxRecDepth 65536 in
set_option maxHeartbeats 40000000 in
theorem comes_1 {Post : Tables → Env → Array Value → State → Outcome → State → Prop} (hpost : ∀ tb e args s v u, (limb_1_1.after args s (.returned v) u = true ∧ limb_1_2.after args s (.returned v) u = true ∧ True) → ReturnedEndW s (.returned v) u (Jvm.fieldLocs frame_1_writes args s ++ Jvm.arrayLocs frame_1_arrays args s ++ Jvm.staticLocs frame_1_statics s) 24 1152 → Post tb e args s (.returned v) u) :
    ArmFor flags0 classFile x code maxLocals ret World_1 tables_1 room_1 Calls_1 rest_1 Pre_1 Post := by
  intro l hfl _ _ p e ha hc hk s m args below hf hA hF happ hP
  obtain ⟨hcalls, hrest, hpre⟩ := hP
  obtain ⟨-, -, -, hnamed, -, -, -, hat⟩ := (Spec.applies_iff hf).mp happ
  obtain ⟨hg, hn⟩ := and_e (Cond.before_iff.mp (show (Jvm.Cond.and given_1 narrow_1).before args s = true from hpre))
  have hw := fun d (hd : d ∈ tables_1) => atoms_spec (ws := Jvm.Cond.code x code maxLocals ret :: tables_1) hat d (List.mem_cons_of_mem _ hd)
  have hfit : Fit s := fun {y c} hc i hi => by
    obtain ⟨ha, rfl⟩ := Array.getElem?_eq_some_iff.mp hc
    have q := List.all_eq_true.mp ((Array.all_eq_true_iff_forall_mem.mp hF) _ (Array.getElem_mem ha)) i (List.mem_range.mpr hi)
    simpa [Array.getElem?_eq_getElem hi] using q
  obtain ⟨hsets, hown0⟩ := atoms_of _ (rest_1_c_eq ▸ (show rest_1_c.before _ s = true from hrest))
  have hr0 := Cond.before_iff.mp hown0
  obtain ⟨cj1, cj2⟩ := and_e hg
  obtain ⟨cj3, cj4⟩ := and_e cj2
  obtain ⟨cj5, cj6⟩ := and_e cj4
  obtain ⟨cj7, cj8⟩ := and_e cj6
  obtain ⟨cj9, cj10⟩ := and_e cj8
  obtain ⟨w0, w1, w2, w3, w4, rfl⟩ : ∃ w0 w1 w2 w3 w4 : Value, args = #[w0, w1, w2, w3, w4] := by
    have hs : args.size = 5 := by simpa [Cond.value, given_1] using cj1
    obtain ⟨L⟩ := args
    match L, hs with
    | [w0, w1, w2, w3, w4], _ => exact ⟨w0, w1, w2, w3, w4, rfl⟩
  obtain ⟨i0, ei0⟩ := is_v cj3
  obtain rfl : w0 = (.int i0) := Option.some.inj ei0
  obtain ⟨i1, ei1⟩ := is_v cj5
  obtain rfl : w1 = (.int i1) := Option.some.inj ei1
  obtain ⟨i2, ei2⟩ := is_v cj7
  obtain rfl : w2 = (.int i2) := Option.some.inj ei2
  obtain ⟨i3, ei3⟩ := is_v cj9
  obtain rfl : w3 = (.int i3) := Option.some.inj ei3
  obtain ⟨i4, ei4⟩ := is_v cj10
  obtain rfl : w4 = (.int i4) := Option.some.inj ei4
  have hcw : Jvm.Lit.compactW.before _ s = true := (hsets _ (List.mem_of_getElem? (i := 2) rfl))
  obtain ⟨w_CS, ev_CS⟩ := is_v (Cond.before_iff.mp (hsets _ (List.mem_of_getElem? (i := 1) rfl)))
  have S_CS : Sta s s.heap cS1 cS10 "Z" (.int w_CS) := Sta.start ev_CS (Or.inl (hsets _ (List.mem_of_getElem? (i := 0) rfl)))
  have hcs : ¬ (w_CS = (0 : Int32)) := own_ncs ev_CS hcw
  obtain ⟨w_F, ev_F, hwF⟩ := isR_v (Cond.before_iff.mp (hsets _ (List.mem_of_getElem? (i := 8) rfl)))
  have S_F : Sta s s.heap cS2 cS9 cS3 w_F := Sta.start ev_F (Or.inl (hsets _ (List.mem_of_getElem? (i := 7) rfl)))
  have ev_AD := own_eq_int (Cond.before_iff.mp (hsets _ (List.mem_of_getElem? (i := 12) rfl)))
  have S_AD : Sta s s.heap cS0 cS5 "Z" (.int 1) := Sta.start ev_AD (Or.inl (hsets _ (List.mem_of_getElem? (i := 11) rfl)))
  have ev_HI := own_eq_int (Cond.before_iff.mp (hsets _ (List.mem_of_getElem? (i := 15) rfl)))
  have S_HI : Sta s s.heap cS0 cS7 "I" (.int 0) := Sta.start ev_HI (Or.inl (hsets _ (List.mem_of_getElem? (i := 14) rfl)))
  have ev_LO := own_eq_int (Cond.before_iff.mp (hsets _ (List.mem_of_getElem? (i := 18) rfl)))
  have S_LO : Sta s s.heap cS0 cS8 "I" (.int 8) := Sta.start ev_LO (Or.inl (hsets _ (List.mem_of_getElem? (i := 17) rfl)))
  have hCH : CHv s own_EL s.vm s.heap := CHv.start (own_ew hw) (fun p hp => hcalls.1 p (own_elc p hp)) hcw (own_at hw 24 rfl) (own_at hw 11 rfl)
  obtain ⟨n, o, h1, h2, h3, _, L, rfl, ⟨rfl, N, -⟩, -, hq⟩ := rm0 l s _ hw tables_1 i0 i1 i2 i3 i4 w_CS w_F s.heap s.heap.size (Nat.le_refl _) S_CS hcs S_F hwF S_AD S_HI S_LO p e ha hc hk s m _ below hf ((Spec.applies_iff_loose hf).mp happ).1 ⟨rfl, State.Warmed39.refl s, rfl, hCH⟩ trivial
  refine ⟨n, _, h1, h2, h3, hpost _ _ _ _ _ _ ⟨Cond.after_iff.mpr rfl, Cond.after_iff.mpr (eq_i res_at (Term.int_eval (1)) rfl), trivial⟩ ⟨hq.1, hq.2.1, hq.2.2.1, (hq.2.2.2.sift fun y hy => Or.inr (N y hy)).mono (by decide) (by decide)⟩⟩
theorem main_1_1 : Claimed_1_1 := comes_1 fun _ _ _ _ _ _ h hF => ⟨h.1, hF⟩
theorem main_1_2 : Claimed_1_2 := comes_1 fun _ _ _ _ _ _ h hF => ⟨h.2.1, hF⟩
end Jvm.Pilot.@@N@@
namespace Jvm.Pilot.@@N@@
open Jvm Jvm.ClassFile Sem Op Lib Jvm.Free Jvm.Stand Jvm.Pilot.@@N@@.Jvm.D
/-! MADE BY PROGRAM (witnessworld.py) out of the Statement's table words and the real class files: 20 classes; the members and pool entries that the words name. The judged class is class 1, her method 1. -/
namespace start1
open Jvm.ClassFile
def u (s : String) : CpInfo := .utf8 (stringToUtf16 s)
/-- a pool by its gaps: so many unusable entries, then the entry; so many at the end -/
def gap : Nat → List CpInfo → List CpInfo
  | 0, r => r
  | n + 1, r => .unusable :: gap n r
def poolList (es : List (Nat × CpInfo)) (last : Nat) : List CpInfo := es.foldr (fun e r => gap e.1 (e.2 :: r)) (gap last [])
def pool (es : List (Nat × CpInfo)) (last : Nat) : Array CpInfo := ⟨poolList es last⟩
def fileOf (pool : Array CpInfo) (this : Nat) (attrs : Array Attribute := #[]) (ms : Array MethodInfo := #[]) (fl : Nat := 33) (sup : Nat := 0) (ifs : Array Nat := #[]) (fds : Array FieldInfo := #[]) : ClassFile where
  minorVersion := 0
  majorVersion := 65
  constantPool := pool
  accessFlags := fl
  thisClass := this
  superClass := sup
  interfaces := ifs
  fields := fds
  methods := ms
  attributes := attrs
def plain (name : String) (sup : Option ClassId) : Class where
  name := name
  kind := .ordinary
  loader := none
  accessFlags := 33
  super := sup
  interfaces := #[]
  cf := none
  fields := #[]
  methods := #[]
  instanceTypes := #[]
  staticTypes := #[]
  resolved := #[]
  callSites := []
  init := .initialized
  statics := none
  mirror := none

def pool0 : Array CpInfo := pool [(5, u "<init>"), (0, u "()V"), (1, .class_ 10), (1, u "java/lang/Object")] 113

def k0c0 : Code := { maxStack := 0, maxLocals := 1, code := object_method_1_code, exceptionTable := #[], attributes := #[] }
def k0m0 : Method := { name := "<init>", desc := "()V", sig := { parameters := [], returnType := none }, accessFlags := 1, code := some k0c0 }
/-- java/lang/Object -/
def k0 : Class := { plain "java/lang/Object" none with
  accessFlags := 33
  interfaces := #[]
  cf := some (fileOf pool0 8 #[] #[{ accessFlags := 1, nameIndex := 5, descriptorIndex := 6, attributes := #[] }] 33 0 #[] #[])
  fields := #[]
  methods := #[k0m0]
  instanceTypes := #[]
  staticTypes := #[]
  resolved := Array.replicate 124 none
  statics := none }

def pool1 : Array CpInfo := pool [(2, .class_ 4), (1, u "java/lang/Object"), (0, u "<init>"), (0, u "()V"), (0, .integer 2147483647), (0, .methodref 9 10), (0, .class_ 11), (0, .nameAndType 12 13), (0, u "com/example/strict_lock/strictlock/IfHeaderSkipSpacePinLaw"), (0, u "draw"), (0, u "(I)C"), (0, .methodref 9 15), (0, .nameAndType 16 17), (0, u "text"), (0, u "(ICCCC)Ljava/lang/String;"), (0, .methodref 19 20), (0, .class_ 21), (0, .nameAndType 22 23), (0, u "com/example/strict_lock/strictlock/IfHeader"), (0, u "skipSpace"), (0, u "(Ljava/lang/String;I)I"), (0, .methodref 9 25), (0, .nameAndType 26 27), (0, u "ws"), (0, u "(C)Z"), (0, .methodref 9 29), (0, .nameAndType 30 31), (0, u "ok"), (0, u "(IIIC)Z"), (0, .integer 65535), (0, .class_ 34), (0, u "java/lang/String"), (0, .methodref 33 36), (0, .nameAndType 5 37), (0, u "([C)V"), (2, u "law"), (0, u "(IIIII)Z")] 5

def k1m0 : Method := { name := "<init>", desc := "()V", sig := { parameters := [], returnType := none }, accessFlags := 1, code := none }
def k1c1 : Code := { maxStack := 6, maxLocals := 10, code := code, exceptionTable := #[], attributes := #[] }
def k1m1 : Method := { name := "law", desc := "(IIIII)Z", sig := { parameters := [.int, .int, .int, .int, .int], returnType := some .boolean }, accessFlags := 9, code := some k1c1 }
def k1c2 : Code := { maxStack := 2, maxLocals := 4, code := method_3_code, exceptionTable := #[], attributes := #[] }
def k1m2 : Method := { name := "ok", desc := "(IIIC)Z", sig := { parameters := [.int, .int, .int, .char], returnType := some .boolean }, accessFlags := 10, code := some k1c2 }
def k1c3 : Code := { maxStack := 2, maxLocals := 1, code := method_4_code, exceptionTable := #[], attributes := #[] }
def k1m3 : Method := { name := "ws", desc := "(C)Z", sig := { parameters := [.char], returnType := some .boolean }, accessFlags := 10, code := some k1c3 }
def k1c4 : Code := { maxStack := 2, maxLocals := 2, code := method_5_code, exceptionTable := #[], attributes := #[] }
def k1m4 : Method := { name := "draw", desc := "(I)C", sig := { parameters := [.int], returnType := some .char }, accessFlags := 10, code := some k1c4 }
def k1c5 : Code := { maxStack := 6, maxLocals := 5, code := method_6_code, exceptionTable := #[], attributes := #[] }
def k1m5 : Method := { name := "text", desc := "(ICCCC)Ljava/lang/String;", sig := { parameters := [.int, .char, .char, .char, .char], returnType := some (.object "java/lang/String") }, accessFlags := 10, code := some k1c5 }
/-- com/example/strict_lock/strictlock/IfHeaderSkipSpacePinLaw -/
def k1 : Class := { plain "com/example/strict_lock/strictlock/IfHeaderSkipSpacePinLaw" (some 0) with
  accessFlags := 49
  interfaces := #[]
  cf := some (fileOf pool1 9 #[] #[{ accessFlags := 1, nameIndex := 5, descriptorIndex := 6, attributes := #[] }, { accessFlags := 9, nameIndex := 40, descriptorIndex := 41, attributes := #[] }, { accessFlags := 10, nameIndex := 30, descriptorIndex := 31, attributes := #[] }, { accessFlags := 10, nameIndex := 26, descriptorIndex := 27, attributes := #[] }, { accessFlags := 10, nameIndex := 12, descriptorIndex := 13, attributes := #[] }, { accessFlags := 10, nameIndex := 16, descriptorIndex := 17, attributes := #[] }] 49 2 #[] #[])
  fields := #[]
  methods := #[k1m0, k1m1, k1m2, k1m3, k1m4, k1m5]
  instanceTypes := #[]
  staticTypes := #[]
  resolved := Array.replicate 47 none
  statics := none }

def pool2 : Array CpInfo := pool [(1, .class_ 2), (0, u "java/io/Serializable"), (0, .class_ 4), (0, u "java/lang/Object")] 2

/-- java/io/Serializable -/
def k2 : Class := { plain "java/io/Serializable" (some 0) with
  accessFlags := 1537
  interfaces := #[]
  cf := some (fileOf pool2 1 #[] #[] 1537 3 #[] #[])
  fields := #[]
  methods := #[]
  instanceTypes := #[]
  staticTypes := #[]
  resolved := Array.replicate 7 none
  statics := none }

def pool3 : Array CpInfo := pool [(1, .class_ 2), (0, u "java/lang/Comparable"), (0, .class_ 4), (0, u "java/lang/Object")] 7

/-- java/lang/Comparable -/
def k3 : Class := { plain "java/lang/Comparable" (some 0) with
  accessFlags := 1537
  interfaces := #[]
  cf := some (fileOf pool3 1 #[] #[] 1537 3 #[] #[])
  fields := #[]
  methods := #[]
  instanceTypes := #[]
  staticTypes := #[]
  resolved := Array.replicate 12 none
  statics := none }

def pool4 : Array CpInfo := pool [(2, .class_ 4), (1, u "java/lang/CharSequence"), (42, .class_ 48), (0, u "java/lang/CharSequence$1CodePointIterator"), (10, .class_ 60), (0, u "java/lang/CharSequence$1CharIterator"), (5, .class_ 67), (0, u "java/lang/Object")] 63

/-- java/lang/CharSequence -/
def k4 : Class := { plain "java/lang/CharSequence" (some 0) with
  accessFlags := 1537
  interfaces := #[]
  cf := some (fileOf pool4 2 #[.nestMembers #[47, 59]] #[] 1537 66 #[] #[])
  fields := #[]
  methods := #[]
  instanceTypes := #[]
  staticTypes := #[]
  resolved := Array.replicate 131 none
  statics := none }

def pool5 : Array CpInfo := pool [(1, .class_ 2), (0, u "java/lang/constant/Constable"), (0, .class_ 4), (0, u "java/lang/Object")] 6

/-- java/lang/constant/Constable -/
def k5 : Class := { plain "java/lang/constant/Constable" (some 0) with
  accessFlags := 1537
  interfaces := #[]
  cf := some (fileOf pool5 1 #[] #[] 1537 3 #[] #[])
  fields := #[]
  methods := #[]
  instanceTypes := #[]
  staticTypes := #[]
  resolved := Array.replicate 11 none
  statics := none }

def pool6 : Array CpInfo := pool [(1, .class_ 2), (0, u "java/lang/constant/ConstantDesc"), (0, .class_ 4), (0, u "java/lang/Object")] 32

/-- java/lang/constant/ConstantDesc -/
def k6 : Class := { plain "java/lang/constant/ConstantDesc" (some 0) with
  accessFlags := 1537
  interfaces := #[]
  cf := some (fileOf pool6 1 #[] #[] 1537 3 #[] #[])
  fields := #[]
  methods := #[]
  instanceTypes := #[]
  staticTypes := #[]
  resolved := Array.replicate 37 none
  statics := none }

def pool7 : Array CpInfo := pool [(1, .methodref 2 3), (0, .class_ 4), (0, .nameAndType 5 6), (0, u "java/lang/Object"), (0, u "<init>"), (0, u "()V"), (0, .string 8), (0, u ""), (0, .fieldref 10 11), (0, .class_ 12), (0, .nameAndType 13 14), (0, u "java/lang/String"), (0, u "value"), (0, u "[B"), (0, .fieldref 10 16), (0, .nameAndType 17 18), (0, u "coder"), (0, u "B"), (2, u "hash"), (0, u "I"), (2, u "hashIsZero"), (0, u "Z"), (0, .methodref 10 28), (0, .nameAndType 5 29), (0, u "([CIILjava/lang/Void;)V"), (8, .fieldref 10 39), (0, .nameAndType 40 26), (0, u "COMPACT_STRINGS"), (1, .class_ 44), (1, u "java/lang/StringUTF16"), (0, u "compress"), (1, .methodref 42 48), (0, .nameAndType 49 50), (0, u "coderFromArrayLen"), (0, u "([BI)B"), (56, .class_ 109), (1, u "java/lang/StringLatin1"), (32, u "()Z"), (34, .methodref 42 178), (0, .nameAndType 45 179), (0, u "([CII)[B"), (154, u "()I"), (0, .methodref 10 336), (0, .nameAndType 17 337), (0, u "()B"), (25, u "([BI)C"), (27, u "(II)V"), (35, u "(I)C"), (64, .methodref 10 493), (0, .nameAndType 494 142), (0, u "isLatin1"), (0, .methodref 107 496), (0, .nameAndType 497 363), (0, u "charAt"), (0, .methodref 42 496), (2, u "checkIndex"), (5, u "length"), (67, .class_ 576), (0, u "java/lang/CharSequence"), (22, u "CASE_INSENSITIVE_ORDER"), (0, u "Ljava/util/Comparator;"), (409, u "([C)V"), (42, .fieldref 1054 1055), (0, .class_ 1056), (0, .nameAndType 1057 1058), (0, u "jdk/internal/util/Preconditions"), (0, u "SIOOBE_FORMATTER"), (0, u "Ljava/util/function/BiFunction;"), (0, .methodref 1054 1060), (0, .nameAndType 501 1061), (0, u "(IILjava/util/function/BiFunction;)I"), (39, u "serialPersistentFields"), (0, u "[Ljava/io/ObjectStreamField;"), (0, .class_ 1104), (0, u "java/lang/String$CaseInsensitiveComparator"), (1, .class_ 1107), (0, u "java/io/Serializable"), (0, .class_ 1109), (0, u "java/lang/Comparable"), (0, .class_ 1111), (0, u "java/lang/constant/Constable"), (0, .class_ 1113), (0, u "java/lang/constant/ConstantDesc"), (2, u "serialVersionUID"), (0, u "J"), (3, u "REPL"), (0, u "C"), (2, u "LATIN1"), (1, u "UTF16")] 323

def k7m0 : Method := { name := "<init>", desc := "()V", sig := { parameters := [], returnType := none }, accessFlags := 1, code := none }
def k7c1 : Code := { maxStack := 5, maxLocals := 2, code := jdk_42_method_3_code, exceptionTable := #[], attributes := #[] }
def k7m1 : Method := { name := "<init>", desc := "([C)V", sig := { parameters := [(.array .char)], returnType := none }, accessFlags := 1, code := some k7c1 }
def k7c2 : Code := { maxStack := 2, maxLocals := 1, code := jdk_42_method_54_code, exceptionTable := #[], attributes := #[] }
def k7m2 : Method := { name := "length", desc := "()I", sig := { parameters := [], returnType := some .int }, accessFlags := 1, code := some k7c2 }
def k7c3 : Code := { maxStack := 2, maxLocals := 2, code := jdk_42_method_56_code, exceptionTable := #[], attributes := #[] }
def k7m3 : Method := { name := "charAt", desc := "(I)C", sig := { parameters := [.int], returnType := some .char }, accessFlags := 1, code := some k7c3 }
def k7c4 : Code := { maxStack := 4, maxLocals := 6, code := jdk_42_method_149_code, exceptionTable := #[], attributes := #[] }
def k7m4 : Method := { name := "<init>", desc := "([CIILjava/lang/Void;)V", sig := { parameters := [(.array .char), .int, .int, (.object "java/lang/Void")], returnType := none }, accessFlags := 2, code := some k7c4 }
def k7c5 : Code := { maxStack := 1, maxLocals := 1, code := jdk_42_method_152_code, exceptionTable := #[], attributes := #[] }
def k7m5 : Method := { name := "coder", desc := "()B", sig := { parameters := [], returnType := some .byte }, accessFlags := 0, code := some k7c5 }
def k7c6 : Code := { maxStack := 1, maxLocals := 1, code := jdk_42_method_154_code, exceptionTable := #[], attributes := #[] }
def k7m6 : Method := { name := "isLatin1", desc := "()Z", sig := { parameters := [], returnType := some .boolean }, accessFlags := 0, code := some k7c6 }
def k7c7 : Code := { maxStack := 3, maxLocals := 2, code := jdk_42_method_155_code, exceptionTable := #[], attributes := #[] }
def k7m7 : Method := { name := "checkIndex", desc := "(II)V", sig := { parameters := [.int, .int], returnType := none }, accessFlags := 8, code := some k7c7 }
/-- java/lang/String -/
def k7 : Class := { plain "java/lang/String" (some 0) with
  accessFlags := 49
  interfaces := #[2, 3, 4, 5, 6]
  cf := some (fileOf pool7 10 #[.nestMembers #[1103]] #[{ accessFlags := 1, nameIndex := 5, descriptorIndex := 6, attributes := #[] }, { accessFlags := 1, nameIndex := 5, descriptorIndex := 1010, attributes := #[] }, { accessFlags := 1, nameIndex := 507, descriptorIndex := 334, attributes := #[] }, { accessFlags := 1, nameIndex := 497, descriptorIndex := 427, attributes := #[] }, { accessFlags := 2, nameIndex := 5, descriptorIndex := 29, attributes := #[] }, { accessFlags := 0, nameIndex := 17, descriptorIndex := 337, attributes := #[] }, { accessFlags := 0, nameIndex := 494, descriptorIndex := 142, attributes := #[] }, { accessFlags := 8, nameIndex := 501, descriptorIndex := 391, attributes := #[] }] 49 2 #[1106, 1108, 575, 1110, 1112] #[{ accessFlags := 18, nameIndex := 13, descriptorIndex := 14, attributes := #[] }, { accessFlags := 18, nameIndex := 17, descriptorIndex := 18, attributes := #[] }, { accessFlags := 2, nameIndex := 21, descriptorIndex := 22, attributes := #[] }, { accessFlags := 2, nameIndex := 25, descriptorIndex := 26, attributes := #[] }, { accessFlags := 26, nameIndex := 1116, descriptorIndex := 1117, attributes := #[] }, { accessFlags := 24, nameIndex := 40, descriptorIndex := 26, attributes := #[] }, { accessFlags := 26, nameIndex := 1101, descriptorIndex := 1102, attributes := #[] }, { accessFlags := 26, nameIndex := 1121, descriptorIndex := 1122, attributes := #[] }, { accessFlags := 25, nameIndex := 599, descriptorIndex := 600, attributes := #[] }, { accessFlags := 24, nameIndex := 1125, descriptorIndex := 18, attributes := #[] }, { accessFlags := 24, nameIndex := 1127, descriptorIndex := 18, attributes := #[] }])
  fields := #[{ name := "value", type := (.array .byte), accessFlags := 18, slot := 0, constantValue := 0 }, { name := "coder", type := .byte, accessFlags := 18, slot := 1, constantValue := 0 }, { name := "hash", type := .int, accessFlags := 2, slot := 2, constantValue := 0 }, { name := "hashIsZero", type := .boolean, accessFlags := 2, slot := 3, constantValue := 0 }, { name := "serialVersionUID", type := .long, accessFlags := 26, slot := 0, constantValue := 0 }, { name := "COMPACT_STRINGS", type := .boolean, accessFlags := 24, slot := 1, constantValue := 0 }, { name := "serialPersistentFields", type := (.array (.object "java/io/ObjectStreamField")), accessFlags := 26, slot := 2, constantValue := 0 }, { name := "REPL", type := .char, accessFlags := 26, slot := 3, constantValue := 0 }, { name := "CASE_INSENSITIVE_ORDER", type := (.object "java/util/Comparator"), accessFlags := 25, slot := 4, constantValue := 0 }, { name := "LATIN1", type := .byte, accessFlags := 24, slot := 5, constantValue := 0 }, { name := "UTF16", type := .byte, accessFlags := 24, slot := 6, constantValue := 0 }]
  methods := #[k7m0, k7m1, k7m2, k7m3, k7m4, k7m5, k7m6, k7m7]
  instanceTypes := #[(.array .byte), .byte, .int, .boolean]
  staticTypes := #[.long, .boolean, (.array (.object "java/io/ObjectStreamField")), .char, (.object "java/util/Comparator"), .byte, .byte]
  resolved := Array.replicate 1451 none
  statics := some 0 }

def pool8 : Array CpInfo := pool [(2, .class_ 4), (1, u "java/lang/Object"), (9, .class_ 16), (1, u "com/example/strict_lock/strictlock/IfHeader"), (0, u "lists"), (0, u "Ljava/util/List;"), (7, u "stateTokens"), (0, u "Ljava/util/Set;"), (2, u "NONE"), (0, u "Lcom/example/strict_lock/strictlock/IfHeader;"), (0, .class_ 33), (0, u "com/example/strict_lock/strictlock/IfHeader$Parser"), (7, .methodref 42 43), (0, .class_ 44), (0, .nameAndType 45 46), (0, u "java/lang/String"), (0, u "length"), (0, u "()I"), (0, .methodref 42 48), (0, .nameAndType 49 50), (0, u "charAt"), (0, u "(I)C"), (17, .class_ 69), (0, u "com/example/strict_lock/strictlock/IfHeader$ConditionList"), (11, .class_ 82), (0, u "com/example/strict_lock/strictlock/IfHeader$Condition"), (5, .class_ 90), (1, u "com/example/strict_lock/strictlock/IfHeader$State"), (41, u "skipSpace"), (0, u "(Ljava/lang/String;I)I")] 15

def k8c0 : Code := { maxStack := 2, maxLocals := 3, code := prog_10_method_4_code, exceptionTable := #[], attributes := #[] }
def k8m0 : Method := { name := "skipSpace", desc := "(Ljava/lang/String;I)I", sig := { parameters := [(.object "java/lang/String"), .int], returnType := some .int }, accessFlags := 8, code := some k8c0 }
/-- com/example/strict_lock/strictlock/IfHeader -/
def k8 : Class := { plain "com/example/strict_lock/strictlock/IfHeader" (some 0) with
  accessFlags := 48
  interfaces := #[]
  cf := some (fileOf pool8 14 #[.nestMembers #[32, 68, 81, 88]] #[{ accessFlags := 8, nameIndex := 132, descriptorIndex := 133, attributes := #[] }] 48 2 #[] #[{ accessFlags := 26, nameIndex := 30, descriptorIndex := 31, attributes := #[] }, { accessFlags := 18, nameIndex := 17, descriptorIndex := 18, attributes := #[] }, { accessFlags := 18, nameIndex := 26, descriptorIndex := 27, attributes := #[] }])
  fields := #[{ name := "NONE", type := (.object "com/example/strict_lock/strictlock/IfHeader"), accessFlags := 26, slot := 0, constantValue := 0 }, { name := "lists", type := (.object "java/util/List"), accessFlags := 18, slot := 0, constantValue := 0 }, { name := "stateTokens", type := (.object "java/util/Set"), accessFlags := 18, slot := 1, constantValue := 0 }]
  methods := #[k8m0]
  instanceTypes := #[(.object "java/util/List"), (.object "java/util/Set")]
  staticTypes := #[(.object "com/example/strict_lock/strictlock/IfHeader")]
  resolved := Array.replicate 149 none
  statics := none }

def pool9 : Array CpInfo := pool [(3, .class_ 4), (0, u "java/lang/String"), (1, .class_ 8), (1, u "java/lang/Object"), (0, u "<init>"), (0, u "()V"), (0, .methodref 12 13), (0, .class_ 14), (0, .nameAndType 15 16), (0, u "java/lang/StringUTF16"), (0, u "newBytesLength"), (0, u "(I)I"), (3, .integer 1073741823), (23, .fieldref 12 45), (0, .nameAndType 46 47), (0, u "$assertionsDisabled"), (0, u "Z"), (0, .methodref 12 49), (0, .nameAndType 50 51), (0, u "length"), (0, u "([B)I"), (7, .fieldref 12 60), (0, .nameAndType 61 62), (0, u "HI_BYTE_SHIFT"), (0, u "I"), (0, .fieldref 12 64), (0, .nameAndType 65 62), (0, u "LO_BYTE_SHIFT"), (1, .methodref 12 68), (0, .nameAndType 69 70), (0, u "checkIndex"), (0, u "(I[B)V"), (0, .methodref 12 72), (0, .nameAndType 73 74), (0, u "getChar"), (0, u "([BI)C"), (32, .methodref 12 108), (0, .nameAndType 109 110), (0, u "newBytesFor"), (0, u "(I)[B"), (0, .methodref 12 112), (0, .nameAndType 113 114), (0, u "putChar"), (0, u "([BII)V"), (0, .methodref 12 116), (0, .nameAndType 117 118), (0, u "compress"), (0, u "([CI[BII)I"), (0, .methodref 12 120), (0, .nameAndType 121 122), (0, u "toBytes"), (0, u "([CII)[B"), (138, u "coderFromArrayLen"), (0, u "([BI)B"), (106, .class_ 371), (1, u "java/lang/StringUTF16$LinesSpliterator"), (20, u "charAt"), (21, .methodref 3 415), (0, .nameAndType 69 416), (0, u "(II)V"), (13, u "MAX_LENGTH"), (196, .class_ 628), (0, u "java/lang/StringUTF16$CodePointsSpliterator"), (0, .class_ 630), (0, u "java/lang/StringUTF16$CharsSpliterator")] 4

def k9m0 : Method := { name := "<init>", desc := "()V", sig := { parameters := [], returnType := none }, accessFlags := 0, code := none }
def k9c1 : Code := { maxStack := 1, maxLocals := 1, code := jdk_52_method_2_code, exceptionTable := #[], attributes := #[] }
def k9m1 : Method := { name := "newBytesFor", desc := "(I)[B", sig := { parameters := [.int], returnType := some (.array .byte) }, accessFlags := 9, code := some k9c1 }
def k9c2 : Code := { maxStack := 4, maxLocals := 1, code := jdk_52_method_3_code, exceptionTable := #[], attributes := #[] }
def k9m2 : Method := { name := "newBytesLength", desc := "(I)I", sig := { parameters := [.int], returnType := some .int }, accessFlags := 9, code := some k9c2 }
def k9c3 : Code := { maxStack := 4, maxLocals := 3, code := jdk_52_method_4_code, exceptionTable := #[], attributes := #[] }
def k9m3 : Method := { name := "putChar", desc := "([BII)V", sig := { parameters := [(.array .byte), .int, .int], returnType := none }, accessFlags := 8, code := some k9c3 }
def k9c4 : Code := { maxStack := 3, maxLocals := 2, code := jdk_52_method_5_code, exceptionTable := #[], attributes := #[] }
def k9m4 : Method := { name := "getChar", desc := "([BI)C", sig := { parameters := [(.array .byte), .int], returnType := some .char }, accessFlags := 8, code := some k9c4 }
def k9c5 : Code := { maxStack := 2, maxLocals := 1, code := jdk_52_method_6_code, exceptionTable := #[], attributes := #[] }
def k9m5 : Method := { name := "length", desc := "([B)I", sig := { parameters := [(.array .byte)], returnType := some .int }, accessFlags := 9, code := some k9c5 }
def k9c6 : Code := { maxStack := 4, maxLocals := 5, code := jdk_52_method_14_code, exceptionTable := #[], attributes := #[] }
def k9m6 : Method := { name := "toBytes", desc := "([CII)[B", sig := { parameters := [(.array .char), .int, .int], returnType := some (.array .byte) }, accessFlags := 9, code := some k9c6 }
def k9c7 : Code := { maxStack := 2, maxLocals := 2, code := jdk_52_method_15_code, exceptionTable := #[], attributes := #[] }
def k9m7 : Method := { name := "coderFromArrayLen", desc := "([BI)B", sig := { parameters := [(.array .byte), .int], returnType := some .byte }, accessFlags := 8, code := some k9c7 }
def k9c8 : Code := { maxStack := 5, maxLocals := 6, code := jdk_52_method_16_code, exceptionTable := #[], attributes := #[] }
def k9m8 : Method := { name := "compress", desc := "([CII)[B", sig := { parameters := [(.array .char), .int, .int], returnType := some (.array .byte) }, accessFlags := 9, code := some k9c8 }
def k9c9 : Code := { maxStack := 3, maxLocals := 7, code := jdk_52_method_21_code, exceptionTable := #[], attributes := #[] }
def k9m9 : Method := { name := "compress", desc := "([CI[BII)I", sig := { parameters := [(.array .char), .int, (.array .byte), .int, .int], returnType := some .int }, accessFlags := 9, code := some k9c9 }
def k9c10 : Code := { maxStack := 2, maxLocals := 2, code := jdk_52_method_83_code, exceptionTable := #[], attributes := #[] }
def k9m10 : Method := { name := "charAt", desc := "([BI)C", sig := { parameters := [(.array .byte), .int], returnType := some .char }, accessFlags := 9, code := some k9c10 }
def k9c11 : Code := { maxStack := 2, maxLocals := 2, code := jdk_52_method_91_code, exceptionTable := #[], attributes := #[] }
def k9m11 : Method := { name := "checkIndex", desc := "(I[B)V", sig := { parameters := [.int, (.array .byte)], returnType := none }, accessFlags := 9, code := some k9c11 }
/-- java/lang/StringUTF16 -/
def k9 : Class := { plain "java/lang/StringUTF16" (some 0) with
  accessFlags := 48
  interfaces := #[]
  cf := some (fileOf pool9 12 #[.nestMembers #[627, 629, 369]] #[{ accessFlags := 0, nameIndex := 9, descriptorIndex := 10, attributes := #[] }, { accessFlags := 9, nameIndex := 109, descriptorIndex := 110, attributes := #[] }, { accessFlags := 9, nameIndex := 15, descriptorIndex := 16, attributes := #[] }, { accessFlags := 8, nameIndex := 113, descriptorIndex := 114, attributes := #[] }, { accessFlags := 8, nameIndex := 73, descriptorIndex := 74, attributes := #[] }, { accessFlags := 9, nameIndex := 50, descriptorIndex := 51, attributes := #[] }, { accessFlags := 9, nameIndex := 121, descriptorIndex := 122, attributes := #[] }, { accessFlags := 8, nameIndex := 261, descriptorIndex := 262, attributes := #[] }, { accessFlags := 9, nameIndex := 117, descriptorIndex := 122, attributes := #[] }, { accessFlags := 9, nameIndex := 117, descriptorIndex := 118, attributes := #[] }, { accessFlags := 9, nameIndex := 392, descriptorIndex := 74, attributes := #[] }, { accessFlags := 9, nameIndex := 69, descriptorIndex := 70, attributes := #[] }] 48 6 #[] #[{ accessFlags := 26, nameIndex := 61, descriptorIndex := 62, attributes := #[] }, { accessFlags := 26, nameIndex := 65, descriptorIndex := 62, attributes := #[] }, { accessFlags := 24, nameIndex := 430, descriptorIndex := 62, attributes := #[] }, { accessFlags := 4120, nameIndex := 46, descriptorIndex := 47, attributes := #[] }])
  fields := #[{ name := "HI_BYTE_SHIFT", type := .int, accessFlags := 26, slot := 0, constantValue := 0 }, { name := "LO_BYTE_SHIFT", type := .int, accessFlags := 26, slot := 1, constantValue := 0 }, { name := "MAX_LENGTH", type := .int, accessFlags := 24, slot := 2, constantValue := 0 }, { name := "$assertionsDisabled", type := .boolean, accessFlags := 4120, slot := 3, constantValue := 0 }]
  methods := #[k9m0, k9m1, k9m2, k9m3, k9m4, k9m5, k9m6, k9m7, k9m8, k9m9, k9m10, k9m11]
  instanceTypes := #[]
  staticTypes := #[.int, .int, .int, .boolean]
  resolved := Array.replicate 635 none
  statics := some 1 }

def pool10 : Array CpInfo := pool [(1, .class_ 2), (0, u "java/lang/String"), (1, .class_ 6), (1, u "java/lang/Object"), (0, u "<init>"), (0, u "()V"), (0, .methodref 1 10), (0, .nameAndType 11 12), (0, u "checkIndex"), (0, u "(II)V"), (1, .class_ 16), (1, u "java/lang/StringLatin1"), (36, u "([BI)C"), (67, u "$assertionsDisabled"), (0, u "Z"), (98, .class_ 223), (1, u "java/lang/StringLatin1$LinesSpliterator"), (28, u "charAt"), (137, .class_ 391), (0, u "java/lang/StringLatin1$CharsSpliterator")] 3

def k10m0 : Method := { name := "<init>", desc := "()V", sig := { parameters := [], returnType := none }, accessFlags := 0, code := none }
def k10c1 : Code := { maxStack := 2, maxLocals := 2, code := jdk_43_method_2_code, exceptionTable := #[], attributes := #[] }
def k10m1 : Method := { name := "charAt", desc := "([BI)C", sig := { parameters := [(.array .byte), .int], returnType := some .char }, accessFlags := 9, code := some k10c1 }
/-- java/lang/StringLatin1 -/
def k10 : Class := { plain "java/lang/StringLatin1" (some 0) with
  accessFlags := 48
  interfaces := #[]
  cf := some (fileOf pool10 14 #[.nestMembers #[390, 221]] #[{ accessFlags := 0, nameIndex := 7, descriptorIndex := 8, attributes := #[] }, { accessFlags := 9, nameIndex := 252, descriptorIndex := 53, attributes := #[] }] 48 4 #[] #[{ accessFlags := 4120, nameIndex := 121, descriptorIndex := 122, attributes := #[] }])
  fields := #[{ name := "$assertionsDisabled", type := .boolean, accessFlags := 4120, slot := 0, constantValue := 0 }]
  methods := #[k10m0, k10m1]
  instanceTypes := #[]
  staticTypes := #[.boolean]
  resolved := Array.replicate 395 none
  statics := none }

def pool11 : Array CpInfo := pool [(2, .class_ 4), (1, u "java/lang/Object"), (0, u "<init>"), (0, u "()V"), (17, .class_ 26), (1, u "jdk/internal/util/Preconditions"), (6, u "checkIndex"), (21, .class_ 56), (0, u "jdk/internal/util/Preconditions$4"), (57, .class_ 115), (0, u "jdk/internal/util/Preconditions$1"), (7, u "SIOOBE_FORMATTER"), (0, u "Ljava/util/function/BiFunction;"), (0, .class_ 126), (0, u "jdk/internal/util/Preconditions$2"), (3, u "AIOOBE_FORMATTER"), (0, .class_ 132), (0, u "jdk/internal/util/Preconditions$3"), (3, u "IOOBE_FORMATTER"), (41, u "(IILjava/util/function/BiFunction;)I")] 15

def k11m0 : Method := { name := "<init>", desc := "()V", sig := { parameters := [], returnType := none }, accessFlags := 1, code := none }
def k11c1 : Code := { maxStack := 3, maxLocals := 3, code := jdk_41_method_11_code, exceptionTable := #[], attributes := #[] }
def k11m1 : Method := { name := "checkIndex", desc := "(IILjava/util/function/BiFunction;)I", sig := { parameters := [.int, .int, (.object "java/util/function/BiFunction")], returnType := some .int }, accessFlags := 9, code := some k11c1 }
/-- jdk/internal/util/Preconditions -/
def k11 : Class := { plain "jdk/internal/util/Preconditions" (some 0) with
  accessFlags := 33
  interfaces := #[]
  cf := some (fileOf pool11 24 #[.nestMembers #[55, 131, 125, 114]] #[{ accessFlags := 1, nameIndex := 5, descriptorIndex := 6, attributes := #[] }, { accessFlags := 9, nameIndex := 33, descriptorIndex := 178, attributes := #[] }] 33 2 #[] #[{ accessFlags := 25, nameIndex := 123, descriptorIndex := 124, attributes := #[] }, { accessFlags := 25, nameIndex := 130, descriptorIndex := 124, attributes := #[] }, { accessFlags := 25, nameIndex := 136, descriptorIndex := 124, attributes := #[] }])
  fields := #[{ name := "SIOOBE_FORMATTER", type := (.object "java/util/function/BiFunction"), accessFlags := 25, slot := 0, constantValue := 0 }, { name := "AIOOBE_FORMATTER", type := (.object "java/util/function/BiFunction"), accessFlags := 25, slot := 1, constantValue := 0 }, { name := "IOOBE_FORMATTER", type := (.object "java/util/function/BiFunction"), accessFlags := 25, slot := 2, constantValue := 0 }]
  methods := #[k11m0, k11m1]
  instanceTypes := #[]
  staticTypes := #[(.object "java/util/function/BiFunction"), (.object "java/util/function/BiFunction"), (.object "java/util/function/BiFunction")]
  resolved := Array.replicate 194 none
  statics := some 2 }

def pool12 : Array CpInfo := pool [(9, u "<init>"), (6, .class_ 18), (1, u "java/lang/Object"), (0, u "()V"), (1, .class_ 23), (1, u "jdk/internal/util/ArraysSupport"), (0, u "LOG2_ARRAY_LONG_INDEX_SCALE"), (0, u "I"), (2, u "U"), (0, u "Ljdk/internal/misc/Unsafe;"), (8, u "BIG_ENDIAN"), (0, u "Z"), (8, u "LOG2_BYTE_BIT_SIZE"), (4, u "LOG2_ARRAY_INT_INDEX_SCALE"), (54, u "JLA"), (0, u "Ljdk/internal/access/JavaLangAccess;"), (11, u "LOG2_ARRAY_BOOLEAN_INDEX_SCALE"), (9, u "LOG2_ARRAY_BYTE_INDEX_SCALE"), (5, u "LOG2_ARRAY_CHAR_INDEX_SCALE"), (5, u "LOG2_ARRAY_SHORT_INDEX_SCALE"), (18, u "LOG2_ARRAY_FLOAT_INDEX_SCALE"), (24, u "LOG2_ARRAY_DOUBLE_INDEX_SCALE"), (89, u "T_BOOLEAN"), (2, u "T_CHAR"), (1, u "T_FLOAT"), (1, u "T_DOUBLE"), (1, u "T_BYTE"), (1, u "T_SHORT"), (1, u "T_INT"), (1, u "T_LONG"), (1, u "SOFT_MAX_ARRAY_LENGTH")] 83

def k12m0 : Method := { name := "<init>", desc := "()V", sig := { parameters := [], returnType := none }, accessFlags := 2, code := none }
/-- jdk/internal/util/ArraysSupport -/
def k12 : Class := { plain "jdk/internal/util/ArraysSupport" (some 0) with
  accessFlags := 33
  interfaces := #[]
  cf := some (fileOf pool12 21 #[] #[{ accessFlags := 2, nameIndex := 9, descriptorIndex := 19, attributes := #[] }] 33 16 #[] #[{ accessFlags := 24, nameIndex := 28, descriptorIndex := 29, attributes := #[] }, { accessFlags := 26, nameIndex := 38, descriptorIndex := 39, attributes := #[] }, { accessFlags := 25, nameIndex := 121, descriptorIndex := 25, attributes := #[] }, { accessFlags := 25, nameIndex := 131, descriptorIndex := 25, attributes := #[] }, { accessFlags := 25, nameIndex := 137, descriptorIndex := 25, attributes := #[] }, { accessFlags := 25, nameIndex := 143, descriptorIndex := 25, attributes := #[] }, { accessFlags := 25, nameIndex := 53, descriptorIndex := 25, attributes := #[] }, { accessFlags := 25, nameIndex := 24, descriptorIndex := 25, attributes := #[] }, { accessFlags := 25, nameIndex := 162, descriptorIndex := 25, attributes := #[] }, { accessFlags := 25, nameIndex := 187, descriptorIndex := 25, attributes := #[] }, { accessFlags := 26, nameIndex := 48, descriptorIndex := 25, attributes := #[] }, { accessFlags := 25, nameIndex := 277, descriptorIndex := 25, attributes := #[] }, { accessFlags := 25, nameIndex := 280, descriptorIndex := 25, attributes := #[] }, { accessFlags := 25, nameIndex := 282, descriptorIndex := 25, attributes := #[] }, { accessFlags := 25, nameIndex := 284, descriptorIndex := 25, attributes := #[] }, { accessFlags := 25, nameIndex := 286, descriptorIndex := 25, attributes := #[] }, { accessFlags := 25, nameIndex := 288, descriptorIndex := 25, attributes := #[] }, { accessFlags := 25, nameIndex := 290, descriptorIndex := 25, attributes := #[] }, { accessFlags := 25, nameIndex := 292, descriptorIndex := 25, attributes := #[] }, { accessFlags := 26, nameIndex := 108, descriptorIndex := 109, attributes := #[] }, { accessFlags := 25, nameIndex := 294, descriptorIndex := 25, attributes := #[] }])
  fields := #[{ name := "U", type := (.object "jdk/internal/misc/Unsafe"), accessFlags := 24, slot := 0, constantValue := 0 }, { name := "BIG_ENDIAN", type := .boolean, accessFlags := 26, slot := 1, constantValue := 0 }, { name := "LOG2_ARRAY_BOOLEAN_INDEX_SCALE", type := .int, accessFlags := 25, slot := 2, constantValue := 0 }, { name := "LOG2_ARRAY_BYTE_INDEX_SCALE", type := .int, accessFlags := 25, slot := 3, constantValue := 0 }, { name := "LOG2_ARRAY_CHAR_INDEX_SCALE", type := .int, accessFlags := 25, slot := 4, constantValue := 0 }, { name := "LOG2_ARRAY_SHORT_INDEX_SCALE", type := .int, accessFlags := 25, slot := 5, constantValue := 0 }, { name := "LOG2_ARRAY_INT_INDEX_SCALE", type := .int, accessFlags := 25, slot := 6, constantValue := 0 }, { name := "LOG2_ARRAY_LONG_INDEX_SCALE", type := .int, accessFlags := 25, slot := 7, constantValue := 0 }, { name := "LOG2_ARRAY_FLOAT_INDEX_SCALE", type := .int, accessFlags := 25, slot := 8, constantValue := 0 }, { name := "LOG2_ARRAY_DOUBLE_INDEX_SCALE", type := .int, accessFlags := 25, slot := 9, constantValue := 0 }, { name := "LOG2_BYTE_BIT_SIZE", type := .int, accessFlags := 26, slot := 10, constantValue := 0 }, { name := "T_BOOLEAN", type := .int, accessFlags := 25, slot := 11, constantValue := 0 }, { name := "T_CHAR", type := .int, accessFlags := 25, slot := 12, constantValue := 0 }, { name := "T_FLOAT", type := .int, accessFlags := 25, slot := 13, constantValue := 0 }, { name := "T_DOUBLE", type := .int, accessFlags := 25, slot := 14, constantValue := 0 }, { name := "T_BYTE", type := .int, accessFlags := 25, slot := 15, constantValue := 0 }, { name := "T_SHORT", type := .int, accessFlags := 25, slot := 16, constantValue := 0 }, { name := "T_INT", type := .int, accessFlags := 25, slot := 17, constantValue := 0 }, { name := "T_LONG", type := .int, accessFlags := 25, slot := 18, constantValue := 0 }, { name := "JLA", type := (.object "jdk/internal/access/JavaLangAccess"), accessFlags := 26, slot := 19, constantValue := 0 }, { name := "SOFT_MAX_ARRAY_LENGTH", type := .int, accessFlags := 25, slot := 20, constantValue := 0 }]
  methods := #[k12m0]
  instanceTypes := #[]
  staticTypes := #[(.object "jdk/internal/misc/Unsafe"), .boolean, .int, .int, .int, .int, .int, .int, .int, .int, .int, .int, .int, .int, .int, .int, .int, .int, .int, (.object "jdk/internal/access/JavaLangAccess"), .int]
  resolved := Array.replicate 378 none
  statics := none }

def pool13 : Array CpInfo := pool [(1, u "java/lang/Cloneable"), (0, .class_ 1), (0, u "java/lang/Object"), (0, .class_ 3)] 3

/-- java/lang/Cloneable -/
def k13 : Class := { plain "java/lang/Cloneable" (some 0) with
  accessFlags := 1537
  interfaces := #[]
  cf := some (fileOf pool13 2 #[] #[] 1537 4 #[] #[])
  fields := #[]
  methods := #[]
  instanceTypes := #[]
  staticTypes := #[]
  resolved := Array.replicate 8 none
  statics := none }

/-- the primitive byte -/
def k14 : Class := { plain "byte" none with kind := .primitive 'B', accessFlags := 0x411 }
/-- [B -/
def k15 : Class := { plain "[B" (some 0) with kind := .array 14 .byte, interfaces := #[13, 2], accessFlags := 1041 }

/-- the primitive char -/
def k16 : Class := { plain "char" none with kind := .primitive 'C', accessFlags := 0x411 }
/-- [C -/
def k17 : Class := { plain "[C" (some 0) with kind := .array 16 .char, interfaces := #[13, 2], accessFlags := 1041 }

/-- the primitive int -/
def k18 : Class := { plain "int" none with kind := .primitive 'I', accessFlags := 0x411 }
/-- [I -/
def k19 : Class := { plain "[I" (some 0) with kind := .array 18 .int, interfaces := #[13, 2], accessFlags := 1041 }

def heap : Heap := #[{ cls := 7, slots := #[.long 0, .int 1, .null, .int 0, .null, .int 0, .int 0], vm := .statics 7 },
  { cls := 9, slots := #[.int 0, .int 8, .int 0, .int 1], vm := .statics 9 },
  { cls := 11, slots := #[.null, .null, .null], vm := .statics 11 }]
def classes : Array Class := #[k0, k1, k2, k3, k4, k5, k6, k7, k8, k9, k10, k11, k12, k13, k14, k15, k16, k17, k18, k19]
def interned : List (Array UInt16 × Addr) := []
def slotsUsed : Nat := 14
def theMethod : MethodId := ⟨1, 1⟩
def args0 : Array Value := #[.int 0, .int 2, .int 5, .int 3, .int 0]
def aboutOver (below : List Frame) : State where
  vm := { classes := classes, interned := interned.toArray }
  heap := heap
  slotsUsed := slotsUsed
  threads := #[{ frames := .invoking theMethod args0 :: below }]
def below0 : List Frame := [.native { method := ⟨0, 0⟩, args := #[] }]
def about1 : State := aboutOver below0
def p0 : Program := .bare "" "" ""
def e0 : Env := launch0.env 0 0 0
theorem w_frames : about1.frames = Frame.invoking theMethod args0 :: below0 := rfl
set_option maxRecDepth 65536 in
theorem w_args : argsFit about1.vm theMethod args0 = true := by decide +kernel
set_option maxRecDepth 65536 in
theorem w_heap : heapFits about1 = true := by decide +kernel
set_option maxRecDepth 65536 in
theorem w_runnable : about1.curStatus? = some .runnable := by decide +kernel
set_option maxRecDepth 65536 in
theorem w_alone : about1.alone = true := by decide +kernel
set_option maxRecDepth 65536 in
theorem w_named : about1.methodNamed? x = some theMethod := by decide +kernel
set_option maxRecDepth 65536 in
theorem w_hears : about1.hears theMethod below0 = true := by decide +kernel
set_option maxRecDepth 65536 in
theorem w_ripe : about1.ripe theMethod args0 below0 = true := by decide +kernel
theorem w_running : about1.status = .running := rfl
set_option maxRecDepth 65536 in
theorem w_room : about1.hasRoom e0.platform room_1 = true :=
  launch0.hasRoom_least _ room_1 (by decide +kernel) (by decide +kernel) (by decide +kernel) (by decide +kernel) (by decide +kernel) (by decide +kernel)
theorem allAtoms_all (ts : List Jvm.Cond) (a : Array Jvm.Value) (st : Jvm.State) : (allAtoms ts).before a st = ts.all (fun c => c.before a st) := by
  induction ts with
  | nil => rfl
  | cons c t ih =>
    show (Jvm.Cond.and c (allAtoms t)).before a st = _
    rw [Jvm.Cond.before_and, ih, List.all_cons]
def words1 : List Jvm.Cond := Jvm.Cond.code x code maxLocals ret :: tables_1
/-- a 'code' word, met by the world's own term for the bytes: nothing is compared byte by byte -/
theorem code_word {y : MethodName} {bytes : ByteArray} {mx : Nat} {rt : Option FieldType} {a : Array Value} {s : State} {m : MethodId} {meth : Method} {c : Code} (h1 : s.methodNamed? y = some m) (h2 : s.vm.method? m = some meth) (h3 : meth.code = some c) (h4 : c.code = bytes)
    (h5 : (c.maxLocals == mx && c.exceptionTable.isEmpty && decide (c.maxStack ≤ mostOperands) && decide (meth.sig.returnType = rt) && !meth.locks && decide (parseMethodDescriptor y.desc = some meth.sig)) = true) : (Jvm.Cond.code y bytes mx rt).before a s = true := by
  simp only [Bool.and_eq_true, beq_iff_eq, Bool.not_eq_true', decide_eq_true_eq] at h5
  obtain ⟨⟨⟨⟨⟨g1, g2⟩, g3⟩, g4⟩, g5⟩, g6⟩ := h5
  simp [Cond.before, Cond.holds, Cond.value, h1, h2, h3, h4, g1, g2, g3, g4, g5, g6]
def isCode : Jvm.Cond → Bool
  | .code _ _ _ _ => true
  | _ => false
theorem all_split {L : List Jvm.Cond} {P : Jvm.Cond → Bool} (h1 : L.all (fun c => isCode c || P c) = true) (h2 : ∀ c ∈ L.filter isCode, P c = true) : L.all P = true := by
  refine List.all_eq_true.mpr fun c hc => ?_
  have h := List.all_eq_true.mp h1 c hc
  rcases Bool.eq_false_or_eq_true (isCode c) with hi | hi
  · exact h2 c (List.mem_filter.mpr ⟨hc, hi⟩)
  · simpa [hi] using h
set_option maxRecDepth 65536 in
theorem w_c0 : (Jvm.Cond.code x code maxLocals ret).before args0 about1 = true := code_word (m := ⟨1, 1⟩) (meth := k1m1) (c := k1c1) (by decide +kernel) rfl rfl rfl (by decide +kernel)
set_option maxRecDepth 65536 in
theorem w_c1 : (Jvm.Cond.code ({ cls := "com/example/strict_lock/strictlock/IfHeaderSkipSpacePinLaw", name := "draw", desc := "(I)C" } : Jvm.MethodName) method_5_code (2 : Nat) (Option.some Jvm.ClassFile.FieldType.char)).before args0 about1 = true := code_word (m := ⟨1, 4⟩) (meth := k1m4) (c := k1c4) (by decide +kernel) rfl rfl rfl (by decide +kernel)
set_option maxRecDepth 65536 in
theorem w_c2 : (Jvm.Cond.code ({ cls := "com/example/strict_lock/strictlock/IfHeaderSkipSpacePinLaw", name := "text", desc := "(ICCCC)Ljava/lang/String;" } : Jvm.MethodName) method_6_code (5 : Nat) (Option.some (Jvm.ClassFile.FieldType.object "java/lang/String"))).before args0 about1 = true := code_word (m := ⟨1, 5⟩) (meth := k1m5) (c := k1c5) (by decide +kernel) rfl rfl rfl (by decide +kernel)
set_option maxRecDepth 65536 in
theorem w_c3 : (Jvm.Cond.code ({ cls := "java/lang/String", name := "<init>", desc := "([C)V" } : Jvm.MethodName) jdk_42_method_3_code (2 : Nat) (Option.none : Option Jvm.ClassFile.FieldType)).before args0 about1 = true := code_word (m := ⟨7, 1⟩) (meth := k7m1) (c := k7c1) (by decide +kernel) rfl rfl rfl (by decide +kernel)
set_option maxRecDepth 65536 in
theorem w_c4 : (Jvm.Cond.code ({ cls := "java/lang/String", name := "<init>", desc := "([CIILjava/lang/Void;)V" } : Jvm.MethodName) jdk_42_method_149_code (6 : Nat) (Option.none : Option Jvm.ClassFile.FieldType)).before args0 about1 = true := code_word (m := ⟨7, 4⟩) (meth := k7m4) (c := k7c4) (by decide +kernel) rfl rfl rfl (by decide +kernel)
set_option maxRecDepth 65536 in
theorem w_c5 : (Jvm.Cond.code ({ cls := "java/lang/Object", name := "<init>", desc := "()V" } : Jvm.MethodName) object_method_1_code (1 : Nat) (Option.none : Option Jvm.ClassFile.FieldType)).before args0 about1 = true := code_word (m := ⟨0, 0⟩) (meth := k0m0) (c := k0c0) (by decide +kernel) rfl rfl rfl (by decide +kernel)
set_option maxRecDepth 65536 in
theorem w_c6 : (Jvm.Cond.code ({ cls := "com/example/strict_lock/strictlock/IfHeader", name := "skipSpace", desc := "(Ljava/lang/String;I)I" } : Jvm.MethodName) prog_10_method_4_code (3 : Nat) (Option.some Jvm.ClassFile.FieldType.int)).before args0 about1 = true := code_word (m := ⟨8, 0⟩) (meth := k8m0) (c := k8c0) (by decide +kernel) rfl rfl rfl (by decide +kernel)
set_option maxRecDepth 65536 in
theorem w_c7 : (Jvm.Cond.code ({ cls := "java/lang/String", name := "length", desc := "()I" } : Jvm.MethodName) jdk_42_method_54_code (1 : Nat) (Option.some Jvm.ClassFile.FieldType.int)).before args0 about1 = true := code_word (m := ⟨7, 2⟩) (meth := k7m2) (c := k7c2) (by decide +kernel) rfl rfl rfl (by decide +kernel)
set_option maxRecDepth 65536 in
theorem w_c8 : (Jvm.Cond.code ({ cls := "java/lang/String", name := "coder", desc := "()B" } : Jvm.MethodName) jdk_42_method_152_code (1 : Nat) (Option.some Jvm.ClassFile.FieldType.byte)).before args0 about1 = true := code_word (m := ⟨7, 5⟩) (meth := k7m5) (c := k7c5) (by decide +kernel) rfl rfl rfl (by decide +kernel)
set_option maxRecDepth 65536 in
theorem w_c9 : (Jvm.Cond.code ({ cls := "com/example/strict_lock/strictlock/IfHeaderSkipSpacePinLaw", name := "ok", desc := "(IIIC)Z" } : Jvm.MethodName) method_3_code (4 : Nat) (Option.some Jvm.ClassFile.FieldType.boolean)).before args0 about1 = true := code_word (m := ⟨1, 2⟩) (meth := k1m2) (c := k1c2) (by decide +kernel) rfl rfl rfl (by decide +kernel)
set_option maxRecDepth 65536 in
theorem w_c10 : (Jvm.Cond.code ({ cls := "java/lang/StringUTF16", name := "compress", desc := "([CII)[B" } : Jvm.MethodName) jdk_52_method_16_code (6 : Nat) (Option.some (Jvm.ClassFile.FieldType.array Jvm.ClassFile.FieldType.byte))).before args0 about1 = true := code_word (m := ⟨9, 8⟩) (meth := k9m8) (c := k9c8) (by decide +kernel) rfl rfl rfl (by decide +kernel)
set_option maxRecDepth 65536 in
theorem w_c11 : (Jvm.Cond.code ({ cls := "java/lang/StringUTF16", name := "compress", desc := "([CI[BII)I" } : Jvm.MethodName) jdk_52_method_21_code (7 : Nat) (Option.some Jvm.ClassFile.FieldType.int)).before args0 about1 = true := code_word (m := ⟨9, 9⟩) (meth := k9m9) (c := k9c9) (by decide +kernel) rfl rfl rfl (by decide +kernel)
set_option maxRecDepth 65536 in
theorem w_c12 : (Jvm.Cond.code ({ cls := "java/lang/StringUTF16", name := "coderFromArrayLen", desc := "([BI)B" } : Jvm.MethodName) jdk_52_method_15_code (2 : Nat) (Option.some Jvm.ClassFile.FieldType.byte)).before args0 about1 = true := code_word (m := ⟨9, 7⟩) (meth := k9m7) (c := k9c7) (by decide +kernel) rfl rfl rfl (by decide +kernel)
set_option maxRecDepth 65536 in
theorem w_c13 : (Jvm.Cond.code ({ cls := "java/lang/String", name := "charAt", desc := "(I)C" } : Jvm.MethodName) jdk_42_method_56_code (2 : Nat) (Option.some Jvm.ClassFile.FieldType.char)).before args0 about1 = true := code_word (m := ⟨7, 3⟩) (meth := k7m3) (c := k7c3) (by decide +kernel) rfl rfl rfl (by decide +kernel)
set_option maxRecDepth 65536 in
theorem w_c14 : (Jvm.Cond.code ({ cls := "java/lang/String", name := "isLatin1", desc := "()Z" } : Jvm.MethodName) jdk_42_method_154_code (1 : Nat) (Option.some Jvm.ClassFile.FieldType.boolean)).before args0 about1 = true := code_word (m := ⟨7, 6⟩) (meth := k7m6) (c := k7c6) (by decide +kernel) rfl rfl rfl (by decide +kernel)
set_option maxRecDepth 65536 in
theorem w_c15 : (Jvm.Cond.code ({ cls := "java/lang/StringLatin1", name := "charAt", desc := "([BI)C" } : Jvm.MethodName) jdk_43_method_2_code (2 : Nat) (Option.some Jvm.ClassFile.FieldType.char)).before args0 about1 = true := code_word (m := ⟨10, 1⟩) (meth := k10m1) (c := k10c1) (by decide +kernel) rfl rfl rfl (by decide +kernel)
set_option maxRecDepth 65536 in
theorem w_c16 : (Jvm.Cond.code ({ cls := "java/lang/String", name := "checkIndex", desc := "(II)V" } : Jvm.MethodName) jdk_42_method_155_code (2 : Nat) (Option.none : Option Jvm.ClassFile.FieldType)).before args0 about1 = true := code_word (m := ⟨7, 7⟩) (meth := k7m7) (c := k7c7) (by decide +kernel) rfl rfl rfl (by decide +kernel)
set_option maxRecDepth 65536 in
theorem w_c17 : (Jvm.Cond.code ({ cls := "jdk/internal/util/Preconditions", name := "checkIndex", desc := "(IILjava/util/function/BiFunction;)I" } : Jvm.MethodName) jdk_41_method_11_code (3 : Nat) (Option.some Jvm.ClassFile.FieldType.int)).before args0 about1 = true := code_word (m := ⟨11, 1⟩) (meth := k11m1) (c := k11c1) (by decide +kernel) rfl rfl rfl (by decide +kernel)
set_option maxRecDepth 65536 in
theorem w_c18 : (Jvm.Cond.code ({ cls := "com/example/strict_lock/strictlock/IfHeaderSkipSpacePinLaw", name := "ws", desc := "(C)Z" } : Jvm.MethodName) method_4_code (1 : Nat) (Option.some Jvm.ClassFile.FieldType.boolean)).before args0 about1 = true := code_word (m := ⟨1, 3⟩) (meth := k1m3) (c := k1c3) (by decide +kernel) rfl rfl rfl (by decide +kernel)
set_option maxRecDepth 65536 in
theorem w_c19 : (Jvm.Cond.code ({ cls := "java/lang/StringUTF16", name := "toBytes", desc := "([CII)[B" } : Jvm.MethodName) jdk_52_method_14_code (5 : Nat) (Option.some (Jvm.ClassFile.FieldType.array Jvm.ClassFile.FieldType.byte))).before args0 about1 = true := code_word (m := ⟨9, 6⟩) (meth := k9m6) (c := k9c6) (by decide +kernel) rfl rfl rfl (by decide +kernel)
set_option maxRecDepth 65536 in
theorem w_c20 : (Jvm.Cond.code ({ cls := "java/lang/StringUTF16", name := "newBytesFor", desc := "(I)[B" } : Jvm.MethodName) jdk_52_method_2_code (1 : Nat) (Option.some (Jvm.ClassFile.FieldType.array Jvm.ClassFile.FieldType.byte))).before args0 about1 = true := code_word (m := ⟨9, 1⟩) (meth := k9m1) (c := k9c1) (by decide +kernel) rfl rfl rfl (by decide +kernel)
set_option maxRecDepth 65536 in
theorem w_c21 : (Jvm.Cond.code ({ cls := "java/lang/StringUTF16", name := "newBytesLength", desc := "(I)I" } : Jvm.MethodName) jdk_52_method_3_code (1 : Nat) (Option.some Jvm.ClassFile.FieldType.int)).before args0 about1 = true := code_word (m := ⟨9, 2⟩) (meth := k9m2) (c := k9c2) (by decide +kernel) rfl rfl rfl (by decide +kernel)
set_option maxRecDepth 65536 in
theorem w_c22 : (Jvm.Cond.code ({ cls := "java/lang/StringUTF16", name := "putChar", desc := "([BII)V" } : Jvm.MethodName) jdk_52_method_4_code (3 : Nat) (Option.none : Option Jvm.ClassFile.FieldType)).before args0 about1 = true := code_word (m := ⟨9, 3⟩) (meth := k9m3) (c := k9c3) (by decide +kernel) rfl rfl rfl (by decide +kernel)
set_option maxRecDepth 65536 in
theorem w_c23 : (Jvm.Cond.code ({ cls := "java/lang/StringUTF16", name := "getChar", desc := "([BI)C" } : Jvm.MethodName) jdk_52_method_5_code (2 : Nat) (Option.some Jvm.ClassFile.FieldType.char)).before args0 about1 = true := code_word (m := ⟨9, 4⟩) (meth := k9m4) (c := k9c4) (by decide +kernel) rfl rfl rfl (by decide +kernel)
set_option maxRecDepth 65536 in
theorem w_c24 : (Jvm.Cond.code ({ cls := "java/lang/StringUTF16", name := "charAt", desc := "([BI)C" } : Jvm.MethodName) jdk_52_method_83_code (2 : Nat) (Option.some Jvm.ClassFile.FieldType.char)).before args0 about1 = true := code_word (m := ⟨9, 10⟩) (meth := k9m10) (c := k9c10) (by decide +kernel) rfl rfl rfl (by decide +kernel)
set_option maxRecDepth 65536 in
theorem w_c25 : (Jvm.Cond.code ({ cls := "java/lang/StringUTF16", name := "checkIndex", desc := "(I[B)V" } : Jvm.MethodName) jdk_52_method_91_code (2 : Nat) (Option.none : Option Jvm.ClassFile.FieldType)).before args0 about1 = true := code_word (m := ⟨9, 11⟩) (meth := k9m11) (c := k9c11) (by decide +kernel) rfl rfl rfl (by decide +kernel)
set_option maxRecDepth 65536 in
theorem w_c26 : (Jvm.Cond.code ({ cls := "java/lang/StringUTF16", name := "length", desc := "([B)I" } : Jvm.MethodName) jdk_52_method_6_code (1 : Nat) (Option.some Jvm.ClassFile.FieldType.int)).before args0 about1 = true := code_word (m := ⟨9, 5⟩) (meth := k9m5) (c := k9c5) (by decide +kernel) rfl rfl rfl (by decide +kernel)
def codes1 : List Jvm.Cond := [Jvm.Cond.code x code maxLocals ret, Jvm.Cond.code ({ cls := "com/example/strict_lock/strictlock/IfHeaderSkipSpacePinLaw", name := "draw", desc := "(I)C" } : Jvm.MethodName) method_5_code (2 : Nat) (Option.some Jvm.ClassFile.FieldType.char), Jvm.Cond.code ({ cls := "com/example/strict_lock/strictlock/IfHeaderSkipSpacePinLaw", name := "text", desc := "(ICCCC)Ljava/lang/String;" } : Jvm.MethodName) method_6_code (5 : Nat) (Option.some (Jvm.ClassFile.FieldType.object "java/lang/String")), Jvm.Cond.code ({ cls := "java/lang/String", name := "<init>", desc := "([C)V" } : Jvm.MethodName) jdk_42_method_3_code (2 : Nat) (Option.none : Option Jvm.ClassFile.FieldType), Jvm.Cond.code ({ cls := "java/lang/String", name := "<init>", desc := "([CIILjava/lang/Void;)V" } : Jvm.MethodName) jdk_42_method_149_code (6 : Nat) (Option.none : Option Jvm.ClassFile.FieldType), Jvm.Cond.code ({ cls := "java/lang/Object", name := "<init>", desc := "()V" } : Jvm.MethodName) object_method_1_code (1 : Nat) (Option.none : Option Jvm.ClassFile.FieldType), Jvm.Cond.code ({ cls := "com/example/strict_lock/strictlock/IfHeader", name := "skipSpace", desc := "(Ljava/lang/String;I)I" } : Jvm.MethodName) prog_10_method_4_code (3 : Nat) (Option.some Jvm.ClassFile.FieldType.int), Jvm.Cond.code ({ cls := "java/lang/String", name := "length", desc := "()I" } : Jvm.MethodName) jdk_42_method_54_code (1 : Nat) (Option.some Jvm.ClassFile.FieldType.int), Jvm.Cond.code ({ cls := "java/lang/String", name := "coder", desc := "()B" } : Jvm.MethodName) jdk_42_method_152_code (1 : Nat) (Option.some Jvm.ClassFile.FieldType.byte), Jvm.Cond.code ({ cls := "com/example/strict_lock/strictlock/IfHeaderSkipSpacePinLaw", name := "ok", desc := "(IIIC)Z" } : Jvm.MethodName) method_3_code (4 : Nat) (Option.some Jvm.ClassFile.FieldType.boolean), Jvm.Cond.code ({ cls := "java/lang/StringUTF16", name := "compress", desc := "([CII)[B" } : Jvm.MethodName) jdk_52_method_16_code (6 : Nat) (Option.some (Jvm.ClassFile.FieldType.array Jvm.ClassFile.FieldType.byte)), Jvm.Cond.code ({ cls := "java/lang/StringUTF16", name := "compress", desc := "([CI[BII)I" } : Jvm.MethodName) jdk_52_method_21_code (7 : Nat) (Option.some Jvm.ClassFile.FieldType.int), Jvm.Cond.code ({ cls := "java/lang/StringUTF16", name := "coderFromArrayLen", desc := "([BI)B" } : Jvm.MethodName) jdk_52_method_15_code (2 : Nat) (Option.some Jvm.ClassFile.FieldType.byte), Jvm.Cond.code ({ cls := "java/lang/String", name := "charAt", desc := "(I)C" } : Jvm.MethodName) jdk_42_method_56_code (2 : Nat) (Option.some Jvm.ClassFile.FieldType.char), Jvm.Cond.code ({ cls := "java/lang/String", name := "isLatin1", desc := "()Z" } : Jvm.MethodName) jdk_42_method_154_code (1 : Nat) (Option.some Jvm.ClassFile.FieldType.boolean), Jvm.Cond.code ({ cls := "java/lang/StringLatin1", name := "charAt", desc := "([BI)C" } : Jvm.MethodName) jdk_43_method_2_code (2 : Nat) (Option.some Jvm.ClassFile.FieldType.char), Jvm.Cond.code ({ cls := "java/lang/String", name := "checkIndex", desc := "(II)V" } : Jvm.MethodName) jdk_42_method_155_code (2 : Nat) (Option.none : Option Jvm.ClassFile.FieldType), Jvm.Cond.code ({ cls := "jdk/internal/util/Preconditions", name := "checkIndex", desc := "(IILjava/util/function/BiFunction;)I" } : Jvm.MethodName) jdk_41_method_11_code (3 : Nat) (Option.some Jvm.ClassFile.FieldType.int), Jvm.Cond.code ({ cls := "com/example/strict_lock/strictlock/IfHeaderSkipSpacePinLaw", name := "ws", desc := "(C)Z" } : Jvm.MethodName) method_4_code (1 : Nat) (Option.some Jvm.ClassFile.FieldType.boolean), Jvm.Cond.code ({ cls := "java/lang/StringUTF16", name := "toBytes", desc := "([CII)[B" } : Jvm.MethodName) jdk_52_method_14_code (5 : Nat) (Option.some (Jvm.ClassFile.FieldType.array Jvm.ClassFile.FieldType.byte)), Jvm.Cond.code ({ cls := "java/lang/StringUTF16", name := "newBytesFor", desc := "(I)[B" } : Jvm.MethodName) jdk_52_method_2_code (1 : Nat) (Option.some (Jvm.ClassFile.FieldType.array Jvm.ClassFile.FieldType.byte)), Jvm.Cond.code ({ cls := "java/lang/StringUTF16", name := "newBytesLength", desc := "(I)I" } : Jvm.MethodName) jdk_52_method_3_code (1 : Nat) (Option.some Jvm.ClassFile.FieldType.int), Jvm.Cond.code ({ cls := "java/lang/StringUTF16", name := "putChar", desc := "([BII)V" } : Jvm.MethodName) jdk_52_method_4_code (3 : Nat) (Option.none : Option Jvm.ClassFile.FieldType), Jvm.Cond.code ({ cls := "java/lang/StringUTF16", name := "getChar", desc := "([BI)C" } : Jvm.MethodName) jdk_52_method_5_code (2 : Nat) (Option.some Jvm.ClassFile.FieldType.char), Jvm.Cond.code ({ cls := "java/lang/StringUTF16", name := "charAt", desc := "([BI)C" } : Jvm.MethodName) jdk_52_method_83_code (2 : Nat) (Option.some Jvm.ClassFile.FieldType.char), Jvm.Cond.code ({ cls := "java/lang/StringUTF16", name := "checkIndex", desc := "(I[B)V" } : Jvm.MethodName) jdk_52_method_91_code (2 : Nat) (Option.none : Option Jvm.ClassFile.FieldType), Jvm.Cond.code ({ cls := "java/lang/StringUTF16", name := "length", desc := "([B)I" } : Jvm.MethodName) jdk_52_method_6_code (1 : Nat) (Option.some Jvm.ClassFile.FieldType.int)]
set_option maxRecDepth 65536 in
theorem codes_eq : words1.filter isCode = codes1 := rfl
theorem w_codes : ∀ c ∈ words1.filter isCode, c.before args0 about1 = true := by
  rw [codes_eq]
  intro c hc
  simp only [codes1, List.mem_cons, List.not_mem_nil, or_false] at hc
  rcases hc with rfl | rfl | rfl | rfl | rfl | rfl | rfl | rfl | rfl | rfl | rfl | rfl | rfl | rfl | rfl | rfl | rfl | rfl | rfl | rfl | rfl | rfl | rfl | rfl | rfl | rfl | rfl
  · exact w_c0
  · exact w_c1
  · exact w_c2
  · exact w_c3
  · exact w_c4
  · exact w_c5
  · exact w_c6
  · exact w_c7
  · exact w_c8
  · exact w_c9
  · exact w_c10
  · exact w_c11
  · exact w_c12
  · exact w_c13
  · exact w_c14
  · exact w_c15
  · exact w_c16
  · exact w_c17
  · exact w_c18
  · exact w_c19
  · exact w_c20
  · exact w_c21
  · exact w_c22
  · exact w_c23
  · exact w_c24
  · exact w_c25
  · exact w_c26
set_option maxRecDepth 65536 in
theorem w_t1 : (words1.take 24).all (fun c => isCode c || c.before args0 about1) = true := by decide +kernel
set_option maxRecDepth 65536 in
theorem w_t2 : ((words1.drop 24).take 24).all (fun c => isCode c || c.before args0 about1) = true := by decide +kernel
set_option maxRecDepth 65536 in
theorem w_t3 : (((words1.drop 24).drop 24).take 24).all (fun c => isCode c || c.before args0 about1) = true := by decide +kernel
set_option maxRecDepth 65536 in
theorem w_t4 : ((((words1.drop 24).drop 24).drop 24).take 24).all (fun c => isCode c || c.before args0 about1) = true := by decide +kernel
set_option maxRecDepth 65536 in
theorem w_t5 : ((((words1.drop 24).drop 24).drop 24).drop 24).all (fun c => isCode c || c.before args0 about1) = true := by decide +kernel
theorem w_tables : (allAtoms (Jvm.Cond.code x code maxLocals ret :: tables_1)).before args0 about1 = true := by
  rw [allAtoms_all]
  show words1.all (fun c => c.before args0 about1) = true
  refine all_split ?_ w_codes
  rw [← List.take_append_drop 24 words1, List.all_append, w_t1, ← List.take_append_drop 24 (words1.drop 24), List.all_append, w_t2, ← List.take_append_drop 24 ((words1.drop 24).drop 24), List.all_append, w_t3, ← List.take_append_drop 24 (((words1.drop 24).drop 24).drop 24), List.all_append, w_t4, w_t5]
  rfl
set_option maxRecDepth 65536 in
theorem w_rest : rest_1_c.before args0 about1 = true := by decide +kernel
set_option maxRecDepth 65536 in
theorem w_case : (Jvm.Cond.and given_1 narrow_1).before args0 about1 = true := by decide +kernel
set_option maxRecDepth 65536 in
theorem w_consts : constsHeld consts_1 about1 := Jvm.Lit.constsHeldB_iff.mp (by decide +kernel)
theorem w_applies : (headSpec (Jvm.Cond.code x code maxLocals ret :: tables_1) room_1).applies x e0.platform about1 = true :=
  (Spec.applies_iff w_frames).mpr ⟨w_running, w_runnable, w_alone, w_named, w_hears, w_ripe, w_room, w_tables⟩
theorem atStart : AtStart classFile x code maxLocals ret World_1 tables_1 room_1 Calls_1 rest_1 Pre_1 launch0 p0 e0 about1 theMethod args0 below0 :=
  ⟨lists_1, trivial, launch0.admits_env _ _ _, launch0.least_env, fairChoices_fair.cas, fairChoices_fair.clock, w_frames, w_args, w_heap, w_applies, ⟨w_consts, trivial⟩, w_rest, w_case⟩
end start1
theorem witness_1 : WitnessClaimed_1 := ⟨start1.p0, start1.e0, start1.about1, start1.theMethod, start1.args0, start1.below0, start1.atStart⟩
end Jvm.Pilot.@@N@@
