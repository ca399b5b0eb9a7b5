import JvmDerived
import JvmDerived.Pilot.@@N@@Statement
import JvmDerived.Pilot.@@N@@Code
set_option linter.unusedVariables false
set_option linter.unusedSimpArgs false
set_option maxRecDepth 65536
set_option maxHeartbeats 40000000
namespace Jvm.RoadKit
open Sem ClassFile Op Lib Jvm.Stand Jvm.Free Jvm.LawKit
section New
variable {p : Program} {l : Launch} {e : Env} {R : Room} {s : State} {m : MethodId} {args : Array Value} {below : List Frame} {meth : Method} {c : Code} {T : State} {locs : List Loc} {cells slots : Nat}
theorem retI (X : Stand p l e R s m args below meth c T locs cells slots) (hx : p.tables.exec = Jvm.exec) {pc : Nat} {Ls : Array Slot} {z : Int32} {rest : List Value} (hret : meth.sig.returnType = some .int) (hd : decode c.code pc = .ok (.ireturn, 1)) {fs : List Frame}
    (hl : ∀ (f : JFrame) (acts : List Action), f.method = m → f.locked = none → f.entered = [] → (doReturn e (T.setTop f) acts (some (.int z))).1 = T.setFrames fs) : Steps p.tables e below (T.setTop (mkF m pc Ls (.int z :: rest))) (T.setFrames fs) := by
  have hm' : T.vm.method? m = some meth := X.method'
  have hn : narrow .int (.int z) = .int z := rfl
  show Steps p.tables e below (T.setTop { method := m, pc := pc, locals := Ls, stack := _ :: rest, locked := none }) _
  jvm_step X.here [X.here.top, hx, hd, hm', hret, hn]
  first | (intro acts; rw [hl _ acts rfl rfl rfl]) | rw [hl _ _ rfl rfl rfl]
  exact Steps.refl _
theorem retD (X : Stand p l e R s m args below meth c T locs cells slots) (hx : p.tables.exec = Jvm.exec) {pc : Nat} {Ls : Array Slot} {z : UInt64} {rest : List Value} (hret : meth.sig.returnType = some .double) (hd : decode c.code pc = .ok (.dreturn, 1)) {fs : List Frame}
    (hl : ∀ (f : JFrame) (acts : List Action), f.method = m → f.locked = none → f.entered = [] → (doReturn e (T.setTop f) acts (some (.double z))).1 = T.setFrames fs) : Steps p.tables e below (T.setTop (mkF m pc Ls (.double z :: rest))) (T.setFrames fs) := by
  have hm' : T.vm.method? m = some meth := X.method'
  have hn : narrow .double (.double z) = .double z := rfl
  show Steps p.tables e below (T.setTop { method := m, pc := pc, locals := Ls, stack := _ :: rest, locked := none }) _
  jvm_step X.here [X.here.top, hx, hd, hm', hret, hn]
  first | (intro acts; rw [hl _ acts rfl rfl rfl]) | rw [hl _ _ rfl rfl rfl]
  exact Steps.refl _
end New
end Jvm.RoadKit
namespace Jvm.Pilot.@@N@@
open Jvm Jvm.ClassFile Sem Op Lib Jvm.Free Jvm.Stand Jvm.LawKit Jvm.RoadKit Bundle Jvm.Pilot.@@N@@.Jvm.D
abbrev own_HW (a0 : Array Value) (Z : State) : Prop := ∀ d ∈ tables_1, d.before a0 Z = true
theorem own_at {Z : State} {a0 : Array Value} (hw : own_HW a0 Z) (i : Nat) {d : Jvm.Cond} (h : tables_1[i]? = some d) : d.before a0 Z = true := hw _ (List.mem_of_getElem? h)
abbrev OwnS (p : Program) (e : Env) (below : List Frame) (T : State) (g : JFrame) (t : State) : Prop := Steps p.tables e below (T.setTop g) t
theorem own_selpriv {s : State} {args : Array Value} {y : MethodName} {n : Nat} (hy : y.cls ≠ "java/lang/invoke/MethodHandle" ∧ y.cls ≠ "java/lang/invoke/VarHandle") (hins : (Jvm.Cond.instantiable y.cls n).before args s = true) (hp : (Jvm.Cond.privateMethod y).before args s = true) (hi : (Jvm.Cond.instanceMethod y).before args s = true) : (Jvm.Cond.selects y.cls y y).before args s = true := by
  obtain ⟨c, k, hc, hk, -, hniab, -⟩ := Cond.instantiable_spec hins
  exact selects_self_of_private hc hk (Bool.or_eq_false_iff.mp hniab).1 (Cond.privateMethod_at hp) hi hy
theorem own_irr (x : Int32) : ¬ (x < x) := by rw [Int32.lt_iff_toInt_lt]; omega
theorem own_asymm {x y : Int32} (h : x < y) : ¬ (y < x) := by rw [Int32.lt_iff_toInt_lt] at *; omega
theorem own_irr64 (x : Int64) : ¬ (x < x) := by rw [Int64.lt_iff_toInt_lt]; omega
theorem own_asymm64 {x y : Int64} (h : x < y) : ¬ (y < x) := by rw [Int64.lt_iff_toInt_lt] at *; omega
theorem own_ne {x y : Int32} (h : x < y) : ¬ (x = y) := fun q => own_irr x (by rw [← q] at h; exact h)
theorem own_ne' {x y : Int32} (h : x < y) : ¬ (y = x) := fun q => own_irr x (by rw [q] at h; exact h)
theorem own_tri (x y : Int32) : x < y ∨ x = y ∨ y < x := by
  rw [Int32.lt_iff_toInt_lt, Int32.lt_iff_toInt_lt, ← Int32.toInt_inj]; omega
theorem own_ns {Z : State} {h : Heap} {a : Addr} {C : String} (F : Exa Z h a C) : ∃ cell : Cell, h[a]? = some cell ∧ cell.vm.isStatics = false := by
  obtain ⟨cell, k, h1, -, -, h4, -⟩ := F; exact ⟨cell, h1, h4⟩
theorem own_sta_keep {Z : State} {h h' : Heap} {ws : List Addr} {C n d : String} {v : Value} (F : Sta Z h C n d v) (K : Keep h h' ws) (q : ∀ x ∈ ws, ∃ cell : Cell, h[x]? = some cell ∧ cell.vm.isStatics = false) : Sta Z h' C n d v := by
  obtain ⟨cf, i, k, f, st, cell, h1, h2, h3, h4, h5, h6, h7⟩ := F
  refine ⟨cf, i, k, f, st, cell, h1, h2, h3, h4, K.2.1 st cell h5 fun r => ?_, h6, h7⟩
  obtain ⟨c2, g1, g2⟩ := q st r
  cases h5.symm.trans g1
  rw [g2] at h6; cases h6
theorem own_eq_int {args : Array Value} {first s : State} {o : Option Outcome} {idx : List Nat} {t : Term} {k : Int32} (h : (Jvm.Cond.eq t (.int k)).value args first o s idx = some true) : t.eval args first o idx s = some (.int k) := by
  simp only [Cond.value, Term.eval] at h
  cases ht : t.eval args first o idx s with
  | none => simp [ht] at h
  | some x => cases x <;> simp [ht] at h ⊢; exact h
section
variable {p : Program} {l : Launch} {e : Env} {R : Room} {s : State} {m : MethodId} {args : Array Value} {below : List Frame} {meth : Method} {c : Code} {T t : State} {locs : List Loc} {cells slots : Nat} {cd : ByteArray} {pc : Nat} {ls : Array Slot} {st : List Value}
theorem oIn (X : Stand p l e R s m args below meth c T locs cells slots) (hx : p.tables.exec = Jvm.exec) (hy : c.code = cd) {k : Fin 4} {v : Int32} (hd : decode cd pc = .ok (.iload_n k, 1)) (hl : ls[k.val]? = some (.val (.int v))) (hr : OwnS p e below T (mkF m (pc + 1) ls (.int v :: st)) t) : OwnS p e below T (mkF m pc ls st) t := XS.iloadN X.here hx rfl (hb hy hd) hl hr
theorem oIl (X : Stand p l e R s m args below meth c T locs cells slots) (hx : p.tables.exec = Jvm.exec) (hy : c.code = cd) {k : Nat} {v : Int32} (hd : decode cd pc = .ok (.iload k, 2)) (hl : ls[k]? = some (.val (.int v))) (hr : OwnS p e below T (mkF m (pc + 2) ls (.int v :: st)) t) : OwnS p e below T (mkF m pc ls st) t := XS.iload X.here hx rfl (hb hy hd) hl hr
theorem oAn (X : Stand p l e R s m args below meth c T locs cells slots) (hx : p.tables.exec = Jvm.exec) (hy : c.code = cd) {k : Fin 4} {v : Value} (hd : decode cd pc = .ok (.aload_n k, 1)) (hl : ls[k.val]? = some (.val v)) (hv : v.isRef = true) (hr : OwnS p e below T (mkF m (pc + 1) ls (v :: st)) t) : OwnS p e below T (mkF m pc ls st) t := XS.aloadN X.here hx rfl (hb hy hd) hl hv hr
theorem oAl (X : Stand p l e R s m args below meth c T locs cells slots) (hx : p.tables.exec = Jvm.exec) (hy : c.code = cd) {k : Nat} {v : Value} (hd : decode cd pc = .ok (.aload k, 2)) (hl : ls[k]? = some (.val v)) (hv : v.isRef = true) (hr : OwnS p e below T (mkF m (pc + 2) ls (v :: st)) t) : OwnS p e below T (mkF m pc ls st) t := XS.aload X.here hx rfl (hb hy hd) hl hv hr
theorem oIc (X : Stand p l e R s m args below meth c T locs cells slots) (hx : p.tables.exec = Jvm.exec) (hy : c.code = cd) {i : Int} (hd : decode cd pc = .ok (.iconst i, 1)) (hr : OwnS p e below T (mkF m (pc + 1) ls (.int (Int32.ofInt i) :: st)) t) : OwnS p e below T (mkF m pc ls st) t := XS.iconst X.here hx rfl (hb hy hd) hr
theorem oBp (X : Stand p l e R s m args below meth c T locs cells slots) (hx : p.tables.exec = Jvm.exec) (hy : c.code = cd) {i : Int} (hd : decode cd pc = .ok (.bipush i, 2)) (hr : OwnS p e below T (mkF m (pc + 2) ls (.int (Int8.ofInt i).toInt32 :: st)) t) : OwnS p e below T (mkF m pc ls st) t := XS.bipush X.here hx rfl (hb hy hd) hr
theorem oGo (X : Stand p l e R s m args below meth c T locs cells slots) (hx : p.tables.exec = Jvm.exec) (hy : c.code = cd) {o : Int} (a q : Nat) (hd : decode cd a = .ok (.goto o, 3)) (h1 : 0 ≤ (a : Int) + o) (h2 : ((a : Int) + o).toNat = q) (hr : OwnS p e below T (mkF m q ls st) t) : OwnS p e below T (mkF m a ls st) t := XS.goto X.here hx rfl (pc0 := a) (pc' := q) rfl (hb hy hd) h1 h2 hr
end
abbrev own_M (l : Launch) (Z : State) (y : MethodName) (cd : ByteArray) (ml : Nat) (rt : Option FieldType) (ws : List Jvm.Cond) (R : Room) (A : Array Value) (h0 : Heap) (Q : Option Value → Heap → List Loc → Prop) : Prop :=
  MetFree l y (head1 (Jvm.Cond.code y cd ml rt :: ws) R) (fun a U => a = A ∧ Z.Warmed39 U.vm ∧ U.heap = h0) (fun _ _ _ _ _ => True) (fun _ U o U' => ∃ v L, o = .returned v ∧ Q v U'.heap L ∧ FrameEnd U o U' L R.cells R.slots)
theorem own_in {l : Launch} {Z : State} {y : MethodName} {cd : ByteArray} {ml : Nat} {rt : Option FieldType} {ws : List Jvm.Cond} {R : Room} {A : Array Value} {h0 : Heap} {Q : Option Value → Heap → List Loc → Prop} (own : String) (hc : y.cls = own) (hp : plainFor y = true)
    (H : ∀ p e s m below meth c s₁, BodyLoose p l y (head1 (Jvm.Cond.code y cd ml rt :: ws) R) cd ml rt e s m A below meth c s₁ → c.maxLocals = ml → Z.Warmed39 s.vm → s.heap = h0 → p.tables.exec = Jvm.exec → c.code = cd → s.vm.findClass own = some m.cls → Stand p l e R s m A below meth c s₁ [] 0 0 → s₁.heap = h0 →
      ∃ s₂ o, Steps p.tables e below (s₁.setTop (entryFrame m A ml)) s₂ ∧ s₂.status = .running ∧ Ended s₂ below o ∧ ∃ v L, o = .returned v ∧ Q v s₂.heap L ∧ FrameEnd s o s₂ L R.cells R.slots) : own_M l Z y cd ml rt ws R A h0 Q := by
  refine MetFree.of_bodySF hp hisR ?_
  intro p e s m args below meth c s₁ Bd hml0 hP hK
  obtain ⟨rfl, hZ, hh⟩ := hP
  subst hc
  exact H p e s m below meth c s₁ Bd hml0 hZ hh Bd.exec Bd.bytes (findClass_of_methodNamed Bd.named) (Stand.of_body Bd) (by rw [← hh, Bd.state]; rfl)
theorem own_cS {p : Program} {l : Launch} {e : Env} {R : Room} {s : State} {m : MethodId} {args : Array Value} {below : List Frame} {meth : Method} {c : Code} {T : State} {locs : List Loc} {cells slots : Nat} {Z : State} {a0 : Array Value} {own : String} {index : Nat} {y : MethodName} {bytes : ByteArray} {maxL : Nat} {ret : Option FieldType} {rm : Room} {as' : Array Value} {h : Heap} {Q : Option Value → Heap → List Loc → Prop} (W : Nat)
    (hM : own_M l Z y bytes maxL ret [] rm as' h Q) (X : Stand p l e R s m args below meth c T locs cells slots) (hx : p.tables.exec = Jvm.exec) (hZ : Z.Warmed39 s.vm) (hown : s.vm.findClass own = some m.cls) (hw : own_HW a0 Z) (i1 i2 i3 i4 : Nat) (v1 : tables_1[i1]? = some (Jvm.Cond.methodLink own index y)) (v2 : tables_1[i2]? = some (Jvm.Cond.static y)) (v3 : tables_1[i3]? = some (Jvm.Cond.initialized y.cls)) (v4 : tables_1[i4]? = some (Jvm.Cond.code y bytes maxL ret))
    (pc : Nat) (ls : Array Slot) (argsL rest : List Value) (hdg : decode c.code pc = .ok (.invokestatic index, 3)) (hml : c.maxLocals = ls.size) (hlen : ∀ sig, parseMethodDescriptor y.desc = some sig → argsL.length = sig.parameters.length) (eT : T.heap = h) (has : argsL.toArray = as') (hW : (rest.map fun v => v.category).sum ≤ W)
    (hd : (y.cls ≠ "java/lang/invoke/MethodHandle" ∧ y.cls ≠ "java/lang/invoke/VarHandle") ∧ rm.frames + 1 ≤ R.frames ∧ W + (maxL + 11) + rm.locals ≤ R.locals ∧ cells + rm.cells ≤ R.cells ∧ slots + rm.slots ≤ R.slots) :
    ∃ (v : Option Value) (T' : State) (L : List Loc), Stand p l e R s m args below meth c T' (locs ++ L) (cells + rm.cells) (slots + rm.slots) ∧ Q v T'.heap L ∧ ∀ t, OwnS p e below T' (mkF m (pc + 3) ls (v.toList ++ rest)) t → OwnS p e below T (mkF m pc ls (argsL.reverse ++ rest)) t := by
  obtain ⟨v, vm₁, ⟨T', L', j, i⟩, -, X', ⟨L, hQ, l1, y1, z1⟩, st⟩ := Jvm.LawKit.callS X hx (y := y) hown (mvT hZ (own_at hw i1 v1)) (mvT hZ (own_at hw i2 v2)) (mvT hZ (own_at hw i3 v3)) (mvT hZ (own_at hw i4 v4)) hd.1 (backOf (W := W) hM hZ (own_at hw i4 v4) (own_at hw i3 v3) hd.2.1 hd.2.2.1) (g := (mkF m pc ls (argsL.reverse ++ rest))) rfl hml.symm (argsL := argsL) (rest := rest) hlen rfl (by simpa [mkF] using hW) hdg (fun _ _ => ⟨has, eT, hd.2.2.2⟩)
  dsimp only [Pt.U, Pt.locs, Pt.cells, Pt.slots] at X' l1 y1 z1 st hQ
  subst l1 y1 z1
  exact ⟨v, T', L, X', hQ, st⟩
theorem own_cV {p : Program} {l : Launch} {e : Env} {R : Room} {s : State} {m : MethodId} {args : Array Value} {below : List Frame} {meth : Method} {c : Code} {T : State} {locs : List Loc} {cells slots : Nat} {Z : State} {a0 : Array Value} {own : String} {index : Nat} {y : MethodName} {bytes : ByteArray} {maxL : Nat} {ret : Option FieldType} {rm : Room} {as' : Array Value} {h : Heap} {Q : Option Value → Heap → List Loc → Prop} (W : Nat)
    (hM : own_M l Z y bytes maxL ret [] rm as' h Q) (X : Stand p l e R s m args below meth c T locs cells slots) (hx : p.tables.exec = Jvm.exec) (hZ : Z.Warmed39 s.vm) (hown : s.vm.findClass own = some m.cls) (hw : own_HW a0 Z) (i1 i2 i5 i6 i3 i4 : Nat) (v1 : tables_1[i1]? = some (Jvm.Cond.methodLink own index y)) (v2 : tables_1[i2]? = some (Jvm.Cond.declares y)) (v5 : tables_1[i5]? = some (Jvm.Cond.selects y.cls y y)) (v6 : tables_1[i6]? = some (Jvm.Cond.instanceMethod y)) (v3 : tables_1[i3]? = some (Jvm.Cond.initialized y.cls)) (v4 : tables_1[i4]? = some (Jvm.Cond.code y bytes maxL ret))
    (o : Addr) (E : Exa Z h o y.cls) (pc : Nat) (ls : Array Slot) (argsL rest : List Value) (hdg : decode c.code pc = .ok (.invokevirtual index, 3)) (hml : c.maxLocals = ls.size) (hlen : ∀ sig, parseMethodDescriptor y.desc = some sig → argsL.length = sig.parameters.length) (eT : T.heap = h) (has : (.ref o :: argsL).toArray = as') (hW : (rest.map fun v => v.category).sum ≤ W)
    (hd : (y.cls ≠ "java/lang/invoke/MethodHandle" ∧ y.cls ≠ "java/lang/invoke/VarHandle") ∧ rm.frames + 1 ≤ R.frames ∧ W + (maxL + 11) + rm.locals ≤ R.locals ∧ cells + rm.cells ≤ R.cells ∧ slots + rm.slots ≤ R.slots) :
    ∃ (v : Option Value) (T' : State) (L : List Loc), Stand p l e R s m args below meth c T' (locs ++ L) (cells + rm.cells) (slots + rm.slots) ∧ Q v T'.heap L ∧ ∀ t, OwnS p e below T' (mkF m (pc + 3) ls (v.toList ++ rest)) t → OwnS p e below T (mkF m pc ls (argsL.reverse ++ .ref o :: rest)) t := by
  obtain ⟨cq, kq, qa, qb, qc⟩ := isOf hZ eT E
  obtain ⟨v, vm₁, ⟨T', L', j, i⟩, -, X', ⟨L, hQ, l1, y1, z1⟩, st⟩ := X.virtualBack hx (y := y) (z := y) hown (mvT hZ (own_at hw i1 v1)) (mvT hZ (own_at hw i2 v2)) (notFace_of_selects (args := #[]) (mvT hZ (own_at hw i5 v5))) (mvT hZ (own_at hw i5 v5)) (mvT hZ (own_at hw i6 v6)) hd.1 (backOf (W := W) hM hZ (own_at hw i4 v4) (own_at hw i3 v3) hd.2.1 hd.2.2.1) qa qc (g := (mkF m pc ls (argsL.reverse ++ .ref o :: rest))) rfl hml.symm (Steps.refl _) (argsL := argsL) (rest := rest) hlen rfl (by simpa [mkF] using hW) hdg (fun _ _ => ⟨has, eT, hd.2.2.2⟩)
  dsimp only [Pt.U, Pt.locs, Pt.cells, Pt.slots] at X' l1 y1 z1 st hQ
  subst l1 y1 z1
  exact ⟨v, T', L, X', hQ, fun t q => st.trans q⟩
theorem own_cI {p : Program} {l : Launch} {e : Env} {R : Room} {s : State} {m : MethodId} {args : Array Value} {below : List Frame} {meth : Method} {c : Code} {T : State} {locs : List Loc} {cells slots : Nat} {Z : State} {a0 : Array Value} {own : String} {index : Nat} {xi y : MethodName} {C : String} {count : Nat} {bytes : ByteArray} {maxL : Nat} {ret : Option FieldType} {rm : Room} {as' : Array Value} {h : Heap} {Q : Option Value → Heap → List Loc → Prop} (W : Nat)
    (hM : own_M l Z y bytes maxL ret [] rm as' h Q) (X : Stand p l e R s m args below meth c T locs cells slots) (hx : p.tables.exec = Jvm.exec) (hZ : Z.Warmed39 s.vm) (hown : s.vm.findClass own = some m.cls) (hw : own_HW a0 Z) (i1 i2 i3 i4 i5 i6 i7 i8 i9 i0 : Nat) (v1 : tables_1[i1]? = some (Jvm.Cond.methodLink own index xi)) (v2 : tables_1[i2]? = some (Jvm.Cond.declares xi)) (v3 : tables_1[i3]? = some (Jvm.Cond.interfaceMethod xi.cls xi.cls xi.name xi.desc)) (v4 : tables_1[i4]? = some (Jvm.Cond.selects C xi y)) (v5 : tables_1[i5]? = some (Jvm.Cond.instanceMethod y)) (v6 : tables_1[i6]? = some (Jvm.Cond.publicMethod y)) (v7 : tables_1[i7]? = some (Jvm.Cond.unhidden C xi.name xi.desc)) (v8 : tables_1[i8]? = some (Jvm.Cond.castable C xi.cls)) (v9 : tables_1[i9]? = some (Jvm.Cond.code y bytes maxL ret)) (v0 : tables_1[i0]? = some (Jvm.Cond.initialized y.cls))
    (o : Addr) (E : Exa Z h o C) (pc : Nat) (ls : Array Slot) (argsL rest : List Value) (hdg : decode c.code pc = .ok (.invokeinterface index count, 5)) (hml : c.maxLocals = ls.size) (hlen : ∀ sig, parseMethodDescriptor xi.desc = some sig → argsL.length = sig.parameters.length) (eT : T.heap = h) (has : (.ref o :: argsL).toArray = as') (hW : (rest.map fun v => v.category).sum ≤ W)
    (hd : (xi.cls ≠ "java/lang/invoke/MethodHandle" ∧ xi.cls ≠ "java/lang/invoke/VarHandle") ∧ rm.frames + 1 ≤ R.frames ∧ W + (maxL + 11) + rm.locals ≤ R.locals ∧ cells + rm.cells ≤ R.cells ∧ slots + rm.slots ≤ R.slots) :
    ∃ (v : Option Value) (T' : State) (L : List Loc), Stand p l e R s m args below meth c T' (locs ++ L) (cells + rm.cells) (slots + rm.slots) ∧ Q v T'.heap L ∧ ∀ t, OwnS p e below T' (mkF m (pc + 5) ls (v.toList ++ rest)) t → OwnS p e below T (mkF m pc ls (argsL.reverse ++ .ref o :: rest)) t := by
  obtain ⟨cq, kq, qa, qb, qc⟩ := isOf hZ eT E
  obtain ⟨v, vm₁, ⟨T', L', j, i⟩, -, X', ⟨L, hQ, l1, y1, z1⟩, st⟩ := X.interfaceBack hx (xi := xi) (y := y) hown (mvT hZ (own_at hw i1 v1)) (mvT hZ (own_at hw i2 v2)) (mvT hZ (own_at hw i3 v3) (by simp [Cond.onTables, Cond.keepsFace, Cond.keeps, Cond.steady, Cond.faceAtom]; exact hd.1)) (mvT hZ (own_at hw i4 v4)) (mvT hZ (own_at hw i5 v5)) (mvT hZ (own_at hw i6 v6)) (mvT hZ (own_at hw i7 v7)) (mvT hZ (own_at hw i8 v8)) hd.1 (backOf (W := W) hM hZ (own_at hw i9 v9) (own_at hw i0 v0) hd.2.1 hd.2.2.1) qa qb qc (g := (mkF m pc ls (argsL.reverse ++ .ref o :: rest))) rfl hml.symm (Steps.refl _) (argsL := argsL) (rest := rest) hlen rfl (by simpa [mkF] using hW) hdg (fun _ _ => ⟨has, eT, hd.2.2.2⟩)
  dsimp only [Pt.U, Pt.locs, Pt.cells, Pt.slots] at X' l1 y1 z1 st hQ
  subst l1 y1 z1
  exact ⟨v, T', L, X', hQ, fun t q => st.trans q⟩
theorem own_out {p : Program} {l : Launch} {e : Env} {R : Room} {s : State} {m : MethodId} {args : Array Value} {below : List Frame} {meth : Method} {c : Code} {T : State} {locs : List Loc} {cells slots : Nat} {s0 : State} {Q : Option Value → Heap → List Loc → Prop} {C D : Nat} (X : Stand p l e R s m args below meth c T locs cells slots) (hlk : meth.locks = false) {rt : Option FieldType} (hrt : meth.sig.returnType = rt) (v : Option Value) (hv : rt = none → v = none) (hc : cells ≤ C) (hs : slots ≤ D) (hQ : Q v T.heap locs)
    (K : ∀ fs, (∀ (f : JFrame) (acts : List Action), f.method = m → f.locked = none → f.entered = [] → (doReturn e (T.setTop f) acts v).1 = T.setFrames fs) → Steps p.tables e below s0 (T.setFrames fs)) :
    ∃ s₂ o, Steps p.tables e below s0 s₂ ∧ s₂.status = .running ∧ Ended s₂ below o ∧ ∃ v L, o = .returned v ∧ Q v s₂.heap L ∧ FrameEnd s o s₂ L C D := by
  obtain ⟨fs, hr, hrun, hended, hW, hsame⟩ := X.leave (v := v) (fun q => hv (hrt.symm.trans q)) hlk
  exact ⟨_, _, K fs hr, hrun, hended, _, _, rfl, hQ, ⟨_, rfl⟩, hW, hsame.mono hc hs⟩
theorem own_k {p : Program} {e : Env} {below : List Frame} {T : State} {f g : JFrame} (h : f = g) (t : State) (q : OwnS p e below T g t) : OwnS p e below T f t := castTop h q
theorem own_more {p : Program} {l : Launch} {e : Env} {R : Room} {s : State} {m : MethodId} {args : Array Value} {below : List Frame} {meth : Method} {c : Code} {T : State} {locs : List Loc} {cells slots cells' slots' : Nat} (X : Stand p l e R s m args below meth c T locs cells slots) (h1 : cells ≤ cells') (h2 : slots ≤ slots') : Stand p l e R s m args below meth c T locs cells' slots' := { X with same := X.same.mono h1 h2 }
theorem own_m4 (q : Int32) : (q &&& (3 : Int32)) = (0 : Int32) ∨ (q &&& (3 : Int32)) = (1 : Int32) ∨ (q &&& (3 : Int32)) = (2 : Int32) ∨ (q &&& (3 : Int32)) = (3 : Int32) := by
  have h := c_and q 3 (by decide)
  have e : (3 : Int32).toInt = 3 := by decide
  have h2 : (q &&& (3 : Int32)).toInt = 0 ∨ (q &&& (3 : Int32)).toInt = 1 ∨ (q &&& (3 : Int32)).toInt = 2 ∨ (q &&& (3 : Int32)).toInt = 3 := by omega
  rcases h2 with h2 | h2 | h2 | h2
  · exact Or.inl (Int32.toInt_inj.mp h2)
  · exact Or.inr (Or.inl (Int32.toInt_inj.mp h2))
  · exact Or.inr (Or.inr (Or.inl (Int32.toInt_inj.mp h2)))
  · exact Or.inr (Or.inr (Or.inr (Int32.toInt_inj.mp h2)))
theorem own_le (x : Int32) : ¬ ((255 : Int32) < (x &&& (255 : Int32)).toUInt32.toUInt16.toUInt32.toInt32) := by
  rw [i2c_mask, Int32.lt_iff_toInt_lt]
  have h := c_and x 255 (by decide)
  have e : (255 : Int32).toInt = 255 := by decide
  omega
def own_EL : List (String × Nat) := []
theorem own_ew {Z : State} {a0 : Array Value} (hw : ∀ d ∈ tables_1, d.before a0 Z = true) : EW Z a0 own_EL := EW.nil
theorem own_ws {Z : State} {a0 : Array Value} (hw : ∀ d ∈ tables_1, d.before a0 Z = true) : ∀ a ∈ Bundle.stringAtoms, a.before a0 Z = true := by
  intro d hd
  simp only [Bundle.stringAtoms, List.mem_cons, List.not_mem_nil, or_false] at hd
  rcases hd with rfl | rfl | rfl | rfl | rfl | rfl | rfl
  · exact own_at hw 10 rfl
  · exact own_at hw 18 rfl
  · exact own_at hw 22 rfl
  · exact own_at hw 31 rfl
  · exact own_at hw 33 rfl
  · exact own_at hw 43 rfl
  · exact own_at hw 44 rfl
theorem own_safe_null {Z : State} {vm : Vm} {h : Heap} {x : Addr} {EL : List (String × Nat)} (hal : Z.vm.Alike vm) (E : Exa Z h x "java/lang/String") (F : Fld Z h x "java/lang/String" "value" "[B" .null) : Safe Z EL vm h x := fun B => by
  obtain ⟨p, hp, u, a, hB, q, hqa, G, hx⟩ := B
  obtain ⟨cS, ⟨⟨s1, s2, s3, ⟨cv, kv, iv, s4, s4'⟩, s5, s6, s7, s8, s9, s10, r⟩, hfS, hcS⟩, k, hBB, hbyt⟩ := G
  rcases hx with rfl | rfl
  · obtain ⟨cell, cf, k2, i, f, h1, h2, -, -, -, -, h7⟩ := F
    obtain ⟨kv', z4⟩ := ff_back (U := Wst Z vm h) hal s4
    cases h2.symm.trans z4
    cases h1.symm.trans (show h[q.sa]? = some q.sC from s1)
    cases h7.symm.trans s8
  · obtain ⟨cell, k2, h1, h2, -⟩ := E
    cases h1.symm.trans (show h[q.sd]? = some q.SA from s10)
    have e1 : Z.vm.findClass "[B" = some q.SA.cls := by rw [← hal.findClass]; exact hBB
    obtain ⟨k3, a1, a2⟩ := Vm.findClass_spec h2
    obtain ⟨k4, b1, b2⟩ := Vm.findClass_spec e1
    cases a1.symm.trans b1
    have := a2.symm.trans b2
    revert this; decide
theorem own_ch {Z : State} {vm : Vm} {h : Heap} : CHv Z own_EL vm h := fun p hp => by simp [own_EL] at hp
theorem own_safe0 {Z : State} {vm : Vm} {h : Heap} {x : Addr} : Safe Z own_EL vm h x := fun B => by obtain ⟨p, hp, -⟩ := B; simp [own_EL] at hp
theorem own_cr {Z : State} {vm vm1 : Vm} {h h' : Heap} (q : h.size ≤ h'.size) : CHr Z own_EL vm h vm1 h' := ⟨own_ch, q, fun y B => absurd B own_safe0⟩
def own_Mir (Z : State) (C : String) (m : Addr) : Prop := ∃ (c : ClassId) (k : Class), Z.vm.findClass C = some c ∧ Z.vm.classes[c]? = some k ∧ k.mirror = some m
theorem own_mir {Z s : State} {C : String} {mr : Addr} (hZ : Z.Warmed39 s.vm) (M : own_Mir Z C mr) : ∃ (c : ClassId) (k : Class), s.vm.findClass C = some c ∧ s.vm.classes[c]? = some k ∧ k.mirror = some mr := by
  obtain ⟨c, k, h1, h2, h3⟩ := M
  obtain ⟨k', q, ek⟩ := hZ.alike.2.2 _ _ h2
  exact ⟨c, k', by rw [hZ.alike.findClass]; exact h1, q, by rw [ek]; exact h3⟩
theorem own_mev {Z s : State} {args : Array Value} {C : String} {mr : Addr} (hZ : Z.Warmed39 s.vm) (M : own_Mir Z C mr) : (Term.mirror C).eval args s none [] s = some (.ref mr) := by
  obtain ⟨c, k, h1, h2, h3⟩ := own_mir hZ M
  simp [Term.eval, h1, h2, h3]
theorem own_noinst {Z : State} {a0 : Array Value} {C K : String} {t : List String} {n : Nat} (hc : ∀ w ∈ Cond.chainWords (C :: t), w.before a0 Z = true) (wi : (Jvm.Cond.instantiable K n).before a0 Z = true) (hn : K ∉ C :: t) : ∃ c t, Z.vm.findClass C = some c ∧ Z.vm.findClass K = some t ∧ Z.vm.assignable c t = false := by
  obtain ⟨c, k, h1, -, -, -⟩ := Cond.chain_head hc
  obtain ⟨c', k', g1, g2, g3, g4, -⟩ := Cond.instantiable_spec wi
  exact ⟨c, c', h1, g1, Vm.notAssignable_of_chain h1 g1 g2 g3 (Bool.or_eq_false_iff.mp g4).1 hc hn⟩
theorem own_mvn {Z s : State} {a0 args : Array Value} {own host : String} {index : Nat} {y : MethodName} (hZ : Z.Warmed39 s.vm) (w : (Jvm.Cond.methodLinkNest own index y host).before a0 Z = true) : (Jvm.Cond.methodLinkNest own index y host).before args s = true := (Cond.methodLinkNest_wide hZ w :)
theorem own_len {args : Array Value} {first s : State} {o : Option Outcome} {idx : List Nat} {t : Term} {a : Addr} {cl : Cell} {k : Int32} (h : (Term.length t).eval args first o idx s = some (.int k)) (ht : t.eval args first o idx s = some (.ref a)) (ha : s.arrayAt? a = some cl) : cl.slots.size < 2 ^ 31 ∧ cl.slots.size.toInt32 = k := by
  by_cases hl : cl.slots.size < 2 ^ 31
  · rw [len_f ht ha hl] at h
    injection h with h; injection h with h; exact ⟨hl, h⟩
  · simp [Term.eval, ht, ha, hl] at h
theorem own_ncs {args : Array Value} {s : State} {w : Int32} (ev : (Term.static "java/lang/String" "COMPACT_STRINGS" "Z").eval args s none [] s = some (.int w)) (h : Jvm.Lit.compactW.before args s = true) : ¬ (w = (0 : Int32)) := by
  intro q
  subst q
  have h2 := not_v (Cond.before_iff.mp h)
  rw [eq_i ev (Term.int_eval (0 : Int32)) rfl] at h2
  cases h2
abbrev cS0 : String := "com/example/tablox/tablox/concept/Concept"
abbrev cS1 : String := "java/util/ImmutableCollections$ListItr"
abbrev cS2 : String := "com/example/tablox/tablox/concept/Concept$Kind"
abbrev cS3 : String := "java/lang/Object"
abbrev cS4 : String := "java/util/ArrayList"
abbrev cS5 : String := "java/util/ImmutableCollections$List12"
abbrev cS6 : String := "[Ljava/lang/Object;"
abbrev cS7 : String := "java/util/ImmutableCollections$ListN"
abbrev cS8 : String := "java/lang/String"
abbrev cS9 : String := "com/example/tablox/tablox/concept/Role"
abbrev cS10 : String := "Lcom/example/tablox/tablox/concept/Concept$Kind;"
abbrev cS11 : String := "java/util/List"
abbrev cS12 : String := "(Lcom/example/tablox/tablox/concept/Concept$Kind;Ljava/lang/String;Lcom/example/tablox/tablox/concept/Role;Ljava/util/List;)V"
abbrev cS13 : String := "Ljava/lang/Object;"
abbrev cS14 : String := "java/util/ImmutableCollections"
abbrev cS15 : String := "Lcom/example/tablox/tablox/concept/Role;"
abbrev cS16 : String := "java/util/AbstractList"
abbrev cS17 : String := "java/util/ImmutableCollections$AbstractImmutableList"
abbrev cS18 : String := "Ljava/util/List;"
abbrev cS20 : String := "()Ljava/lang/Object;"
abbrev cS21 : String := "java/util/AbstractCollection"
abbrev cS23 : String := "Ljava/lang/String;"
abbrev cS25 : String := "java/lang/Enum"
theorem d2_0 : decode jdk_43_method_3_code 0 = .ok (.iload_n 0, 1) := by decide +kernel
theorem d2_1 : decode jdk_43_method_3_code 1 = .ok (.sipush 255, 3) := by decide +kernel
theorem d2_4 : decode jdk_43_method_3_code 4 = .ok (.if_icmp .gt 7, 3) := by decide +kernel
theorem d2_7 : decode jdk_43_method_3_code 7 = .ok (.iconst 1, 1) := by decide +kernel
theorem d2_8 : decode jdk_43_method_3_code 8 = .ok (.goto 4, 3) := by decide +kernel
theorem d2_12 : decode jdk_43_method_3_code 12 = .ok (.ireturn, 1) := by decide +kernel
theorem pn_java_lang_StringLatin1 : plainName "java/lang/StringLatin1" = true := by first | (simp [plainName, overriddenIn]; done) | decide +kernel
theorem ef_2 (m : MethodId) (x0 : Int32) : entryFrame m #[(.int x0)] 1 = mkF m 0 #[.val (.int x0)] [] := by first | (simp [entryFrame, mkF, argsToLocals, Value.category]; done) | rfl
def Q_2 (Z : State) (p0 : Int32) (h0 : Heap) (n0 : Nat) (v : Option Value) (h : Heap) (L : List Loc) : Prop := v = some (.int 1) ∧ Fr n0 L ∧ h = h0
theorem rm2 (l : Launch) (Z : State) (a0 : Array Value) (hw : own_HW a0 Z) (ws : List Jvm.Cond) (p0 : Int32) (h0 : Heap) (n0 : Nat) (Z0 : n0 ≤ h0.size) (hle_p0 : ¬ ((255 : Int32) < p0)) :
    own_M l Z (⟨"java/lang/StringLatin1", "canEncode", "(C)Z"⟩ : MethodName) jdk_43_method_3_code 1 (some .boolean) ws ({ frames := 0, cells := 0, slots := 0, locals := 0 } : Room) #[(.int p0)] h0 (Q_2 Z p0 h0 n0) := by
  refine own_in "java/lang/StringLatin1" rfl (plainFor_of_name pn_java_lang_StringLatin1) ?_
  intro p e s m below meth c s₁ Bd hml hZ hh hx hby hown X0 e0
  have N0 := Fr.nil n0
  have k0 := own_k (p := p) (e := e) (below := below) (T := s₁) (ef_2 m p0)
  refine own_out X0 Bd.notSynchronized Bd.returns (some (.int 1)) nofun (by decide) (by decide) ?_ fun fs hr => k0 _ ?_
  · rw [e0]; exact ⟨rfl, N0, rfl⟩
  · show OwnS p e below s₁ (mkF m 0 #[iv p0] []) _
    refine oIn X0 hx hby d2_0 rfl ?_
    refine XS.sipush X0.here hx rfl (hb hby d2_1) ?_
    refine XS.icmpNo X0.here hx rfl (hb hby d2_4) rfl (flt hle_p0).2.2.1 ?_
    refine oIc X0 hx hby d2_7 (oGo X0 hx hby 8 12 d2_8 (by decide) (by decide) ?_)
    exact retN X0 hx (t := .boolean) Bd.returns (by simp) (hb hby d2_12) hr
theorem d3_0 : decode jdk_43_method_46_code 0 = .ok (.iconst 1, 1) := by decide +kernel
theorem d3_1 : decode jdk_43_method_46_code 1 = .ok (.newarray .byte, 2) := by decide +kernel
theorem d3_3 : decode jdk_43_method_46_code 3 = .ok (.dup, 1) := by decide +kernel
theorem d3_4 : decode jdk_43_method_46_code 4 = .ok (.iconst 0, 1) := by decide +kernel
theorem d3_5 : decode jdk_43_method_46_code 5 = .ok (.iload_n 0, 1) := by decide +kernel
theorem d3_6 : decode jdk_43_method_46_code 6 = .ok (.i2b, 1) := by decide +kernel
theorem d3_7 : decode jdk_43_method_46_code 7 = .ok (.bastore, 1) := by decide +kernel
theorem d3_8 : decode jdk_43_method_46_code 8 = .ok (.areturn, 1) := by decide +kernel
theorem ef_3 (m : MethodId) (x0 : Int32) : entryFrame m #[(.int x0)] 1 = mkF m 0 #[.val (.int x0)] [] := by first | (simp [entryFrame, mkF, argsToLocals, Value.category]; done) | rfl
def Q_3 (Z : State) (p0 : Int32) (h0 : Heap) (n0 : Nat) (v : Option Value) (h : Heap) (L : List Loc) : Prop := ∃ ar : Addr, ∃ kk : ClassId, v = some (.ref ar) ∧ Fr n0 L ∧ Keep h0 h [] ∧ h0.size ≤ ar ∧ Arv Z h ar kk .byte (1 : Int32) [(.int ((p0.toInt8.toInt32).toInt8.toInt32))] (.int 0) ∧ Exa Z h ar "[B"
theorem rm3 (l : Launch) (Z : State) (a0 : Array Value) (hw : own_HW a0 Z) (ws : List Jvm.Cond) (p0 : Int32) (h0 : Heap) (n0 : Nat) (Z0 : n0 ≤ h0.size) :
    own_M l Z (⟨"java/lang/StringLatin1", "toBytes", "(C)[B"⟩ : MethodName) jdk_43_method_46_code 1 (some (.array .byte)) ws ({ frames := 0, cells := 1, slots := 1, locals := 0 } : Room) #[(.int p0)] h0 (Q_3 Z p0 h0 n0) := by
  refine own_in "java/lang/StringLatin1" rfl (plainFor_of_name pn_java_lang_StringLatin1) ?_
  intro p e s m below meth c s₁ Bd hml hZ hh hx hby hown X0 e0
  have N0 := Fr.nil n0
  have k0 := own_k (p := p) (e := e) (below := below) (T := s₁) (ef_3 m p0)
  obtain ⟨T1, h1, k1, X1, e1, E1, A1, EA1, st1⟩ := newPE X0 hx hZ (own_at hw 22 rfl) e0 (g := (mkF m 1 #[iv p0] [(.int 1)])) rfl (hb hby d3_1) rfl (by decide) (cap := 1) (by decide) (by decide) (by decide) (by decide) (ad := "[B") (by decide)
  obtain ⟨b1, g1⟩ : ∃ z, z = h0.size := ⟨_, rfl⟩
  rw [← g1] at A1 EA1 st1
  have g_b1 : n0 ≤ b1 := Nat.le_trans Z0 (Nat.le_of_eq g1.symm)
  have sz_b1 : h0.size ≤ b1 := Nat.le_trans (Keep.refl h0 []).1 (Nat.le_of_eq g1.symm)
  have V_b1 : Arv Z h1 b1 k1 .byte (1 : Int32) [(.int 0)] (.int 0) := (Arv.new A1 (by decide)).pad (pad_rep [] (.int 0) 1)
  obtain ⟨cl_z2, Ar_z2, q_z2, S_z2, N_z2, H_z2, G_z2⟩ := id V_b1
  have hin3 : ¬ ((0 : Int32) < 0 ∨ cl_z2.slots.size ≤ ((0 : Int32)).toNatClampNeg) := inb_of S_z2 ⟨by decide, by decide⟩
  obtain ⟨T4, h4, X4, e4, W4, st4⟩ := stB X1 hx hZ e1 Ar_z2 (j := (0 : Int32)) hin3 (g := (mkF m 7 #[iv p0] [(.int (p0.toInt8.toInt32)), (.int 0), (.ref b1), (.ref b1)])) rfl rfl (hb hby d3_7)
  have V4 : Arv Z h4 b1 k1 .byte (1 : Int32) [(.int ((p0.toInt8.toInt32).toInt8.toInt32))] (.int 0) := Arv.set Ar_z2 q_z2 S_z2 N_z2 H_z2 G_z2 (fits_nar_byte _) W4 0 rfl (Nat.le_of_ble_eq_true rfl)
  have N4 := Fr.snoc X4 N0 g_b1
  have f5 := (EA1.wr W4)
  refine own_out X4 Bd.notSynchronized Bd.returns (some (.ref b1)) nofun (by decide) (by decide) ?_ fun fs hr => k0 _ ?_
  · rw [e4]; exact ⟨b1, k1, rfl, N4, (((Keep.refl h0 []).ext E1).wr W4 (Or.inr sz_b1)), sz_b1, V4, f5⟩
  · show OwnS p e below s₁ (mkF m 0 #[iv p0] []) _
    refine oIc X0 hx hby d3_0 ?_
    refine st1 _ ?_
    refine XS.dup X1.here hx rfl (hb hby d3_3) rfl rfl ?_
    refine oIc X1 hx hby d3_4 (oIn X1 hx hby d3_5 rfl ?_)
    refine XS.i2b X1.here hx rfl (hb hby d3_6) rfl ?_
    refine st4 _ ?_
    jvm_step X4.here [X4.here.top, hx, (hb hby d3_8), X4.method', Bd.returns, Value.isRef, FieldType.isReference]
    first | (intro acts; rw [hr _ acts rfl rfl rfl]) | rw [hr _ _ rfl rfl rfl]
    exact Steps.refl _
theorem d4_0 : decode jdk_42_method_151_code 0 = .ok (.aload_n 0, 1) := by decide +kernel
theorem d4_1 : decode jdk_42_method_151_code 1 = .ok (.invokespecial 1, 3) := by decide +kernel
theorem d4_4 : decode jdk_42_method_151_code 4 = .ok (.aload_n 0, 1) := by decide +kernel
theorem d4_5 : decode jdk_42_method_151_code 5 = .ok (.aload_n 1, 1) := by decide +kernel
theorem d4_6 : decode jdk_42_method_151_code 6 = .ok (.putfield 9, 3) := by decide +kernel
theorem d4_9 : decode jdk_42_method_151_code 9 = .ok (.aload_n 0, 1) := by decide +kernel
theorem d4_10 : decode jdk_42_method_151_code 10 = .ok (.iload_n 2, 1) := by decide +kernel
theorem d4_11 : decode jdk_42_method_151_code 11 = .ok (.putfield 15, 3) := by decide +kernel
theorem d4_14 : decode jdk_42_method_151_code 14 = .ok (.return_, 1) := by decide +kernel
theorem pn_java_lang_String : plainName cS8 = true := by first | (simp [plainName, overriddenIn]; done) | decide +kernel
theorem ef_4 (m : MethodId) (x0 : Addr) (x1 : Addr) (x2 : Int32) : entryFrame m #[(.ref x0), (.ref x1), (.int x2)] 3 = mkF m 0 #[.val (.ref x0), .val (.ref x1), .val (.int x2)] [] := by first | (simp [entryFrame, mkF, argsToLocals, Value.category]; done) | rfl
def Q_4 (Z : State) (r0 r1 : Addr) (u_value_r0 u_coder_r0 : Value) (h0 : Heap) (n0 : Nat) (v : Option Value) (h : Heap) (L : List Loc) : Prop := v = none ∧ Fr n0 L ∧ Keep h0 h [r0] ∧ Exa Z h r0 cS8 ∧ Fld Z h r0 cS8 "coder" "B" (.int 0) ∧ Fld Z h r0 cS8 "value" "[B" (.ref r1) ∧ Fld Z h r0 cS8 "hash" "I" (.int 0) ∧ Fld Z h r0 cS8 "hashIsZero" "Z" (.int 0)
theorem rm4 (l : Launch) (Z : State) (a0 : Array Value) (hw : own_HW a0 Z) (ws : List Jvm.Cond) (r0 r1 : Addr) (u_value_r0 u_coder_r0 : Value) (h0 : Heap) (n0 : Nat) (Z0 : n0 ≤ h0.size) (E_r0 : Exa Z h0 r0 cS8) (F_hash_r0 : Fld Z h0 r0 cS8 "hash" "I" (.int 0)) (F_hashIsZero_r0 : Fld Z h0 r0 cS8 "hashIsZero" "Z" (.int 0)) (F_value_r0 : Fld Z h0 r0 cS8 "value" "[B" u_value_r0) (ge_r0 : n0 ≤ r0) (F_coder_r0 : Fld Z h0 r0 cS8 "coder" "B" u_coder_r0) :
    own_M l Z (⟨cS8, "<init>", "([BB)V"⟩ : MethodName) jdk_42_method_151_code 3 none ws ({ frames := 1, cells := 0, slots := 0, locals := 12 } : Room) #[(.ref r0), (.ref r1), (.int 0)] h0 (Q_4 Z r0 r1 u_value_r0 u_coder_r0 h0 n0) := by
  refine own_in cS8 rfl (plainFor_of_name pn_java_lang_String) ?_
  intro p e s m below meth c s₁ Bd hml hZ hh hx hby hown X0 e0
  have N0 := Fr.nil n0
  have hnm := (name_of_methodNamed Bd.named Bd.method).1
  have k0 := own_k (p := p) (e := e) (below := below) (T := s₁) (ef_4 m r0 r1 (0 : Int32))
  obtain ⟨T1, X1, e1, st1⟩ := initO X0 hx hZ hown (own_at hw 27 rfl) (own_at hw 28 rfl) (own_at hw 29 rfl) e0 (g := (mkF m 1 #[rv r0, rv r1, iv 0] [(.ref r0)])) rfl (by rw [hml]; rfl) rfl (hb hby d4_1) (by decide) (W := 0) (Nat.le_refl _) (by decide)
  obtain ⟨T2, h2, X2, e2, W2, st2⟩ := putF X1 hx hZ hown (host := "") (Or.inl (own_at hw 30 rfl)) Via.refl e1 F_value_r0 E_r0 (Or.inr ⟨(own_at hw 31 rfl), rfl, hnm⟩) (own_at hw 18 rfl) (ty := (.array .byte)) (by decide) rfl rfl (g := (mkF m 6 #[rv r0, rv r1, iv 0] [(.ref r1), (.ref r0)])) rfl rfl (hb hby d4_6)
  have Fw2 : Fld Z h2 r0 cS8 "value" "[B" (.ref r1) := F_value_r0.same W2
  have N2 := Fr.snoc X2 N0 ge_r0
  have f3 := (E_r0.wr W2)
  have f4 := (F_coder_r0.other W2 (Or.inr (slot_ne (Or.inr (own_at hw 33 rfl)) (Or.inr (own_at hw 31 rfl)) (by decide) (t := .byte) (t' := (.array .byte)) (by decide) (by decide))))
  obtain ⟨T5, h5, X5, e5, W5, st5⟩ := putFN X2 hx hZ hown (own_at hw 32 rfl) Via.refl e2 f4 f3 (Or.inr ⟨(own_at hw 33 rfl), rfl, hnm⟩) (own_at hw 18 rfl) (ty := .byte) (v' := (.int 0)) (by decide) rfl rfl (g := (mkF m 11 #[rv r0, rv r1, iv 0] [(.int 0), (.ref r0)])) rfl rfl (hb hby d4_11)
  have Fw5 : Fld Z h5 r0 cS8 "coder" "B" (.int 0) := f4.same W5
  have N5 := Fr.snoc X5 N2 ge_r0
  have f6 := (f3.wr W5)
  have f7 := (Fw2.other W5 (Or.inr (slot_ne (Or.inr (own_at hw 31 rfl)) (Or.inr (own_at hw 33 rfl)) (by decide) (t := (.array .byte)) (t' := .byte) (by decide) (by decide))))
  have f8 := ((F_hash_r0.other W2 (Or.inr (slot_ne (Or.inl (own_at hw 87 rfl)) (Or.inr (own_at hw 31 rfl)) (by decide) (t := .int) (t' := (.array .byte)) (by decide) (by decide)))).other W5 (Or.inr (slot_ne (Or.inl (own_at hw 87 rfl)) (Or.inr (own_at hw 33 rfl)) (by decide) (t := .int) (t' := .byte) (by decide) (by decide))))
  have f9 := ((F_hashIsZero_r0.other W2 (Or.inr (slot_ne (Or.inl (own_at hw 89 rfl)) (Or.inr (own_at hw 31 rfl)) (by decide) (t := .boolean) (t' := (.array .byte)) (by decide) (by decide)))).other W5 (Or.inr (slot_ne (Or.inl (own_at hw 89 rfl)) (Or.inr (own_at hw 33 rfl)) (by decide) (t := .boolean) (t' := .byte) (by decide) (by decide))))
  refine own_out X5 Bd.notSynchronized Bd.returns (none) (fun _ => rfl) (by decide) (by decide) ?_ fun fs hr => k0 _ ?_
  · rw [e5]; exact ⟨rfl, N5, (((Keep.refl h0 [r0]).wr W2 (Or.inl (List.mem_of_getElem? (i := 0) rfl))).wr W5 (Or.inl (List.mem_of_getElem? (i := 0) rfl))), f6, Fw5, f7, f8, f9⟩
  · show OwnS p e below s₁ (mkF m 0 #[rv r0, rv r1, iv 0] []) _
    refine oAn X0 hx hby d4_0 rfl rfl ?_
    refine st1 _ ?_
    refine oAn X1 hx hby d4_4 rfl rfl (oAn X1 hx hby d4_5 rfl rfl ?_)
    refine st2 _ ?_
    refine oAn X2 hx hby d4_9 rfl rfl (oIn X2 hx hby d4_10 rfl ?_)
    refine st5 _ ?_
    exact X5.returnOut hx Bd.returns (hb hby d4_14) hr
theorem pd_0 : parseMethodDescriptor "(C)Z" = some ⟨[.char], some .boolean⟩ := by decide +kernel
theorem pd_1 : parseMethodDescriptor "(C)[B" = some ⟨[.char], some (.array .byte)⟩ := by decide +kernel
theorem pd_2 : parseMethodDescriptor "([BB)V" = some ⟨[(.array .byte), .byte], none⟩ := by decide +kernel
theorem d1_0 : decode jdk_42_method_139_code 0 = .ok (.getstatic 38, 3) := by decide +kernel
theorem d1_3 : decode jdk_42_method_139_code 3 = .ok (.ifCond .eq 23, 3) := by decide +kernel
theorem d1_6 : decode jdk_42_method_139_code 6 = .ok (.iload_n 0, 1) := by decide +kernel
theorem d1_7 : decode jdk_42_method_139_code 7 = .ok (.invokestatic 1015, 3) := by decide +kernel
theorem d1_10 : decode jdk_42_method_139_code 10 = .ok (.ifCond .eq 16, 3) := by decide +kernel
theorem d1_13 : decode jdk_42_method_139_code 13 = .ok (.new 10, 3) := by decide +kernel
theorem d1_16 : decode jdk_42_method_139_code 16 = .ok (.dup, 1) := by decide +kernel
theorem d1_17 : decode jdk_42_method_139_code 17 = .ok (.iload_n 0, 1) := by decide +kernel
theorem d1_18 : decode jdk_42_method_139_code 18 = .ok (.invokestatic 1018, 3) := by decide +kernel
theorem d1_21 : decode jdk_42_method_139_code 21 = .ok (.iconst 0, 1) := by decide +kernel
theorem d1_22 : decode jdk_42_method_139_code 22 = .ok (.invokespecial 209, 3) := by decide +kernel
theorem d1_25 : decode jdk_42_method_139_code 25 = .ok (.areturn, 1) := by decide +kernel
theorem ef_1 (m : MethodId) (x0 : Int32) : entryFrame m #[(.int x0)] 1 = mkF m 0 #[.val (.int x0)] [] := by first | (simp [entryFrame, mkF, argsToLocals, Value.category]; done) | rfl
def Q_1 (Z : State) (p0 w_CS : Int32) (h0 : Heap) (n0 : Nat) (v : Option Value) (h : Heap) (L : List Loc) : Prop := ∃ ob : Addr, ∃ ar : Addr, ∃ kk : ClassId, v = some (.ref ob) ∧ Fr n0 L ∧ Keep h0 h [] ∧ h0.size ≤ ob ∧ h0.size ≤ ar ∧ ar ≠ ob ∧ Exa Z h ob cS8 ∧ Fld Z h ob cS8 "coder" "B" (.int 0) ∧ Fld Z h ob cS8 "value" "[B" (.ref ar) ∧ Fld Z h ob cS8 "hash" "I" (.int 0) ∧ Fld Z h ob cS8 "hashIsZero" "Z" (.int 0) ∧ Arv Z h ar kk .byte (1 : Int32) [(.int ((p0.toInt8.toInt32).toInt8.toInt32))] (.int 0)
theorem rm1 (l : Launch) (Z : State) (a0 : Array Value) (hw : own_HW a0 Z) (ws : List Jvm.Cond) (p0 w_CS : Int32) (h0 : Heap) (n0 : Nat) (Z0 : n0 ≤ h0.size) (S_CS : Sta Z h0 cS8 "COMPACT_STRINGS" "Z" (.int w_CS)) (hcs : ¬ (w_CS = (0 : Int32))) (hle_p0 : ¬ ((255 : Int32) < p0)) :
    own_M l Z (⟨cS8, "valueOf", "(C)Ljava/lang/String;"⟩ : MethodName) jdk_42_method_139_code 1 (some (.object cS8)) ws ({ frames := 2, cells := 2, slots := 5, locals := 27 } : Room) #[(.int p0)] h0 (Q_1 Z p0 w_CS h0 n0) := by
  refine own_in cS8 rfl (plainFor_of_name pn_java_lang_String) ?_
  intro p e s m below meth c s₁ Bd hml hZ hh hx hby hown X0 e0
  have N0 := Fr.nil n0
  have k0 := own_k (p := p) (e := e) (below := below) (T := s₁) (ef_1 m p0)
  obtain ⟨T1, X1, e1, st1⟩ := getS2 X0 hx hZ hown (host := "") (Or.inl (own_at hw 12 rfl)) Via.refl e0 S_CS (g := (mkF m 0 #[iv p0] [])) rfl (hb hby d1_0)
  obtain ⟨_, T2, L2, X2, hQ2, st2⟩ := own_cS 0 (rm2 l Z a0 hw [] p0 h0 n0 Z0 hle_p0) X1 hx hZ hown hw 13 14 15 16 rfl rfl rfl rfl 7 #[iv p0] [(.int p0)] [] (hb hby d1_7) hml (lenOf pd_0 rfl) e1 rfl (Nat.le_refl _) (by decide)
  obtain ⟨rfl, N2q, e2⟩ := hQ2
  have N2 := Fr.app N0 N2q
  obtain ⟨T3, h3, X3, e3, E3, A3, D3, -, st3⟩ := newO X2 hx hZ hown (own_at hw 17 rfl) (own_at hw 18 rfl) (own_at hw 10 rfl) e2 (g := (mkF m 13 #[iv p0] [])) rfl (hb hby d1_13) (by decide) (by decide)
  obtain ⟨b3, g3⟩ : ∃ z, z = h0.size := ⟨_, rfl⟩
  rw [← g3] at A3 D3 st3
  have g_b3 : n0 ≤ b3 := Nat.le_trans Z0 (Nat.le_of_eq g3.symm)
  have sz_b3 : h0.size ≤ b3 := Nat.le_trans (Keep.refl h0 []).1 (Nat.le_of_eq g3.symm)
  have F_value_b3 : Fld Z h3 b3 cS8 "value" "[B" .null := D3 (Or.inr (own_at hw 31 rfl)) (ty := (.array .byte)) (by decide)
  have F_coder_b3 : Fld Z h3 b3 cS8 "coder" "B" (.int 0) := D3 (Or.inr (own_at hw 33 rfl)) (ty := .byte) (by decide)
  have F_hash_b3 : Fld Z h3 b3 cS8 "hash" "I" (.int 0) := D3 (Or.inl (own_at hw 87 rfl)) (ty := .int) (by decide)
  have F_hashIsZero_b3 : Fld Z h3 b3 cS8 "hashIsZero" "Z" (.int 0) := D3 (Or.inl (own_at hw 89 rfl)) (ty := .boolean) (by decide)
  obtain ⟨_, T4, L4, X4, hQ4, st4⟩ := own_cS 2 (rm3 l Z a0 hw [] p0 h3 n0 (Nat.le_trans Z0 E3.1) ) X3 hx hZ hown hw 19 20 15 21 rfl rfl rfl rfl 18 #[iv p0] [(.int p0)] [(.ref b3), (.ref b3)] (hb hby d1_18) hml (lenOf pd_1 rfl) e3 rfl (Nat.le_refl _) (by decide)
  obtain ⟨ar_4, kk_4, rfl, N4q, K4, p4_0, p4_1, p4_2⟩ := hQ4
  have g_ar_4 : n0 ≤ ar_4 := Nat.le_trans (Nat.le_trans Z0 E3.1) p4_0
  have sz_ar_4 : h0.size ≤ ar_4 := Nat.le_trans ((Keep.refl h0 []).ext E3).1 p4_0
  have N4 := Fr.app N2 N4q
  have f6 := (A3.keep K4)
  have f7 := (F_hash_b3.keep K4 nin0)
  have f8 := (F_hashIsZero_b3.keep K4 nin0)
  have f9 := (F_value_b3.keep K4 nin0)
  have f10 := (F_coder_b3.keep K4 nin0)
  obtain ⟨_, _, ⟨T5, L5, j5, i5⟩, -, X5, ⟨Lc5, hQ5, l5, y5, z5⟩, st5⟩ := X4.specialBack hx (y := (⟨cS8, "<init>", "([BB)V"⟩ : MethodName)) rfl hown (mvT hZ (own_at hw 23 rfl)) (mvT hZ (own_at hw 24 rfl)) (mvT hZ (own_at hw 26 rfl)) (by decide) (backOf (W := 1) (rm4 l Z a0 hw [] b3 ar_4 .null (.int 0) T4.heap n0 (Nat.le_trans (Nat.le_trans Z0 E3.1) K4.1) f6 f7 f8 f9 g_b3 f10) hZ (own_at hw 26 rfl) (own_at hw 10 rfl) (by decide) (by decide)) (g := (mkF m 22 #[iv p0] [(.int 0), (.ref ar_4), (.ref b3), (.ref b3)])) rfl (by rw [hml]; rfl) (Steps.refl _) (a := b3) (argsL := [(.ref ar_4), (.int 0)]) (rest := [(.ref b3)]) (lenOf pd_2 rfl) rfl (Nat.le_refl _) (hb hby d1_22) (fun _ _ => ⟨rfl, rfl, (by decide : 2 + 0 ≤ _), (by decide : 5 + 0 ≤ _)⟩)
  dsimp only [Pt.U, Pt.locs, Pt.cells, Pt.slots] at X5 l5 y5 z5 st5 hQ5
  subst l5 y5 z5
  obtain ⟨rfl, N5q, K5, p5_0, p5_1, p5_2, p5_3, p5_4⟩ := hQ5
  have pl5 := (allS (P := fun x => ∃ cell : Cell, T4.heap[x]? = some cell ∧ cell.vm.isStatics = false) (own_ns f6) all0)
  have N5 := Fr.app N4 N5q
  have f11 := (p4_1.keep K5 (ninS (Ne.symm (Nat.ne_of_lt (Nat.lt_of_lt_of_le A3.lt p4_0))) nin0))
  refine own_out X5 Bd.notSynchronized Bd.returns (some (.ref b3)) nofun (by decide) (by decide) ?_ fun fs hr => k0 _ ?_
  · exact ⟨b3, ar_4, kk_4, rfl, N5, ((((Keep.refl h0 []).ext E3).trans K4 all0).trans K5 (allS (Or.inr sz_b3) all0)), sz_b3, sz_ar_4, (Ne.symm (Nat.ne_of_lt (Nat.lt_of_lt_of_le A3.lt p4_0))), p5_0, p5_1, p5_2, p5_3, p5_4, f11⟩
  · show OwnS p e below s₁ (mkF m 0 #[iv p0] []) _
    refine st1 _ ?_
    refine XS.ifNo X1.here hx rfl (hb hby d1_3) rfl ((if0 _ _).trans (feq hcs).1) ?_
    refine oIn X1 hx hby d1_6 rfl ?_
    refine st2 _ ?_
    refine XS.ifNo X2.here hx rfl (hb hby d1_10) rfl ((if0 _ _).trans (feq (by decide : ¬ ((1 : Int32) = (0 : Int32)))).1) ?_
    refine st3 _ ?_
    refine XS.dup X3.here hx rfl (hb hby d1_16) rfl rfl ?_
    refine oIn X3 hx hby d1_17 rfl ?_
    refine st4 _ ?_
    refine oIc X4 hx hby d1_21 ?_
    refine st5.trans ?_
    jvm_step X5.here [X5.here.top, hx, (hb hby d1_25), X5.method', Bd.returns, Value.isRef, FieldType.isReference]
    first | (intro acts; rw [hr _ acts rfl rfl rfl]) | rw [hr _ _ rfl rfl rfl]
    exact Steps.refl _
theorem d13_0 : decode jdk_42_method_154_code 0 = .ok (.getstatic 38, 3) := by decide +kernel
theorem d13_3 : decode jdk_42_method_154_code 3 = .ok (.ifCond .eq 14, 3) := by decide +kernel
theorem d13_6 : decode jdk_42_method_154_code 6 = .ok (.aload_n 0, 1) := by decide +kernel
theorem d13_7 : decode jdk_42_method_154_code 7 = .ok (.getfield 15, 3) := by decide +kernel
theorem d13_10 : decode jdk_42_method_154_code 10 = .ok (.ifCond .ne 7, 3) := by decide +kernel
theorem d13_13 : decode jdk_42_method_154_code 13 = .ok (.iconst 1, 1) := by decide +kernel
theorem d13_14 : decode jdk_42_method_154_code 14 = .ok (.goto 4, 3) := by decide +kernel
theorem d13_18 : decode jdk_42_method_154_code 18 = .ok (.ireturn, 1) := by decide +kernel
theorem ef_13 (m : MethodId) (x0 : Addr) : entryFrame m #[(.ref x0)] 1 = mkF m 0 #[.val (.ref x0)] [] := by first | (simp [entryFrame, mkF, argsToLocals, Value.category]; done) | rfl
def Q_13 (Z : State) (r0 : Addr) (w_CS : Int32) (h0 : Heap) (n0 : Nat) (v : Option Value) (h : Heap) (L : List Loc) : Prop := v = some (.int 1) ∧ Fr n0 L ∧ h = h0
theorem rm13 (l : Launch) (Z : State) (a0 : Array Value) (hw : own_HW a0 Z) (ws : List Jvm.Cond) (r0 : Addr) (w_CS : Int32) (h0 : Heap) (n0 : Nat) (Z0 : n0 ≤ h0.size) (S_CS : Sta Z h0 cS8 "COMPACT_STRINGS" "Z" (.int w_CS)) (hcs : ¬ (w_CS = (0 : Int32))) (F_coder_r0 : Fld Z h0 r0 cS8 "coder" "B" (.int 0)) :
    own_M l Z (⟨cS8, "isLatin1", "()Z"⟩ : MethodName) jdk_42_method_154_code 1 (some .boolean) ws ({ frames := 0, cells := 0, slots := 0, locals := 0 } : Room) #[(.ref r0)] h0 (Q_13 Z r0 w_CS h0 n0) := by
  refine own_in cS8 rfl (plainFor_of_name pn_java_lang_String) ?_
  intro p e s m below meth c s₁ Bd hml hZ hh hx hby hown X0 e0
  have N0 := Fr.nil n0
  have k0 := own_k (p := p) (e := e) (below := below) (T := s₁) (ef_13 m r0)
  obtain ⟨T1, X1, e1, st1⟩ := getS2 X0 hx hZ hown (host := "") (Or.inl (own_at hw 12 rfl)) Via.refl e0 S_CS (g := (mkF m 0 #[rv r0] [])) rfl (hb hby d13_0)
  obtain ⟨T2, X2, e2, st2⟩ := getF X1 hx hZ hown (host := "") (Or.inl (own_at hw 32 rfl)) Via.refl e1 F_coder_r0 (g := (mkF m 7 #[rv r0] [(.ref r0)])) rfl rfl (hb hby d13_7)
  refine own_out X2 Bd.notSynchronized Bd.returns (some (.int 1)) nofun (by decide) (by decide) ?_ fun fs hr => k0 _ ?_
  · rw [e2]; exact ⟨rfl, N0, rfl⟩
  · show OwnS p e below s₁ (mkF m 0 #[rv r0] []) _
    refine st1 _ ?_
    refine XS.ifNo X1.here hx rfl (hb hby d13_3) rfl ((if0 _ _).trans (feq hcs).1) ?_
    refine oAn X1 hx hby d13_6 rfl rfl ?_
    refine st2 _ ?_
    refine XS.ifNo X2.here hx rfl (hb hby d13_10) rfl ((if0 _ _).trans (teq (by decide : (0 : Int32) = (0 : Int32))).2) ?_
    refine oIc X2 hx hby d13_13 (oGo X2 hx hby 14 18 d13_14 (by decide) (by decide) ?_)
    exact retN X2 hx (t := .boolean) Bd.returns (by simp) (hb hby d13_18) hr
theorem d14_0 : decode jdk_43_method_21_code 0 = .ok (.aload_n 0, 1) := by decide +kernel
theorem d14_1 : decode jdk_43_method_21_code 1 = .ok (.arraylength, 1) := by decide +kernel
theorem d14_2 : decode jdk_43_method_21_code 2 = .ok (.lookupswitch 40 #[(0, 26), (1, 30)], 26) := by decide +kernel
theorem d14_32 : decode jdk_43_method_21_code 32 = .ok (.aload_n 0, 1) := by decide +kernel
theorem d14_33 : decode jdk_43_method_21_code 33 = .ok (.iconst 0, 1) := by decide +kernel
theorem d14_34 : decode jdk_43_method_21_code 34 = .ok (.baload, 1) := by decide +kernel
theorem d14_35 : decode jdk_43_method_21_code 35 = .ok (.sipush 255, 3) := by decide +kernel
theorem d14_38 : decode jdk_43_method_21_code 38 = .ok (.iand, 1) := by decide +kernel
theorem d14_39 : decode jdk_43_method_21_code 39 = .ok (.goto 12, 3) := by decide +kernel
theorem d14_51 : decode jdk_43_method_21_code 51 = .ok (.ireturn, 1) := by decide +kernel
theorem ef_14 (m : MethodId) (x0 : Addr) : entryFrame m #[(.ref x0)] 1 = mkF m 0 #[.val (.ref x0)] [] := by first | (simp [entryFrame, mkF, argsToLocals, Value.category]; done) | rfl
def Q_14 (Z : State) (r0 : Addr) (kB : ClassId) (x0 : Int32) (h0 : Heap) (n0 : Nat) (v : Option Value) (h : Heap) (L : List Loc) : Prop := v = some (.int (x0 &&& (255 : Int32))) ∧ Fr n0 L ∧ h = h0
theorem rm14 (l : Launch) (Z : State) (a0 : Array Value) (hw : own_HW a0 Z) (ws : List Jvm.Cond) (r0 : Addr) (kB : ClassId) (x0 : Int32) (h0 : Heap) (n0 : Nat) (Z0 : n0 ≤ h0.size) (V_r0 : Arv Z h0 r0 kB .byte (1 : Int32) [(.int x0)] (.int 0)) :
    own_M l Z (⟨"java/lang/StringLatin1", "hashCode", "([B)I"⟩ : MethodName) jdk_43_method_21_code 1 (some .int) ws ({ frames := 0, cells := 0, slots := 0, locals := 0 } : Room) #[(.ref r0)] h0 (Q_14 Z r0 kB x0 h0 n0) := by
  refine own_in "java/lang/StringLatin1" rfl (plainFor_of_name pn_java_lang_StringLatin1) ?_
  intro p e s m below meth c s₁ Bd hml hZ hh hx hby hown X0 e0
  have N0 := Fr.nil n0
  have k0 := own_k (p := p) (e := e) (below := below) (T := s₁) (ef_14 m r0)
  obtain ⟨cl_z1, Ar_z1, q_z1, S_z1, N_z1, H_z1, G_z1⟩ := id V_r0
  have hin2 : ¬ ((0 : Int32) < 0 ∨ cl_z1.slots.size ≤ ((0 : Int32)).toNatClampNeg) := inb_of S_z1 ⟨by decide, by decide⟩
  refine own_out X0 Bd.notSynchronized Bd.returns (some (.int (x0 &&& (255 : Int32)))) nofun (by decide) (by decide) ?_ fun fs hr => k0 _ ?_
  · rw [e0]; exact ⟨rfl, N0, rfl⟩
  · show OwnS p e below s₁ (mkF m 0 #[rv r0] []) _
    refine oAn X0 hx hby d14_0 rfl rfl ?_
    refine X0.arraylength hx (by rw [e0]; exact Ar_z1.1) (State.isArrayOf_alike hZ.alike Ar_z1.2.1) (g := (mkF m 1 #[rv r0] [(.ref r0)])) rfl rfl (hb hby d14_1) _ ?_
    rw [len_of S_z1 N_z1]
    refine X0.lookupswitchHit hx (g := (mkF m 2 #[rv r0] [(.int 1)])) rfl rfl (hb hby d14_2) (by decide) (a := 1) (off := 30) (by decide +kernel) (by show (0 : Int) ≤ ((2 : Nat) : Int) + 30; decide) _ ?_
    show OwnS p e below s₁ (mkF m 32 #[rv r0] []) _
    refine oAn X0 hx hby d14_32 rfl rfl (oIc X0 hx hby d14_33 ?_)
    refine X0.baloadBytes hx (j := (0 : Int32)) (v := (.int x0)) (by rw [e0]; exact Ar_z1.1) (State.isArrayOf_alike hZ.alike Ar_z1.2.1) Ar_z1.2.2 hin2 (Has.at H_z1 hin2 rfl) (g := (mkF m 34 #[rv r0] [(.int 0), (.ref r0)])) rfl rfl (hb hby d14_34) _ ?_
    refine XS.sipush X0.here hx rfl (hb hby d14_35) ?_
    refine XS.iand X0.here hx rfl (hb hby d14_38) rfl ?_
    refine oGo X0 hx hby 39 51 d14_39 (by decide) (by decide) ?_
    exact retI X0 hx Bd.returns (hb hby d14_51) hr
theorem pd_3 : parseMethodDescriptor "()Z" = some ⟨[], some .boolean⟩ := by decide +kernel
theorem pd_4 : parseMethodDescriptor "([B)I" = some ⟨[(.array .byte)], some .int⟩ := by decide +kernel
theorem d12_0 : decode jdk_42_method_78_code 0 = .ok (.aload_n 0, 1) := by decide +kernel
theorem d12_1 : decode jdk_42_method_78_code 1 = .ok (.getfield 19, 3) := by decide +kernel
theorem d12_4 : decode jdk_42_method_78_code 4 = .ok (.istore_n 1, 1) := by decide +kernel
theorem d12_5 : decode jdk_42_method_78_code 5 = .ok (.iload_n 1, 1) := by decide +kernel
theorem d12_6 : decode jdk_42_method_78_code 6 = .ok (.ifCond .ne 52, 3) := by decide +kernel
theorem d12_9 : decode jdk_42_method_78_code 9 = .ok (.aload_n 0, 1) := by decide +kernel
theorem d12_10 : decode jdk_42_method_78_code 10 = .ok (.getfield 23, 3) := by decide +kernel
theorem d12_13 : decode jdk_42_method_78_code 13 = .ok (.ifCond .ne 45, 3) := by decide +kernel
theorem d12_16 : decode jdk_42_method_78_code 16 = .ok (.aload_n 0, 1) := by decide +kernel
theorem d12_17 : decode jdk_42_method_78_code 17 = .ok (.invokevirtual 492, 3) := by decide +kernel
theorem d12_20 : decode jdk_42_method_78_code 20 = .ok (.ifCond .eq 13, 3) := by decide +kernel
theorem d12_23 : decode jdk_42_method_78_code 23 = .ok (.aload_n 0, 1) := by decide +kernel
theorem d12_24 : decode jdk_42_method_78_code 24 = .ok (.getfield 9, 3) := by decide +kernel
theorem d12_27 : decode jdk_42_method_78_code 27 = .ok (.invokestatic 628, 3) := by decide +kernel
theorem d12_30 : decode jdk_42_method_78_code 30 = .ok (.goto 10, 3) := by decide +kernel
theorem d12_40 : decode jdk_42_method_78_code 40 = .ok (.istore_n 1, 1) := by decide +kernel
theorem d12_41 : decode jdk_42_method_78_code 41 = .ok (.iload_n 1, 1) := by decide +kernel
theorem d12_42 : decode jdk_42_method_78_code 42 = .ok (.ifCond .ne 11, 3) := by decide +kernel
theorem d12_45 : decode jdk_42_method_78_code 45 = .ok (.aload_n 0, 1) := by decide +kernel
theorem d12_46 : decode jdk_42_method_78_code 46 = .ok (.iconst 1, 1) := by decide +kernel
theorem d12_47 : decode jdk_42_method_78_code 47 = .ok (.putfield 23, 3) := by decide +kernel
theorem d12_50 : decode jdk_42_method_78_code 50 = .ok (.goto 8, 3) := by decide +kernel
theorem d12_53 : decode jdk_42_method_78_code 53 = .ok (.aload_n 0, 1) := by decide +kernel
theorem d12_54 : decode jdk_42_method_78_code 54 = .ok (.iload_n 1, 1) := by decide +kernel
theorem d12_55 : decode jdk_42_method_78_code 55 = .ok (.putfield 19, 3) := by decide +kernel
theorem d12_58 : decode jdk_42_method_78_code 58 = .ok (.iload_n 1, 1) := by decide +kernel
theorem d12_59 : decode jdk_42_method_78_code 59 = .ok (.ireturn, 1) := by decide +kernel
theorem ef_12 (m : MethodId) (x0 : Addr) : entryFrame m #[(.ref x0)] 2 = mkF m 0 #[.val (.ref x0), .unset] [] := by first | (simp [entryFrame, mkF, argsToLocals, Value.category]; done) | rfl
def Q_12 (Z : State) (r0 : Addr) (w_CS : Int32) (va : Addr) (kB : ClassId) (x0 : Int32) (h0 : Heap) (n0 : Nat) (v : Option Value) (h : Heap) (L : List Loc) : Prop := v = some (.int (x0 &&& (255 : Int32))) ∧ Fr n0 L ∧ Keep h0 h [r0] ∧ Exa Z h r0 cS8
theorem rm12 (l : Launch) (Z : State) (a0 : Array Value) (hw : own_HW a0 Z) (ws : List Jvm.Cond) (r0 : Addr) (w_CS : Int32) (va : Addr) (kB : ClassId) (x0 : Int32) (h0 : Heap) (n0 : Nat) (Z0 : n0 ≤ h0.size) (S_CS : Sta Z h0 cS8 "COMPACT_STRINGS" "Z" (.int w_CS)) (hcs : ¬ (w_CS = (0 : Int32))) (E_r0 : Exa Z h0 r0 cS8) (F_coder_r0 : Fld Z h0 r0 cS8 "coder" "B" (.int 0)) (F_value_r0 : Fld Z h0 r0 cS8 "value" "[B" (.ref va)) (F_hash_r0 : Fld Z h0 r0 cS8 "hash" "I" (.int 0)) (F_hashIsZero_r0 : Fld Z h0 r0 cS8 "hashIsZero" "Z" (.int 0)) (V_va : Arv Z h0 va kB .byte (1 : Int32) [(.int x0)] (.int 0)) (ge_r0 : n0 ≤ r0) :
    own_M l Z (⟨cS8, "hashCode", "()I"⟩ : MethodName) jdk_42_method_78_code 2 (some .int) ws ({ frames := 1, cells := 0, slots := 0, locals := 12 } : Room) #[(.ref r0)] h0 (Q_12 Z r0 w_CS va kB x0 h0 n0) := by
  refine own_in cS8 rfl (plainFor_of_name pn_java_lang_String) ?_
  intro p e s m below meth c s₁ Bd hml hZ hh hx hby hown X0 e0
  have N0 := Fr.nil n0
  have k0 := own_k (p := p) (e := e) (below := below) (T := s₁) (ef_12 m r0)
  obtain ⟨T1, X1, e1, st1⟩ := getF X0 hx hZ hown (host := "") (Or.inl (own_at hw 86 rfl)) Via.refl e0 F_hash_r0 (g := (mkF m 1 #[rv r0, .unset] [(.ref r0)])) rfl rfl (hb hby d12_1)
  obtain ⟨T2, X2, e2, st2⟩ := getF X1 hx hZ hown (host := "") (Or.inl (own_at hw 88 rfl)) Via.refl e1 F_hashIsZero_r0 (g := (mkF m 10 #[rv r0, iv 0] [(.ref r0)])) rfl rfl (hb hby d12_10)
  obtain ⟨_, T3, L3, X3, hQ3, st3⟩ := own_cV 0 (rm13 l Z a0 hw [] r0 w_CS h0 n0 Z0 S_CS hcs F_coder_r0) X2 hx hZ hown hw 90 91 93 92 10 94 rfl rfl rfl rfl rfl rfl r0 E_r0 17 #[rv r0, iv 0] [] [] (hb hby d12_17) hml (lenOf pd_3 rfl) e2 rfl (Nat.le_refl _) (by decide)
  obtain ⟨rfl, N3q, e3⟩ := hQ3
  have N3 := Fr.app N0 N3q
  obtain ⟨T4, X4, e4, st4⟩ := getF X3 hx hZ hown (host := "") (Or.inl (own_at hw 30 rfl)) Via.refl e3 F_value_r0 (g := (mkF m 24 #[rv r0, iv 0] [(.ref r0)])) rfl rfl (hb hby d12_24)
  obtain ⟨_, T5, L5, X5, hQ5, st5⟩ := own_cS 0 (rm14 l Z a0 hw [] va kB x0 h0 n0 Z0 V_va) X4 hx hZ hown hw 95 96 15 97 rfl rfl rfl rfl 27 #[rv r0, iv 0] [(.ref va)] [] (hb hby d12_27) hml (lenOf pd_4 rfl) e4 rfl (Nat.le_refl _) (by decide)
  obtain ⟨rfl, N5q, e5⟩ := hQ5
  have N5 := Fr.app N3 N5q
  have k7 : ∀ t, OwnS p e below T5 (mkF m 42 #[rv r0, iv (x0 &&& (255 : Int32))] [(.int (x0 &&& (255 : Int32)))]) t → OwnS p e below s₁ (entryFrame m #[(.ref r0)] 2) t := fun t q => by
   refine k0 t ?_
   show OwnS p e below s₁ (mkF m 0 #[rv r0, .unset] []) _
   refine oAn X0 hx hby d12_0 rfl rfl ?_
   refine st1 _ ?_
   refine XS.istoreN X1.here hx rfl (hb hby d12_4) rfl (l' := #[rv r0, iv 0]) rfl ?_
   refine oIn X1 hx hby d12_5 rfl ?_
   refine XS.ifNo X1.here hx rfl (hb hby d12_6) rfl ((if0 _ _).trans (teq (by decide : (0 : Int32) = (0 : Int32))).2) ?_
   refine oAn X1 hx hby d12_9 rfl rfl ?_
   refine st2 _ ?_
   refine XS.ifNo X2.here hx rfl (hb hby d12_13) rfl ((if0 _ _).trans (teq (by decide : (0 : Int32) = (0 : Int32))).2) ?_
   refine oAn X2 hx hby d12_16 rfl rfl ?_
   refine st3 _ ?_
   refine XS.ifNo X3.here hx rfl (hb hby d12_20) rfl ((if0 _ _).trans (feq (by decide : ¬ ((1 : Int32) = (0 : Int32)))).1) ?_
   refine oAn X3 hx hby d12_23 rfl rfl ?_
   refine st4 _ ?_
   refine st5 _ ?_
   refine oGo X5 hx hby 30 40 d12_30 (by decide) (by decide) ?_
   refine XS.istoreN X5.here hx rfl (hb hby d12_40) rfl (l' := #[rv r0, iv (x0 &&& (255 : Int32))]) rfl ?_
   refine oIn X5 hx hby d12_41 rfl ?_
   exact q
  by_cases hc42_6 : (x0 &&& (255 : Int32)) = (0 : Int32)
  · obtain ⟨T8, h8, X8, e8, W8, st8⟩ := putFN X5 hx hZ hown (own_at hw 88 rfl) Via.refl e5 F_hashIsZero_r0 E_r0 (Or.inl (own_at hw 89 rfl)) (own_at hw 18 rfl) (ty := .boolean) (v' := (.int 1)) (by decide) rfl rfl (g := (mkF m 47 #[rv r0, iv (x0 &&& (255 : Int32))] [(.int 1), (.ref r0)])) rfl rfl (hb hby d12_47)
    have Fw8 : Fld Z h8 r0 cS8 "hashIsZero" "Z" (.int 1) := F_hashIsZero_r0.same W8
    have N8 := Fr.snoc X8 N5 ge_r0
    have f9 := (E_r0.wr W8)
    refine own_out X8 Bd.notSynchronized Bd.returns (some (.int (x0 &&& (255 : Int32)))) nofun (by decide) (by decide) ?_ fun fs hr => k7 _ ?_
    · rw [e8]; exact ⟨rfl, N8, ((Keep.refl h0 [r0]).wr W8 (Or.inl (List.mem_of_getElem? (i := 0) rfl))), f9⟩
    · refine XS.ifNo X5.here hx rfl (hb hby d12_42) rfl ((if0 _ _).trans (teq hc42_6).2) ?_
      refine oAn X5 hx hby d12_45 rfl rfl (oIc X5 hx hby d12_46 ?_)
      refine st8 _ ?_
      refine oGo X8 hx hby 50 58 d12_50 (by decide) (by decide) (oIn X8 hx hby d12_58 rfl ?_)
      exact retI X8 hx Bd.returns (hb hby d12_59) hr
  · obtain ⟨T10, h10, X10, e10, W10, st10⟩ := putF X5 hx hZ hown (host := "") (Or.inl (own_at hw 86 rfl)) Via.refl e5 F_hash_r0 E_r0 (Or.inl (own_at hw 87 rfl)) (own_at hw 18 rfl) (ty := .int) (by decide) rfl rfl (g := (mkF m 55 #[rv r0, iv (x0 &&& (255 : Int32))] [(.int (x0 &&& (255 : Int32))), (.ref r0)])) rfl rfl (hb hby d12_55)
    have Fw10 : Fld Z h10 r0 cS8 "hash" "I" (.int (x0 &&& (255 : Int32))) := F_hash_r0.same W10
    have N10 := Fr.snoc X10 N5 ge_r0
    have f11 := (E_r0.wr W10)
    refine own_out X10 Bd.notSynchronized Bd.returns (some (.int (x0 &&& (255 : Int32)))) nofun (by decide) (by decide) ?_ fun fs hr => k7 _ ?_
    · rw [e10]; exact ⟨rfl, N10, ((Keep.refl h0 [r0]).wr W10 (Or.inl (List.mem_of_getElem? (i := 0) rfl))), f11⟩
    · refine XS.ifYes X5.here hx rfl (pc0 := 42) (pc' := 53) rfl (hb hby d12_42) rfl ((if0 _ _).trans (feq hc42_6).2) (by decide) (by decide) ?_
      refine oAn X5 hx hby d12_53 rfl rfl (oIn X5 hx hby d12_54 rfl ?_)
      refine st10 _ ?_
      refine oIn X10 hx hby d12_58 rfl ?_
      exact retI X10 hx Bd.returns (hb hby d12_59) hr
theorem d10_0 : decode jdk_37_method_2_code 0 = .ok (.aload_n 0, 1) := by decide +kernel
theorem d10_1 : decode jdk_37_method_2_code 1 = .ok (.getfield 7, 3) := by decide +kernel
theorem d10_4 : decode jdk_37_method_2_code 4 = .ok (.ireturn, 1) := by decide +kernel
theorem pn_java_lang_Enum : plainName cS25 = true := by first | (simp [plainName, overriddenIn]; done) | decide +kernel
theorem ef_10 (m : MethodId) (x0 : Addr) : entryFrame m #[(.ref x0)] 1 = mkF m 0 #[.val (.ref x0)] [] := by first | (simp [entryFrame, mkF, argsToLocals, Value.category]; done) | rfl
def Q_10 (Z : State) (r0 : Addr) (u_ordinal_r0 : Int32) (h0 : Heap) (n0 : Nat) (v : Option Value) (h : Heap) (L : List Loc) : Prop := v = some (.int u_ordinal_r0) ∧ Fr n0 L ∧ h = h0
theorem rm10 (l : Launch) (Z : State) (a0 : Array Value) (hw : own_HW a0 Z) (ws : List Jvm.Cond) (r0 : Addr) (u_ordinal_r0 : Int32) (h0 : Heap) (n0 : Nat) (Z0 : n0 ≤ h0.size) (F_ordinal_r0 : Fld Z h0 r0 cS25 "ordinal" "I" (.int u_ordinal_r0)) :
    own_M l Z (⟨cS25, "ordinal", "()I"⟩ : MethodName) jdk_37_method_2_code 1 (some .int) ws ({ frames := 0, cells := 0, slots := 0, locals := 0 } : Room) #[(.ref r0)] h0 (Q_10 Z r0 u_ordinal_r0 h0 n0) := by
  refine own_in cS25 rfl (plainFor_of_name pn_java_lang_Enum) ?_
  intro p e s m below meth c s₁ Bd hml hZ hh hx hby hown X0 e0
  have N0 := Fr.nil n0
  have k0 := own_k (p := p) (e := e) (below := below) (T := s₁) (ef_10 m r0)
  obtain ⟨T1, X1, e1, st1⟩ := getF X0 hx hZ hown (host := "") (Or.inl (own_at hw 75 rfl)) Via.refl e0 F_ordinal_r0 (g := (mkF m 1 #[rv r0] [(.ref r0)])) rfl rfl (hb hby d10_1)
  refine own_out X1 Bd.notSynchronized Bd.returns (some (.int u_ordinal_r0)) nofun (by decide) (by decide) ?_ fun fs hr => k0 _ ?_
  · rw [e1]; exact ⟨rfl, N0, rfl⟩
  · show OwnS p e below s₁ (mkF m 0 #[rv r0] []) _
    refine oAn X0 hx hby d10_0 rfl rfl ?_
    refine st1 _ ?_
    exact retI X1 hx Bd.returns (hb hby d10_4) hr
theorem d11_0 : decode jdk_31_method_4_code 0 = .ok (.aload_n 0, 1) := by decide +kernel
theorem d11_1 : decode jdk_31_method_4_code 1 = .ok (.ifnull 10, 3) := by decide +kernel
theorem d11_11 : decode jdk_31_method_4_code 11 = .ok (.iconst 0, 1) := by decide +kernel
theorem d11_12 : decode jdk_31_method_4_code 12 = .ok (.ireturn, 1) := by decide +kernel
theorem pn_java_util_Objects : plainName "java/util/Objects" = true := by first | (simp [plainName, overriddenIn]; done) | decide +kernel
theorem ef_11n1 (m : MethodId)  : entryFrame m #[.null] 1 = mkF m 0 #[.val .null] [] := by first | (simp [entryFrame, mkF, argsToLocals, Value.category]; done) | rfl
def Q_11_n (Z : State)  (h0 : Heap) (n0 : Nat) (v : Option Value) (h : Heap) (L : List Loc) : Prop := v = some (.int 0) ∧ Fr n0 L ∧ h = h0
theorem rm11_n (l : Launch) (Z : State) (a0 : Array Value) (hw : own_HW a0 Z) (ws : List Jvm.Cond)  (h0 : Heap) (n0 : Nat) (Z0 : n0 ≤ h0.size) :
    own_M l Z (⟨"java/util/Objects", "hashCode", "(Ljava/lang/Object;)I"⟩ : MethodName) jdk_31_method_4_code 1 (some .int) ws ({ frames := 0, cells := 0, slots := 0, locals := 0 } : Room) #[.null] h0 (Q_11_n Z  h0 n0) := by
  refine own_in "java/util/Objects" rfl (plainFor_of_name pn_java_util_Objects) ?_
  intro p e s m below meth c s₁ Bd hml hZ hh hx hby hown X0 e0
  have N0 := Fr.nil n0
  have k0 := own_k (p := p) (e := e) (below := below) (T := s₁) (ef_11n1 m )
  refine own_out X0 Bd.notSynchronized Bd.returns (some (.int 0)) nofun (by decide) (by decide) ?_ fun fs hr => k0 _ ?_
  · rw [e0]; exact ⟨rfl, N0, rfl⟩
  · show OwnS p e below s₁ (mkF m 0 #[.val .null] []) _
    refine oAn X0 hx hby d11_0 rfl rfl ?_
    refine XS.ifnullYes X0.here hx rfl (pc0 := 1) (pc' := 11) rfl (hb hby d11_1) rfl (by decide) (by decide) ?_
    refine oIc X0 hx hby d11_11 ?_
    exact retI X0 hx Bd.returns (hb hby d11_12) hr
theorem pd_5 : parseMethodDescriptor "()I" = some ⟨[], some .int⟩ := by decide +kernel
theorem d11_4 : decode jdk_31_method_4_code 4 = .ok (.aload_n 0, 1) := by decide +kernel
theorem d11_5 : decode jdk_31_method_4_code 5 = .ok (.invokevirtual 24, 3) := by decide +kernel
theorem d11_8 : decode jdk_31_method_4_code 8 = .ok (.goto 4, 3) := by decide +kernel
theorem ef_11 (m : MethodId) (x0 : Addr) : entryFrame m #[(.ref x0)] 1 = mkF m 0 #[.val (.ref x0)] [] := by first | (simp [entryFrame, mkF, argsToLocals, Value.category]; done) | rfl
def Q_11_s (Z : State) (r0 : Addr) (w_CS : Int32) (va : Addr) (kB : ClassId) (x0 : Int32) (h0 : Heap) (n0 : Nat) (v : Option Value) (h : Heap) (L : List Loc) : Prop := v = some (.int (x0 &&& (255 : Int32))) ∧ Fr n0 L ∧ Keep h0 h [r0] ∧ Exa Z h r0 cS8
theorem rm11_s (l : Launch) (Z : State) (a0 : Array Value) (hw : own_HW a0 Z) (ws : List Jvm.Cond) (r0 : Addr) (w_CS : Int32) (va : Addr) (kB : ClassId) (x0 : Int32) (h0 : Heap) (n0 : Nat) (Z0 : n0 ≤ h0.size) (S_CS : Sta Z h0 cS8 "COMPACT_STRINGS" "Z" (.int w_CS)) (hcs : ¬ (w_CS = (0 : Int32))) (E_r0 : Exa Z h0 r0 cS8) (F_coder_r0 : Fld Z h0 r0 cS8 "coder" "B" (.int 0)) (F_value_r0 : Fld Z h0 r0 cS8 "value" "[B" (.ref va)) (F_hash_r0 : Fld Z h0 r0 cS8 "hash" "I" (.int 0)) (F_hashIsZero_r0 : Fld Z h0 r0 cS8 "hashIsZero" "Z" (.int 0)) (V_va : Arv Z h0 va kB .byte (1 : Int32) [(.int x0)] (.int 0)) (ge_r0 : n0 ≤ r0) :
    own_M l Z (⟨"java/util/Objects", "hashCode", "(Ljava/lang/Object;)I"⟩ : MethodName) jdk_31_method_4_code 1 (some .int) ws ({ frames := 2, cells := 0, slots := 0, locals := 25 } : Room) #[(.ref r0)] h0 (Q_11_s Z r0 w_CS va kB x0 h0 n0) := by
  refine own_in "java/util/Objects" rfl (plainFor_of_name pn_java_util_Objects) ?_
  intro p e s m below meth c s₁ Bd hml hZ hh hx hby hown X0 e0
  have N0 := Fr.nil n0
  have k0 := own_k (p := p) (e := e) (below := below) (T := s₁) (ef_11 m r0)
  obtain ⟨cq1, kq1, q1a, q1b, q1c⟩ := isOf hZ e0 E_r0
  obtain ⟨_, _, ⟨T1, L1, j1, i1⟩, -, X1, ⟨Lc1, hQ1, l1, y1, z1⟩, st1⟩ := X0.virtualBack hx (y := (⟨cS3, "hashCode", "()I"⟩ : MethodName)) (z := (⟨cS8, "hashCode", "()I"⟩ : MethodName)) hown (mvT hZ (own_at hw 80 rfl)) (mvT hZ (own_at hw 81 rfl)) (nf_top (args := #[]) (mvT hZ (own_at hw 183 rfl))) (mvT hZ (own_at hw 83 rfl)) (mvT hZ (own_at hw 84 rfl)) (by decide) (backOf (W := 0) (rm12 l Z a0 hw [] r0 w_CS va kB x0 h0 n0 Z0 S_CS hcs E_r0 F_coder_r0 F_value_r0 F_hash_r0 F_hashIsZero_r0 V_va ge_r0) hZ (own_at hw 85 rfl) (own_at hw 10 rfl) (by decide) (by decide)) q1a q1c (g := (mkF m 5 #[rv r0] [(.ref r0)])) rfl (by rw [hml]; rfl) (Steps.refl _) (argsL := []) (rest := []) (lenOf pd_5 rfl) rfl (Nat.le_refl _) (hb hby d11_5) (fun _ _ => ⟨rfl, e0, (by decide : 0 + 0 ≤ _), (by decide : 0 + 0 ≤ _)⟩)
  dsimp only [Pt.U, Pt.locs, Pt.cells, Pt.slots] at X1 l1 y1 z1 st1 hQ1
  subst l1 y1 z1
  obtain ⟨rfl, N1q, K1, p1_0⟩ := hQ1
  have pl1 := (allS (P := fun x => ∃ cell : Cell, h0[x]? = some cell ∧ cell.vm.isStatics = false) (own_ns E_r0) all0)
  have N1 := Fr.app N0 N1q
  refine own_out X1 Bd.notSynchronized Bd.returns (some (.int (x0 &&& (255 : Int32)))) nofun (by decide) (by decide) ?_ fun fs hr => k0 _ ?_
  · exact ⟨rfl, N1, ((Keep.refl h0 [r0]).trans K1 (allS (Or.inl (List.mem_of_getElem? (i := 0) rfl)) all0)), p1_0⟩
  · show OwnS p e below s₁ (mkF m 0 #[rv r0] []) _
    refine oAn X0 hx hby d11_0 rfl rfl ?_
    refine XS.ifnullNo X0.here hx rfl (hb hby d11_1) rfl ?_
    refine oAn X0 hx hby d11_4 rfl rfl ?_
    refine st1.trans ?_
    refine oGo X1 hx hby 8 12 d11_8 (by decide) (by decide) ?_
    exact retI X1 hx Bd.returns (hb hby d11_12) hr
theorem d7_0 : decode jdk_31_method_11_code 0 = .ok (.aload_n 0, 1) := by decide +kernel
theorem d7_1 : decode jdk_31_method_11_code 1 = .ok (.ifnonnull 12, 3) := by decide +kernel
theorem d7_13 : decode jdk_31_method_11_code 13 = .ok (.aload_n 0, 1) := by decide +kernel
theorem d7_14 : decode jdk_31_method_11_code 14 = .ok (.areturn, 1) := by decide +kernel
theorem ef_7 (m : MethodId) (x0 : Addr) (x1 : Addr) : entryFrame m #[(.ref x0), (.ref x1)] 2 = mkF m 0 #[.val (.ref x0), .val (.ref x1)] [] := by first | (simp [entryFrame, mkF, argsToLocals, Value.category]; done) | rfl
def Q_7 (Z : State) (r0 r1 : Addr) (h0 : Heap) (n0 : Nat) (v : Option Value) (h : Heap) (L : List Loc) : Prop := v = some (.ref r0) ∧ Fr n0 L ∧ h = h0
theorem rm7 (l : Launch) (Z : State) (a0 : Array Value) (hw : own_HW a0 Z) (ws : List Jvm.Cond) (r0 r1 : Addr) (h0 : Heap) (n0 : Nat) (Z0 : n0 ≤ h0.size) :
    own_M l Z (⟨"java/util/Objects", "requireNonNull", "(Ljava/lang/Object;Ljava/lang/String;)Ljava/lang/Object;"⟩ : MethodName) jdk_31_method_11_code 2 (some (.object cS3)) ws ({ frames := 0, cells := 0, slots := 0, locals := 0 } : Room) #[(.ref r0), (.ref r1)] h0 (Q_7 Z r0 r1 h0 n0) := by
  refine own_in "java/util/Objects" rfl (plainFor_of_name pn_java_util_Objects) ?_
  intro p e s m below meth c s₁ Bd hml hZ hh hx hby hown X0 e0
  have N0 := Fr.nil n0
  have k0 := own_k (p := p) (e := e) (below := below) (T := s₁) (ef_7 m r0 r1)
  refine own_out X0 Bd.notSynchronized Bd.returns (some (.ref r0)) nofun (by decide) (by decide) ?_ fun fs hr => k0 _ ?_
  · rw [e0]; exact ⟨rfl, N0, rfl⟩
  · show OwnS p e below s₁ (mkF m 0 #[rv r0, rv r1] []) _
    refine oAn X0 hx hby d7_0 rfl rfl ?_
    refine XS.ifnonnullYes X0.here hx rfl (pc0 := 1) (pc' := 13) rfl (hb hby d7_1) rfl (by decide) (by decide) ?_
    refine oAn X0 hx hby d7_13 rfl rfl ?_
    jvm_step X0.here [X0.here.top, hx, (hb hby d7_14), X0.method', Bd.returns, Value.isRef, FieldType.isReference]
    first | (intro acts; rw [hr _ acts rfl rfl rfl]) | rw [hr _ _ rfl rfl rfl]
    exact Steps.refl _
theorem d41_0 : decode jdk_31_method_10_code 0 = .ok (.aload_n 0, 1) := by decide +kernel
theorem d41_1 : decode jdk_31_method_10_code 1 = .ok (.ifnonnull 11, 3) := by decide +kernel
theorem d41_12 : decode jdk_31_method_10_code 12 = .ok (.aload_n 0, 1) := by decide +kernel
theorem d41_13 : decode jdk_31_method_10_code 13 = .ok (.areturn, 1) := by decide +kernel
theorem ef_41 (m : MethodId) (x0 : Addr) : entryFrame m #[(.ref x0)] 1 = mkF m 0 #[.val (.ref x0)] [] := by first | (simp [entryFrame, mkF, argsToLocals, Value.category]; done) | rfl
def Q_41 (Z : State) (r0 : Addr) (h0 : Heap) (n0 : Nat) (v : Option Value) (h : Heap) (L : List Loc) : Prop := v = some (.ref r0) ∧ Fr n0 L ∧ h = h0
theorem rm41 (l : Launch) (Z : State) (a0 : Array Value) (hw : own_HW a0 Z) (ws : List Jvm.Cond) (r0 : Addr) (h0 : Heap) (n0 : Nat) (Z0 : n0 ≤ h0.size) :
    own_M l Z (⟨"java/util/Objects", "requireNonNull", "(Ljava/lang/Object;)Ljava/lang/Object;"⟩ : MethodName) jdk_31_method_10_code 1 (some (.object cS3)) ws ({ frames := 0, cells := 0, slots := 0, locals := 0 } : Room) #[(.ref r0)] h0 (Q_41 Z r0 h0 n0) := by
  refine own_in "java/util/Objects" rfl (plainFor_of_name pn_java_util_Objects) ?_
  intro p e s m below meth c s₁ Bd hml hZ hh hx hby hown X0 e0
  have N0 := Fr.nil n0
  have k0 := own_k (p := p) (e := e) (below := below) (T := s₁) (ef_41 m r0)
  refine own_out X0 Bd.notSynchronized Bd.returns (some (.ref r0)) nofun (by decide) (by decide) ?_ fun fs hr => k0 _ ?_
  · rw [e0]; exact ⟨rfl, N0, rfl⟩
  · show OwnS p e below s₁ (mkF m 0 #[rv r0] []) _
    refine oAn X0 hx hby d41_0 rfl rfl ?_
    refine XS.ifnonnullYes X0.here hx rfl (pc0 := 1) (pc' := 12) rfl (hb hby d41_1) rfl (by decide) (by decide) ?_
    refine oAn X0 hx hby d41_12 rfl rfl ?_
    jvm_step X0.here [X0.here.top, hx, (hb hby d41_13), X0.method', Bd.returns, Value.isRef, FieldType.isReference]
    first | (intro acts; rw [hr _ acts rfl rfl rfl]) | rw [hr _ _ rfl rfl rfl]
    exact Steps.refl _
theorem d8_0 : decode jdk_40_method_36_code 0 = .ok (.getstatic 90, 3) := by decide +kernel
theorem d8_3 : decode jdk_40_method_36_code 3 = .ok (.areturn, 1) := by decide +kernel
theorem pn_java_util_List : plainName cS11 = true := by first | (simp [plainName, overriddenIn]; done) | decide +kernel
theorem ef_8 (m : MethodId)  : entryFrame m #[] 0 = mkF m 0 #[] [] := by first | (simp [entryFrame, mkF, argsToLocals, Value.category]; done) | rfl
def Q_8 (Z : State) (w_EMPTY_LIST : Addr) (h0 : Heap) (n0 : Nat) (v : Option Value) (h : Heap) (L : List Loc) : Prop := v = some (.ref w_EMPTY_LIST) ∧ Fr n0 L ∧ h = h0
theorem rm8 (l : Launch) (Z : State) (a0 : Array Value) (hw : own_HW a0 Z) (ws : List Jvm.Cond) (w_EMPTY_LIST : Addr) (h0 : Heap) (n0 : Nat) (Z0 : n0 ≤ h0.size) (S_EMPTY_LIST : Sta Z h0 cS14 "EMPTY_LIST" "Ljava/util/ImmutableCollections$ListN;" (.ref w_EMPTY_LIST)) :
    own_M l Z (⟨cS11, "of", "()Ljava/util/List;"⟩ : MethodName) jdk_40_method_36_code 0 (some (.object cS11)) ws ({ frames := 0, cells := 0, slots := 0, locals := 0 } : Room) #[] h0 (Q_8 Z w_EMPTY_LIST h0 n0) := by
  refine own_in cS11 rfl (plainFor_of_name pn_java_util_List) ?_
  intro p e s m below meth c s₁ Bd hml hZ hh hx hby hown X0 e0
  have N0 := Fr.nil n0
  have k0 := own_k (p := p) (e := e) (below := below) (T := s₁) (ef_8 m )
  obtain ⟨T1, X1, e1, st1⟩ := getS2 X0 hx hZ hown (host := "") (Or.inl (own_at hw 54 rfl)) Via.refl e0 S_EMPTY_LIST (g := (mkF m 0 #[] [])) rfl (hb hby d8_0)
  refine own_out X1 Bd.notSynchronized Bd.returns (some (.ref w_EMPTY_LIST)) nofun (by decide) (by decide) ?_ fun fs hr => k0 _ ?_
  · rw [e1]; exact ⟨rfl, N0, rfl⟩
  · show OwnS p e below s₁ (mkF m 0 #[] []) _
    refine st1 _ ?_
    jvm_step X1.here [X1.here.top, hx, (hb hby d8_3), X1.method', Bd.returns, Value.isRef, FieldType.isReference]
    first | (intro acts; rw [hr _ acts rfl rfl rfl]) | rw [hr _ _ rfl rfl rfl]
    exact Steps.refl _
theorem d16_0 : decode jdk_45_method_3_code 0 = .ok (.aload_n 0, 1) := by decide +kernel
theorem d16_1 : decode jdk_45_method_3_code 1 = .ok (.getfield 7, 3) := by decide +kernel
theorem d16_4 : decode jdk_45_method_3_code 4 = .ok (.arraylength, 1) := by decide +kernel
theorem d16_5 : decode jdk_45_method_3_code 5 = .ok (.ireturn, 1) := by decide +kernel
theorem pn_java_util_ImmutableCollections_ListN : plainName cS7 = true := by first | (simp [plainName, overriddenIn]; done) | decide +kernel
theorem ef_16 (m : MethodId) (x0 : Addr) : entryFrame m #[(.ref x0)] 1 = mkF m 0 #[.val (.ref x0)] [] := by first | (simp [entryFrame, mkF, argsToLocals, Value.category]; done) | rfl
def Q_16_0 (Z : State) (r0 el : Addr) (kE : ClassId) (h0 : Heap) (n0 : Nat) (v : Option Value) (h : Heap) (L : List Loc) : Prop := v = some (.int 0) ∧ Fr n0 L ∧ h = h0
theorem rm16_0 (l : Launch) (Z : State) (a0 : Array Value) (hw : own_HW a0 Z) (ws : List Jvm.Cond) (r0 el : Addr) (kE : ClassId) (h0 : Heap) (n0 : Nat) (Z0 : n0 ≤ h0.size) (F_elements_r0 : Fld Z h0 r0 cS7 "elements" cS6 (.ref el)) (V_el : Arv Z h0 el kE (.object cS3) (0 : Int32) [] .null) :
    own_M l Z (⟨cS7, "size", "()I"⟩ : MethodName) jdk_45_method_3_code 1 (some .int) ws ({ frames := 0, cells := 0, slots := 0, locals := 0 } : Room) #[(.ref r0)] h0 (Q_16_0 Z r0 el kE h0 n0) := by
  refine own_in cS7 rfl (plainFor_of_name pn_java_util_ImmutableCollections_ListN) ?_
  intro p e s m below meth c s₁ Bd hml hZ hh hx hby hown X0 e0
  have N0 := Fr.nil n0
  have k0 := own_k (p := p) (e := e) (below := below) (T := s₁) (ef_16 m r0)
  obtain ⟨T1, X1, e1, st1⟩ := getF X0 hx hZ hown (host := "") (Or.inl (own_at hw 118 rfl)) Via.refl e0 F_elements_r0 (g := (mkF m 1 #[rv r0] [(.ref r0)])) rfl rfl (hb hby d16_1)
  obtain ⟨cl_z2, Ar_z2, q_z2, S_z2, N_z2, H_z2, G_z2⟩ := id V_el
  refine own_out X1 Bd.notSynchronized Bd.returns (some (.int 0)) nofun (by decide) (by decide) ?_ fun fs hr => k0 _ ?_
  · rw [e1]; exact ⟨rfl, N0, rfl⟩
  · show OwnS p e below s₁ (mkF m 0 #[rv r0] []) _
    refine oAn X0 hx hby d16_0 rfl rfl ?_
    refine st1 _ ?_
    refine X1.arraylength hx (by rw [e1]; exact Ar_z2.1) (State.isArrayOf_alike hZ.alike Ar_z2.2.1) (g := (mkF m 4 #[rv r0] [(.ref el)])) rfl rfl (hb hby d16_4) _ ?_
    rw [len_of S_z2 N_z2]
    exact retI X1 hx Bd.returns (hb hby d16_5) hr
def Q_16_3 (Z : State) (r0 el : Addr) (kE : ClassId) (x0 x1 x2 : Addr) (h0 : Heap) (n0 : Nat) (v : Option Value) (h : Heap) (L : List Loc) : Prop := v = some (.int 3) ∧ Fr n0 L ∧ h = h0
theorem rm16_3 (l : Launch) (Z : State) (a0 : Array Value) (hw : own_HW a0 Z) (ws : List Jvm.Cond) (r0 el : Addr) (kE : ClassId) (x0 x1 x2 : Addr) (h0 : Heap) (n0 : Nat) (Z0 : n0 ≤ h0.size) (F_elements_r0 : Fld Z h0 r0 cS7 "elements" cS6 (.ref el)) (V_el : Arv Z h0 el kE (.object cS3) (3 : Int32) [(.ref x0), (.ref x1), (.ref x2)] .null) :
    own_M l Z (⟨cS7, "size", "()I"⟩ : MethodName) jdk_45_method_3_code 1 (some .int) ws ({ frames := 0, cells := 0, slots := 0, locals := 0 } : Room) #[(.ref r0)] h0 (Q_16_3 Z r0 el kE x0 x1 x2 h0 n0) := by
  refine own_in cS7 rfl (plainFor_of_name pn_java_util_ImmutableCollections_ListN) ?_
  intro p e s m below meth c s₁ Bd hml hZ hh hx hby hown X0 e0
  have N0 := Fr.nil n0
  have k0 := own_k (p := p) (e := e) (below := below) (T := s₁) (ef_16 m r0)
  obtain ⟨T1, X1, e1, st1⟩ := getF X0 hx hZ hown (host := "") (Or.inl (own_at hw 118 rfl)) Via.refl e0 F_elements_r0 (g := (mkF m 1 #[rv r0] [(.ref r0)])) rfl rfl (hb hby d16_1)
  obtain ⟨cl_z2, Ar_z2, q_z2, S_z2, N_z2, H_z2, G_z2⟩ := id V_el
  refine own_out X1 Bd.notSynchronized Bd.returns (some (.int 3)) nofun (by decide) (by decide) ?_ fun fs hr => k0 _ ?_
  · rw [e1]; exact ⟨rfl, N0, rfl⟩
  · show OwnS p e below s₁ (mkF m 0 #[rv r0] []) _
    refine oAn X0 hx hby d16_0 rfl rfl ?_
    refine st1 _ ?_
    refine X1.arraylength hx (by rw [e1]; exact Ar_z2.1) (State.isArrayOf_alike hZ.alike Ar_z2.2.1) (g := (mkF m 4 #[rv r0] [(.ref el)])) rfl rfl (hb hby d16_4) _ ?_
    rw [len_of S_z2 N_z2]
    exact retI X1 hx Bd.returns (hb hby d16_5) hr
theorem d48_0 : decode jdk_44_method_3_code 0 = .ok (.aload_n 0, 1) := by decide +kernel
theorem d48_1 : decode jdk_44_method_3_code 1 = .ok (.getfield 24, 3) := by decide +kernel
theorem d48_4 : decode jdk_44_method_3_code 4 = .ok (.getstatic 19, 3) := by decide +kernel
theorem d48_7 : decode jdk_44_method_3_code 7 = .ok (.if_acmp .eq 7, 3) := by decide +kernel
theorem d48_14 : decode jdk_44_method_3_code 14 = .ok (.iconst 1, 1) := by decide +kernel
theorem d48_15 : decode jdk_44_method_3_code 15 = .ok (.ireturn, 1) := by decide +kernel
theorem pn_java_util_ImmutableCollections_List12 : plainName cS5 = true := by first | (simp [plainName, overriddenIn]; done) | decide +kernel
theorem ef_48 (m : MethodId) (x0 : Addr) : entryFrame m #[(.ref x0)] 1 = mkF m 0 #[.val (.ref x0)] [] := by first | (simp [entryFrame, mkF, argsToLocals, Value.category]; done) | rfl
def Q_48_1 (Z : State) (r0 w_EMPTY : Addr) (h0 : Heap) (n0 : Nat) (v : Option Value) (h : Heap) (L : List Loc) : Prop := v = some (.int 1) ∧ Fr n0 L ∧ h = h0
theorem rm48_1 (l : Launch) (Z : State) (a0 : Array Value) (hw : own_HW a0 Z) (ws : List Jvm.Cond) (r0 w_EMPTY : Addr) (h0 : Heap) (n0 : Nat) (Z0 : n0 ≤ h0.size) (S_EMPTY : Sta Z h0 cS14 "EMPTY" cS13 (.ref w_EMPTY)) (F_e1_r0 : Fld Z h0 r0 cS5 "e1" cS13 (.ref w_EMPTY)) :
    own_M l Z (⟨cS5, "size", "()I"⟩ : MethodName) jdk_44_method_3_code 1 (some .int) ws ({ frames := 0, cells := 0, slots := 0, locals := 0 } : Room) #[(.ref r0)] h0 (Q_48_1 Z r0 w_EMPTY h0 n0) := by
  refine own_in cS5 rfl (plainFor_of_name pn_java_util_ImmutableCollections_List12) ?_
  intro p e s m below meth c s₁ Bd hml hZ hh hx hby hown X0 e0
  have N0 := Fr.nil n0
  have k0 := own_k (p := p) (e := e) (below := below) (T := s₁) (ef_48 m r0)
  obtain ⟨T1, X1, e1, st1⟩ := getF X0 hx hZ hown (host := "") (Or.inl (own_at hw 344 rfl)) Via.refl e0 F_e1_r0 (g := (mkF m 1 #[rv r0] [(.ref r0)])) rfl rfl (hb hby d48_1)
  obtain ⟨T2, X2, e2, st2⟩ := getS2 X1 hx hZ hown (Or.inr (own_at hw 352 rfl)) Via.refl e1 S_EMPTY (g := (mkF m 4 #[rv r0] [(.ref w_EMPTY)])) rfl (hb hby d48_4)
  refine own_out X2 Bd.notSynchronized Bd.returns (some (.int 1)) nofun (by decide) (by decide) ?_ fun fs hr => k0 _ ?_
  · rw [e2]; exact ⟨rfl, N0, rfl⟩
  · show OwnS p e below s₁ (mkF m 0 #[rv r0] []) _
    refine oAn X0 hx hby d48_0 rfl rfl ?_
    refine st1 _ ?_
    refine st2 _ ?_
    refine Jvm.RoadKit.acmp (g := (mkF m 7 #[rv r0] [(.ref w_EMPTY), (.ref w_EMPTY)])) X2 hx rfl rfl rfl (pc0 := 7) (pc' := 14) (same := true) rfl (hb hby d48_7) rfl (decide_eq_true rfl) (by decide) (by decide) ?_
    refine oIc X2 hx hby d48_14 ?_
    exact retI X2 hx Bd.returns (hb hby d48_15) hr
theorem d48_10 : decode jdk_44_method_3_code 10 = .ok (.iconst 2, 1) := by decide +kernel
theorem d48_11 : decode jdk_44_method_3_code 11 = .ok (.goto 4, 3) := by decide +kernel
def Q_48_2 (Z : State) (r0 w_EMPTY x1 : Addr) (h0 : Heap) (n0 : Nat) (v : Option Value) (h : Heap) (L : List Loc) : Prop := v = some (.int 2) ∧ Fr n0 L ∧ h = h0
theorem rm48_2 (l : Launch) (Z : State) (a0 : Array Value) (hw : own_HW a0 Z) (ws : List Jvm.Cond) (r0 w_EMPTY x1 : Addr) (h0 : Heap) (n0 : Nat) (Z0 : n0 ≤ h0.size) (S_EMPTY : Sta Z h0 cS14 "EMPTY" cS13 (.ref w_EMPTY)) (F_e1_r0 : Fld Z h0 r0 cS5 "e1" cS13 (.ref x1)) (hne : ¬ (x1 = w_EMPTY)) :
    own_M l Z (⟨cS5, "size", "()I"⟩ : MethodName) jdk_44_method_3_code 1 (some .int) ws ({ frames := 0, cells := 0, slots := 0, locals := 0 } : Room) #[(.ref r0)] h0 (Q_48_2 Z r0 w_EMPTY x1 h0 n0) := by
  refine own_in cS5 rfl (plainFor_of_name pn_java_util_ImmutableCollections_List12) ?_
  intro p e s m below meth c s₁ Bd hml hZ hh hx hby hown X0 e0
  have N0 := Fr.nil n0
  have k0 := own_k (p := p) (e := e) (below := below) (T := s₁) (ef_48 m r0)
  obtain ⟨T1, X1, e1, st1⟩ := getF X0 hx hZ hown (host := "") (Or.inl (own_at hw 344 rfl)) Via.refl e0 F_e1_r0 (g := (mkF m 1 #[rv r0] [(.ref r0)])) rfl rfl (hb hby d48_1)
  obtain ⟨T2, X2, e2, st2⟩ := getS2 X1 hx hZ hown (Or.inr (own_at hw 352 rfl)) Via.refl e1 S_EMPTY (g := (mkF m 4 #[rv r0] [(.ref x1)])) rfl (hb hby d48_4)
  refine own_out X2 Bd.notSynchronized Bd.returns (some (.int 2)) nofun (by decide) (by decide) ?_ fun fs hr => k0 _ ?_
  · rw [e2]; exact ⟨rfl, N0, rfl⟩
  · show OwnS p e below s₁ (mkF m 0 #[rv r0] []) _
    refine oAn X0 hx hby d48_0 rfl rfl ?_
    refine st1 _ ?_
    refine st2 _ ?_
    refine Jvm.RoadKit.acmp (g := (mkF m 7 #[rv r0] [(.ref w_EMPTY), (.ref x1)])) X2 hx rfl rfl rfl (pc0 := 7) (pc' := 10) (same := false) rfl (hb hby d48_7) rfl (decide_eq_false fun q => hne (Value.ref.inj q)) (by decide) (by decide) ?_
    refine oIc X2 hx hby d48_10 (oGo X2 hx hby 11 15 d48_11 (by decide) (by decide) ?_)
    exact retI X2 hx Bd.returns (hb hby d48_15) hr
theorem d46_0 : decode jdk_45_method_4_code 0 = .ok (.aload_n 0, 1) := by decide +kernel
theorem d46_1 : decode jdk_45_method_4_code 1 = .ok (.getfield 7, 3) := by decide +kernel
theorem d46_4 : decode jdk_45_method_4_code 4 = .ok (.iload_n 1, 1) := by decide +kernel
theorem d46_5 : decode jdk_45_method_4_code 5 = .ok (.aaload, 1) := by decide +kernel
theorem d46_6 : decode jdk_45_method_4_code 6 = .ok (.areturn, 1) := by decide +kernel
theorem ef_46 (m : MethodId) (x0 : Addr) (x1 : Int32) : entryFrame m #[(.ref x0), (.int x1)] 2 = mkF m 0 #[.val (.ref x0), .val (.int x1)] [] := by first | (simp [entryFrame, mkF, argsToLocals, Value.category]; done) | rfl
def Q_46_0 (Z : State) (r0 el : Addr) (kE : ClassId) (x0 x1 x2 : Addr) (h0 : Heap) (n0 : Nat) (v : Option Value) (h : Heap) (L : List Loc) : Prop := v = some (.ref x0) ∧ Fr n0 L ∧ h = h0
theorem rm46_0 (l : Launch) (Z : State) (a0 : Array Value) (hw : own_HW a0 Z) (ws : List Jvm.Cond) (r0 el : Addr) (kE : ClassId) (x0 x1 x2 : Addr) (h0 : Heap) (n0 : Nat) (Z0 : n0 ≤ h0.size) (F_elements_r0 : Fld Z h0 r0 cS7 "elements" cS6 (.ref el)) (V_el : Arv Z h0 el kE (.object cS3) (3 : Int32) [(.ref x0), (.ref x1), (.ref x2)] .null) :
    own_M l Z (⟨cS7, "get", "(I)Ljava/lang/Object;"⟩ : MethodName) jdk_45_method_4_code 2 (some (.object cS3)) ws ({ frames := 0, cells := 0, slots := 0, locals := 0 } : Room) #[(.ref r0), (.int 0)] h0 (Q_46_0 Z r0 el kE x0 x1 x2 h0 n0) := by
  refine own_in cS7 rfl (plainFor_of_name pn_java_util_ImmutableCollections_ListN) ?_
  intro p e s m below meth c s₁ Bd hml hZ hh hx hby hown X0 e0
  have N0 := Fr.nil n0
  have k0 := own_k (p := p) (e := e) (below := below) (T := s₁) (ef_46 m r0 (0 : Int32))
  obtain ⟨T1, X1, e1, st1⟩ := getF X0 hx hZ hown (host := "") (Or.inl (own_at hw 118 rfl)) Via.refl e0 F_elements_r0 (g := (mkF m 1 #[rv r0, iv 0] [(.ref r0)])) rfl rfl (hb hby d46_1)
  obtain ⟨cl_z2, Ar_z2, q_z2, S_z2, N_z2, H_z2, G_z2⟩ := id V_el
  have hin3 : ¬ ((0 : Int32) < 0 ∨ cl_z2.slots.size ≤ ((0 : Int32)).toNatClampNeg) := inb_of S_z2 ⟨by decide, by decide⟩
  refine own_out X1 Bd.notSynchronized Bd.returns (some (.ref x0)) nofun (by decide) (by decide) ?_ fun fs hr => k0 _ ?_
  · rw [e1]; exact ⟨rfl, N0, rfl⟩
  · show OwnS p e below s₁ (mkF m 0 #[rv r0, iv 0] []) _
    refine oAn X0 hx hby d46_0 rfl rfl ?_
    refine st1 _ ?_
    refine oIn X1 hx hby d46_4 rfl ?_
    refine X1.aaload hx (j := (0 : Int32)) (v := (.ref x0)) (by rw [e1]; exact Ar_z2.1) (State.isArrayOf_alike hZ.alike Ar_z2.2.1) rfl Ar_z2.2.2 hin3 (Has.at H_z2 hin3 rfl) (g := (mkF m 5 #[rv r0, iv 0] [(.int 0), (.ref el)])) rfl rfl (hb hby d46_5) _ ?_
    jvm_step X1.here [X1.here.top, hx, (hb hby d46_6), X1.method', Bd.returns, Value.isRef, FieldType.isReference]
    first | (intro acts; rw [hr _ acts rfl rfl rfl]) | rw [hr _ _ rfl rfl rfl]
    exact Steps.refl _
def Q_46_1 (Z : State) (r0 el : Addr) (kE : ClassId) (x0 x1 x2 : Addr) (h0 : Heap) (n0 : Nat) (v : Option Value) (h : Heap) (L : List Loc) : Prop := v = some (.ref x1) ∧ Fr n0 L ∧ h = h0
theorem rm46_1 (l : Launch) (Z : State) (a0 : Array Value) (hw : own_HW a0 Z) (ws : List Jvm.Cond) (r0 el : Addr) (kE : ClassId) (x0 x1 x2 : Addr) (h0 : Heap) (n0 : Nat) (Z0 : n0 ≤ h0.size) (F_elements_r0 : Fld Z h0 r0 cS7 "elements" cS6 (.ref el)) (V_el : Arv Z h0 el kE (.object cS3) (3 : Int32) [(.ref x0), (.ref x1), (.ref x2)] .null) :
    own_M l Z (⟨cS7, "get", "(I)Ljava/lang/Object;"⟩ : MethodName) jdk_45_method_4_code 2 (some (.object cS3)) ws ({ frames := 0, cells := 0, slots := 0, locals := 0 } : Room) #[(.ref r0), (.int 1)] h0 (Q_46_1 Z r0 el kE x0 x1 x2 h0 n0) := by
  refine own_in cS7 rfl (plainFor_of_name pn_java_util_ImmutableCollections_ListN) ?_
  intro p e s m below meth c s₁ Bd hml hZ hh hx hby hown X0 e0
  have N0 := Fr.nil n0
  have k0 := own_k (p := p) (e := e) (below := below) (T := s₁) (ef_46 m r0 (1 : Int32))
  obtain ⟨T1, X1, e1, st1⟩ := getF X0 hx hZ hown (host := "") (Or.inl (own_at hw 118 rfl)) Via.refl e0 F_elements_r0 (g := (mkF m 1 #[rv r0, iv 1] [(.ref r0)])) rfl rfl (hb hby d46_1)
  obtain ⟨cl_z2, Ar_z2, q_z2, S_z2, N_z2, H_z2, G_z2⟩ := id V_el
  have hin3 : ¬ ((1 : Int32) < 0 ∨ cl_z2.slots.size ≤ ((1 : Int32)).toNatClampNeg) := inb_of S_z2 ⟨by decide, by decide⟩
  refine own_out X1 Bd.notSynchronized Bd.returns (some (.ref x1)) nofun (by decide) (by decide) ?_ fun fs hr => k0 _ ?_
  · rw [e1]; exact ⟨rfl, N0, rfl⟩
  · show OwnS p e below s₁ (mkF m 0 #[rv r0, iv 1] []) _
    refine oAn X0 hx hby d46_0 rfl rfl ?_
    refine st1 _ ?_
    refine oIn X1 hx hby d46_4 rfl ?_
    refine X1.aaload hx (j := (1 : Int32)) (v := (.ref x1)) (by rw [e1]; exact Ar_z2.1) (State.isArrayOf_alike hZ.alike Ar_z2.2.1) rfl Ar_z2.2.2 hin3 (Has.at H_z2 hin3 rfl) (g := (mkF m 5 #[rv r0, iv 1] [(.int 1), (.ref el)])) rfl rfl (hb hby d46_5) _ ?_
    jvm_step X1.here [X1.here.top, hx, (hb hby d46_6), X1.method', Bd.returns, Value.isRef, FieldType.isReference]
    first | (intro acts; rw [hr _ acts rfl rfl rfl]) | rw [hr _ _ rfl rfl rfl]
    exact Steps.refl _
def Q_46_2 (Z : State) (r0 el : Addr) (kE : ClassId) (x0 x1 x2 : Addr) (h0 : Heap) (n0 : Nat) (v : Option Value) (h : Heap) (L : List Loc) : Prop := v = some (.ref x2) ∧ Fr n0 L ∧ h = h0
theorem rm46_2 (l : Launch) (Z : State) (a0 : Array Value) (hw : own_HW a0 Z) (ws : List Jvm.Cond) (r0 el : Addr) (kE : ClassId) (x0 x1 x2 : Addr) (h0 : Heap) (n0 : Nat) (Z0 : n0 ≤ h0.size) (F_elements_r0 : Fld Z h0 r0 cS7 "elements" cS6 (.ref el)) (V_el : Arv Z h0 el kE (.object cS3) (3 : Int32) [(.ref x0), (.ref x1), (.ref x2)] .null) :
    own_M l Z (⟨cS7, "get", "(I)Ljava/lang/Object;"⟩ : MethodName) jdk_45_method_4_code 2 (some (.object cS3)) ws ({ frames := 0, cells := 0, slots := 0, locals := 0 } : Room) #[(.ref r0), (.int 2)] h0 (Q_46_2 Z r0 el kE x0 x1 x2 h0 n0) := by
  refine own_in cS7 rfl (plainFor_of_name pn_java_util_ImmutableCollections_ListN) ?_
  intro p e s m below meth c s₁ Bd hml hZ hh hx hby hown X0 e0
  have N0 := Fr.nil n0
  have k0 := own_k (p := p) (e := e) (below := below) (T := s₁) (ef_46 m r0 (2 : Int32))
  obtain ⟨T1, X1, e1, st1⟩ := getF X0 hx hZ hown (host := "") (Or.inl (own_at hw 118 rfl)) Via.refl e0 F_elements_r0 (g := (mkF m 1 #[rv r0, iv 2] [(.ref r0)])) rfl rfl (hb hby d46_1)
  obtain ⟨cl_z2, Ar_z2, q_z2, S_z2, N_z2, H_z2, G_z2⟩ := id V_el
  have hin3 : ¬ ((2 : Int32) < 0 ∨ cl_z2.slots.size ≤ ((2 : Int32)).toNatClampNeg) := inb_of S_z2 ⟨by decide, by decide⟩
  refine own_out X1 Bd.notSynchronized Bd.returns (some (.ref x2)) nofun (by decide) (by decide) ?_ fun fs hr => k0 _ ?_
  · rw [e1]; exact ⟨rfl, N0, rfl⟩
  · show OwnS p e below s₁ (mkF m 0 #[rv r0, iv 2] []) _
    refine oAn X0 hx hby d46_0 rfl rfl ?_
    refine st1 _ ?_
    refine oIn X1 hx hby d46_4 rfl ?_
    refine X1.aaload hx (j := (2 : Int32)) (v := (.ref x2)) (by rw [e1]; exact Ar_z2.1) (State.isArrayOf_alike hZ.alike Ar_z2.2.1) rfl Ar_z2.2.2 hin3 (Has.at H_z2 hin3 rfl) (g := (mkF m 5 #[rv r0, iv 2] [(.int 2), (.ref el)])) rfl rfl (hb hby d46_5) _ ?_
    jvm_step X1.here [X1.here.top, hx, (hb hby d46_6), X1.method', Bd.returns, Value.isRef, FieldType.isReference]
    first | (intro acts; rw [hr _ acts rfl rfl rfl]) | rw [hr _ _ rfl rfl rfl]
    exact Steps.refl _
theorem d49_0 : decode jdk_44_method_5_code 0 = .ok (.iload_n 1, 1) := by decide +kernel
theorem d49_1 : decode jdk_44_method_5_code 1 = .ok (.ifCond .ne 8, 3) := by decide +kernel
theorem d49_4 : decode jdk_44_method_5_code 4 = .ok (.aload_n 0, 1) := by decide +kernel
theorem d49_5 : decode jdk_44_method_5_code 5 = .ok (.getfield 13, 3) := by decide +kernel
theorem d49_8 : decode jdk_44_method_5_code 8 = .ok (.areturn, 1) := by decide +kernel
theorem ef_49 (m : MethodId) (x0 : Addr) (x1 : Int32) : entryFrame m #[(.ref x0), (.int x1)] 2 = mkF m 0 #[.val (.ref x0), .val (.int x1)] [] := by first | (simp [entryFrame, mkF, argsToLocals, Value.category]; done) | rfl
def Q_49_0 (Z : State) (r0 x0 : Addr) (h0 : Heap) (n0 : Nat) (v : Option Value) (h : Heap) (L : List Loc) : Prop := v = some (.ref x0) ∧ Fr n0 L ∧ h = h0
theorem rm49_0 (l : Launch) (Z : State) (a0 : Array Value) (hw : own_HW a0 Z) (ws : List Jvm.Cond) (r0 x0 : Addr) (h0 : Heap) (n0 : Nat) (Z0 : n0 ≤ h0.size) (F_e0_r0 : Fld Z h0 r0 cS5 "e0" cS13 (.ref x0)) :
    own_M l Z (⟨cS5, "get", "(I)Ljava/lang/Object;"⟩ : MethodName) jdk_44_method_5_code 2 (some (.object cS3)) ws ({ frames := 0, cells := 0, slots := 0, locals := 0 } : Room) #[(.ref r0), (.int 0)] h0 (Q_49_0 Z r0 x0 h0 n0) := by
  refine own_in cS5 rfl (plainFor_of_name pn_java_util_ImmutableCollections_List12) ?_
  intro p e s m below meth c s₁ Bd hml hZ hh hx hby hown X0 e0
  have N0 := Fr.nil n0
  have k0 := own_k (p := p) (e := e) (below := below) (T := s₁) (ef_49 m r0 (0 : Int32))
  obtain ⟨T1, X1, e1, st1⟩ := getF X0 hx hZ hown (host := "") (Or.inl (own_at hw 342 rfl)) Via.refl e0 F_e0_r0 (g := (mkF m 5 #[rv r0, iv 0] [(.ref r0)])) rfl rfl (hb hby d49_5)
  refine own_out X1 Bd.notSynchronized Bd.returns (some (.ref x0)) nofun (by decide) (by decide) ?_ fun fs hr => k0 _ ?_
  · rw [e1]; exact ⟨rfl, N0, rfl⟩
  · show OwnS p e below s₁ (mkF m 0 #[rv r0, iv 0] []) _
    refine oIn X0 hx hby d49_0 rfl ?_
    refine XS.ifNo X0.here hx rfl (hb hby d49_1) rfl ((if0 _ _).trans (teq (by decide : (0 : Int32) = (0 : Int32))).2) ?_
    refine oAn X0 hx hby d49_4 rfl rfl ?_
    refine st1 _ ?_
    jvm_step X1.here [X1.here.top, hx, (hb hby d49_8), X1.method', Bd.returns, Value.isRef, FieldType.isReference]
    first | (intro acts; rw [hr _ acts rfl rfl rfl]) | rw [hr _ _ rfl rfl rfl]
    exact Steps.refl _
theorem d49_9 : decode jdk_44_method_5_code 9 = .ok (.iload_n 1, 1) := by decide +kernel
theorem d49_10 : decode jdk_44_method_5_code 10 = .ok (.iconst 1, 1) := by decide +kernel
theorem d49_11 : decode jdk_44_method_5_code 11 = .ok (.if_icmp .ne 18, 3) := by decide +kernel
theorem d49_14 : decode jdk_44_method_5_code 14 = .ok (.aload_n 0, 1) := by decide +kernel
theorem d49_15 : decode jdk_44_method_5_code 15 = .ok (.getfield 24, 3) := by decide +kernel
theorem d49_18 : decode jdk_44_method_5_code 18 = .ok (.getstatic 19, 3) := by decide +kernel
theorem d49_21 : decode jdk_44_method_5_code 21 = .ok (.if_acmp .eq 8, 3) := by decide +kernel
theorem d49_24 : decode jdk_44_method_5_code 24 = .ok (.aload_n 0, 1) := by decide +kernel
theorem d49_25 : decode jdk_44_method_5_code 25 = .ok (.getfield 24, 3) := by decide +kernel
theorem d49_28 : decode jdk_44_method_5_code 28 = .ok (.areturn, 1) := by decide +kernel
def Q_49_1 (Z : State) (r0 w_EMPTY x1 : Addr) (h0 : Heap) (n0 : Nat) (v : Option Value) (h : Heap) (L : List Loc) : Prop := v = some (.ref x1) ∧ Fr n0 L ∧ h = h0
theorem rm49_1 (l : Launch) (Z : State) (a0 : Array Value) (hw : own_HW a0 Z) (ws : List Jvm.Cond) (r0 w_EMPTY x1 : Addr) (h0 : Heap) (n0 : Nat) (Z0 : n0 ≤ h0.size) (S_EMPTY : Sta Z h0 cS14 "EMPTY" cS13 (.ref w_EMPTY)) (F_e1_r0 : Fld Z h0 r0 cS5 "e1" cS13 (.ref x1)) (hne : ¬ (x1 = w_EMPTY)) :
    own_M l Z (⟨cS5, "get", "(I)Ljava/lang/Object;"⟩ : MethodName) jdk_44_method_5_code 2 (some (.object cS3)) ws ({ frames := 0, cells := 0, slots := 0, locals := 0 } : Room) #[(.ref r0), (.int 1)] h0 (Q_49_1 Z r0 w_EMPTY x1 h0 n0) := by
  refine own_in cS5 rfl (plainFor_of_name pn_java_util_ImmutableCollections_List12) ?_
  intro p e s m below meth c s₁ Bd hml hZ hh hx hby hown X0 e0
  have N0 := Fr.nil n0
  have k0 := own_k (p := p) (e := e) (below := below) (T := s₁) (ef_49 m r0 (1 : Int32))
  obtain ⟨T1, X1, e1, st1⟩ := getF X0 hx hZ hown (host := "") (Or.inl (own_at hw 344 rfl)) Via.refl e0 F_e1_r0 (g := (mkF m 15 #[rv r0, iv 1] [(.ref r0)])) rfl rfl (hb hby d49_15)
  obtain ⟨T2, X2, e2, st2⟩ := getS2 X1 hx hZ hown (Or.inr (own_at hw 352 rfl)) Via.refl e1 S_EMPTY (g := (mkF m 18 #[rv r0, iv 1] [(.ref x1)])) rfl (hb hby d49_18)
  obtain ⟨T3, X3, e3, st3⟩ := getF X2 hx hZ hown (host := "") (Or.inl (own_at hw 344 rfl)) Via.refl e2 F_e1_r0 (g := (mkF m 25 #[rv r0, iv 1] [(.ref r0)])) rfl rfl (hb hby d49_25)
  refine own_out X3 Bd.notSynchronized Bd.returns (some (.ref x1)) nofun (by decide) (by decide) ?_ fun fs hr => k0 _ ?_
  · rw [e3]; exact ⟨rfl, N0, rfl⟩
  · show OwnS p e below s₁ (mkF m 0 #[rv r0, iv 1] []) _
    refine oIn X0 hx hby d49_0 rfl ?_
    refine XS.ifYes X0.here hx rfl (pc0 := 1) (pc' := 9) rfl (hb hby d49_1) rfl ((if0 _ _).trans (feq (by decide : ¬ ((1 : Int32) = (0 : Int32)))).2) (by decide) (by decide) ?_
    refine oIn X0 hx hby d49_9 rfl (oIc X0 hx hby d49_10 ?_)
    refine XS.icmpNo X0.here hx rfl (hb hby d49_11) rfl (teq (by decide : (1 : Int32) = (1 : Int32))).2 ?_
    refine oAn X0 hx hby d49_14 rfl rfl ?_
    refine st1 _ ?_
    refine st2 _ ?_
    refine Jvm.RoadKit.acmp (g := (mkF m 21 #[rv r0, iv 1] [(.ref w_EMPTY), (.ref x1)])) X2 hx rfl rfl rfl (pc0 := 21) (pc' := 24) (same := false) rfl (hb hby d49_21) rfl (decide_eq_false fun q => hne (Value.ref.inj q)) (by decide) (by decide) ?_
    refine oAn X2 hx hby d49_24 rfl rfl ?_
    refine st3 _ ?_
    jvm_step X3.here [X3.here.top, hx, (hb hby d49_28), X3.method', Bd.returns, Value.isRef, FieldType.isReference]
    first | (intro acts; rw [hr _ acts rfl rfl rfl]) | rw [hr _ _ rfl rfl rfl]
    exact Steps.refl _
theorem d17_0 : decode jdk_53_method_1_code 0 = .ok (.aload_n 0, 1) := by decide +kernel
theorem d17_1 : decode jdk_53_method_1_code 1 = .ok (.invokespecial 1, 3) := by decide +kernel
theorem d17_4 : decode jdk_53_method_1_code 4 = .ok (.aload_n 0, 1) := by decide +kernel
theorem d17_5 : decode jdk_53_method_1_code 5 = .ok (.aload_n 1, 1) := by decide +kernel
theorem d17_6 : decode jdk_53_method_1_code 6 = .ok (.putfield 7, 3) := by decide +kernel
theorem d17_9 : decode jdk_53_method_1_code 9 = .ok (.aload_n 0, 1) := by decide +kernel
theorem d17_10 : decode jdk_53_method_1_code 10 = .ok (.iload_n 2, 1) := by decide +kernel
theorem d17_11 : decode jdk_53_method_1_code 11 = .ok (.putfield 13, 3) := by decide +kernel
theorem d17_14 : decode jdk_53_method_1_code 14 = .ok (.aload_n 0, 1) := by decide +kernel
theorem d17_15 : decode jdk_53_method_1_code 15 = .ok (.iconst 0, 1) := by decide +kernel
theorem d17_16 : decode jdk_53_method_1_code 16 = .ok (.putfield 17, 3) := by decide +kernel
theorem d17_19 : decode jdk_53_method_1_code 19 = .ok (.aload_n 0, 1) := by decide +kernel
theorem d17_20 : decode jdk_53_method_1_code 20 = .ok (.iconst 0, 1) := by decide +kernel
theorem d17_21 : decode jdk_53_method_1_code 21 = .ok (.putfield 20, 3) := by decide +kernel
theorem d17_24 : decode jdk_53_method_1_code 24 = .ok (.return_, 1) := by decide +kernel
theorem pn_java_util_ImmutableCollections_ListItr : plainName cS1 = true := by first | (simp [plainName, overriddenIn]; done) | decide +kernel
theorem ef_17 (m : MethodId) (x0 : Addr) (x1 : Addr) (x2 : Int32) : entryFrame m #[(.ref x0), (.ref x1), (.int x2)] 3 = mkF m 0 #[.val (.ref x0), .val (.ref x1), .val (.int x2)] [] := by first | (simp [entryFrame, mkF, argsToLocals, Value.category]; done) | rfl
def Q_17 (Z : State) (r0 r1 : Addr) (p2 : Int32) (u_list_r0 u_size_r0 u_cursor_r0 u_isListIterator_r0 : Value) (h0 : Heap) (n0 : Nat) (v : Option Value) (h : Heap) (L : List Loc) : Prop := v = none ∧ Fr n0 L ∧ Keep h0 h [r0] ∧ Exa Z h r0 cS1 ∧ Fld Z h r0 cS1 "list" cS18 (.ref r1) ∧ Fld Z h r0 cS1 "size" "I" (.int p2) ∧ Fld Z h r0 cS1 "cursor" "I" (.int 0)
theorem rm17 (l : Launch) (Z : State) (a0 : Array Value) (hw : own_HW a0 Z) (ws : List Jvm.Cond) (r0 r1 : Addr) (p2 : Int32) (u_list_r0 u_size_r0 u_cursor_r0 u_isListIterator_r0 : Value) (h0 : Heap) (n0 : Nat) (Z0 : n0 ≤ h0.size) (E_r0 : Exa Z h0 r0 cS1) (F_list_r0 : Fld Z h0 r0 cS1 "list" cS18 u_list_r0) (ge_r0 : n0 ≤ r0) (F_size_r0 : Fld Z h0 r0 cS1 "size" "I" u_size_r0) (F_cursor_r0 : Fld Z h0 r0 cS1 "cursor" "I" u_cursor_r0) (F_isListIterator_r0 : Fld Z h0 r0 cS1 "isListIterator" "Z" u_isListIterator_r0) :
    own_M l Z (⟨cS1, "<init>", "(Ljava/util/List;I)V"⟩ : MethodName) jdk_53_method_1_code 3 none ws ({ frames := 1, cells := 0, slots := 0, locals := 12 } : Room) #[(.ref r0), (.ref r1), (.int p2)] h0 (Q_17 Z r0 r1 p2 u_list_r0 u_size_r0 u_cursor_r0 u_isListIterator_r0 h0 n0) := by
  refine own_in cS1 rfl (plainFor_of_name pn_java_util_ImmutableCollections_ListItr) ?_
  intro p e s m below meth c s₁ Bd hml hZ hh hx hby hown X0 e0
  have N0 := Fr.nil n0
  have hnm := (name_of_methodNamed Bd.named Bd.method).1
  have k0 := own_k (p := p) (e := e) (below := below) (T := s₁) (ef_17 m r0 r1 p2)
  obtain ⟨T1, X1, e1, st1⟩ := initO X0 hx hZ hown (own_at hw 124 rfl) (own_at hw 28 rfl) (own_at hw 29 rfl) e0 (g := (mkF m 1 #[rv r0, rv r1, iv p2] [(.ref r0)])) rfl (by rw [hml]; rfl) rfl (hb hby d17_1) (by decide) (W := 0) (Nat.le_refl _) (by decide)
  obtain ⟨T2, h2, X2, e2, W2, st2⟩ := putF X1 hx hZ hown (host := "") (Or.inl (own_at hw 125 rfl)) Via.refl e1 F_list_r0 E_r0 (Or.inr ⟨(own_at hw 126 rfl), rfl, hnm⟩) (own_at hw 109 rfl) (ty := (.object cS11)) (by decide) rfl rfl (g := (mkF m 6 #[rv r0, rv r1, iv p2] [(.ref r1), (.ref r0)])) rfl rfl (hb hby d17_6)
  have Fw2 : Fld Z h2 r0 cS1 "list" cS18 (.ref r1) := F_list_r0.same W2
  have N2 := Fr.snoc X2 N0 ge_r0
  have f3 := (E_r0.wr W2)
  have f4 := (F_size_r0.other W2 (Or.inr (slot_ne (Or.inr (own_at hw 128 rfl)) (Or.inr (own_at hw 126 rfl)) (by decide) (t := .int) (t' := (.object cS11)) (by decide) (by decide))))
  obtain ⟨T5, h5, X5, e5, W5, st5⟩ := putF X2 hx hZ hown (host := "") (Or.inl (own_at hw 127 rfl)) Via.refl e2 f4 f3 (Or.inr ⟨(own_at hw 128 rfl), rfl, hnm⟩) (own_at hw 109 rfl) (ty := .int) (by decide) rfl rfl (g := (mkF m 11 #[rv r0, rv r1, iv p2] [(.int p2), (.ref r0)])) rfl rfl (hb hby d17_11)
  have Fw5 : Fld Z h5 r0 cS1 "size" "I" (.int p2) := f4.same W5
  have N5 := Fr.snoc X5 N2 ge_r0
  have f6 := (f3.wr W5)
  have f7 := ((F_cursor_r0.other W2 (Or.inr (slot_ne (Or.inl (own_at hw 130 rfl)) (Or.inr (own_at hw 126 rfl)) (by decide) (t := .int) (t' := (.object cS11)) (by decide) (by decide)))).other W5 (Or.inr (slot_ne (Or.inl (own_at hw 130 rfl)) (Or.inr (own_at hw 128 rfl)) (by decide) (t := .int) (t' := .int) (by decide) (by decide))))
  obtain ⟨T8, h8, X8, e8, W8, st8⟩ := putF X5 hx hZ hown (host := "") (Or.inl (own_at hw 129 rfl)) Via.refl e5 f7 f6 (Or.inl (own_at hw 130 rfl)) (own_at hw 109 rfl) (ty := .int) (by decide) rfl rfl (g := (mkF m 16 #[rv r0, rv r1, iv p2] [(.int 0), (.ref r0)])) rfl rfl (hb hby d17_16)
  have Fw8 : Fld Z h8 r0 cS1 "cursor" "I" (.int 0) := f7.same W8
  have N8 := Fr.snoc X8 N5 ge_r0
  have f9 := (f6.wr W8)
  have f10 := (((F_isListIterator_r0.other W2 (Or.inr (slot_ne (Or.inr (own_at hw 132 rfl)) (Or.inr (own_at hw 126 rfl)) (by decide) (t := .boolean) (t' := (.object cS11)) (by decide) (by decide)))).other W5 (Or.inr (slot_ne (Or.inr (own_at hw 132 rfl)) (Or.inr (own_at hw 128 rfl)) (by decide) (t := .boolean) (t' := .int) (by decide) (by decide)))).other W8 (Or.inr (slot_ne (Or.inr (own_at hw 132 rfl)) (Or.inl (own_at hw 130 rfl)) (by decide) (t := .boolean) (t' := .int) (by decide) (by decide))))
  obtain ⟨T11, h11, X11, e11, W11, st11⟩ := putFN X8 hx hZ hown (own_at hw 131 rfl) Via.refl e8 f10 f9 (Or.inr ⟨(own_at hw 132 rfl), rfl, hnm⟩) (own_at hw 109 rfl) (ty := .boolean) (v' := (.int 0)) (by decide) rfl rfl (g := (mkF m 21 #[rv r0, rv r1, iv p2] [(.int 0), (.ref r0)])) rfl rfl (hb hby d17_21)
  have Fw11 : Fld Z h11 r0 cS1 "isListIterator" "Z" (.int 0) := f10.same W11
  have N11 := Fr.snoc X11 N8 ge_r0
  have f12 := (f9.wr W11)
  have f13 := (((Fw2.other W5 (Or.inr (slot_ne (Or.inr (own_at hw 126 rfl)) (Or.inr (own_at hw 128 rfl)) (by decide) (t := (.object cS11)) (t' := .int) (by decide) (by decide)))).other W8 (Or.inr (slot_ne (Or.inr (own_at hw 126 rfl)) (Or.inl (own_at hw 130 rfl)) (by decide) (t := (.object cS11)) (t' := .int) (by decide) (by decide)))).other W11 (Or.inr (slot_ne (Or.inr (own_at hw 126 rfl)) (Or.inr (own_at hw 132 rfl)) (by decide) (t := (.object cS11)) (t' := .boolean) (by decide) (by decide))))
  have f14 := ((Fw5.other W8 (Or.inr (slot_ne (Or.inr (own_at hw 128 rfl)) (Or.inl (own_at hw 130 rfl)) (by decide) (t := .int) (t' := .int) (by decide) (by decide)))).other W11 (Or.inr (slot_ne (Or.inr (own_at hw 128 rfl)) (Or.inr (own_at hw 132 rfl)) (by decide) (t := .int) (t' := .boolean) (by decide) (by decide))))
  have f15 := (Fw8.other W11 (Or.inr (slot_ne (Or.inl (own_at hw 130 rfl)) (Or.inr (own_at hw 132 rfl)) (by decide) (t := .int) (t' := .boolean) (by decide) (by decide))))
  refine own_out X11 Bd.notSynchronized Bd.returns (none) (fun _ => rfl) (by decide) (by decide) ?_ fun fs hr => k0 _ ?_
  · rw [e11]; exact ⟨rfl, N11, (((((Keep.refl h0 [r0]).wr W2 (Or.inl (List.mem_of_getElem? (i := 0) rfl))).wr W5 (Or.inl (List.mem_of_getElem? (i := 0) rfl))).wr W8 (Or.inl (List.mem_of_getElem? (i := 0) rfl))).wr W11 (Or.inl (List.mem_of_getElem? (i := 0) rfl))), f12, f13, f14, f15⟩
  · show OwnS p e below s₁ (mkF m 0 #[rv r0, rv r1, iv p2] []) _
    refine oAn X0 hx hby d17_0 rfl rfl ?_
    refine st1 _ ?_
    refine oAn X1 hx hby d17_4 rfl rfl (oAn X1 hx hby d17_5 rfl rfl ?_)
    refine st2 _ ?_
    refine oAn X2 hx hby d17_9 rfl rfl (oIn X2 hx hby d17_10 rfl ?_)
    refine st5 _ ?_
    refine oAn X5 hx hby d17_14 rfl rfl (oIc X5 hx hby d17_15 ?_)
    refine st8 _ ?_
    refine oAn X8 hx hby d17_19 rfl rfl (oIc X8 hx hby d17_20 ?_)
    refine st11 _ ?_
    exact X11.returnOut hx Bd.returns (hb hby d17_24) hr
theorem pd_6 : parseMethodDescriptor "(Ljava/util/List;I)V" = some ⟨[(.object cS11), .int], none⟩ := by decide +kernel
theorem d15_0 : decode jdk_46_method_10_code 0 = .ok (.new 61, 3) := by decide +kernel
theorem d15_3 : decode jdk_46_method_10_code 3 = .ok (.dup, 1) := by decide +kernel
theorem d15_4 : decode jdk_46_method_10_code 4 = .ok (.aload_n 0, 1) := by decide +kernel
theorem d15_5 : decode jdk_46_method_10_code 5 = .ok (.aload_n 0, 1) := by decide +kernel
theorem d15_6 : decode jdk_46_method_10_code 6 = .ok (.invokevirtual 13, 3) := by decide +kernel
theorem d15_9 : decode jdk_46_method_10_code 9 = .ok (.invokespecial 63, 3) := by decide +kernel
theorem d15_12 : decode jdk_46_method_10_code 12 = .ok (.areturn, 1) := by decide +kernel
theorem pn_java_util_ImmutableCollections_AbstractImmutableList : plainName cS17 = true := by first | (simp [plainName, overriddenIn]; done) | decide +kernel
theorem ef_15 (m : MethodId) (x0 : Addr) : entryFrame m #[(.ref x0)] 1 = mkF m 0 #[.val (.ref x0)] [] := by first | (simp [entryFrame, mkF, argsToLocals, Value.category]; done) | rfl
def Q_15_0 (Z : State) (r0 el : Addr) (kE : ClassId) (h0 : Heap) (n0 : Nat) (v : Option Value) (h : Heap) (L : List Loc) : Prop := ∃ it : Addr, v = some (.ref it) ∧ Fr n0 L ∧ Keep h0 h [] ∧ h0.size ≤ it ∧ Exa Z h it cS1 ∧ Fld Z h it cS1 "list" cS18 (.ref r0) ∧ Fld Z h it cS1 "size" "I" (.int 0) ∧ Fld Z h it cS1 "cursor" "I" (.int 0)
theorem rm15_0 (l : Launch) (Z : State) (a0 : Array Value) (hw : own_HW a0 Z) (ws : List Jvm.Cond) (r0 el : Addr) (kE : ClassId) (h0 : Heap) (n0 : Nat) (Z0 : n0 ≤ h0.size) (E_r0 : Exa Z h0 r0 cS7) (F_elements_r0 : Fld Z h0 r0 cS7 "elements" cS6 (.ref el)) (V_el : Arv Z h0 el kE (.object cS3) (0 : Int32) [] .null) :
    own_M l Z (⟨cS17, "iterator", "()Ljava/util/Iterator;"⟩ : MethodName) jdk_46_method_10_code 1 (some (.object "java/util/Iterator")) ws ({ frames := 2, cells := 1, slots := 4, locals := 27 } : Room) #[(.ref r0)] h0 (Q_15_0 Z r0 el kE h0 n0) := by
  refine own_in cS17 rfl (plainFor_of_name pn_java_util_ImmutableCollections_AbstractImmutableList) ?_
  intro p e s m below meth c s₁ Bd hml hZ hh hx hby hown X0 e0
  have N0 := Fr.nil n0
  have k0 := own_k (p := p) (e := e) (below := below) (T := s₁) (ef_15 m r0)
  obtain ⟨T1, h1, X1, e1, E1, A1, D1, -, st1⟩ := newO X0 hx hZ hown (own_at hw 108 rfl) (own_at hw 109 rfl) (own_at hw 110 rfl) e0 (g := (mkF m 0 #[rv r0] [])) rfl (hb hby d15_0) (by decide) (by decide)
  obtain ⟨b1, g1⟩ : ∃ z, z = h0.size := ⟨_, rfl⟩
  rw [← g1] at A1 D1 st1
  have g_b1 : n0 ≤ b1 := Nat.le_trans Z0 (Nat.le_of_eq g1.symm)
  have sz_b1 : h0.size ≤ b1 := Nat.le_trans (Keep.refl h0 []).1 (Nat.le_of_eq g1.symm)
  have F_list_b1 : Fld Z h1 b1 cS1 "list" cS18 .null := D1 (Or.inr (own_at hw 126 rfl)) (ty := (.object cS11)) (by decide)
  have F_size_b1 : Fld Z h1 b1 cS1 "size" "I" (.int 0) := D1 (Or.inr (own_at hw 128 rfl)) (ty := .int) (by decide)
  have F_cursor_b1 : Fld Z h1 b1 cS1 "cursor" "I" (.int 0) := D1 (Or.inl (own_at hw 130 rfl)) (ty := .int) (by decide)
  have F_isListIterator_b1 : Fld Z h1 b1 cS1 "isListIterator" "Z" (.int 0) := D1 (Or.inr (own_at hw 132 rfl)) (ty := .boolean) (by decide)
  have f3 := (F_elements_r0.ext E1)
  have f4 := (V_el.ext E1)
  have f5 := (E_r0.ext E1)
  obtain ⟨cq2, kq2, q2a, q2b, q2c⟩ := isOf hZ e1 f5
  obtain ⟨_, _, ⟨T2, L2, j2, i2⟩, -, X2, ⟨Lc2, hQ2, l2, y2, z2⟩, st2⟩ := X1.virtualBackUp hx (owner := cS21) (x := (⟨cS17, "size", "()I"⟩ : MethodName)) (y := (⟨cS7, "size", "()I"⟩ : MethodName)) hown (mvT hZ (own_at hw 111 rfl)) (mvT hZ (own_at hw 112 rfl)) (mvT hZ (own_at hw 113 rfl)) (by decide) (mvT hZ (own_at hw 114 rfl)) (mvT hZ (own_at hw 115 rfl)) (backOf (W := 3) (rm16_0 l Z a0 hw [] r0 el kE h1 n0 (Nat.le_trans Z0 E1.1) f3 f4) hZ (own_at hw 117 rfl) (own_at hw 116 rfl) (by decide) (by decide)) q2a q2c (g := (mkF m 6 #[rv r0] [(.ref r0), (.ref r0), (.ref b1), (.ref b1)])) rfl (by rw [hml]; rfl) (Steps.refl _) (argsL := []) (rest := [(.ref r0), (.ref b1), (.ref b1)]) (lenOf pd_5 rfl) rfl (Nat.le_refl _) (hb hby d15_6) (fun _ _ => ⟨rfl, e1, (by decide : 1 + 0 ≤ _), (by decide : 4 + 0 ≤ _)⟩)
  dsimp only [Pt.U, Pt.locs, Pt.cells, Pt.slots] at X2 l2 y2 z2 st2 hQ2
  subst l2 y2 z2
  obtain ⟨rfl, N2q, e2⟩ := hQ2
  have N2 := Fr.app N0 N2q
  obtain ⟨_, _, ⟨T6, L6, j6, i6⟩, -, X6, ⟨Lc6, hQ6, l6, y6, z6⟩, st6⟩ := X2.specialBack hx (y := (⟨cS1, "<init>", "(Ljava/util/List;I)V"⟩ : MethodName)) rfl hown (mvT hZ (own_at hw 120 rfl)) (mvT hZ (own_at hw 121 rfl)) (mvT hZ (own_at hw 123 rfl)) (by decide) (backOf (W := 1) (rm17 l Z a0 hw [] b1 r0 (0 : Int32) .null (.int 0) (.int 0) (.int 0) h1 n0 (Nat.le_trans Z0 E1.1) A1 F_list_b1 g_b1 F_size_b1 F_cursor_b1 F_isListIterator_b1) hZ (own_at hw 123 rfl) (own_at hw 110 rfl) (by decide) (by decide)) (g := (mkF m 9 #[rv r0] [(.int 0), (.ref r0), (.ref b1), (.ref b1)])) rfl (by rw [hml]; rfl) (Steps.refl _) (a := b1) (argsL := [(.ref r0), (.int 0)]) (rest := [(.ref b1)]) (lenOf pd_6 rfl) rfl (Nat.le_refl _) (hb hby d15_9) (fun _ _ => ⟨rfl, e2, (by decide : 1 + 0 ≤ _), (by decide : 4 + 0 ≤ _)⟩)
  dsimp only [Pt.U, Pt.locs, Pt.cells, Pt.slots] at X6 l6 y6 z6 st6 hQ6
  subst l6 y6 z6
  obtain ⟨rfl, N6q, K6, p6_0, p6_1, p6_2, p6_3⟩ := hQ6
  have pl6 := (allS (P := fun x => ∃ cell : Cell, h1[x]? = some cell ∧ cell.vm.isStatics = false) (own_ns A1) all0)
  have N6 := Fr.app N2 N6q
  refine own_out X6 Bd.notSynchronized Bd.returns (some (.ref b1)) nofun (by decide) (by decide) ?_ fun fs hr => k0 _ ?_
  · exact ⟨b1, rfl, N6, (((Keep.refl h0 []).ext E1).trans K6 (allS (Or.inr sz_b1) all0)), sz_b1, p6_0, p6_1, p6_2, p6_3⟩
  · show OwnS p e below s₁ (mkF m 0 #[rv r0] []) _
    refine st1 _ ?_
    refine XS.dup X1.here hx rfl (hb hby d15_3) rfl rfl ?_
    refine oAn X1 hx hby d15_4 rfl rfl (oAn X1 hx hby d15_5 rfl rfl ?_)
    refine st2.trans ?_
    refine st6.trans ?_
    jvm_step X6.here [X6.here.top, hx, (hb hby d15_12), X6.method', Bd.returns, Value.isRef, FieldType.isReference]
    first | (intro acts; rw [hr _ acts rfl rfl rfl]) | rw [hr _ _ rfl rfl rfl]
    exact Steps.refl _
def Q_15_1 (Z : State) (r0 w_EMPTY x0 : Addr) (h0 : Heap) (n0 : Nat) (v : Option Value) (h : Heap) (L : List Loc) : Prop := ∃ it : Addr, v = some (.ref it) ∧ Fr n0 L ∧ Keep h0 h [] ∧ h0.size ≤ it ∧ Exa Z h it cS1 ∧ Fld Z h it cS1 "list" cS18 (.ref r0) ∧ Fld Z h it cS1 "size" "I" (.int 1) ∧ Fld Z h it cS1 "cursor" "I" (.int 0)
theorem rm15_1 (l : Launch) (Z : State) (a0 : Array Value) (hw : own_HW a0 Z) (ws : List Jvm.Cond) (r0 w_EMPTY x0 : Addr) (h0 : Heap) (n0 : Nat) (Z0 : n0 ≤ h0.size) (S_EMPTY : Sta Z h0 cS14 "EMPTY" cS13 (.ref w_EMPTY)) (E_r0 : Exa Z h0 r0 cS5) (F_e0_r0 : Fld Z h0 r0 cS5 "e0" cS13 (.ref x0)) (F_e1_r0 : Fld Z h0 r0 cS5 "e1" cS13 (.ref w_EMPTY)) :
    own_M l Z (⟨cS17, "iterator", "()Ljava/util/Iterator;"⟩ : MethodName) jdk_46_method_10_code 1 (some (.object "java/util/Iterator")) ws ({ frames := 2, cells := 1, slots := 4, locals := 27 } : Room) #[(.ref r0)] h0 (Q_15_1 Z r0 w_EMPTY x0 h0 n0) := by
  refine own_in cS17 rfl (plainFor_of_name pn_java_util_ImmutableCollections_AbstractImmutableList) ?_
  intro p e s m below meth c s₁ Bd hml hZ hh hx hby hown X0 e0
  have N0 := Fr.nil n0
  have k0 := own_k (p := p) (e := e) (below := below) (T := s₁) (ef_15 m r0)
  obtain ⟨T1, h1, X1, e1, E1, A1, D1, -, st1⟩ := newO X0 hx hZ hown (own_at hw 108 rfl) (own_at hw 109 rfl) (own_at hw 110 rfl) e0 (g := (mkF m 0 #[rv r0] [])) rfl (hb hby d15_0) (by decide) (by decide)
  obtain ⟨b1, g1⟩ : ∃ z, z = h0.size := ⟨_, rfl⟩
  rw [← g1] at A1 D1 st1
  have g_b1 : n0 ≤ b1 := Nat.le_trans Z0 (Nat.le_of_eq g1.symm)
  have sz_b1 : h0.size ≤ b1 := Nat.le_trans (Keep.refl h0 []).1 (Nat.le_of_eq g1.symm)
  have F_list_b1 : Fld Z h1 b1 cS1 "list" cS18 .null := D1 (Or.inr (own_at hw 126 rfl)) (ty := (.object cS11)) (by decide)
  have F_size_b1 : Fld Z h1 b1 cS1 "size" "I" (.int 0) := D1 (Or.inr (own_at hw 128 rfl)) (ty := .int) (by decide)
  have F_cursor_b1 : Fld Z h1 b1 cS1 "cursor" "I" (.int 0) := D1 (Or.inl (own_at hw 130 rfl)) (ty := .int) (by decide)
  have F_isListIterator_b1 : Fld Z h1 b1 cS1 "isListIterator" "Z" (.int 0) := D1 (Or.inr (own_at hw 132 rfl)) (ty := .boolean) (by decide)
  have f3 := (S_EMPTY.ext E1)
  have f4 := (F_e1_r0.ext E1)
  have f5 := (E_r0.ext E1)
  obtain ⟨cq2, kq2, q2a, q2b, q2c⟩ := isOf hZ e1 f5
  obtain ⟨_, _, ⟨T2, L2, j2, i2⟩, -, X2, ⟨Lc2, hQ2, l2, y2, z2⟩, st2⟩ := X1.virtualBackUp hx (owner := cS21) (x := (⟨cS17, "size", "()I"⟩ : MethodName)) (y := (⟨cS5, "size", "()I"⟩ : MethodName)) hown (mvT hZ (own_at hw 111 rfl)) (mvT hZ (own_at hw 112 rfl)) (mvT hZ (own_at hw 113 rfl)) (by decide) (mvT hZ (own_at hw 349 rfl)) (mvT hZ (own_at hw 350 rfl)) (backOf (W := 3) (rm48_1 l Z a0 hw [] r0 w_EMPTY h1 n0 (Nat.le_trans Z0 E1.1) f3 f4) hZ (own_at hw 351 rfl) (own_at hw 332 rfl) (by decide) (by decide)) q2a q2c (g := (mkF m 6 #[rv r0] [(.ref r0), (.ref r0), (.ref b1), (.ref b1)])) rfl (by rw [hml]; rfl) (Steps.refl _) (argsL := []) (rest := [(.ref r0), (.ref b1), (.ref b1)]) (lenOf pd_5 rfl) rfl (Nat.le_refl _) (hb hby d15_6) (fun _ _ => ⟨rfl, e1, (by decide : 1 + 0 ≤ _), (by decide : 4 + 0 ≤ _)⟩)
  dsimp only [Pt.U, Pt.locs, Pt.cells, Pt.slots] at X2 l2 y2 z2 st2 hQ2
  subst l2 y2 z2
  obtain ⟨rfl, N2q, e2⟩ := hQ2
  have N2 := Fr.app N0 N2q
  obtain ⟨_, _, ⟨T6, L6, j6, i6⟩, -, X6, ⟨Lc6, hQ6, l6, y6, z6⟩, st6⟩ := X2.specialBack hx (y := (⟨cS1, "<init>", "(Ljava/util/List;I)V"⟩ : MethodName)) rfl hown (mvT hZ (own_at hw 120 rfl)) (mvT hZ (own_at hw 121 rfl)) (mvT hZ (own_at hw 123 rfl)) (by decide) (backOf (W := 1) (rm17 l Z a0 hw [] b1 r0 (1 : Int32) .null (.int 0) (.int 0) (.int 0) h1 n0 (Nat.le_trans Z0 E1.1) A1 F_list_b1 g_b1 F_size_b1 F_cursor_b1 F_isListIterator_b1) hZ (own_at hw 123 rfl) (own_at hw 110 rfl) (by decide) (by decide)) (g := (mkF m 9 #[rv r0] [(.int 1), (.ref r0), (.ref b1), (.ref b1)])) rfl (by rw [hml]; rfl) (Steps.refl _) (a := b1) (argsL := [(.ref r0), (.int 1)]) (rest := [(.ref b1)]) (lenOf pd_6 rfl) rfl (Nat.le_refl _) (hb hby d15_9) (fun _ _ => ⟨rfl, e2, (by decide : 1 + 0 ≤ _), (by decide : 4 + 0 ≤ _)⟩)
  dsimp only [Pt.U, Pt.locs, Pt.cells, Pt.slots] at X6 l6 y6 z6 st6 hQ6
  subst l6 y6 z6
  obtain ⟨rfl, N6q, K6, p6_0, p6_1, p6_2, p6_3⟩ := hQ6
  have pl6 := (allS (P := fun x => ∃ cell : Cell, h1[x]? = some cell ∧ cell.vm.isStatics = false) (own_ns A1) all0)
  have N6 := Fr.app N2 N6q
  refine own_out X6 Bd.notSynchronized Bd.returns (some (.ref b1)) nofun (by decide) (by decide) ?_ fun fs hr => k0 _ ?_
  · exact ⟨b1, rfl, N6, (((Keep.refl h0 []).ext E1).trans K6 (allS (Or.inr sz_b1) all0)), sz_b1, p6_0, p6_1, p6_2, p6_3⟩
  · show OwnS p e below s₁ (mkF m 0 #[rv r0] []) _
    refine st1 _ ?_
    refine XS.dup X1.here hx rfl (hb hby d15_3) rfl rfl ?_
    refine oAn X1 hx hby d15_4 rfl rfl (oAn X1 hx hby d15_5 rfl rfl ?_)
    refine st2.trans ?_
    refine st6.trans ?_
    jvm_step X6.here [X6.here.top, hx, (hb hby d15_12), X6.method', Bd.returns, Value.isRef, FieldType.isReference]
    first | (intro acts; rw [hr _ acts rfl rfl rfl]) | rw [hr _ _ rfl rfl rfl]
    exact Steps.refl _
def Q_15_2 (Z : State) (r0 w_EMPTY x0 x1 : Addr) (h0 : Heap) (n0 : Nat) (v : Option Value) (h : Heap) (L : List Loc) : Prop := ∃ it : Addr, v = some (.ref it) ∧ Fr n0 L ∧ Keep h0 h [] ∧ h0.size ≤ it ∧ Exa Z h it cS1 ∧ Fld Z h it cS1 "list" cS18 (.ref r0) ∧ Fld Z h it cS1 "size" "I" (.int 2) ∧ Fld Z h it cS1 "cursor" "I" (.int 0)
theorem rm15_2 (l : Launch) (Z : State) (a0 : Array Value) (hw : own_HW a0 Z) (ws : List Jvm.Cond) (r0 w_EMPTY x0 x1 : Addr) (h0 : Heap) (n0 : Nat) (Z0 : n0 ≤ h0.size) (S_EMPTY : Sta Z h0 cS14 "EMPTY" cS13 (.ref w_EMPTY)) (hne : ¬ (x1 = w_EMPTY)) (E_r0 : Exa Z h0 r0 cS5) (F_e0_r0 : Fld Z h0 r0 cS5 "e0" cS13 (.ref x0)) (F_e1_r0 : Fld Z h0 r0 cS5 "e1" cS13 (.ref x1)) :
    own_M l Z (⟨cS17, "iterator", "()Ljava/util/Iterator;"⟩ : MethodName) jdk_46_method_10_code 1 (some (.object "java/util/Iterator")) ws ({ frames := 2, cells := 1, slots := 4, locals := 27 } : Room) #[(.ref r0)] h0 (Q_15_2 Z r0 w_EMPTY x0 x1 h0 n0) := by
  refine own_in cS17 rfl (plainFor_of_name pn_java_util_ImmutableCollections_AbstractImmutableList) ?_
  intro p e s m below meth c s₁ Bd hml hZ hh hx hby hown X0 e0
  have N0 := Fr.nil n0
  have k0 := own_k (p := p) (e := e) (below := below) (T := s₁) (ef_15 m r0)
  obtain ⟨T1, h1, X1, e1, E1, A1, D1, -, st1⟩ := newO X0 hx hZ hown (own_at hw 108 rfl) (own_at hw 109 rfl) (own_at hw 110 rfl) e0 (g := (mkF m 0 #[rv r0] [])) rfl (hb hby d15_0) (by decide) (by decide)
  obtain ⟨b1, g1⟩ : ∃ z, z = h0.size := ⟨_, rfl⟩
  rw [← g1] at A1 D1 st1
  have g_b1 : n0 ≤ b1 := Nat.le_trans Z0 (Nat.le_of_eq g1.symm)
  have sz_b1 : h0.size ≤ b1 := Nat.le_trans (Keep.refl h0 []).1 (Nat.le_of_eq g1.symm)
  have F_list_b1 : Fld Z h1 b1 cS1 "list" cS18 .null := D1 (Or.inr (own_at hw 126 rfl)) (ty := (.object cS11)) (by decide)
  have F_size_b1 : Fld Z h1 b1 cS1 "size" "I" (.int 0) := D1 (Or.inr (own_at hw 128 rfl)) (ty := .int) (by decide)
  have F_cursor_b1 : Fld Z h1 b1 cS1 "cursor" "I" (.int 0) := D1 (Or.inl (own_at hw 130 rfl)) (ty := .int) (by decide)
  have F_isListIterator_b1 : Fld Z h1 b1 cS1 "isListIterator" "Z" (.int 0) := D1 (Or.inr (own_at hw 132 rfl)) (ty := .boolean) (by decide)
  have f3 := (S_EMPTY.ext E1)
  have f4 := (F_e1_r0.ext E1)
  have f5 := (E_r0.ext E1)
  obtain ⟨cq2, kq2, q2a, q2b, q2c⟩ := isOf hZ e1 f5
  obtain ⟨_, _, ⟨T2, L2, j2, i2⟩, -, X2, ⟨Lc2, hQ2, l2, y2, z2⟩, st2⟩ := X1.virtualBackUp hx (owner := cS21) (x := (⟨cS17, "size", "()I"⟩ : MethodName)) (y := (⟨cS5, "size", "()I"⟩ : MethodName)) hown (mvT hZ (own_at hw 111 rfl)) (mvT hZ (own_at hw 112 rfl)) (mvT hZ (own_at hw 113 rfl)) (by decide) (mvT hZ (own_at hw 349 rfl)) (mvT hZ (own_at hw 350 rfl)) (backOf (W := 3) (rm48_2 l Z a0 hw [] r0 w_EMPTY x1 h1 n0 (Nat.le_trans Z0 E1.1) f3 f4 hne) hZ (own_at hw 351 rfl) (own_at hw 332 rfl) (by decide) (by decide)) q2a q2c (g := (mkF m 6 #[rv r0] [(.ref r0), (.ref r0), (.ref b1), (.ref b1)])) rfl (by rw [hml]; rfl) (Steps.refl _) (argsL := []) (rest := [(.ref r0), (.ref b1), (.ref b1)]) (lenOf pd_5 rfl) rfl (Nat.le_refl _) (hb hby d15_6) (fun _ _ => ⟨rfl, e1, (by decide : 1 + 0 ≤ _), (by decide : 4 + 0 ≤ _)⟩)
  dsimp only [Pt.U, Pt.locs, Pt.cells, Pt.slots] at X2 l2 y2 z2 st2 hQ2
  subst l2 y2 z2
  obtain ⟨rfl, N2q, e2⟩ := hQ2
  have N2 := Fr.app N0 N2q
  obtain ⟨_, _, ⟨T6, L6, j6, i6⟩, -, X6, ⟨Lc6, hQ6, l6, y6, z6⟩, st6⟩ := X2.specialBack hx (y := (⟨cS1, "<init>", "(Ljava/util/List;I)V"⟩ : MethodName)) rfl hown (mvT hZ (own_at hw 120 rfl)) (mvT hZ (own_at hw 121 rfl)) (mvT hZ (own_at hw 123 rfl)) (by decide) (backOf (W := 1) (rm17 l Z a0 hw [] b1 r0 (2 : Int32) .null (.int 0) (.int 0) (.int 0) h1 n0 (Nat.le_trans Z0 E1.1) A1 F_list_b1 g_b1 F_size_b1 F_cursor_b1 F_isListIterator_b1) hZ (own_at hw 123 rfl) (own_at hw 110 rfl) (by decide) (by decide)) (g := (mkF m 9 #[rv r0] [(.int 2), (.ref r0), (.ref b1), (.ref b1)])) rfl (by rw [hml]; rfl) (Steps.refl _) (a := b1) (argsL := [(.ref r0), (.int 2)]) (rest := [(.ref b1)]) (lenOf pd_6 rfl) rfl (Nat.le_refl _) (hb hby d15_9) (fun _ _ => ⟨rfl, e2, (by decide : 1 + 0 ≤ _), (by decide : 4 + 0 ≤ _)⟩)
  dsimp only [Pt.U, Pt.locs, Pt.cells, Pt.slots] at X6 l6 y6 z6 st6 hQ6
  subst l6 y6 z6
  obtain ⟨rfl, N6q, K6, p6_0, p6_1, p6_2, p6_3⟩ := hQ6
  have pl6 := (allS (P := fun x => ∃ cell : Cell, h1[x]? = some cell ∧ cell.vm.isStatics = false) (own_ns A1) all0)
  have N6 := Fr.app N2 N6q
  refine own_out X6 Bd.notSynchronized Bd.returns (some (.ref b1)) nofun (by decide) (by decide) ?_ fun fs hr => k0 _ ?_
  · exact ⟨b1, rfl, N6, (((Keep.refl h0 []).ext E1).trans K6 (allS (Or.inr sz_b1) all0)), sz_b1, p6_0, p6_1, p6_2, p6_3⟩
  · show OwnS p e below s₁ (mkF m 0 #[rv r0] []) _
    refine st1 _ ?_
    refine XS.dup X1.here hx rfl (hb hby d15_3) rfl rfl ?_
    refine oAn X1 hx hby d15_4 rfl rfl (oAn X1 hx hby d15_5 rfl rfl ?_)
    refine st2.trans ?_
    refine st6.trans ?_
    jvm_step X6.here [X6.here.top, hx, (hb hby d15_12), X6.method', Bd.returns, Value.isRef, FieldType.isReference]
    first | (intro acts; rw [hr _ acts rfl rfl rfl]) | rw [hr _ _ rfl rfl rfl]
    exact Steps.refl _
def Q_15_3 (Z : State) (r0 el : Addr) (kE : ClassId) (x0 x1 x2 : Addr) (h0 : Heap) (n0 : Nat) (v : Option Value) (h : Heap) (L : List Loc) : Prop := ∃ it : Addr, v = some (.ref it) ∧ Fr n0 L ∧ Keep h0 h [] ∧ h0.size ≤ it ∧ Exa Z h it cS1 ∧ Fld Z h it cS1 "list" cS18 (.ref r0) ∧ Fld Z h it cS1 "size" "I" (.int 3) ∧ Fld Z h it cS1 "cursor" "I" (.int 0)
theorem rm15_3 (l : Launch) (Z : State) (a0 : Array Value) (hw : own_HW a0 Z) (ws : List Jvm.Cond) (r0 el : Addr) (kE : ClassId) (x0 x1 x2 : Addr) (h0 : Heap) (n0 : Nat) (Z0 : n0 ≤ h0.size) (E_r0 : Exa Z h0 r0 cS7) (F_elements_r0 : Fld Z h0 r0 cS7 "elements" cS6 (.ref el)) (V_el : Arv Z h0 el kE (.object cS3) (3 : Int32) [(.ref x0), (.ref x1), (.ref x2)] .null) :
    own_M l Z (⟨cS17, "iterator", "()Ljava/util/Iterator;"⟩ : MethodName) jdk_46_method_10_code 1 (some (.object "java/util/Iterator")) ws ({ frames := 2, cells := 1, slots := 4, locals := 27 } : Room) #[(.ref r0)] h0 (Q_15_3 Z r0 el kE x0 x1 x2 h0 n0) := by
  refine own_in cS17 rfl (plainFor_of_name pn_java_util_ImmutableCollections_AbstractImmutableList) ?_
  intro p e s m below meth c s₁ Bd hml hZ hh hx hby hown X0 e0
  have N0 := Fr.nil n0
  have k0 := own_k (p := p) (e := e) (below := below) (T := s₁) (ef_15 m r0)
  obtain ⟨T1, h1, X1, e1, E1, A1, D1, -, st1⟩ := newO X0 hx hZ hown (own_at hw 108 rfl) (own_at hw 109 rfl) (own_at hw 110 rfl) e0 (g := (mkF m 0 #[rv r0] [])) rfl (hb hby d15_0) (by decide) (by decide)
  obtain ⟨b1, g1⟩ : ∃ z, z = h0.size := ⟨_, rfl⟩
  rw [← g1] at A1 D1 st1
  have g_b1 : n0 ≤ b1 := Nat.le_trans Z0 (Nat.le_of_eq g1.symm)
  have sz_b1 : h0.size ≤ b1 := Nat.le_trans (Keep.refl h0 []).1 (Nat.le_of_eq g1.symm)
  have F_list_b1 : Fld Z h1 b1 cS1 "list" cS18 .null := D1 (Or.inr (own_at hw 126 rfl)) (ty := (.object cS11)) (by decide)
  have F_size_b1 : Fld Z h1 b1 cS1 "size" "I" (.int 0) := D1 (Or.inr (own_at hw 128 rfl)) (ty := .int) (by decide)
  have F_cursor_b1 : Fld Z h1 b1 cS1 "cursor" "I" (.int 0) := D1 (Or.inl (own_at hw 130 rfl)) (ty := .int) (by decide)
  have F_isListIterator_b1 : Fld Z h1 b1 cS1 "isListIterator" "Z" (.int 0) := D1 (Or.inr (own_at hw 132 rfl)) (ty := .boolean) (by decide)
  have f3 := (F_elements_r0.ext E1)
  have f4 := (V_el.ext E1)
  have f5 := (E_r0.ext E1)
  obtain ⟨cq2, kq2, q2a, q2b, q2c⟩ := isOf hZ e1 f5
  obtain ⟨_, _, ⟨T2, L2, j2, i2⟩, -, X2, ⟨Lc2, hQ2, l2, y2, z2⟩, st2⟩ := X1.virtualBackUp hx (owner := cS21) (x := (⟨cS17, "size", "()I"⟩ : MethodName)) (y := (⟨cS7, "size", "()I"⟩ : MethodName)) hown (mvT hZ (own_at hw 111 rfl)) (mvT hZ (own_at hw 112 rfl)) (mvT hZ (own_at hw 113 rfl)) (by decide) (mvT hZ (own_at hw 114 rfl)) (mvT hZ (own_at hw 115 rfl)) (backOf (W := 3) (rm16_3 l Z a0 hw [] r0 el kE x0 x1 x2 h1 n0 (Nat.le_trans Z0 E1.1) f3 f4) hZ (own_at hw 117 rfl) (own_at hw 116 rfl) (by decide) (by decide)) q2a q2c (g := (mkF m 6 #[rv r0] [(.ref r0), (.ref r0), (.ref b1), (.ref b1)])) rfl (by rw [hml]; rfl) (Steps.refl _) (argsL := []) (rest := [(.ref r0), (.ref b1), (.ref b1)]) (lenOf pd_5 rfl) rfl (Nat.le_refl _) (hb hby d15_6) (fun _ _ => ⟨rfl, e1, (by decide : 1 + 0 ≤ _), (by decide : 4 + 0 ≤ _)⟩)
  dsimp only [Pt.U, Pt.locs, Pt.cells, Pt.slots] at X2 l2 y2 z2 st2 hQ2
  subst l2 y2 z2
  obtain ⟨rfl, N2q, e2⟩ := hQ2
  have N2 := Fr.app N0 N2q
  obtain ⟨_, _, ⟨T6, L6, j6, i6⟩, -, X6, ⟨Lc6, hQ6, l6, y6, z6⟩, st6⟩ := X2.specialBack hx (y := (⟨cS1, "<init>", "(Ljava/util/List;I)V"⟩ : MethodName)) rfl hown (mvT hZ (own_at hw 120 rfl)) (mvT hZ (own_at hw 121 rfl)) (mvT hZ (own_at hw 123 rfl)) (by decide) (backOf (W := 1) (rm17 l Z a0 hw [] b1 r0 (3 : Int32) .null (.int 0) (.int 0) (.int 0) h1 n0 (Nat.le_trans Z0 E1.1) A1 F_list_b1 g_b1 F_size_b1 F_cursor_b1 F_isListIterator_b1) hZ (own_at hw 123 rfl) (own_at hw 110 rfl) (by decide) (by decide)) (g := (mkF m 9 #[rv r0] [(.int 3), (.ref r0), (.ref b1), (.ref b1)])) rfl (by rw [hml]; rfl) (Steps.refl _) (a := b1) (argsL := [(.ref r0), (.int 3)]) (rest := [(.ref b1)]) (lenOf pd_6 rfl) rfl (Nat.le_refl _) (hb hby d15_9) (fun _ _ => ⟨rfl, e2, (by decide : 1 + 0 ≤ _), (by decide : 4 + 0 ≤ _)⟩)
  dsimp only [Pt.U, Pt.locs, Pt.cells, Pt.slots] at X6 l6 y6 z6 st6 hQ6
  subst l6 y6 z6
  obtain ⟨rfl, N6q, K6, p6_0, p6_1, p6_2, p6_3⟩ := hQ6
  have pl6 := (allS (P := fun x => ∃ cell : Cell, h1[x]? = some cell ∧ cell.vm.isStatics = false) (own_ns A1) all0)
  have N6 := Fr.app N2 N6q
  refine own_out X6 Bd.notSynchronized Bd.returns (some (.ref b1)) nofun (by decide) (by decide) ?_ fun fs hr => k0 _ ?_
  · exact ⟨b1, rfl, N6, (((Keep.refl h0 []).ext E1).trans K6 (allS (Or.inr sz_b1) all0)), sz_b1, p6_0, p6_1, p6_2, p6_3⟩
  · show OwnS p e below s₁ (mkF m 0 #[rv r0] []) _
    refine st1 _ ?_
    refine XS.dup X1.here hx rfl (hb hby d15_3) rfl rfl ?_
    refine oAn X1 hx hby d15_4 rfl rfl (oAn X1 hx hby d15_5 rfl rfl ?_)
    refine st2.trans ?_
    refine st6.trans ?_
    jvm_step X6.here [X6.here.top, hx, (hb hby d15_12), X6.method', Bd.returns, Value.isRef, FieldType.isReference]
    first | (intro acts; rw [hr _ acts rfl rfl rfl]) | rw [hr _ _ rfl rfl rfl]
    exact Steps.refl _
theorem d18_0 : decode jdk_53_method_3_code 0 = .ok (.aload_n 0, 1) := by decide +kernel
theorem d18_1 : decode jdk_53_method_3_code 1 = .ok (.getfield 17, 3) := by decide +kernel
theorem d18_4 : decode jdk_53_method_3_code 4 = .ok (.aload_n 0, 1) := by decide +kernel
theorem d18_5 : decode jdk_53_method_3_code 5 = .ok (.getfield 13, 3) := by decide +kernel
theorem d18_8 : decode jdk_53_method_3_code 8 = .ok (.if_icmp .eq 7, 3) := by decide +kernel
theorem d18_15 : decode jdk_53_method_3_code 15 = .ok (.iconst 0, 1) := by decide +kernel
theorem d18_16 : decode jdk_53_method_3_code 16 = .ok (.ireturn, 1) := by decide +kernel
theorem ef_18 (m : MethodId) (x0 : Addr) : entryFrame m #[(.ref x0)] 1 = mkF m 0 #[.val (.ref x0)] [] := by first | (simp [entryFrame, mkF, argsToLocals, Value.category]; done) | rfl
def Q_18_t (Z : State) (r0 : Addr) (pc pz : Int32) (h0 : Heap) (n0 : Nat) (v : Option Value) (h : Heap) (L : List Loc) : Prop := v = some (.int 0) ∧ Fr n0 L ∧ h = h0
theorem rm18_t (l : Launch) (Z : State) (a0 : Array Value) (hw : own_HW a0 Z) (ws : List Jvm.Cond) (r0 : Addr) (pc pz : Int32) (h0 : Heap) (n0 : Nat) (Z0 : n0 ≤ h0.size) (F_cursor_r0 : Fld Z h0 r0 cS1 "cursor" "I" (.int pc)) (F_size_r0 : Fld Z h0 r0 cS1 "size" "I" (.int pz)) (hc8 : pc = pz) :
    own_M l Z (⟨cS1, "hasNext", "()Z"⟩ : MethodName) jdk_53_method_3_code 1 (some .boolean) ws ({ frames := 0, cells := 0, slots := 0, locals := 0 } : Room) #[(.ref r0)] h0 (Q_18_t Z r0 pc pz h0 n0) := by
  refine own_in cS1 rfl (plainFor_of_name pn_java_util_ImmutableCollections_ListItr) ?_
  intro p e s m below meth c s₁ Bd hml hZ hh hx hby hown X0 e0
  have N0 := Fr.nil n0
  have k0 := own_k (p := p) (e := e) (below := below) (T := s₁) (ef_18 m r0)
  obtain ⟨T1, X1, e1, st1⟩ := getF X0 hx hZ hown (host := "") (Or.inl (own_at hw 129 rfl)) Via.refl e0 F_cursor_r0 (g := (mkF m 1 #[rv r0] [(.ref r0)])) rfl rfl (hb hby d18_1)
  obtain ⟨T2, X2, e2, st2⟩ := getF X1 hx hZ hown (host := "") (Or.inl (own_at hw 127 rfl)) Via.refl e1 F_size_r0 (g := (mkF m 5 #[rv r0] [(.ref r0), (.int pc)])) rfl rfl (hb hby d18_5)
  refine own_out X2 Bd.notSynchronized Bd.returns (some (.int 0)) nofun (by decide) (by decide) ?_ fun fs hr => k0 _ ?_
  · rw [e2]; exact ⟨rfl, N0, rfl⟩
  · show OwnS p e below s₁ (mkF m 0 #[rv r0] []) _
    refine oAn X0 hx hby d18_0 rfl rfl ?_
    refine st1 _ ?_
    refine oAn X1 hx hby d18_4 rfl rfl ?_
    refine st2 _ ?_
    refine XS.icmpYes X2.here hx rfl (pc0 := 8) (pc' := 15) rfl (hb hby d18_8) rfl (teq hc8).1 (by decide) (by decide) ?_
    refine oIc X2 hx hby d18_15 ?_
    exact retN X2 hx (t := .boolean) Bd.returns (by simp) (hb hby d18_16) hr
theorem d18_11 : decode jdk_53_method_3_code 11 = .ok (.iconst 1, 1) := by decide +kernel
theorem d18_12 : decode jdk_53_method_3_code 12 = .ok (.goto 4, 3) := by decide +kernel
def Q_18_f (Z : State) (r0 : Addr) (pc pz : Int32) (h0 : Heap) (n0 : Nat) (v : Option Value) (h : Heap) (L : List Loc) : Prop := v = some (.int 1) ∧ Fr n0 L ∧ h = h0
theorem rm18_f (l : Launch) (Z : State) (a0 : Array Value) (hw : own_HW a0 Z) (ws : List Jvm.Cond) (r0 : Addr) (pc pz : Int32) (h0 : Heap) (n0 : Nat) (Z0 : n0 ≤ h0.size) (F_cursor_r0 : Fld Z h0 r0 cS1 "cursor" "I" (.int pc)) (F_size_r0 : Fld Z h0 r0 cS1 "size" "I" (.int pz)) (hc8 : ¬ (pc = pz)) :
    own_M l Z (⟨cS1, "hasNext", "()Z"⟩ : MethodName) jdk_53_method_3_code 1 (some .boolean) ws ({ frames := 0, cells := 0, slots := 0, locals := 0 } : Room) #[(.ref r0)] h0 (Q_18_f Z r0 pc pz h0 n0) := by
  refine own_in cS1 rfl (plainFor_of_name pn_java_util_ImmutableCollections_ListItr) ?_
  intro p e s m below meth c s₁ Bd hml hZ hh hx hby hown X0 e0
  have N0 := Fr.nil n0
  have k0 := own_k (p := p) (e := e) (below := below) (T := s₁) (ef_18 m r0)
  obtain ⟨T1, X1, e1, st1⟩ := getF X0 hx hZ hown (host := "") (Or.inl (own_at hw 129 rfl)) Via.refl e0 F_cursor_r0 (g := (mkF m 1 #[rv r0] [(.ref r0)])) rfl rfl (hb hby d18_1)
  obtain ⟨T2, X2, e2, st2⟩ := getF X1 hx hZ hown (host := "") (Or.inl (own_at hw 127 rfl)) Via.refl e1 F_size_r0 (g := (mkF m 5 #[rv r0] [(.ref r0), (.int pc)])) rfl rfl (hb hby d18_5)
  refine own_out X2 Bd.notSynchronized Bd.returns (some (.int 1)) nofun (by decide) (by decide) ?_ fun fs hr => k0 _ ?_
  · rw [e2]; exact ⟨rfl, N0, rfl⟩
  · show OwnS p e below s₁ (mkF m 0 #[rv r0] []) _
    refine oAn X0 hx hby d18_0 rfl rfl ?_
    refine st1 _ ?_
    refine oAn X1 hx hby d18_4 rfl rfl ?_
    refine st2 _ ?_
    refine XS.icmpNo X2.here hx rfl (hb hby d18_8) rfl (feq hc8).1 ?_
    refine oIc X2 hx hby d18_11 (oGo X2 hx hby 12 16 d18_12 (by decide) (by decide) ?_)
    exact retN X2 hx (t := .boolean) Bd.returns (by simp) (hb hby d18_16) hr
theorem pd_7 : parseMethodDescriptor "(I)Ljava/lang/Object;" = some ⟨[.int], some (.object cS3)⟩ := by decide +kernel
theorem d45_0 : decode jdk_53_method_4_code 0 = .ok (.aload_n 0, 1) := by decide +kernel
theorem d45_1 : decode jdk_53_method_4_code 1 = .ok (.getfield 17, 3) := by decide +kernel
theorem d45_4 : decode jdk_53_method_4_code 4 = .ok (.istore_n 1, 1) := by decide +kernel
theorem d45_5 : decode jdk_53_method_4_code 5 = .ok (.aload_n 0, 1) := by decide +kernel
theorem d45_6 : decode jdk_53_method_4_code 6 = .ok (.getfield 7, 3) := by decide +kernel
theorem d45_9 : decode jdk_53_method_4_code 9 = .ok (.iload_n 1, 1) := by decide +kernel
theorem d45_10 : decode jdk_53_method_4_code 10 = .ok (.invokeinterface 24 2, 5) := by decide +kernel
theorem d45_15 : decode jdk_53_method_4_code 15 = .ok (.astore_n 2, 1) := by decide +kernel
theorem d45_16 : decode jdk_53_method_4_code 16 = .ok (.aload_n 0, 1) := by decide +kernel
theorem d45_17 : decode jdk_53_method_4_code 17 = .ok (.iload_n 1, 1) := by decide +kernel
theorem d45_18 : decode jdk_53_method_4_code 18 = .ok (.iconst 1, 1) := by decide +kernel
theorem d45_19 : decode jdk_53_method_4_code 19 = .ok (.iadd, 1) := by decide +kernel
theorem d45_20 : decode jdk_53_method_4_code 20 = .ok (.putfield 17, 3) := by decide +kernel
theorem d45_23 : decode jdk_53_method_4_code 23 = .ok (.aload_n 2, 1) := by decide +kernel
theorem d45_24 : decode jdk_53_method_4_code 24 = .ok (.areturn, 1) := by decide +kernel
theorem ef_45 (m : MethodId) (x0 : Addr) : entryFrame m #[(.ref x0)] 3 = mkF m 0 #[.val (.ref x0), .unset, .unset] [] := by first | (simp [entryFrame, mkF, argsToLocals, Value.category]; done) | rfl
def Q_45_10 (Z : State) (r0 ls w_EMPTY x0 : Addr) (h0 : Heap) (n0 : Nat) (v : Option Value) (h : Heap) (L : List Loc) : Prop := v = some (.ref x0) ∧ Fr n0 L ∧ Keep h0 h [r0] ∧ Exa Z h r0 cS1 ∧ Fld Z h r0 cS1 "list" cS18 (.ref ls) ∧ Fld Z h r0 cS1 "size" "I" (.int 1) ∧ Fld Z h r0 cS1 "cursor" "I" (.int 1)
theorem rm45_10 (l : Launch) (Z : State) (a0 : Array Value) (hw : ∀ d ∈ tables_1, d.before a0 Z = true) (ws : List Jvm.Cond) (r0 ls w_EMPTY x0 : Addr) (h0 : Heap) (n0 : Nat) (Z0 : n0 ≤ h0.size) (S_EMPTY : Sta Z h0 cS14 "EMPTY" cS13 (.ref w_EMPTY)) (E_r0 : Exa Z h0 r0 cS1) (F_list_r0 : Fld Z h0 r0 cS1 "list" cS18 (.ref ls)) (F_size_r0 : Fld Z h0 r0 cS1 "size" "I" (.int 1)) (F_cursor_r0 : Fld Z h0 r0 cS1 "cursor" "I" (.int 0)) (E_ls : Exa Z h0 ls cS5) (F_e0_ls : Fld Z h0 ls cS5 "e0" cS13 (.ref x0)) (F_e1_ls : Fld Z h0 ls cS5 "e1" cS13 (.ref w_EMPTY)) (ge_r0 : n0 ≤ r0) :
    MetFree l (⟨cS1, "next", cS20⟩ : MethodName) (head1 (Jvm.Cond.codeWith (⟨cS1, "next", cS20⟩ : MethodName) jdk_53_method_4_code 3 (some (.object cS3)) [(0, 24, 25, 30)] :: ws) ({ frames := 1, cells := 0, slots := 0, locals := 13 } : Room)) (fun a U => a = #[(.ref r0)] ∧ Z.Warmed39 U.vm ∧ U.heap = h0) (fun _ _ _ _ _ => True) (fun _ U o U' => ∃ v L, o = .returned v ∧ Q_45_10 Z r0 ls w_EMPTY x0 h0 n0 v U'.heap L ∧ FrameEnd U o U' L 0 0) := by
  refine MetFree.of_bodySF (plainFor_of_name pn_java_util_ImmutableCollections_ListItr) hisWith ?_
  intro p e s m args below meth c s₁ Bd hml0 hP hK
  obtain ⟨rfl, hZ, hh⟩ := hP
  have hx := Bd.exec
  have hby := Bd.bytes
  have hml : c.maxLocals = 3 := hml0
  have hown : s.vm.findClass cS1 = some m.cls := findClass_of_methodNamed Bd.named
  have hnm := (name_of_methodNamed Bd.named Bd.method).1
  have X0 : Stand p l e ({ frames := 1, cells := 0, slots := 0, locals := 13 } : Room) s m #[(.ref r0)] below meth c s₁ [] 0 0 := Stand.of_body Bd
  have e0 : s₁.heap = h0 := by rw [← hh, Bd.state]; rfl
  have N0 := Fr.nil n0
  have k0 : ∀ t, OwnS p e below s₁ (mkF m 0 #[rv r0, .unset, .unset] []) t → OwnS p e below s₁ (entryFrame m #[(.ref r0)] 3) t := fun t k => castTop (ef_45 m r0) k
  obtain ⟨T1, X1, e1, st1⟩ := getF X0 hx hZ hown (host := "") (Or.inl (own_at hw 129 rfl)) Via.refl e0 F_cursor_r0 (g := (mkF m 1 #[rv r0, .unset, .unset] [(.ref r0)])) rfl rfl (hb hby d45_1)
  obtain ⟨T2, X2, e2, st2⟩ := getF X1 hx hZ hown (host := "") (Or.inl (own_at hw 125 rfl)) Via.refl e1 F_list_r0 (g := (mkF m 6 #[rv r0, iv 0, .unset] [(.ref r0)])) rfl rfl (hb hby d45_6)
  obtain ⟨_, T3, L3, X3, hQ3, st3⟩ := own_cI 0 (rm49_0 l Z a0 hw [] ls x0 h0 n0 Z0 F_e0_ls) X2 hx hZ hown hw 321 322 323 353 354 355 356 348 357 332 rfl rfl rfl rfl rfl rfl rfl rfl rfl rfl ls E_ls 10 #[rv r0, iv 0, .unset] [(.int 0)] [] (hb hby d45_10) hml (lenOf pd_7 rfl) e2 rfl (Nat.le_refl _) (by decide)
  obtain ⟨rfl, N3q, e3⟩ := hQ3
  have N3 := Fr.app N0 N3q
  obtain ⟨T4, h4, X4, e4, W4, st4⟩ := putF X3 hx hZ hown (host := "") (Or.inl (own_at hw 129 rfl)) Via.refl e3 F_cursor_r0 E_r0 (Or.inl (own_at hw 130 rfl)) (own_at hw 109 rfl) (ty := .int) (by decide) rfl rfl (g := (mkF m 20 #[rv r0, iv 0, rv x0] [(.int 1), (.ref r0)])) rfl rfl (hb hby d45_20)
  have Fw4 : Fld Z h4 r0 cS1 "cursor" "I" (.int 1) := F_cursor_r0.same W4
  have N4 := Fr.snoc X4 N3 ge_r0
  have f5 := (E_r0.wr W4)
  have f6 := (F_list_r0.other W4 (Or.inr (slot_ne (Or.inr (own_at hw 126 rfl)) (Or.inl (own_at hw 130 rfl)) (by decide) (t := (.object cS11)) (t' := .int) (by decide) (by decide))))
  have f7 := (F_size_r0.other W4 (Or.inr (slot_ne (Or.inr (own_at hw 128 rfl)) (Or.inl (own_at hw 130 rfl)) (by decide) (t := .int) (t' := .int) (by decide) (by decide))))
  refine own_out X4 Bd.notSynchronized Bd.returns (some (.ref x0)) nofun (by decide) (by decide) ?_ fun fs hr => k0 _ ?_
  · rw [e4]; exact ⟨rfl, N4, ((Keep.refl h0 [r0]).wr W4 (Or.inl (List.mem_of_getElem? (i := 0) rfl))), f5, f6, f7, Fw4⟩
  · show OwnS p e below s₁ (mkF m 0 #[rv r0, .unset, .unset] []) _
    refine oAn X0 hx hby d45_0 rfl rfl ?_
    refine st1 _ ?_
    refine XS.istoreN X1.here hx rfl (hb hby d45_4) rfl (l' := #[rv r0, iv 0, .unset]) rfl ?_
    refine oAn X1 hx hby d45_5 rfl rfl ?_
    refine st2 _ ?_
    refine oIn X2 hx hby d45_9 rfl ?_
    refine st3 _ ?_
    refine XS.astoreN X3.here hx rfl (hb hby d45_15) rfl rfl (l' := #[rv r0, iv 0, rv x0]) rfl ?_
    refine oAn X3 hx hby d45_16 rfl rfl (oIn X3 hx hby d45_17 rfl (oIc X3 hx hby d45_18 ?_))
    refine XS.iadd X3.here hx rfl (hb hby d45_19) rfl ?_
    refine st4 _ ?_
    refine oAn X4 hx hby d45_23 rfl rfl ?_
    jvm_step X4.here [X4.here.top, hx, (hb hby d45_24), X4.method', Bd.returns, Value.isRef, FieldType.isReference]
    first | (intro acts; rw [hr _ acts rfl rfl rfl]) | rw [hr _ _ rfl rfl rfl]
    exact Steps.refl _
def Q_45_20 (Z : State) (r0 ls w_EMPTY x0 x1 : Addr) (h0 : Heap) (n0 : Nat) (v : Option Value) (h : Heap) (L : List Loc) : Prop := v = some (.ref x0) ∧ Fr n0 L ∧ Keep h0 h [r0] ∧ Exa Z h r0 cS1 ∧ Fld Z h r0 cS1 "list" cS18 (.ref ls) ∧ Fld Z h r0 cS1 "size" "I" (.int 2) ∧ Fld Z h r0 cS1 "cursor" "I" (.int 1)
theorem rm45_20 (l : Launch) (Z : State) (a0 : Array Value) (hw : ∀ d ∈ tables_1, d.before a0 Z = true) (ws : List Jvm.Cond) (r0 ls w_EMPTY x0 x1 : Addr) (h0 : Heap) (n0 : Nat) (Z0 : n0 ≤ h0.size) (S_EMPTY : Sta Z h0 cS14 "EMPTY" cS13 (.ref w_EMPTY)) (hne : ¬ (x1 = w_EMPTY)) (E_r0 : Exa Z h0 r0 cS1) (F_list_r0 : Fld Z h0 r0 cS1 "list" cS18 (.ref ls)) (F_size_r0 : Fld Z h0 r0 cS1 "size" "I" (.int 2)) (F_cursor_r0 : Fld Z h0 r0 cS1 "cursor" "I" (.int 0)) (E_ls : Exa Z h0 ls cS5) (F_e0_ls : Fld Z h0 ls cS5 "e0" cS13 (.ref x0)) (F_e1_ls : Fld Z h0 ls cS5 "e1" cS13 (.ref x1)) (ge_r0 : n0 ≤ r0) :
    MetFree l (⟨cS1, "next", cS20⟩ : MethodName) (head1 (Jvm.Cond.codeWith (⟨cS1, "next", cS20⟩ : MethodName) jdk_53_method_4_code 3 (some (.object cS3)) [(0, 24, 25, 30)] :: ws) ({ frames := 1, cells := 0, slots := 0, locals := 13 } : Room)) (fun a U => a = #[(.ref r0)] ∧ Z.Warmed39 U.vm ∧ U.heap = h0) (fun _ _ _ _ _ => True) (fun _ U o U' => ∃ v L, o = .returned v ∧ Q_45_20 Z r0 ls w_EMPTY x0 x1 h0 n0 v U'.heap L ∧ FrameEnd U o U' L 0 0) := by
  refine MetFree.of_bodySF (plainFor_of_name pn_java_util_ImmutableCollections_ListItr) hisWith ?_
  intro p e s m args below meth c s₁ Bd hml0 hP hK
  obtain ⟨rfl, hZ, hh⟩ := hP
  have hx := Bd.exec
  have hby := Bd.bytes
  have hml : c.maxLocals = 3 := hml0
  have hown : s.vm.findClass cS1 = some m.cls := findClass_of_methodNamed Bd.named
  have hnm := (name_of_methodNamed Bd.named Bd.method).1
  have X0 : Stand p l e ({ frames := 1, cells := 0, slots := 0, locals := 13 } : Room) s m #[(.ref r0)] below meth c s₁ [] 0 0 := Stand.of_body Bd
  have e0 : s₁.heap = h0 := by rw [← hh, Bd.state]; rfl
  have N0 := Fr.nil n0
  have k0 : ∀ t, OwnS p e below s₁ (mkF m 0 #[rv r0, .unset, .unset] []) t → OwnS p e below s₁ (entryFrame m #[(.ref r0)] 3) t := fun t k => castTop (ef_45 m r0) k
  obtain ⟨T1, X1, e1, st1⟩ := getF X0 hx hZ hown (host := "") (Or.inl (own_at hw 129 rfl)) Via.refl e0 F_cursor_r0 (g := (mkF m 1 #[rv r0, .unset, .unset] [(.ref r0)])) rfl rfl (hb hby d45_1)
  obtain ⟨T2, X2, e2, st2⟩ := getF X1 hx hZ hown (host := "") (Or.inl (own_at hw 125 rfl)) Via.refl e1 F_list_r0 (g := (mkF m 6 #[rv r0, iv 0, .unset] [(.ref r0)])) rfl rfl (hb hby d45_6)
  obtain ⟨_, T3, L3, X3, hQ3, st3⟩ := own_cI 0 (rm49_0 l Z a0 hw [] ls x0 h0 n0 Z0 F_e0_ls) X2 hx hZ hown hw 321 322 323 353 354 355 356 348 357 332 rfl rfl rfl rfl rfl rfl rfl rfl rfl rfl ls E_ls 10 #[rv r0, iv 0, .unset] [(.int 0)] [] (hb hby d45_10) hml (lenOf pd_7 rfl) e2 rfl (Nat.le_refl _) (by decide)
  obtain ⟨rfl, N3q, e3⟩ := hQ3
  have N3 := Fr.app N0 N3q
  obtain ⟨T4, h4, X4, e4, W4, st4⟩ := putF X3 hx hZ hown (host := "") (Or.inl (own_at hw 129 rfl)) Via.refl e3 F_cursor_r0 E_r0 (Or.inl (own_at hw 130 rfl)) (own_at hw 109 rfl) (ty := .int) (by decide) rfl rfl (g := (mkF m 20 #[rv r0, iv 0, rv x0] [(.int 1), (.ref r0)])) rfl rfl (hb hby d45_20)
  have Fw4 : Fld Z h4 r0 cS1 "cursor" "I" (.int 1) := F_cursor_r0.same W4
  have N4 := Fr.snoc X4 N3 ge_r0
  have f5 := (E_r0.wr W4)
  have f6 := (F_list_r0.other W4 (Or.inr (slot_ne (Or.inr (own_at hw 126 rfl)) (Or.inl (own_at hw 130 rfl)) (by decide) (t := (.object cS11)) (t' := .int) (by decide) (by decide))))
  have f7 := (F_size_r0.other W4 (Or.inr (slot_ne (Or.inr (own_at hw 128 rfl)) (Or.inl (own_at hw 130 rfl)) (by decide) (t := .int) (t' := .int) (by decide) (by decide))))
  refine own_out X4 Bd.notSynchronized Bd.returns (some (.ref x0)) nofun (by decide) (by decide) ?_ fun fs hr => k0 _ ?_
  · rw [e4]; exact ⟨rfl, N4, ((Keep.refl h0 [r0]).wr W4 (Or.inl (List.mem_of_getElem? (i := 0) rfl))), f5, f6, f7, Fw4⟩
  · show OwnS p e below s₁ (mkF m 0 #[rv r0, .unset, .unset] []) _
    refine oAn X0 hx hby d45_0 rfl rfl ?_
    refine st1 _ ?_
    refine XS.istoreN X1.here hx rfl (hb hby d45_4) rfl (l' := #[rv r0, iv 0, .unset]) rfl ?_
    refine oAn X1 hx hby d45_5 rfl rfl ?_
    refine st2 _ ?_
    refine oIn X2 hx hby d45_9 rfl ?_
    refine st3 _ ?_
    refine XS.astoreN X3.here hx rfl (hb hby d45_15) rfl rfl (l' := #[rv r0, iv 0, rv x0]) rfl ?_
    refine oAn X3 hx hby d45_16 rfl rfl (oIn X3 hx hby d45_17 rfl (oIc X3 hx hby d45_18 ?_))
    refine XS.iadd X3.here hx rfl (hb hby d45_19) rfl ?_
    refine st4 _ ?_
    refine oAn X4 hx hby d45_23 rfl rfl ?_
    jvm_step X4.here [X4.here.top, hx, (hb hby d45_24), X4.method', Bd.returns, Value.isRef, FieldType.isReference]
    first | (intro acts; rw [hr _ acts rfl rfl rfl]) | rw [hr _ _ rfl rfl rfl]
    exact Steps.refl _
def Q_45_21 (Z : State) (r0 ls w_EMPTY x0 x1 : Addr) (h0 : Heap) (n0 : Nat) (v : Option Value) (h : Heap) (L : List Loc) : Prop := v = some (.ref x1) ∧ Fr n0 L ∧ Keep h0 h [r0] ∧ Exa Z h r0 cS1 ∧ Fld Z h r0 cS1 "list" cS18 (.ref ls) ∧ Fld Z h r0 cS1 "size" "I" (.int 2) ∧ Fld Z h r0 cS1 "cursor" "I" (.int 2)
theorem rm45_21 (l : Launch) (Z : State) (a0 : Array Value) (hw : ∀ d ∈ tables_1, d.before a0 Z = true) (ws : List Jvm.Cond) (r0 ls w_EMPTY x0 x1 : Addr) (h0 : Heap) (n0 : Nat) (Z0 : n0 ≤ h0.size) (S_EMPTY : Sta Z h0 cS14 "EMPTY" cS13 (.ref w_EMPTY)) (hne : ¬ (x1 = w_EMPTY)) (E_r0 : Exa Z h0 r0 cS1) (F_list_r0 : Fld Z h0 r0 cS1 "list" cS18 (.ref ls)) (F_size_r0 : Fld Z h0 r0 cS1 "size" "I" (.int 2)) (F_cursor_r0 : Fld Z h0 r0 cS1 "cursor" "I" (.int 1)) (E_ls : Exa Z h0 ls cS5) (F_e0_ls : Fld Z h0 ls cS5 "e0" cS13 (.ref x0)) (F_e1_ls : Fld Z h0 ls cS5 "e1" cS13 (.ref x1)) (ge_r0 : n0 ≤ r0) :
    MetFree l (⟨cS1, "next", cS20⟩ : MethodName) (head1 (Jvm.Cond.codeWith (⟨cS1, "next", cS20⟩ : MethodName) jdk_53_method_4_code 3 (some (.object cS3)) [(0, 24, 25, 30)] :: ws) ({ frames := 1, cells := 0, slots := 0, locals := 13 } : Room)) (fun a U => a = #[(.ref r0)] ∧ Z.Warmed39 U.vm ∧ U.heap = h0) (fun _ _ _ _ _ => True) (fun _ U o U' => ∃ v L, o = .returned v ∧ Q_45_21 Z r0 ls w_EMPTY x0 x1 h0 n0 v U'.heap L ∧ FrameEnd U o U' L 0 0) := by
  refine MetFree.of_bodySF (plainFor_of_name pn_java_util_ImmutableCollections_ListItr) hisWith ?_
  intro p e s m args below meth c s₁ Bd hml0 hP hK
  obtain ⟨rfl, hZ, hh⟩ := hP
  have hx := Bd.exec
  have hby := Bd.bytes
  have hml : c.maxLocals = 3 := hml0
  have hown : s.vm.findClass cS1 = some m.cls := findClass_of_methodNamed Bd.named
  have hnm := (name_of_methodNamed Bd.named Bd.method).1
  have X0 : Stand p l e ({ frames := 1, cells := 0, slots := 0, locals := 13 } : Room) s m #[(.ref r0)] below meth c s₁ [] 0 0 := Stand.of_body Bd
  have e0 : s₁.heap = h0 := by rw [← hh, Bd.state]; rfl
  have N0 := Fr.nil n0
  have k0 : ∀ t, OwnS p e below s₁ (mkF m 0 #[rv r0, .unset, .unset] []) t → OwnS p e below s₁ (entryFrame m #[(.ref r0)] 3) t := fun t k => castTop (ef_45 m r0) k
  obtain ⟨T1, X1, e1, st1⟩ := getF X0 hx hZ hown (host := "") (Or.inl (own_at hw 129 rfl)) Via.refl e0 F_cursor_r0 (g := (mkF m 1 #[rv r0, .unset, .unset] [(.ref r0)])) rfl rfl (hb hby d45_1)
  obtain ⟨T2, X2, e2, st2⟩ := getF X1 hx hZ hown (host := "") (Or.inl (own_at hw 125 rfl)) Via.refl e1 F_list_r0 (g := (mkF m 6 #[rv r0, iv 1, .unset] [(.ref r0)])) rfl rfl (hb hby d45_6)
  obtain ⟨_, T3, L3, X3, hQ3, st3⟩ := own_cI 0 (rm49_1 l Z a0 hw [] ls w_EMPTY x1 h0 n0 Z0 S_EMPTY F_e1_ls hne) X2 hx hZ hown hw 321 322 323 353 354 355 356 348 357 332 rfl rfl rfl rfl rfl rfl rfl rfl rfl rfl ls E_ls 10 #[rv r0, iv 1, .unset] [(.int 1)] [] (hb hby d45_10) hml (lenOf pd_7 rfl) e2 rfl (Nat.le_refl _) (by decide)
  obtain ⟨rfl, N3q, e3⟩ := hQ3
  have N3 := Fr.app N0 N3q
  obtain ⟨T4, h4, X4, e4, W4, st4⟩ := putF X3 hx hZ hown (host := "") (Or.inl (own_at hw 129 rfl)) Via.refl e3 F_cursor_r0 E_r0 (Or.inl (own_at hw 130 rfl)) (own_at hw 109 rfl) (ty := .int) (by decide) rfl rfl (g := (mkF m 20 #[rv r0, iv 1, rv x1] [(.int 2), (.ref r0)])) rfl rfl (hb hby d45_20)
  have Fw4 : Fld Z h4 r0 cS1 "cursor" "I" (.int 2) := F_cursor_r0.same W4
  have N4 := Fr.snoc X4 N3 ge_r0
  have f5 := (E_r0.wr W4)
  have f6 := (F_list_r0.other W4 (Or.inr (slot_ne (Or.inr (own_at hw 126 rfl)) (Or.inl (own_at hw 130 rfl)) (by decide) (t := (.object cS11)) (t' := .int) (by decide) (by decide))))
  have f7 := (F_size_r0.other W4 (Or.inr (slot_ne (Or.inr (own_at hw 128 rfl)) (Or.inl (own_at hw 130 rfl)) (by decide) (t := .int) (t' := .int) (by decide) (by decide))))
  refine own_out X4 Bd.notSynchronized Bd.returns (some (.ref x1)) nofun (by decide) (by decide) ?_ fun fs hr => k0 _ ?_
  · rw [e4]; exact ⟨rfl, N4, ((Keep.refl h0 [r0]).wr W4 (Or.inl (List.mem_of_getElem? (i := 0) rfl))), f5, f6, f7, Fw4⟩
  · show OwnS p e below s₁ (mkF m 0 #[rv r0, .unset, .unset] []) _
    refine oAn X0 hx hby d45_0 rfl rfl ?_
    refine st1 _ ?_
    refine XS.istoreN X1.here hx rfl (hb hby d45_4) rfl (l' := #[rv r0, iv 1, .unset]) rfl ?_
    refine oAn X1 hx hby d45_5 rfl rfl ?_
    refine st2 _ ?_
    refine oIn X2 hx hby d45_9 rfl ?_
    refine st3 _ ?_
    refine XS.astoreN X3.here hx rfl (hb hby d45_15) rfl rfl (l' := #[rv r0, iv 1, rv x1]) rfl ?_
    refine oAn X3 hx hby d45_16 rfl rfl (oIn X3 hx hby d45_17 rfl (oIc X3 hx hby d45_18 ?_))
    refine XS.iadd X3.here hx rfl (hb hby d45_19) rfl ?_
    refine st4 _ ?_
    refine oAn X4 hx hby d45_23 rfl rfl ?_
    jvm_step X4.here [X4.here.top, hx, (hb hby d45_24), X4.method', Bd.returns, Value.isRef, FieldType.isReference]
    first | (intro acts; rw [hr _ acts rfl rfl rfl]) | rw [hr _ _ rfl rfl rfl]
    exact Steps.refl _
def Q_45_30 (Z : State) (r0 ls el : Addr) (kE : ClassId) (x0 x1 x2 : Addr) (h0 : Heap) (n0 : Nat) (v : Option Value) (h : Heap) (L : List Loc) : Prop := v = some (.ref x0) ∧ Fr n0 L ∧ Keep h0 h [r0] ∧ Exa Z h r0 cS1 ∧ Fld Z h r0 cS1 "list" cS18 (.ref ls) ∧ Fld Z h r0 cS1 "size" "I" (.int 3) ∧ Fld Z h r0 cS1 "cursor" "I" (.int 1)
theorem rm45_30 (l : Launch) (Z : State) (a0 : Array Value) (hw : ∀ d ∈ tables_1, d.before a0 Z = true) (ws : List Jvm.Cond) (r0 ls el : Addr) (kE : ClassId) (x0 x1 x2 : Addr) (h0 : Heap) (n0 : Nat) (Z0 : n0 ≤ h0.size) (E_r0 : Exa Z h0 r0 cS1) (F_list_r0 : Fld Z h0 r0 cS1 "list" cS18 (.ref ls)) (F_size_r0 : Fld Z h0 r0 cS1 "size" "I" (.int 3)) (F_cursor_r0 : Fld Z h0 r0 cS1 "cursor" "I" (.int 0)) (E_ls : Exa Z h0 ls cS7) (F_elements_ls : Fld Z h0 ls cS7 "elements" cS6 (.ref el)) (V_el : Arv Z h0 el kE (.object cS3) (3 : Int32) [(.ref x0), (.ref x1), (.ref x2)] .null) (ge_r0 : n0 ≤ r0) :
    MetFree l (⟨cS1, "next", cS20⟩ : MethodName) (head1 (Jvm.Cond.codeWith (⟨cS1, "next", cS20⟩ : MethodName) jdk_53_method_4_code 3 (some (.object cS3)) [(0, 24, 25, 30)] :: ws) ({ frames := 1, cells := 0, slots := 0, locals := 13 } : Room)) (fun a U => a = #[(.ref r0)] ∧ Z.Warmed39 U.vm ∧ U.heap = h0) (fun _ _ _ _ _ => True) (fun _ U o U' => ∃ v L, o = .returned v ∧ Q_45_30 Z r0 ls el kE x0 x1 x2 h0 n0 v U'.heap L ∧ FrameEnd U o U' L 0 0) := by
  refine MetFree.of_bodySF (plainFor_of_name pn_java_util_ImmutableCollections_ListItr) hisWith ?_
  intro p e s m args below meth c s₁ Bd hml0 hP hK
  obtain ⟨rfl, hZ, hh⟩ := hP
  have hx := Bd.exec
  have hby := Bd.bytes
  have hml : c.maxLocals = 3 := hml0
  have hown : s.vm.findClass cS1 = some m.cls := findClass_of_methodNamed Bd.named
  have hnm := (name_of_methodNamed Bd.named Bd.method).1
  have X0 : Stand p l e ({ frames := 1, cells := 0, slots := 0, locals := 13 } : Room) s m #[(.ref r0)] below meth c s₁ [] 0 0 := Stand.of_body Bd
  have e0 : s₁.heap = h0 := by rw [← hh, Bd.state]; rfl
  have N0 := Fr.nil n0
  have k0 : ∀ t, OwnS p e below s₁ (mkF m 0 #[rv r0, .unset, .unset] []) t → OwnS p e below s₁ (entryFrame m #[(.ref r0)] 3) t := fun t k => castTop (ef_45 m r0) k
  obtain ⟨T1, X1, e1, st1⟩ := getF X0 hx hZ hown (host := "") (Or.inl (own_at hw 129 rfl)) Via.refl e0 F_cursor_r0 (g := (mkF m 1 #[rv r0, .unset, .unset] [(.ref r0)])) rfl rfl (hb hby d45_1)
  obtain ⟨T2, X2, e2, st2⟩ := getF X1 hx hZ hown (host := "") (Or.inl (own_at hw 125 rfl)) Via.refl e1 F_list_r0 (g := (mkF m 6 #[rv r0, iv 0, .unset] [(.ref r0)])) rfl rfl (hb hby d45_6)
  obtain ⟨_, T3, L3, X3, hQ3, st3⟩ := own_cI 0 (rm46_0 l Z a0 hw [] ls el kE x0 x1 x2 h0 n0 Z0 F_elements_ls V_el) X2 hx hZ hown hw 321 322 323 324 325 326 327 105 328 116 rfl rfl rfl rfl rfl rfl rfl rfl rfl rfl ls E_ls 10 #[rv r0, iv 0, .unset] [(.int 0)] [] (hb hby d45_10) hml (lenOf pd_7 rfl) e2 rfl (Nat.le_refl _) (by decide)
  obtain ⟨rfl, N3q, e3⟩ := hQ3
  have N3 := Fr.app N0 N3q
  obtain ⟨T4, h4, X4, e4, W4, st4⟩ := putF X3 hx hZ hown (host := "") (Or.inl (own_at hw 129 rfl)) Via.refl e3 F_cursor_r0 E_r0 (Or.inl (own_at hw 130 rfl)) (own_at hw 109 rfl) (ty := .int) (by decide) rfl rfl (g := (mkF m 20 #[rv r0, iv 0, rv x0] [(.int 1), (.ref r0)])) rfl rfl (hb hby d45_20)
  have Fw4 : Fld Z h4 r0 cS1 "cursor" "I" (.int 1) := F_cursor_r0.same W4
  have N4 := Fr.snoc X4 N3 ge_r0
  have f5 := (E_r0.wr W4)
  have f6 := (F_list_r0.other W4 (Or.inr (slot_ne (Or.inr (own_at hw 126 rfl)) (Or.inl (own_at hw 130 rfl)) (by decide) (t := (.object cS11)) (t' := .int) (by decide) (by decide))))
  have f7 := (F_size_r0.other W4 (Or.inr (slot_ne (Or.inr (own_at hw 128 rfl)) (Or.inl (own_at hw 130 rfl)) (by decide) (t := .int) (t' := .int) (by decide) (by decide))))
  refine own_out X4 Bd.notSynchronized Bd.returns (some (.ref x0)) nofun (by decide) (by decide) ?_ fun fs hr => k0 _ ?_
  · rw [e4]; exact ⟨rfl, N4, ((Keep.refl h0 [r0]).wr W4 (Or.inl (List.mem_of_getElem? (i := 0) rfl))), f5, f6, f7, Fw4⟩
  · show OwnS p e below s₁ (mkF m 0 #[rv r0, .unset, .unset] []) _
    refine oAn X0 hx hby d45_0 rfl rfl ?_
    refine st1 _ ?_
    refine XS.istoreN X1.here hx rfl (hb hby d45_4) rfl (l' := #[rv r0, iv 0, .unset]) rfl ?_
    refine oAn X1 hx hby d45_5 rfl rfl ?_
    refine st2 _ ?_
    refine oIn X2 hx hby d45_9 rfl ?_
    refine st3 _ ?_
    refine XS.astoreN X3.here hx rfl (hb hby d45_15) rfl rfl (l' := #[rv r0, iv 0, rv x0]) rfl ?_
    refine oAn X3 hx hby d45_16 rfl rfl (oIn X3 hx hby d45_17 rfl (oIc X3 hx hby d45_18 ?_))
    refine XS.iadd X3.here hx rfl (hb hby d45_19) rfl ?_
    refine st4 _ ?_
    refine oAn X4 hx hby d45_23 rfl rfl ?_
    jvm_step X4.here [X4.here.top, hx, (hb hby d45_24), X4.method', Bd.returns, Value.isRef, FieldType.isReference]
    first | (intro acts; rw [hr _ acts rfl rfl rfl]) | rw [hr _ _ rfl rfl rfl]
    exact Steps.refl _
def Q_45_31 (Z : State) (r0 ls el : Addr) (kE : ClassId) (x0 x1 x2 : Addr) (h0 : Heap) (n0 : Nat) (v : Option Value) (h : Heap) (L : List Loc) : Prop := v = some (.ref x1) ∧ Fr n0 L ∧ Keep h0 h [r0] ∧ Exa Z h r0 cS1 ∧ Fld Z h r0 cS1 "list" cS18 (.ref ls) ∧ Fld Z h r0 cS1 "size" "I" (.int 3) ∧ Fld Z h r0 cS1 "cursor" "I" (.int 2)
theorem rm45_31 (l : Launch) (Z : State) (a0 : Array Value) (hw : ∀ d ∈ tables_1, d.before a0 Z = true) (ws : List Jvm.Cond) (r0 ls el : Addr) (kE : ClassId) (x0 x1 x2 : Addr) (h0 : Heap) (n0 : Nat) (Z0 : n0 ≤ h0.size) (E_r0 : Exa Z h0 r0 cS1) (F_list_r0 : Fld Z h0 r0 cS1 "list" cS18 (.ref ls)) (F_size_r0 : Fld Z h0 r0 cS1 "size" "I" (.int 3)) (F_cursor_r0 : Fld Z h0 r0 cS1 "cursor" "I" (.int 1)) (E_ls : Exa Z h0 ls cS7) (F_elements_ls : Fld Z h0 ls cS7 "elements" cS6 (.ref el)) (V_el : Arv Z h0 el kE (.object cS3) (3 : Int32) [(.ref x0), (.ref x1), (.ref x2)] .null) (ge_r0 : n0 ≤ r0) :
    MetFree l (⟨cS1, "next", cS20⟩ : MethodName) (head1 (Jvm.Cond.codeWith (⟨cS1, "next", cS20⟩ : MethodName) jdk_53_method_4_code 3 (some (.object cS3)) [(0, 24, 25, 30)] :: ws) ({ frames := 1, cells := 0, slots := 0, locals := 13 } : Room)) (fun a U => a = #[(.ref r0)] ∧ Z.Warmed39 U.vm ∧ U.heap = h0) (fun _ _ _ _ _ => True) (fun _ U o U' => ∃ v L, o = .returned v ∧ Q_45_31 Z r0 ls el kE x0 x1 x2 h0 n0 v U'.heap L ∧ FrameEnd U o U' L 0 0) := by
  refine MetFree.of_bodySF (plainFor_of_name pn_java_util_ImmutableCollections_ListItr) hisWith ?_
  intro p e s m args below meth c s₁ Bd hml0 hP hK
  obtain ⟨rfl, hZ, hh⟩ := hP
  have hx := Bd.exec
  have hby := Bd.bytes
  have hml : c.maxLocals = 3 := hml0
  have hown : s.vm.findClass cS1 = some m.cls := findClass_of_methodNamed Bd.named
  have hnm := (name_of_methodNamed Bd.named Bd.method).1
  have X0 : Stand p l e ({ frames := 1, cells := 0, slots := 0, locals := 13 } : Room) s m #[(.ref r0)] below meth c s₁ [] 0 0 := Stand.of_body Bd
  have e0 : s₁.heap = h0 := by rw [← hh, Bd.state]; rfl
  have N0 := Fr.nil n0
  have k0 : ∀ t, OwnS p e below s₁ (mkF m 0 #[rv r0, .unset, .unset] []) t → OwnS p e below s₁ (entryFrame m #[(.ref r0)] 3) t := fun t k => castTop (ef_45 m r0) k
  obtain ⟨T1, X1, e1, st1⟩ := getF X0 hx hZ hown (host := "") (Or.inl (own_at hw 129 rfl)) Via.refl e0 F_cursor_r0 (g := (mkF m 1 #[rv r0, .unset, .unset] [(.ref r0)])) rfl rfl (hb hby d45_1)
  obtain ⟨T2, X2, e2, st2⟩ := getF X1 hx hZ hown (host := "") (Or.inl (own_at hw 125 rfl)) Via.refl e1 F_list_r0 (g := (mkF m 6 #[rv r0, iv 1, .unset] [(.ref r0)])) rfl rfl (hb hby d45_6)
  obtain ⟨_, T3, L3, X3, hQ3, st3⟩ := own_cI 0 (rm46_1 l Z a0 hw [] ls el kE x0 x1 x2 h0 n0 Z0 F_elements_ls V_el) X2 hx hZ hown hw 321 322 323 324 325 326 327 105 328 116 rfl rfl rfl rfl rfl rfl rfl rfl rfl rfl ls E_ls 10 #[rv r0, iv 1, .unset] [(.int 1)] [] (hb hby d45_10) hml (lenOf pd_7 rfl) e2 rfl (Nat.le_refl _) (by decide)
  obtain ⟨rfl, N3q, e3⟩ := hQ3
  have N3 := Fr.app N0 N3q
  obtain ⟨T4, h4, X4, e4, W4, st4⟩ := putF X3 hx hZ hown (host := "") (Or.inl (own_at hw 129 rfl)) Via.refl e3 F_cursor_r0 E_r0 (Or.inl (own_at hw 130 rfl)) (own_at hw 109 rfl) (ty := .int) (by decide) rfl rfl (g := (mkF m 20 #[rv r0, iv 1, rv x1] [(.int 2), (.ref r0)])) rfl rfl (hb hby d45_20)
  have Fw4 : Fld Z h4 r0 cS1 "cursor" "I" (.int 2) := F_cursor_r0.same W4
  have N4 := Fr.snoc X4 N3 ge_r0
  have f5 := (E_r0.wr W4)
  have f6 := (F_list_r0.other W4 (Or.inr (slot_ne (Or.inr (own_at hw 126 rfl)) (Or.inl (own_at hw 130 rfl)) (by decide) (t := (.object cS11)) (t' := .int) (by decide) (by decide))))
  have f7 := (F_size_r0.other W4 (Or.inr (slot_ne (Or.inr (own_at hw 128 rfl)) (Or.inl (own_at hw 130 rfl)) (by decide) (t := .int) (t' := .int) (by decide) (by decide))))
  refine own_out X4 Bd.notSynchronized Bd.returns (some (.ref x1)) nofun (by decide) (by decide) ?_ fun fs hr => k0 _ ?_
  · rw [e4]; exact ⟨rfl, N4, ((Keep.refl h0 [r0]).wr W4 (Or.inl (List.mem_of_getElem? (i := 0) rfl))), f5, f6, f7, Fw4⟩
  · show OwnS p e below s₁ (mkF m 0 #[rv r0, .unset, .unset] []) _
    refine oAn X0 hx hby d45_0 rfl rfl ?_
    refine st1 _ ?_
    refine XS.istoreN X1.here hx rfl (hb hby d45_4) rfl (l' := #[rv r0, iv 1, .unset]) rfl ?_
    refine oAn X1 hx hby d45_5 rfl rfl ?_
    refine st2 _ ?_
    refine oIn X2 hx hby d45_9 rfl ?_
    refine st3 _ ?_
    refine XS.astoreN X3.here hx rfl (hb hby d45_15) rfl rfl (l' := #[rv r0, iv 1, rv x1]) rfl ?_
    refine oAn X3 hx hby d45_16 rfl rfl (oIn X3 hx hby d45_17 rfl (oIc X3 hx hby d45_18 ?_))
    refine XS.iadd X3.here hx rfl (hb hby d45_19) rfl ?_
    refine st4 _ ?_
    refine oAn X4 hx hby d45_23 rfl rfl ?_
    jvm_step X4.here [X4.here.top, hx, (hb hby d45_24), X4.method', Bd.returns, Value.isRef, FieldType.isReference]
    first | (intro acts; rw [hr _ acts rfl rfl rfl]) | rw [hr _ _ rfl rfl rfl]
    exact Steps.refl _
def Q_45_32 (Z : State) (r0 ls el : Addr) (kE : ClassId) (x0 x1 x2 : Addr) (h0 : Heap) (n0 : Nat) (v : Option Value) (h : Heap) (L : List Loc) : Prop := v = some (.ref x2) ∧ Fr n0 L ∧ Keep h0 h [r0] ∧ Exa Z h r0 cS1 ∧ Fld Z h r0 cS1 "list" cS18 (.ref ls) ∧ Fld Z h r0 cS1 "size" "I" (.int 3) ∧ Fld Z h r0 cS1 "cursor" "I" (.int 3)
theorem rm45_32 (l : Launch) (Z : State) (a0 : Array Value) (hw : ∀ d ∈ tables_1, d.before a0 Z = true) (ws : List Jvm.Cond) (r0 ls el : Addr) (kE : ClassId) (x0 x1 x2 : Addr) (h0 : Heap) (n0 : Nat) (Z0 : n0 ≤ h0.size) (E_r0 : Exa Z h0 r0 cS1) (F_list_r0 : Fld Z h0 r0 cS1 "list" cS18 (.ref ls)) (F_size_r0 : Fld Z h0 r0 cS1 "size" "I" (.int 3)) (F_cursor_r0 : Fld Z h0 r0 cS1 "cursor" "I" (.int 2)) (E_ls : Exa Z h0 ls cS7) (F_elements_ls : Fld Z h0 ls cS7 "elements" cS6 (.ref el)) (V_el : Arv Z h0 el kE (.object cS3) (3 : Int32) [(.ref x0), (.ref x1), (.ref x2)] .null) (ge_r0 : n0 ≤ r0) :
    MetFree l (⟨cS1, "next", cS20⟩ : MethodName) (head1 (Jvm.Cond.codeWith (⟨cS1, "next", cS20⟩ : MethodName) jdk_53_method_4_code 3 (some (.object cS3)) [(0, 24, 25, 30)] :: ws) ({ frames := 1, cells := 0, slots := 0, locals := 13 } : Room)) (fun a U => a = #[(.ref r0)] ∧ Z.Warmed39 U.vm ∧ U.heap = h0) (fun _ _ _ _ _ => True) (fun _ U o U' => ∃ v L, o = .returned v ∧ Q_45_32 Z r0 ls el kE x0 x1 x2 h0 n0 v U'.heap L ∧ FrameEnd U o U' L 0 0) := by
  refine MetFree.of_bodySF (plainFor_of_name pn_java_util_ImmutableCollections_ListItr) hisWith ?_
  intro p e s m args below meth c s₁ Bd hml0 hP hK
  obtain ⟨rfl, hZ, hh⟩ := hP
  have hx := Bd.exec
  have hby := Bd.bytes
  have hml : c.maxLocals = 3 := hml0
  have hown : s.vm.findClass cS1 = some m.cls := findClass_of_methodNamed Bd.named
  have hnm := (name_of_methodNamed Bd.named Bd.method).1
  have X0 : Stand p l e ({ frames := 1, cells := 0, slots := 0, locals := 13 } : Room) s m #[(.ref r0)] below meth c s₁ [] 0 0 := Stand.of_body Bd
  have e0 : s₁.heap = h0 := by rw [← hh, Bd.state]; rfl
  have N0 := Fr.nil n0
  have k0 : ∀ t, OwnS p e below s₁ (mkF m 0 #[rv r0, .unset, .unset] []) t → OwnS p e below s₁ (entryFrame m #[(.ref r0)] 3) t := fun t k => castTop (ef_45 m r0) k
  obtain ⟨T1, X1, e1, st1⟩ := getF X0 hx hZ hown (host := "") (Or.inl (own_at hw 129 rfl)) Via.refl e0 F_cursor_r0 (g := (mkF m 1 #[rv r0, .unset, .unset] [(.ref r0)])) rfl rfl (hb hby d45_1)
  obtain ⟨T2, X2, e2, st2⟩ := getF X1 hx hZ hown (host := "") (Or.inl (own_at hw 125 rfl)) Via.refl e1 F_list_r0 (g := (mkF m 6 #[rv r0, iv 2, .unset] [(.ref r0)])) rfl rfl (hb hby d45_6)
  obtain ⟨_, T3, L3, X3, hQ3, st3⟩ := own_cI 0 (rm46_2 l Z a0 hw [] ls el kE x0 x1 x2 h0 n0 Z0 F_elements_ls V_el) X2 hx hZ hown hw 321 322 323 324 325 326 327 105 328 116 rfl rfl rfl rfl rfl rfl rfl rfl rfl rfl ls E_ls 10 #[rv r0, iv 2, .unset] [(.int 2)] [] (hb hby d45_10) hml (lenOf pd_7 rfl) e2 rfl (Nat.le_refl _) (by decide)
  obtain ⟨rfl, N3q, e3⟩ := hQ3
  have N3 := Fr.app N0 N3q
  obtain ⟨T4, h4, X4, e4, W4, st4⟩ := putF X3 hx hZ hown (host := "") (Or.inl (own_at hw 129 rfl)) Via.refl e3 F_cursor_r0 E_r0 (Or.inl (own_at hw 130 rfl)) (own_at hw 109 rfl) (ty := .int) (by decide) rfl rfl (g := (mkF m 20 #[rv r0, iv 2, rv x2] [(.int 3), (.ref r0)])) rfl rfl (hb hby d45_20)
  have Fw4 : Fld Z h4 r0 cS1 "cursor" "I" (.int 3) := F_cursor_r0.same W4
  have N4 := Fr.snoc X4 N3 ge_r0
  have f5 := (E_r0.wr W4)
  have f6 := (F_list_r0.other W4 (Or.inr (slot_ne (Or.inr (own_at hw 126 rfl)) (Or.inl (own_at hw 130 rfl)) (by decide) (t := (.object cS11)) (t' := .int) (by decide) (by decide))))
  have f7 := (F_size_r0.other W4 (Or.inr (slot_ne (Or.inr (own_at hw 128 rfl)) (Or.inl (own_at hw 130 rfl)) (by decide) (t := .int) (t' := .int) (by decide) (by decide))))
  refine own_out X4 Bd.notSynchronized Bd.returns (some (.ref x2)) nofun (by decide) (by decide) ?_ fun fs hr => k0 _ ?_
  · rw [e4]; exact ⟨rfl, N4, ((Keep.refl h0 [r0]).wr W4 (Or.inl (List.mem_of_getElem? (i := 0) rfl))), f5, f6, f7, Fw4⟩
  · show OwnS p e below s₁ (mkF m 0 #[rv r0, .unset, .unset] []) _
    refine oAn X0 hx hby d45_0 rfl rfl ?_
    refine st1 _ ?_
    refine XS.istoreN X1.here hx rfl (hb hby d45_4) rfl (l' := #[rv r0, iv 2, .unset]) rfl ?_
    refine oAn X1 hx hby d45_5 rfl rfl ?_
    refine st2 _ ?_
    refine oIn X2 hx hby d45_9 rfl ?_
    refine st3 _ ?_
    refine XS.astoreN X3.here hx rfl (hb hby d45_15) rfl rfl (l' := #[rv r0, iv 2, rv x2]) rfl ?_
    refine oAn X3 hx hby d45_16 rfl rfl (oIn X3 hx hby d45_17 rfl (oIc X3 hx hby d45_18 ?_))
    refine XS.iadd X3.here hx rfl (hb hby d45_19) rfl ?_
    refine st4 _ ?_
    refine oAn X4 hx hby d45_23 rfl rfl ?_
    jvm_step X4.here [X4.here.top, hx, (hb hby d45_24), X4.method', Bd.returns, Value.isRef, FieldType.isReference]
    first | (intro acts; rw [hr _ acts rfl rfl rfl]) | rw [hr _ _ rfl rfl rfl]
    exact Steps.refl _
theorem pd_8 : parseMethodDescriptor "(Ljava/lang/Object;)I" = some ⟨[(.object cS3)], some .int⟩ := by decide +kernel
theorem pd_9 : parseMethodDescriptor "()Ljava/util/Iterator;" = some ⟨[], some (.object "java/util/Iterator")⟩ := by decide +kernel
theorem d9_0 : decode prog_5_method_1_code 0 = .ok (.aload_n 0, 1) := by decide +kernel
theorem d9_1 : decode prog_5_method_1_code 1 = .ok (.invokespecial 1, 3) := by decide +kernel
theorem d9_4 : decode prog_5_method_1_code 4 = .ok (.aload_n 0, 1) := by decide +kernel
theorem d9_5 : decode prog_5_method_1_code 5 = .ok (.aload_n 1, 1) := by decide +kernel
theorem d9_6 : decode prog_5_method_1_code 6 = .ok (.putfield 7, 3) := by decide +kernel
theorem d9_9 : decode prog_5_method_1_code 9 = .ok (.aload_n 0, 1) := by decide +kernel
theorem d9_10 : decode prog_5_method_1_code 10 = .ok (.aload_n 2, 1) := by decide +kernel
theorem d9_11 : decode prog_5_method_1_code 11 = .ok (.putfield 13, 3) := by decide +kernel
theorem d9_14 : decode prog_5_method_1_code 14 = .ok (.aload_n 0, 1) := by decide +kernel
theorem d9_15 : decode prog_5_method_1_code 15 = .ok (.aload_n 3, 1) := by decide +kernel
theorem d9_16 : decode prog_5_method_1_code 16 = .ok (.putfield 17, 3) := by decide +kernel
theorem d9_19 : decode prog_5_method_1_code 19 = .ok (.aload_n 0, 1) := by decide +kernel
theorem d9_20 : decode prog_5_method_1_code 20 = .ok (.aload 4, 2) := by decide +kernel
theorem d9_22 : decode prog_5_method_1_code 22 = .ok (.putfield 21, 3) := by decide +kernel
theorem d9_25 : decode prog_5_method_1_code 25 = .ok (.bipush 31, 2) := by decide +kernel
theorem d9_27 : decode prog_5_method_1_code 27 = .ok (.aload_n 1, 1) := by decide +kernel
theorem d9_28 : decode prog_5_method_1_code 28 = .ok (.invokevirtual 25, 3) := by decide +kernel
theorem d9_31 : decode prog_5_method_1_code 31 = .ok (.imul, 1) := by decide +kernel
theorem d9_32 : decode prog_5_method_1_code 32 = .ok (.aload_n 2, 1) := by decide +kernel
theorem d9_33 : decode prog_5_method_1_code 33 = .ok (.invokestatic 31, 3) := by decide +kernel
theorem d9_36 : decode prog_5_method_1_code 36 = .ok (.iadd, 1) := by decide +kernel
theorem d9_37 : decode prog_5_method_1_code 37 = .ok (.aload_n 3, 1) := by decide +kernel
theorem d9_38 : decode prog_5_method_1_code 38 = .ok (.invokestatic 31, 3) := by decide +kernel
theorem d9_41 : decode prog_5_method_1_code 41 = .ok (.iadd, 1) := by decide +kernel
theorem d9_42 : decode prog_5_method_1_code 42 = .ok (.istore 5, 2) := by decide +kernel
theorem d9_44 : decode prog_5_method_1_code 44 = .ok (.aload 4, 2) := by decide +kernel
theorem d9_46 : decode prog_5_method_1_code 46 = .ok (.invokeinterface 37 1, 5) := by decide +kernel
theorem d9_51 : decode prog_5_method_1_code 51 = .ok (.astore 6, 2) := by decide +kernel
theorem d9_53 : decode prog_5_method_1_code 53 = .ok (.aload 6, 2) := by decide +kernel
theorem d9_55 : decode prog_5_method_1_code 55 = .ok (.invokeinterface 43 1, 5) := by decide +kernel
theorem d9_60 : decode prog_5_method_1_code 60 = .ok (.ifCond .eq 31, 3) := by decide +kernel
theorem d9_91 : decode prog_5_method_1_code 91 = .ok (.aload_n 0, 1) := by decide +kernel
theorem d9_92 : decode prog_5_method_1_code 92 = .ok (.iload 5, 2) := by decide +kernel
theorem d9_94 : decode prog_5_method_1_code 94 = .ok (.putfield 53, 3) := by decide +kernel
theorem d9_97 : decode prog_5_method_1_code 97 = .ok (.return_, 1) := by decide +kernel
theorem pn_com_example_tablox_tablox_concept_Concept : plainName cS0 = true := by first | (simp [plainName, overriddenIn]; done) | decide +kernel
theorem ef_9n2n3 (m : MethodId) (x0 : Addr) (x1 : Addr) (x4 : Addr) : entryFrame m #[(.ref x0), (.ref x1), .null, .null, (.ref x4)] 8 = mkF m 0 #[.val (.ref x0), .val (.ref x1), .val .null, .val .null, .val (.ref x4), .unset, .unset, .unset] [] := by first | (simp [entryFrame, mkF, argsToLocals, Value.category]; done) | rfl
def Q_9_0 (Z : State) (r0 r1 r4 el : Addr) (kE : ClassId) (u_kind_r0 u_name_r0 u_role_r0 u_operands_r0 u_hash_r0 : Value) (h0 : Heap) (n0 : Nat) (v : Option Value) (h : Heap) (L : List Loc) : Prop := ∃ hv : Int32, v = none ∧ Fr n0 L ∧ Keep h0 h [r0] ∧ Exa Z h r0 cS0 ∧ Fld Z h r0 cS0 "kind" cS10 (.ref r1) ∧ Fld Z h r0 cS0 "name" cS23 .null ∧ Fld Z h r0 cS0 "role" cS15 .null ∧ Fld Z h r0 cS0 "operands" cS18 (.ref r4) ∧ Fld Z h r0 cS0 "hash" "I" (.int hv)
theorem rm9_0 (l : Launch) (Z : State) (a0 : Array Value) (hw : own_HW a0 Z) (ws : List Jvm.Cond) (r0 r1 r4 el : Addr) (kE : ClassId) (u_kind_r0 u_name_r0 u_role_r0 u_operands_r0 u_hash_r0 : Value) (h0 : Heap) (n0 : Nat) (Z0 : n0 ≤ h0.size) (E_r0 : Exa Z h0 r0 cS0) (E_r1 : Exa Z h0 r1 cS2) (F_ordinal_r1 : Fld Z h0 r1 cS25 "ordinal" "I" (.int 4)) (E_r4 : Exa Z h0 r4 cS7) (F_elements_r4 : Fld Z h0 r4 cS7 "elements" cS6 (.ref el)) (V_el : Arv Z h0 el kE (.object cS3) (0 : Int32) [] .null) (F_kind_r0 : Fld Z h0 r0 cS0 "kind" cS10 u_kind_r0) (ge_r0 : n0 ≤ r0) (F_name_r0 : Fld Z h0 r0 cS0 "name" cS23 u_name_r0) (F_role_r0 : Fld Z h0 r0 cS0 "role" cS15 u_role_r0) (F_operands_r0 : Fld Z h0 r0 cS0 "operands" cS18 u_operands_r0) (ne_el_r0 : el ≠ r0) (F_hash_r0 : Fld Z h0 r0 cS0 "hash" "I" u_hash_r0) :
    own_M l Z (⟨cS0, "<init>", cS12⟩ : MethodName) prog_5_method_1_code 8 none ws ({ frames := 3, cells := 1, slots := 4, locals := 39 } : Room) #[(.ref r0), (.ref r1), .null, .null, (.ref r4)] h0 (Q_9_0 Z r0 r1 r4 el kE u_kind_r0 u_name_r0 u_role_r0 u_operands_r0 u_hash_r0 h0 n0) := by
  refine own_in cS0 rfl (plainFor_of_name pn_com_example_tablox_tablox_concept_Concept) ?_
  intro p e s m below meth c s₁ Bd hml hZ hh hx hby hown X0 e0
  have N0 := Fr.nil n0
  have hnm := (name_of_methodNamed Bd.named Bd.method).1
  have k0 := own_k (p := p) (e := e) (below := below) (T := s₁) (ef_9n2n3 m r0 r1 r4)
  obtain ⟨T1, X1, e1, st1⟩ := initO X0 hx hZ hown (own_at hw 59 rfl) (own_at hw 28 rfl) (own_at hw 29 rfl) e0 (g := (mkF m 1 #[rv r0, rv r1, .val .null, .val .null, rv r4, .unset, .unset, .unset] [(.ref r0)])) rfl (by rw [hml]; rfl) rfl (hb hby d9_1) (by decide) (W := 0) (Nat.le_refl _) (by decide)
  obtain ⟨T2, h2, X2, e2, W2, st2⟩ := putF X1 hx hZ hown (host := "") (Or.inl (own_at hw 60 rfl)) Via.refl e1 F_kind_r0 E_r0 (Or.inr ⟨(own_at hw 61 rfl), rfl, hnm⟩) (own_at hw 38 rfl) (ty := (.object cS2)) (by decide) rfl rfl (g := (mkF m 6 #[rv r0, rv r1, .val .null, .val .null, rv r4, .unset, .unset, .unset] [(.ref r1), (.ref r0)])) rfl rfl (hb hby d9_6)
  have Fw2 : Fld Z h2 r0 cS0 "kind" cS10 (.ref r1) := F_kind_r0.same W2
  have N2 := Fr.snoc X2 N0 ge_r0
  have f3 := (E_r0.wr W2)
  have f4 := (F_name_r0.other W2 (Or.inr (slot_ne (Or.inr (own_at hw 63 rfl)) (Or.inr (own_at hw 61 rfl)) (by decide) (t := (.object cS8)) (t' := (.object cS2)) (by decide) (by decide))))
  obtain ⟨T5, h5, X5, e5, W5, st5⟩ := putF X2 hx hZ hown (host := "") (Or.inl (own_at hw 62 rfl)) Via.refl e2 f4 f3 (Or.inr ⟨(own_at hw 63 rfl), rfl, hnm⟩) (own_at hw 38 rfl) (ty := (.object cS8)) (by decide) rfl rfl (g := (mkF m 11 #[rv r0, rv r1, .val .null, .val .null, rv r4, .unset, .unset, .unset] [.null, (.ref r0)])) rfl rfl (hb hby d9_11)
  have Fw5 : Fld Z h5 r0 cS0 "name" cS23 .null := f4.same W5
  have N5 := Fr.snoc X5 N2 ge_r0
  have f6 := (f3.wr W5)
  have f7 := ((F_role_r0.other W2 (Or.inr (slot_ne (Or.inr (own_at hw 65 rfl)) (Or.inr (own_at hw 61 rfl)) (by decide) (t := (.object cS9)) (t' := (.object cS2)) (by decide) (by decide)))).other W5 (Or.inr (slot_ne (Or.inr (own_at hw 65 rfl)) (Or.inr (own_at hw 63 rfl)) (by decide) (t := (.object cS9)) (t' := (.object cS8)) (by decide) (by decide))))
  obtain ⟨T8, h8, X8, e8, W8, st8⟩ := putF X5 hx hZ hown (host := "") (Or.inl (own_at hw 64 rfl)) Via.refl e5 f7 f6 (Or.inr ⟨(own_at hw 65 rfl), rfl, hnm⟩) (own_at hw 38 rfl) (ty := (.object cS9)) (by decide) rfl rfl (g := (mkF m 16 #[rv r0, rv r1, .val .null, .val .null, rv r4, .unset, .unset, .unset] [.null, (.ref r0)])) rfl rfl (hb hby d9_16)
  have Fw8 : Fld Z h8 r0 cS0 "role" cS15 .null := f7.same W8
  have N8 := Fr.snoc X8 N5 ge_r0
  have f9 := (f6.wr W8)
  have f10 := (((F_operands_r0.other W2 (Or.inr (slot_ne (Or.inr (own_at hw 67 rfl)) (Or.inr (own_at hw 61 rfl)) (by decide) (t := (.object cS11)) (t' := (.object cS2)) (by decide) (by decide)))).other W5 (Or.inr (slot_ne (Or.inr (own_at hw 67 rfl)) (Or.inr (own_at hw 63 rfl)) (by decide) (t := (.object cS11)) (t' := (.object cS8)) (by decide) (by decide)))).other W8 (Or.inr (slot_ne (Or.inr (own_at hw 67 rfl)) (Or.inr (own_at hw 65 rfl)) (by decide) (t := (.object cS11)) (t' := (.object cS9)) (by decide) (by decide))))
  obtain ⟨T11, h11, X11, e11, W11, st11⟩ := putF X8 hx hZ hown (host := "") (Or.inl (own_at hw 66 rfl)) Via.refl e8 f10 f9 (Or.inr ⟨(own_at hw 67 rfl), rfl, hnm⟩) (own_at hw 38 rfl) (ty := (.object cS11)) (by decide) rfl rfl (g := (mkF m 22 #[rv r0, rv r1, .val .null, .val .null, rv r4, .unset, .unset, .unset] [(.ref r4), (.ref r0)])) rfl rfl (hb hby d9_22)
  have Fw11 : Fld Z h11 r0 cS0 "operands" cS18 (.ref r4) := f10.same W11
  have N11 := Fr.snoc X11 N8 ge_r0
  have f13 := ((((E_r1.wr W2).wr W5).wr W8).wr W11)
  have f14 := (f9.wr W11)
  have f15 := ((((F_ordinal_r1.other W2 (Or.inl (ne_exa f13 f14 (by decide)))).other W5 (Or.inl (ne_exa f13 f14 (by decide)))).other W8 (Or.inl (ne_exa f13 f14 (by decide)))).other W11 (Or.inl (ne_exa f13 f14 (by decide))))
  obtain ⟨cq12, kq12, q12a, q12b, q12c⟩ := isOf hZ e11 f13
  obtain ⟨_, _, ⟨T12, L12, j12, i12⟩, -, X12, ⟨Lc12, hQ12, l12, y12, z12⟩, st12⟩ := X11.virtualBackUp hx (owner := cS25) (x := (⟨cS2, "ordinal", "()I"⟩ : MethodName)) (y := (⟨cS25, "ordinal", "()I"⟩ : MethodName)) hown (mvT hZ (own_at hw 68 rfl)) (mvT hZ (own_at hw 69 rfl)) (mvT hZ (own_at hw 70 rfl)) (by decide) (mvT hZ (own_at hw 72 rfl)) (mvT hZ (own_at hw 71 rfl)) (backOf (W := 1) (rm10 l Z a0 hw [] r1 (4 : Int32) h11 n0 (Nat.le_trans (Nat.le_trans (Nat.le_trans (Nat.le_trans Z0 (Keep.of_wr W2).1) (Keep.of_wr W5).1) (Keep.of_wr W8).1) (Keep.of_wr W11).1) f15) hZ (own_at hw 74 rfl) (own_at hw 73 rfl) (by decide) (by decide)) q12a q12c (g := (mkF m 28 #[rv r0, rv r1, .val .null, .val .null, rv r4, .unset, .unset, .unset] [(.ref r1), (.int 31)])) rfl (by rw [hml]; rfl) (Steps.refl _) (argsL := []) (rest := [(.int 31)]) (lenOf pd_5 rfl) rfl (Nat.le_refl _) (hb hby d9_28) (fun _ _ => ⟨rfl, e11, (by decide : 0 + 0 ≤ _), (by decide : 0 + 0 ≤ _)⟩)
  dsimp only [Pt.U, Pt.locs, Pt.cells, Pt.slots] at X12 l12 y12 z12 st12 hQ12
  subst l12 y12 z12
  obtain ⟨rfl, N12q, e12⟩ := hQ12
  have N12 := Fr.app N11 N12q
  obtain ⟨_, T16, L16, X16, hQ16, st16⟩ := own_cS 1 (rm11_n l Z a0 hw []  h11 n0 (Nat.le_trans (Nat.le_trans (Nat.le_trans (Nat.le_trans Z0 (Keep.of_wr W2).1) (Keep.of_wr W5).1) (Keep.of_wr W8).1) (Keep.of_wr W11).1) ) X12 hx hZ hown hw 77 78 47 79 rfl rfl rfl rfl 33 #[rv r0, rv r1, .val .null, .val .null, rv r4, .unset, .unset, .unset] [.null] [(.int 124)] (hb hby d9_33) hml (lenOf pd_8 rfl) e12 rfl (Nat.le_refl _) (by decide)
  obtain ⟨rfl, N16q, e16⟩ := hQ16
  have N16 := Fr.app N12 N16q
  obtain ⟨_, T17, L17, X17, hQ17, st17⟩ := own_cS 1 (rm11_n l Z a0 hw []  h11 n0 (Nat.le_trans (Nat.le_trans (Nat.le_trans (Nat.le_trans Z0 (Keep.of_wr W2).1) (Keep.of_wr W5).1) (Keep.of_wr W8).1) (Keep.of_wr W11).1) ) X16 hx hZ hown hw 77 78 47 79 rfl rfl rfl rfl 38 #[rv r0, rv r1, .val .null, .val .null, rv r4, .unset, .unset, .unset] [.null] [(.int 124)] (hb hby d9_38) hml (lenOf pd_8 rfl) e16 rfl (Nat.le_refl _) (by decide)
  obtain ⟨rfl, N17q, e17⟩ := hQ17
  have N17 := Fr.app N16 N17q
  have f19 := ((((E_r4.wr W2).wr W5).wr W8).wr W11)
  have f20 := ((((F_elements_r4.other W2 (Or.inl (ne_exa f19 f14 (by decide)))).other W5 (Or.inl (ne_exa f19 f14 (by decide)))).other W8 (Or.inl (ne_exa f19 f14 (by decide)))).other W11 (Or.inl (ne_exa f19 f14 (by decide))))
  have f21 := ((((V_el.other W2 ne_el_r0).other W5 ne_el_r0).other W8 ne_el_r0).other W11 ne_el_r0)
  obtain ⟨_, T18, L18, X18, hQ18, st18⟩ := own_cI 0 (rm15_0 l Z a0 hw [] r4 el kE h11 n0 (Nat.le_trans (Nat.le_trans (Nat.le_trans (Nat.le_trans Z0 (Keep.of_wr W2).1) (Keep.of_wr W5).1) (Keep.of_wr W8).1) (Keep.of_wr W11).1) f19 f20 f21) X17 hx hZ hown hw 98 99 100 101 102 103 104 105 107 106 rfl rfl rfl rfl rfl rfl rfl rfl rfl rfl r4 f19 46 #[rv r0, rv r1, .val .null, .val .null, rv r4, iv 124, .unset, .unset] [] [] (hb hby d9_46) hml (lenOf pd_9 rfl) e17 rfl (Nat.le_refl _) (by decide)
  obtain ⟨it_18, rfl, N18q, K18, p18_0, p18_1, p18_2, p18_3, p18_4⟩ := hQ18
  have g_it_18 : n0 ≤ it_18 := Nat.le_trans (Nat.le_trans (Nat.le_trans (Nat.le_trans (Nat.le_trans Z0 (Keep.of_wr W2).1) (Keep.of_wr W5).1) (Keep.of_wr W8).1) (Keep.of_wr W11).1) p18_0
  have sz_it_18 : h0.size ≤ it_18 := Nat.le_trans (((((Keep.refl h0 [r0]).wr W2 (Or.inl (List.mem_of_getElem? (i := 0) rfl))).wr W5 (Or.inl (List.mem_of_getElem? (i := 0) rfl))).wr W8 (Or.inl (List.mem_of_getElem? (i := 0) rfl))).wr W11 (Or.inl (List.mem_of_getElem? (i := 0) rfl))).1 p18_0
  have N18 := Fr.app N17 N18q
  obtain ⟨_, T22, L22, X22, hQ22, st22⟩ := own_cI 0 (rm18_t l Z a0 hw [] it_18 (0 : Int32) (0 : Int32) T18.heap n0 (Nat.le_trans (Nat.le_trans (Nat.le_trans (Nat.le_trans (Nat.le_trans Z0 (Keep.of_wr W2).1) (Keep.of_wr W5).1) (Keep.of_wr W8).1) (Keep.of_wr W11).1) K18.1) p18_4 p18_3 (by decide : (0 : Int32) = (0 : Int32))) X18 hx hZ hown hw 133 134 135 136 137 138 139 140 141 110 rfl rfl rfl rfl rfl rfl rfl rfl rfl rfl it_18 p18_1 55 #[rv r0, rv r1, .val .null, .val .null, rv r4, iv 124, rv it_18, .unset] [] [] (hb hby d9_55) hml (lenOf pd_3 rfl) rfl rfl (Nat.le_refl _) (by decide)
  obtain ⟨rfl, N22q, e22⟩ := hQ22
  have N22 := Fr.app N18 N22q
  have f23 := (f14.keep K18)
  have f24 := (((((F_hash_r0.other W2 (Or.inr (slot_ne (Or.inr (own_at hw 143 rfl)) (Or.inr (own_at hw 61 rfl)) (by decide) (t := .int) (t' := (.object cS2)) (by decide) (by decide)))).other W5 (Or.inr (slot_ne (Or.inr (own_at hw 143 rfl)) (Or.inr (own_at hw 63 rfl)) (by decide) (t := .int) (t' := (.object cS8)) (by decide) (by decide)))).other W8 (Or.inr (slot_ne (Or.inr (own_at hw 143 rfl)) (Or.inr (own_at hw 65 rfl)) (by decide) (t := .int) (t' := (.object cS9)) (by decide) (by decide)))).other W11 (Or.inr (slot_ne (Or.inr (own_at hw 143 rfl)) (Or.inr (own_at hw 67 rfl)) (by decide) (t := .int) (t' := (.object cS11)) (by decide) (by decide)))).keep K18 nin0)
  obtain ⟨T25, h25, X25, e25, W25, st25⟩ := putF X22 hx hZ hown (host := "") (Or.inl (own_at hw 142 rfl)) Via.refl e22 f24 f23 (Or.inr ⟨(own_at hw 143 rfl), rfl, hnm⟩) (own_at hw 38 rfl) (ty := .int) (by decide) rfl rfl (g := (mkF m 94 #[rv r0, rv r1, .val .null, .val .null, rv r4, iv 124, rv it_18, .unset] [(.int 124), (.ref r0)])) rfl rfl (hb hby d9_94)
  have Fw25 : Fld Z h25 r0 cS0 "hash" "I" (.int 124) := f24.same W25
  have N25 := Fr.snoc X25 N22 ge_r0
  have f26 := (f23.wr W25)
  have f27 := (((((Fw2.other W5 (Or.inr (slot_ne (Or.inr (own_at hw 61 rfl)) (Or.inr (own_at hw 63 rfl)) (by decide) (t := (.object cS2)) (t' := (.object cS8)) (by decide) (by decide)))).other W8 (Or.inr (slot_ne (Or.inr (own_at hw 61 rfl)) (Or.inr (own_at hw 65 rfl)) (by decide) (t := (.object cS2)) (t' := (.object cS9)) (by decide) (by decide)))).other W11 (Or.inr (slot_ne (Or.inr (own_at hw 61 rfl)) (Or.inr (own_at hw 67 rfl)) (by decide) (t := (.object cS2)) (t' := (.object cS11)) (by decide) (by decide)))).keep K18 nin0).other W25 (Or.inr (slot_ne (Or.inr (own_at hw 61 rfl)) (Or.inr (own_at hw 143 rfl)) (by decide) (t := (.object cS2)) (t' := .int) (by decide) (by decide))))
  have f28 := ((((Fw5.other W8 (Or.inr (slot_ne (Or.inr (own_at hw 63 rfl)) (Or.inr (own_at hw 65 rfl)) (by decide) (t := (.object cS8)) (t' := (.object cS9)) (by decide) (by decide)))).other W11 (Or.inr (slot_ne (Or.inr (own_at hw 63 rfl)) (Or.inr (own_at hw 67 rfl)) (by decide) (t := (.object cS8)) (t' := (.object cS11)) (by decide) (by decide)))).keep K18 nin0).other W25 (Or.inr (slot_ne (Or.inr (own_at hw 63 rfl)) (Or.inr (own_at hw 143 rfl)) (by decide) (t := (.object cS8)) (t' := .int) (by decide) (by decide))))
  have f29 := (((Fw8.other W11 (Or.inr (slot_ne (Or.inr (own_at hw 65 rfl)) (Or.inr (own_at hw 67 rfl)) (by decide) (t := (.object cS9)) (t' := (.object cS11)) (by decide) (by decide)))).keep K18 nin0).other W25 (Or.inr (slot_ne (Or.inr (own_at hw 65 rfl)) (Or.inr (own_at hw 143 rfl)) (by decide) (t := (.object cS9)) (t' := .int) (by decide) (by decide))))
  have f30 := ((Fw11.keep K18 nin0).other W25 (Or.inr (slot_ne (Or.inr (own_at hw 67 rfl)) (Or.inr (own_at hw 143 rfl)) (by decide) (t := (.object cS11)) (t' := .int) (by decide) (by decide))))
  refine own_out X25 Bd.notSynchronized Bd.returns (none) (fun _ => rfl) (by decide) (by decide) ?_ fun fs hr => k0 _ ?_
  · rw [e25]; exact ⟨(124 : Int32), rfl, N25, (((((((Keep.refl h0 [r0]).wr W2 (Or.inl (List.mem_of_getElem? (i := 0) rfl))).wr W5 (Or.inl (List.mem_of_getElem? (i := 0) rfl))).wr W8 (Or.inl (List.mem_of_getElem? (i := 0) rfl))).wr W11 (Or.inl (List.mem_of_getElem? (i := 0) rfl))).trans K18 all0).wr W25 (Or.inl (List.mem_of_getElem? (i := 0) rfl))), f26, f27, f28, f29, f30, Fw25⟩
  · show OwnS p e below s₁ (mkF m 0 #[rv r0, rv r1, .val .null, .val .null, rv r4, .unset, .unset, .unset] []) _
    refine oAn X0 hx hby d9_0 rfl rfl ?_
    refine st1 _ ?_
    refine oAn X1 hx hby d9_4 rfl rfl (oAn X1 hx hby d9_5 rfl rfl ?_)
    refine st2 _ ?_
    refine oAn X2 hx hby d9_9 rfl rfl (oAn X2 hx hby d9_10 rfl rfl ?_)
    refine st5 _ ?_
    refine oAn X5 hx hby d9_14 rfl rfl (oAn X5 hx hby d9_15 rfl rfl ?_)
    refine st8 _ ?_
    refine oAn X8 hx hby d9_19 rfl rfl (oAl X8 hx hby d9_20 rfl rfl ?_)
    refine st11 _ ?_
    refine oBp X11 hx hby d9_25 (oAn X11 hx hby d9_27 rfl rfl ?_)
    refine st12.trans ?_
    refine XS.imul X12.here hx rfl (hb hby d9_31) rfl ?_
    refine oAn X12 hx hby d9_32 rfl rfl ?_
    refine st16 _ ?_
    refine XS.iadd X16.here hx rfl (hb hby d9_36) rfl ?_
    refine oAn X16 hx hby d9_37 rfl rfl ?_
    refine st17 _ ?_
    refine XS.iadd X17.here hx rfl (hb hby d9_41) rfl ?_
    refine XS.istore X17.here hx rfl (hb hby d9_42) rfl (l' := #[rv r0, rv r1, .val .null, .val .null, rv r4, iv 124, .unset, .unset]) rfl ?_
    refine oAl X17 hx hby d9_44 rfl rfl ?_
    refine st18 _ ?_
    refine XS.astore X18.here hx rfl (hb hby d9_51) rfl rfl (l' := #[rv r0, rv r1, .val .null, .val .null, rv r4, iv 124, rv it_18, .unset]) rfl ?_
    refine oAl X18 hx hby d9_53 rfl rfl ?_
    refine st22 _ ?_
    show OwnS p e below T22 (mkF m 60 #[rv r0, rv r1, .val .null, .val .null, rv r4, iv 124, rv it_18, .unset] [(.int 0)]) _
    refine XS.ifYes X22.here hx rfl (pc0 := 60) (pc' := 91) rfl (hb hby d9_60) rfl ((if0 _ _).trans (teq (by decide : (0 : Int32) = (0 : Int32))).1) (by decide) (by decide) ?_
    refine oAn X22 hx hby d9_91 rfl rfl (oIl X22 hx hby d9_92 rfl ?_)
    refine st25 _ ?_
    exact X25.returnOut hx Bd.returns (hb hby d9_97) hr
theorem pd_10 : parseMethodDescriptor cS20 = some ⟨[], some (.object cS3)⟩ := by decide +kernel
theorem d9_63 : decode prog_5_method_1_code 63 = .ok (.aload 6, 2) := by decide +kernel
theorem d9_65 : decode prog_5_method_1_code 65 = .ok (.invokeinterface 49 1, 5) := by decide +kernel
theorem d9_70 : decode prog_5_method_1_code 70 = .ok (.checkcast 8, 3) := by decide +kernel
theorem d9_73 : decode prog_5_method_1_code 73 = .ok (.astore 7, 2) := by decide +kernel
theorem d9_75 : decode prog_5_method_1_code 75 = .ok (.bipush 31, 2) := by decide +kernel
theorem d9_77 : decode prog_5_method_1_code 77 = .ok (.iload 5, 2) := by decide +kernel
theorem d9_79 : decode prog_5_method_1_code 79 = .ok (.imul, 1) := by decide +kernel
theorem d9_80 : decode prog_5_method_1_code 80 = .ok (.aload 7, 2) := by decide +kernel
theorem d9_82 : decode prog_5_method_1_code 82 = .ok (.getfield 53, 3) := by decide +kernel
theorem d9_85 : decode prog_5_method_1_code 85 = .ok (.iadd, 1) := by decide +kernel
theorem d9_86 : decode prog_5_method_1_code 86 = .ok (.istore 5, 2) := by decide +kernel
theorem d9_88 : decode prog_5_method_1_code 88 = .ok (.goto (-35), 3) := by decide +kernel
def Q_9_1 (Z : State) (r0 r1 r4 w_EMPTY x0 : Addr) (u0 : Int32) (u_kind_r0 u_name_r0 u_role_r0 u_operands_r0 u_hash_r0 : Value) (h0 : Heap) (n0 : Nat) (v : Option Value) (h : Heap) (L : List Loc) : Prop := ∃ hv : Int32, v = none ∧ Fr n0 L ∧ Keep h0 h [r0] ∧ Exa Z h r0 cS0 ∧ Fld Z h r0 cS0 "kind" cS10 (.ref r1) ∧ Fld Z h r0 cS0 "name" cS23 .null ∧ Fld Z h r0 cS0 "role" cS15 .null ∧ Fld Z h r0 cS0 "operands" cS18 (.ref r4) ∧ Fld Z h r0 cS0 "hash" "I" (.int hv)
theorem rm9_1 (l : Launch) (Z : State) (a0 : Array Value) (hw : own_HW a0 Z) (ws : List Jvm.Cond) (r0 r1 r4 w_EMPTY x0 : Addr) (u0 : Int32) (u_kind_r0 u_name_r0 u_role_r0 u_operands_r0 u_hash_r0 : Value) (h0 : Heap) (n0 : Nat) (Z0 : n0 ≤ h0.size) (S_EMPTY : Sta Z h0 cS14 "EMPTY" cS13 (.ref w_EMPTY)) (E_r0 : Exa Z h0 r0 cS0) (E_r1 : Exa Z h0 r1 cS2) (F_ordinal_r1 : Fld Z h0 r1 cS25 "ordinal" "I" (.int 4)) (E_r4 : Exa Z h0 r4 cS5) (F_e0_r4 : Fld Z h0 r4 cS5 "e0" cS13 (.ref x0)) (F_e1_r4 : Fld Z h0 r4 cS5 "e1" cS13 (.ref w_EMPTY)) (E_x0 : Exa Z h0 x0 cS0) (F_hash_x0 : Fld Z h0 x0 cS0 "hash" "I" (.int u0)) (F_kind_r0 : Fld Z h0 r0 cS0 "kind" cS10 u_kind_r0) (ge_r0 : n0 ≤ r0) (F_name_r0 : Fld Z h0 r0 cS0 "name" cS23 u_name_r0) (F_role_r0 : Fld Z h0 r0 cS0 "role" cS15 u_role_r0) (F_operands_r0 : Fld Z h0 r0 cS0 "operands" cS18 u_operands_r0) (ne_x0_r0 : x0 ≠ r0) (F_hash_r0 : Fld Z h0 r0 cS0 "hash" "I" u_hash_r0) :
    own_M l Z (⟨cS0, "<init>", cS12⟩ : MethodName) prog_5_method_1_code 8 none ws ({ frames := 3, cells := 1, slots := 4, locals := 39 } : Room) #[(.ref r0), (.ref r1), .null, .null, (.ref r4)] h0 (Q_9_1 Z r0 r1 r4 w_EMPTY x0 u0 u_kind_r0 u_name_r0 u_role_r0 u_operands_r0 u_hash_r0 h0 n0) := by
  refine own_in cS0 rfl (plainFor_of_name pn_com_example_tablox_tablox_concept_Concept) ?_
  intro p e s m below meth c s₁ Bd hml hZ hh hx hby hown X0 e0
  have N0 := Fr.nil n0
  have hnm := (name_of_methodNamed Bd.named Bd.method).1
  have k0 := own_k (p := p) (e := e) (below := below) (T := s₁) (ef_9n2n3 m r0 r1 r4)
  obtain ⟨T1, X1, e1, st1⟩ := initO X0 hx hZ hown (own_at hw 59 rfl) (own_at hw 28 rfl) (own_at hw 29 rfl) e0 (g := (mkF m 1 #[rv r0, rv r1, .val .null, .val .null, rv r4, .unset, .unset, .unset] [(.ref r0)])) rfl (by rw [hml]; rfl) rfl (hb hby d9_1) (by decide) (W := 0) (Nat.le_refl _) (by decide)
  obtain ⟨T2, h2, X2, e2, W2, st2⟩ := putF X1 hx hZ hown (host := "") (Or.inl (own_at hw 60 rfl)) Via.refl e1 F_kind_r0 E_r0 (Or.inr ⟨(own_at hw 61 rfl), rfl, hnm⟩) (own_at hw 38 rfl) (ty := (.object cS2)) (by decide) rfl rfl (g := (mkF m 6 #[rv r0, rv r1, .val .null, .val .null, rv r4, .unset, .unset, .unset] [(.ref r1), (.ref r0)])) rfl rfl (hb hby d9_6)
  have Fw2 : Fld Z h2 r0 cS0 "kind" cS10 (.ref r1) := F_kind_r0.same W2
  have N2 := Fr.snoc X2 N0 ge_r0
  have f3 := (E_r0.wr W2)
  have f4 := (F_name_r0.other W2 (Or.inr (slot_ne (Or.inr (own_at hw 63 rfl)) (Or.inr (own_at hw 61 rfl)) (by decide) (t := (.object cS8)) (t' := (.object cS2)) (by decide) (by decide))))
  obtain ⟨T5, h5, X5, e5, W5, st5⟩ := putF X2 hx hZ hown (host := "") (Or.inl (own_at hw 62 rfl)) Via.refl e2 f4 f3 (Or.inr ⟨(own_at hw 63 rfl), rfl, hnm⟩) (own_at hw 38 rfl) (ty := (.object cS8)) (by decide) rfl rfl (g := (mkF m 11 #[rv r0, rv r1, .val .null, .val .null, rv r4, .unset, .unset, .unset] [.null, (.ref r0)])) rfl rfl (hb hby d9_11)
  have Fw5 : Fld Z h5 r0 cS0 "name" cS23 .null := f4.same W5
  have N5 := Fr.snoc X5 N2 ge_r0
  have f6 := (f3.wr W5)
  have f7 := ((F_role_r0.other W2 (Or.inr (slot_ne (Or.inr (own_at hw 65 rfl)) (Or.inr (own_at hw 61 rfl)) (by decide) (t := (.object cS9)) (t' := (.object cS2)) (by decide) (by decide)))).other W5 (Or.inr (slot_ne (Or.inr (own_at hw 65 rfl)) (Or.inr (own_at hw 63 rfl)) (by decide) (t := (.object cS9)) (t' := (.object cS8)) (by decide) (by decide))))
  obtain ⟨T8, h8, X8, e8, W8, st8⟩ := putF X5 hx hZ hown (host := "") (Or.inl (own_at hw 64 rfl)) Via.refl e5 f7 f6 (Or.inr ⟨(own_at hw 65 rfl), rfl, hnm⟩) (own_at hw 38 rfl) (ty := (.object cS9)) (by decide) rfl rfl (g := (mkF m 16 #[rv r0, rv r1, .val .null, .val .null, rv r4, .unset, .unset, .unset] [.null, (.ref r0)])) rfl rfl (hb hby d9_16)
  have Fw8 : Fld Z h8 r0 cS0 "role" cS15 .null := f7.same W8
  have N8 := Fr.snoc X8 N5 ge_r0
  have f9 := (f6.wr W8)
  have f10 := (((F_operands_r0.other W2 (Or.inr (slot_ne (Or.inr (own_at hw 67 rfl)) (Or.inr (own_at hw 61 rfl)) (by decide) (t := (.object cS11)) (t' := (.object cS2)) (by decide) (by decide)))).other W5 (Or.inr (slot_ne (Or.inr (own_at hw 67 rfl)) (Or.inr (own_at hw 63 rfl)) (by decide) (t := (.object cS11)) (t' := (.object cS8)) (by decide) (by decide)))).other W8 (Or.inr (slot_ne (Or.inr (own_at hw 67 rfl)) (Or.inr (own_at hw 65 rfl)) (by decide) (t := (.object cS11)) (t' := (.object cS9)) (by decide) (by decide))))
  obtain ⟨T11, h11, X11, e11, W11, st11⟩ := putF X8 hx hZ hown (host := "") (Or.inl (own_at hw 66 rfl)) Via.refl e8 f10 f9 (Or.inr ⟨(own_at hw 67 rfl), rfl, hnm⟩) (own_at hw 38 rfl) (ty := (.object cS11)) (by decide) rfl rfl (g := (mkF m 22 #[rv r0, rv r1, .val .null, .val .null, rv r4, .unset, .unset, .unset] [(.ref r4), (.ref r0)])) rfl rfl (hb hby d9_22)
  have Fw11 : Fld Z h11 r0 cS0 "operands" cS18 (.ref r4) := f10.same W11
  have N11 := Fr.snoc X11 N8 ge_r0
  have f13 := ((((E_r1.wr W2).wr W5).wr W8).wr W11)
  have f14 := (f9.wr W11)
  have f15 := ((((F_ordinal_r1.other W2 (Or.inl (ne_exa f13 f14 (by decide)))).other W5 (Or.inl (ne_exa f13 f14 (by decide)))).other W8 (Or.inl (ne_exa f13 f14 (by decide)))).other W11 (Or.inl (ne_exa f13 f14 (by decide))))
  obtain ⟨cq12, kq12, q12a, q12b, q12c⟩ := isOf hZ e11 f13
  obtain ⟨_, _, ⟨T12, L12, j12, i12⟩, -, X12, ⟨Lc12, hQ12, l12, y12, z12⟩, st12⟩ := X11.virtualBackUp hx (owner := cS25) (x := (⟨cS2, "ordinal", "()I"⟩ : MethodName)) (y := (⟨cS25, "ordinal", "()I"⟩ : MethodName)) hown (mvT hZ (own_at hw 68 rfl)) (mvT hZ (own_at hw 69 rfl)) (mvT hZ (own_at hw 70 rfl)) (by decide) (mvT hZ (own_at hw 72 rfl)) (mvT hZ (own_at hw 71 rfl)) (backOf (W := 1) (rm10 l Z a0 hw [] r1 (4 : Int32) h11 n0 (Nat.le_trans (Nat.le_trans (Nat.le_trans (Nat.le_trans Z0 (Keep.of_wr W2).1) (Keep.of_wr W5).1) (Keep.of_wr W8).1) (Keep.of_wr W11).1) f15) hZ (own_at hw 74 rfl) (own_at hw 73 rfl) (by decide) (by decide)) q12a q12c (g := (mkF m 28 #[rv r0, rv r1, .val .null, .val .null, rv r4, .unset, .unset, .unset] [(.ref r1), (.int 31)])) rfl (by rw [hml]; rfl) (Steps.refl _) (argsL := []) (rest := [(.int 31)]) (lenOf pd_5 rfl) rfl (Nat.le_refl _) (hb hby d9_28) (fun _ _ => ⟨rfl, e11, (by decide : 0 + 0 ≤ _), (by decide : 0 + 0 ≤ _)⟩)
  dsimp only [Pt.U, Pt.locs, Pt.cells, Pt.slots] at X12 l12 y12 z12 st12 hQ12
  subst l12 y12 z12
  obtain ⟨rfl, N12q, e12⟩ := hQ12
  have N12 := Fr.app N11 N12q
  obtain ⟨_, T16, L16, X16, hQ16, st16⟩ := own_cS 1 (rm11_n l Z a0 hw []  h11 n0 (Nat.le_trans (Nat.le_trans (Nat.le_trans (Nat.le_trans Z0 (Keep.of_wr W2).1) (Keep.of_wr W5).1) (Keep.of_wr W8).1) (Keep.of_wr W11).1) ) X12 hx hZ hown hw 77 78 47 79 rfl rfl rfl rfl 33 #[rv r0, rv r1, .val .null, .val .null, rv r4, .unset, .unset, .unset] [.null] [(.int 124)] (hb hby d9_33) hml (lenOf pd_8 rfl) e12 rfl (Nat.le_refl _) (by decide)
  obtain ⟨rfl, N16q, e16⟩ := hQ16
  have N16 := Fr.app N12 N16q
  obtain ⟨_, T17, L17, X17, hQ17, st17⟩ := own_cS 1 (rm11_n l Z a0 hw []  h11 n0 (Nat.le_trans (Nat.le_trans (Nat.le_trans (Nat.le_trans Z0 (Keep.of_wr W2).1) (Keep.of_wr W5).1) (Keep.of_wr W8).1) (Keep.of_wr W11).1) ) X16 hx hZ hown hw 77 78 47 79 rfl rfl rfl rfl 38 #[rv r0, rv r1, .val .null, .val .null, rv r4, .unset, .unset, .unset] [.null] [(.int 124)] (hb hby d9_38) hml (lenOf pd_8 rfl) e16 rfl (Nat.le_refl _) (by decide)
  obtain ⟨rfl, N17q, e17⟩ := hQ17
  have N17 := Fr.app N16 N17q
  have f19 := ((((S_EMPTY.wr W2).wr W5).wr W8).wr W11)
  have f20 := ((((E_r4.wr W2).wr W5).wr W8).wr W11)
  have f21 := ((((F_e0_r4.other W2 (Or.inl (ne_exa f20 f14 (by decide)))).other W5 (Or.inl (ne_exa f20 f14 (by decide)))).other W8 (Or.inl (ne_exa f20 f14 (by decide)))).other W11 (Or.inl (ne_exa f20 f14 (by decide))))
  have f22 := ((((F_e1_r4.other W2 (Or.inl (ne_exa f20 f14 (by decide)))).other W5 (Or.inl (ne_exa f20 f14 (by decide)))).other W8 (Or.inl (ne_exa f20 f14 (by decide)))).other W11 (Or.inl (ne_exa f20 f14 (by decide))))
  obtain ⟨_, T18, L18, X18, hQ18, st18⟩ := own_cI 0 (rm15_1 l Z a0 hw [] r4 w_EMPTY x0 h11 n0 (Nat.le_trans (Nat.le_trans (Nat.le_trans (Nat.le_trans Z0 (Keep.of_wr W2).1) (Keep.of_wr W5).1) (Keep.of_wr W8).1) (Keep.of_wr W11).1) f19 f20 f21 f22) X17 hx hZ hown hw 98 99 100 346 102 103 347 348 107 106 rfl rfl rfl rfl rfl rfl rfl rfl rfl rfl r4 f20 46 #[rv r0, rv r1, .val .null, .val .null, rv r4, iv 124, .unset, .unset] [] [] (hb hby d9_46) hml (lenOf pd_9 rfl) e17 rfl (Nat.le_refl _) (by decide)
  have f23 := ((((E_x0.wr W2).wr W5).wr W8).wr W11)
  obtain ⟨it_18, rfl, N18q, K18, p18_0, p18_1, p18_2, p18_3, p18_4⟩ := hQ18
  have g_it_18 : n0 ≤ it_18 := Nat.le_trans (Nat.le_trans (Nat.le_trans (Nat.le_trans (Nat.le_trans Z0 (Keep.of_wr W2).1) (Keep.of_wr W5).1) (Keep.of_wr W8).1) (Keep.of_wr W11).1) p18_0
  have sz_it_18 : h0.size ≤ it_18 := Nat.le_trans (((((Keep.refl h0 [r0]).wr W2 (Or.inl (List.mem_of_getElem? (i := 0) rfl))).wr W5 (Or.inl (List.mem_of_getElem? (i := 0) rfl))).wr W8 (Or.inl (List.mem_of_getElem? (i := 0) rfl))).wr W11 (Or.inl (List.mem_of_getElem? (i := 0) rfl))).1 p18_0
  have N18 := Fr.app N17 N18q
  obtain ⟨_, T24, L24, X24, hQ24, st24⟩ := own_cI 0 (rm18_f l Z a0 hw [] it_18 (0 : Int32) (1 : Int32) T18.heap n0 (Nat.le_trans (Nat.le_trans (Nat.le_trans (Nat.le_trans (Nat.le_trans Z0 (Keep.of_wr W2).1) (Keep.of_wr W5).1) (Keep.of_wr W8).1) (Keep.of_wr W11).1) K18.1) p18_4 p18_3 (by decide : ¬ ((0 : Int32) = (1 : Int32)))) X18 hx hZ hown hw 133 134 135 136 137 138 139 140 141 110 rfl rfl rfl rfl rfl rfl rfl rfl rfl rfl it_18 p18_1 55 #[rv r0, rv r1, .val .null, .val .null, rv r4, iv 124, rv it_18, .unset] [] [] (hb hby d9_55) hml (lenOf pd_3 rfl) rfl rfl (Nat.le_refl _) (by decide)
  obtain ⟨rfl, N24q, e24⟩ := hQ24
  have N24 := Fr.app N18 N24q
  have f26 := (own_sta_keep f19 K18 all0)
  have f27 := (f20.keep K18)
  have f28 := (f21.keep K18 nin0)
  have f29 := (f22.keep K18 nin0)
  obtain ⟨cq25, kq25, q25a, q25b, q25c⟩ := isOf hZ e24 p18_1
  obtain ⟨_, _, ⟨T25, L25, j25, i25⟩, -, X25, ⟨Lc25, hQ25, l25, y25, z25⟩, st25⟩ := X24.interfaceBack hx (xi := (⟨"java/util/Iterator", "next", cS20⟩ : MethodName)) (y := (⟨cS1, "next", cS20⟩ : MethodName)) hown (mvT hZ (own_at hw 313 rfl)) (mvT hZ (own_at hw 314 rfl)) (mvT hZ (own_at hw 315 rfl)) (mvT hZ (own_at hw 316 rfl)) (mvT hZ (own_at hw 317 rfl)) (mvT hZ (own_at hw 318 rfl)) (mvT hZ (own_at hw 319 rfl)) (mvT hZ (own_at hw 140 rfl)) (by decide) (backOfWith (W := 0) (rm45_10 l Z a0 hw [] it_18 r4 w_EMPTY x0 T18.heap n0 (Nat.le_trans (Nat.le_trans (Nat.le_trans (Nat.le_trans (Nat.le_trans Z0 (Keep.of_wr W2).1) (Keep.of_wr W5).1) (Keep.of_wr W8).1) (Keep.of_wr W11).1) K18.1) f26 p18_1 p18_2 p18_3 p18_4 f27 f28 f29 g_it_18) hZ (own_at hw 320 rfl) (own_at hw 110 rfl) (by decide) (by decide)) q25a q25b q25c (g := (mkF m 65 #[rv r0, rv r1, .val .null, .val .null, rv r4, iv 124, rv it_18, .unset] [(.ref it_18)])) rfl (by rw [hml]; rfl) (Steps.refl _) (argsL := []) (rest := []) (lenOf pd_10 rfl) rfl (Nat.le_refl _) (hb hby d9_65) (fun _ _ => ⟨rfl, e24, (by decide : 1 + 0 ≤ _), (by decide : 4 + 0 ≤ _)⟩)
  dsimp only [Pt.U, Pt.locs, Pt.cells, Pt.slots] at X25 l25 y25 z25 st25 hQ25
  subst l25 y25 z25
  have f30 := (f14.keep K18)
  have f31 := (f13.keep K18)
  have f32 := (f23.keep K18)
  obtain ⟨rfl, N25q, K25, p25_0, p25_1, p25_2, p25_3⟩ := hQ25
  have pl25 := (allS (P := fun x => ∃ cell : Cell, T18.heap[x]? = some cell ∧ cell.vm.isStatics = false) (own_ns p18_1) all0)
  have N25 := Fr.app N24 N25q
  have f33 := (f32.keep K25)
  obtain ⟨T34, X34, e34, st34⟩ := castY X25 hx hZ hown (own_at hw 37 rfl) rfl (Ins.self f33) (g := (mkF m 70 #[rv r0, rv r1, .val .null, .val .null, rv r4, iv 124, rv it_18, .unset] [(.ref x0)])) rfl rfl (hb hby d9_70)
  have f35 := ((((((F_hash_x0.other W2 (Or.inl ne_x0_r0)).other W5 (Or.inl ne_x0_r0)).other W8 (Or.inl ne_x0_r0)).other W11 (Or.inl ne_x0_r0)).keep K18 nin0).keep K25 (ninS (Nat.ne_of_lt (Nat.lt_of_lt_of_le f23.lt p18_0)) nin0))
  obtain ⟨T36, X36, e36, st36⟩ := getF X34 hx hZ hown (host := "") (Or.inl (own_at hw 142 rfl)) Via.refl e34 f35 (g := (mkF m 82 #[rv r0, rv r1, .val .null, .val .null, rv r4, iv 124, rv it_18, rv x0] [(.ref x0), (.int 3844)])) rfl rfl (hb hby d9_82)
  obtain ⟨_, T37, L37, X37, hQ37, st37⟩ := own_cI 0 (rm18_t l Z a0 hw [] it_18 (1 : Int32) (1 : Int32) T25.heap n0 (Nat.le_trans (Nat.le_trans (Nat.le_trans (Nat.le_trans (Nat.le_trans (Nat.le_trans Z0 (Keep.of_wr W2).1) (Keep.of_wr W5).1) (Keep.of_wr W8).1) (Keep.of_wr W11).1) K18.1) K25.1) p25_3 p25_2 (by decide : (1 : Int32) = (1 : Int32))) X36 hx hZ hown hw 133 134 135 136 137 138 139 140 141 110 rfl rfl rfl rfl rfl rfl rfl rfl rfl rfl it_18 p25_0 55 #[rv r0, rv r1, .val .null, .val .null, rv r4, iv ((3844 : Int32) + u0), rv it_18, rv x0] [] [] (hb hby d9_55) hml (lenOf pd_3 rfl) e36 rfl (Nat.le_refl _) (by decide)
  obtain ⟨rfl, N37q, e37⟩ := hQ37
  have N37 := Fr.app N25 N37q
  have f38 := (f30.keep K25)
  have f39 := ((((((F_hash_r0.other W2 (Or.inr (slot_ne (Or.inr (own_at hw 143 rfl)) (Or.inr (own_at hw 61 rfl)) (by decide) (t := .int) (t' := (.object cS2)) (by decide) (by decide)))).other W5 (Or.inr (slot_ne (Or.inr (own_at hw 143 rfl)) (Or.inr (own_at hw 63 rfl)) (by decide) (t := .int) (t' := (.object cS8)) (by decide) (by decide)))).other W8 (Or.inr (slot_ne (Or.inr (own_at hw 143 rfl)) (Or.inr (own_at hw 65 rfl)) (by decide) (t := .int) (t' := (.object cS9)) (by decide) (by decide)))).other W11 (Or.inr (slot_ne (Or.inr (own_at hw 143 rfl)) (Or.inr (own_at hw 67 rfl)) (by decide) (t := .int) (t' := (.object cS11)) (by decide) (by decide)))).keep K18 nin0).keep K25 (ninS (Nat.ne_of_lt (Nat.lt_of_lt_of_le f14.lt p18_0)) nin0))
  obtain ⟨T40, h40, X40, e40, W40, st40⟩ := putF X37 hx hZ hown (host := "") (Or.inl (own_at hw 142 rfl)) Via.refl e37 f39 f38 (Or.inr ⟨(own_at hw 143 rfl), rfl, hnm⟩) (own_at hw 38 rfl) (ty := .int) (by decide) rfl rfl (g := (mkF m 94 #[rv r0, rv r1, .val .null, .val .null, rv r4, iv ((3844 : Int32) + u0), rv it_18, rv x0] [(.int ((3844 : Int32) + u0)), (.ref r0)])) rfl rfl (hb hby d9_94)
  have Fw40 : Fld Z h40 r0 cS0 "hash" "I" (.int ((3844 : Int32) + u0)) := f39.same W40
  have N40 := Fr.snoc X40 N37 ge_r0
  have f41 := (f38.wr W40)
  have f42 := ((((((Fw2.other W5 (Or.inr (slot_ne (Or.inr (own_at hw 61 rfl)) (Or.inr (own_at hw 63 rfl)) (by decide) (t := (.object cS2)) (t' := (.object cS8)) (by decide) (by decide)))).other W8 (Or.inr (slot_ne (Or.inr (own_at hw 61 rfl)) (Or.inr (own_at hw 65 rfl)) (by decide) (t := (.object cS2)) (t' := (.object cS9)) (by decide) (by decide)))).other W11 (Or.inr (slot_ne (Or.inr (own_at hw 61 rfl)) (Or.inr (own_at hw 67 rfl)) (by decide) (t := (.object cS2)) (t' := (.object cS11)) (by decide) (by decide)))).keep K18 nin0).keep K25 (ninS (Nat.ne_of_lt (Nat.lt_of_lt_of_le f14.lt p18_0)) nin0)).other W40 (Or.inr (slot_ne (Or.inr (own_at hw 61 rfl)) (Or.inr (own_at hw 143 rfl)) (by decide) (t := (.object cS2)) (t' := .int) (by decide) (by decide))))
  have f43 := (((((Fw5.other W8 (Or.inr (slot_ne (Or.inr (own_at hw 63 rfl)) (Or.inr (own_at hw 65 rfl)) (by decide) (t := (.object cS8)) (t' := (.object cS9)) (by decide) (by decide)))).other W11 (Or.inr (slot_ne (Or.inr (own_at hw 63 rfl)) (Or.inr (own_at hw 67 rfl)) (by decide) (t := (.object cS8)) (t' := (.object cS11)) (by decide) (by decide)))).keep K18 nin0).keep K25 (ninS (Nat.ne_of_lt (Nat.lt_of_lt_of_le f14.lt p18_0)) nin0)).other W40 (Or.inr (slot_ne (Or.inr (own_at hw 63 rfl)) (Or.inr (own_at hw 143 rfl)) (by decide) (t := (.object cS8)) (t' := .int) (by decide) (by decide))))
  have f44 := ((((Fw8.other W11 (Or.inr (slot_ne (Or.inr (own_at hw 65 rfl)) (Or.inr (own_at hw 67 rfl)) (by decide) (t := (.object cS9)) (t' := (.object cS11)) (by decide) (by decide)))).keep K18 nin0).keep K25 (ninS (Nat.ne_of_lt (Nat.lt_of_lt_of_le f14.lt p18_0)) nin0)).other W40 (Or.inr (slot_ne (Or.inr (own_at hw 65 rfl)) (Or.inr (own_at hw 143 rfl)) (by decide) (t := (.object cS9)) (t' := .int) (by decide) (by decide))))
  have f45 := (((Fw11.keep K18 nin0).keep K25 (ninS (Nat.ne_of_lt (Nat.lt_of_lt_of_le f14.lt p18_0)) nin0)).other W40 (Or.inr (slot_ne (Or.inr (own_at hw 67 rfl)) (Or.inr (own_at hw 143 rfl)) (by decide) (t := (.object cS11)) (t' := .int) (by decide) (by decide))))
  refine own_out X40 Bd.notSynchronized Bd.returns (none) (fun _ => rfl) (by decide) (by decide) ?_ fun fs hr => k0 _ ?_
  · rw [e40]; exact ⟨((3844 : Int32) + u0), rfl, N40, ((((((((Keep.refl h0 [r0]).wr W2 (Or.inl (List.mem_of_getElem? (i := 0) rfl))).wr W5 (Or.inl (List.mem_of_getElem? (i := 0) rfl))).wr W8 (Or.inl (List.mem_of_getElem? (i := 0) rfl))).wr W11 (Or.inl (List.mem_of_getElem? (i := 0) rfl))).trans K18 all0).trans K25 (allS (Or.inr sz_it_18) all0)).wr W40 (Or.inl (List.mem_of_getElem? (i := 0) rfl))), f41, f42, f43, f44, f45, Fw40⟩
  · show OwnS p e below s₁ (mkF m 0 #[rv r0, rv r1, .val .null, .val .null, rv r4, .unset, .unset, .unset] []) _
    refine oAn X0 hx hby d9_0 rfl rfl ?_
    refine st1 _ ?_
    refine oAn X1 hx hby d9_4 rfl rfl (oAn X1 hx hby d9_5 rfl rfl ?_)
    refine st2 _ ?_
    refine oAn X2 hx hby d9_9 rfl rfl (oAn X2 hx hby d9_10 rfl rfl ?_)
    refine st5 _ ?_
    refine oAn X5 hx hby d9_14 rfl rfl (oAn X5 hx hby d9_15 rfl rfl ?_)
    refine st8 _ ?_
    refine oAn X8 hx hby d9_19 rfl rfl (oAl X8 hx hby d9_20 rfl rfl ?_)
    refine st11 _ ?_
    refine oBp X11 hx hby d9_25 (oAn X11 hx hby d9_27 rfl rfl ?_)
    refine st12.trans ?_
    refine XS.imul X12.here hx rfl (hb hby d9_31) rfl ?_
    refine oAn X12 hx hby d9_32 rfl rfl ?_
    refine st16 _ ?_
    refine XS.iadd X16.here hx rfl (hb hby d9_36) rfl ?_
    refine oAn X16 hx hby d9_37 rfl rfl ?_
    refine st17 _ ?_
    refine XS.iadd X17.here hx rfl (hb hby d9_41) rfl ?_
    refine XS.istore X17.here hx rfl (hb hby d9_42) rfl (l' := #[rv r0, rv r1, .val .null, .val .null, rv r4, iv 124, .unset, .unset]) rfl ?_
    refine oAl X17 hx hby d9_44 rfl rfl ?_
    refine st18 _ ?_
    refine XS.astore X18.here hx rfl (hb hby d9_51) rfl rfl (l' := #[rv r0, rv r1, .val .null, .val .null, rv r4, iv 124, rv it_18, .unset]) rfl ?_
    refine oAl X18 hx hby d9_53 rfl rfl ?_
    refine st24 _ ?_
    show OwnS p e below T24 (mkF m 60 #[rv r0, rv r1, .val .null, .val .null, rv r4, iv 124, rv it_18, .unset] [(.int 1)]) _
    refine XS.ifNo X24.here hx rfl (hb hby d9_60) rfl ((if0 _ _).trans (feq (by decide : ¬ ((1 : Int32) = (0 : Int32)))).1) ?_
    refine oAl X24 hx hby d9_63 rfl rfl ?_
    refine st25.trans ?_
    refine st34 _ ?_
    refine XS.astore X34.here hx rfl (hb hby d9_73) rfl rfl (l' := #[rv r0, rv r1, .val .null, .val .null, rv r4, iv 124, rv it_18, rv x0]) rfl ?_
    refine oBp X34 hx hby d9_75 (oIl X34 hx hby d9_77 rfl ?_)
    refine XS.imul X34.here hx rfl (hb hby d9_79) rfl ?_
    refine oAl X34 hx hby d9_80 rfl rfl ?_
    refine st36 _ ?_
    refine XS.iadd X36.here hx rfl (hb hby d9_85) rfl ?_
    refine XS.istore X36.here hx rfl (hb hby d9_86) rfl (l' := #[rv r0, rv r1, .val .null, .val .null, rv r4, iv ((3844 : Int32) + u0), rv it_18, rv x0]) rfl ?_
    refine oGo X36 hx hby 88 53 d9_88 (by decide) (by decide) (oAl X36 hx hby d9_53 rfl rfl ?_)
    refine st37 _ ?_
    refine XS.ifYes X37.here hx rfl (pc0 := 60) (pc' := 91) rfl (hb hby d9_60) rfl ((if0 _ _).trans (teq (by decide : (0 : Int32) = (0 : Int32))).1) (by decide) (by decide) ?_
    refine oAn X37 hx hby d9_91 rfl rfl (oIl X37 hx hby d9_92 rfl ?_)
    refine st40 _ ?_
    exact X40.returnOut hx Bd.returns (hb hby d9_97) hr
def Q_9_2 (Z : State) (r0 r1 r4 w_EMPTY x0 x1 : Addr) (u0 u1 : Int32) (u_kind_r0 u_name_r0 u_role_r0 u_operands_r0 u_hash_r0 : Value) (h0 : Heap) (n0 : Nat) (v : Option Value) (h : Heap) (L : List Loc) : Prop := ∃ hv : Int32, v = none ∧ Fr n0 L ∧ Keep h0 h [r0] ∧ Exa Z h r0 cS0 ∧ Fld Z h r0 cS0 "kind" cS10 (.ref r1) ∧ Fld Z h r0 cS0 "name" cS23 .null ∧ Fld Z h r0 cS0 "role" cS15 .null ∧ Fld Z h r0 cS0 "operands" cS18 (.ref r4) ∧ Fld Z h r0 cS0 "hash" "I" (.int hv)
theorem rm9_2 (l : Launch) (Z : State) (a0 : Array Value) (hw : own_HW a0 Z) (ws : List Jvm.Cond) (r0 r1 r4 w_EMPTY x0 x1 : Addr) (u0 u1 : Int32) (u_kind_r0 u_name_r0 u_role_r0 u_operands_r0 u_hash_r0 : Value) (h0 : Heap) (n0 : Nat) (Z0 : n0 ≤ h0.size) (S_EMPTY : Sta Z h0 cS14 "EMPTY" cS13 (.ref w_EMPTY)) (hne : ¬ (x1 = w_EMPTY)) (E_r0 : Exa Z h0 r0 cS0) (E_r1 : Exa Z h0 r1 cS2) (F_ordinal_r1 : Fld Z h0 r1 cS25 "ordinal" "I" (.int 4)) (E_r4 : Exa Z h0 r4 cS5) (F_e0_r4 : Fld Z h0 r4 cS5 "e0" cS13 (.ref x0)) (F_e1_r4 : Fld Z h0 r4 cS5 "e1" cS13 (.ref x1)) (E_x0 : Exa Z h0 x0 cS0) (F_hash_x0 : Fld Z h0 x0 cS0 "hash" "I" (.int u0)) (E_x1 : Exa Z h0 x1 cS0) (F_hash_x1 : Fld Z h0 x1 cS0 "hash" "I" (.int u1)) (F_kind_r0 : Fld Z h0 r0 cS0 "kind" cS10 u_kind_r0) (ge_r0 : n0 ≤ r0) (F_name_r0 : Fld Z h0 r0 cS0 "name" cS23 u_name_r0) (F_role_r0 : Fld Z h0 r0 cS0 "role" cS15 u_role_r0) (F_operands_r0 : Fld Z h0 r0 cS0 "operands" cS18 u_operands_r0) (ne_x0_r0 : x0 ≠ r0) (ne_x1_r0 : x1 ≠ r0) (F_hash_r0 : Fld Z h0 r0 cS0 "hash" "I" u_hash_r0) :
    own_M l Z (⟨cS0, "<init>", cS12⟩ : MethodName) prog_5_method_1_code 8 none ws ({ frames := 3, cells := 1, slots := 4, locals := 39 } : Room) #[(.ref r0), (.ref r1), .null, .null, (.ref r4)] h0 (Q_9_2 Z r0 r1 r4 w_EMPTY x0 x1 u0 u1 u_kind_r0 u_name_r0 u_role_r0 u_operands_r0 u_hash_r0 h0 n0) := by
  refine own_in cS0 rfl (plainFor_of_name pn_com_example_tablox_tablox_concept_Concept) ?_
  intro p e s m below meth c s₁ Bd hml hZ hh hx hby hown X0 e0
  have N0 := Fr.nil n0
  have hnm := (name_of_methodNamed Bd.named Bd.method).1
  have k0 := own_k (p := p) (e := e) (below := below) (T := s₁) (ef_9n2n3 m r0 r1 r4)
  obtain ⟨T1, X1, e1, st1⟩ := initO X0 hx hZ hown (own_at hw 59 rfl) (own_at hw 28 rfl) (own_at hw 29 rfl) e0 (g := (mkF m 1 #[rv r0, rv r1, .val .null, .val .null, rv r4, .unset, .unset, .unset] [(.ref r0)])) rfl (by rw [hml]; rfl) rfl (hb hby d9_1) (by decide) (W := 0) (Nat.le_refl _) (by decide)
  obtain ⟨T2, h2, X2, e2, W2, st2⟩ := putF X1 hx hZ hown (host := "") (Or.inl (own_at hw 60 rfl)) Via.refl e1 F_kind_r0 E_r0 (Or.inr ⟨(own_at hw 61 rfl), rfl, hnm⟩) (own_at hw 38 rfl) (ty := (.object cS2)) (by decide) rfl rfl (g := (mkF m 6 #[rv r0, rv r1, .val .null, .val .null, rv r4, .unset, .unset, .unset] [(.ref r1), (.ref r0)])) rfl rfl (hb hby d9_6)
  have Fw2 : Fld Z h2 r0 cS0 "kind" cS10 (.ref r1) := F_kind_r0.same W2
  have N2 := Fr.snoc X2 N0 ge_r0
  have f3 := (E_r0.wr W2)
  have f4 := (F_name_r0.other W2 (Or.inr (slot_ne (Or.inr (own_at hw 63 rfl)) (Or.inr (own_at hw 61 rfl)) (by decide) (t := (.object cS8)) (t' := (.object cS2)) (by decide) (by decide))))
  obtain ⟨T5, h5, X5, e5, W5, st5⟩ := putF X2 hx hZ hown (host := "") (Or.inl (own_at hw 62 rfl)) Via.refl e2 f4 f3 (Or.inr ⟨(own_at hw 63 rfl), rfl, hnm⟩) (own_at hw 38 rfl) (ty := (.object cS8)) (by decide) rfl rfl (g := (mkF m 11 #[rv r0, rv r1, .val .null, .val .null, rv r4, .unset, .unset, .unset] [.null, (.ref r0)])) rfl rfl (hb hby d9_11)
  have Fw5 : Fld Z h5 r0 cS0 "name" cS23 .null := f4.same W5
  have N5 := Fr.snoc X5 N2 ge_r0
  have f6 := (f3.wr W5)
  have f7 := ((F_role_r0.other W2 (Or.inr (slot_ne (Or.inr (own_at hw 65 rfl)) (Or.inr (own_at hw 61 rfl)) (by decide) (t := (.object cS9)) (t' := (.object cS2)) (by decide) (by decide)))).other W5 (Or.inr (slot_ne (Or.inr (own_at hw 65 rfl)) (Or.inr (own_at hw 63 rfl)) (by decide) (t := (.object cS9)) (t' := (.object cS8)) (by decide) (by decide))))
  obtain ⟨T8, h8, X8, e8, W8, st8⟩ := putF X5 hx hZ hown (host := "") (Or.inl (own_at hw 64 rfl)) Via.refl e5 f7 f6 (Or.inr ⟨(own_at hw 65 rfl), rfl, hnm⟩) (own_at hw 38 rfl) (ty := (.object cS9)) (by decide) rfl rfl (g := (mkF m 16 #[rv r0, rv r1, .val .null, .val .null, rv r4, .unset, .unset, .unset] [.null, (.ref r0)])) rfl rfl (hb hby d9_16)
  have Fw8 : Fld Z h8 r0 cS0 "role" cS15 .null := f7.same W8
  have N8 := Fr.snoc X8 N5 ge_r0
  have f9 := (f6.wr W8)
  have f10 := (((F_operands_r0.other W2 (Or.inr (slot_ne (Or.inr (own_at hw 67 rfl)) (Or.inr (own_at hw 61 rfl)) (by decide) (t := (.object cS11)) (t' := (.object cS2)) (by decide) (by decide)))).other W5 (Or.inr (slot_ne (Or.inr (own_at hw 67 rfl)) (Or.inr (own_at hw 63 rfl)) (by decide) (t := (.object cS11)) (t' := (.object cS8)) (by decide) (by decide)))).other W8 (Or.inr (slot_ne (Or.inr (own_at hw 67 rfl)) (Or.inr (own_at hw 65 rfl)) (by decide) (t := (.object cS11)) (t' := (.object cS9)) (by decide) (by decide))))
  obtain ⟨T11, h11, X11, e11, W11, st11⟩ := putF X8 hx hZ hown (host := "") (Or.inl (own_at hw 66 rfl)) Via.refl e8 f10 f9 (Or.inr ⟨(own_at hw 67 rfl), rfl, hnm⟩) (own_at hw 38 rfl) (ty := (.object cS11)) (by decide) rfl rfl (g := (mkF m 22 #[rv r0, rv r1, .val .null, .val .null, rv r4, .unset, .unset, .unset] [(.ref r4), (.ref r0)])) rfl rfl (hb hby d9_22)
  have Fw11 : Fld Z h11 r0 cS0 "operands" cS18 (.ref r4) := f10.same W11
  have N11 := Fr.snoc X11 N8 ge_r0
  have f13 := ((((E_r1.wr W2).wr W5).wr W8).wr W11)
  have f14 := (f9.wr W11)
  have f15 := ((((F_ordinal_r1.other W2 (Or.inl (ne_exa f13 f14 (by decide)))).other W5 (Or.inl (ne_exa f13 f14 (by decide)))).other W8 (Or.inl (ne_exa f13 f14 (by decide)))).other W11 (Or.inl (ne_exa f13 f14 (by decide))))
  obtain ⟨cq12, kq12, q12a, q12b, q12c⟩ := isOf hZ e11 f13
  obtain ⟨_, _, ⟨T12, L12, j12, i12⟩, -, X12, ⟨Lc12, hQ12, l12, y12, z12⟩, st12⟩ := X11.virtualBackUp hx (owner := cS25) (x := (⟨cS2, "ordinal", "()I"⟩ : MethodName)) (y := (⟨cS25, "ordinal", "()I"⟩ : MethodName)) hown (mvT hZ (own_at hw 68 rfl)) (mvT hZ (own_at hw 69 rfl)) (mvT hZ (own_at hw 70 rfl)) (by decide) (mvT hZ (own_at hw 72 rfl)) (mvT hZ (own_at hw 71 rfl)) (backOf (W := 1) (rm10 l Z a0 hw [] r1 (4 : Int32) h11 n0 (Nat.le_trans (Nat.le_trans (Nat.le_trans (Nat.le_trans Z0 (Keep.of_wr W2).1) (Keep.of_wr W5).1) (Keep.of_wr W8).1) (Keep.of_wr W11).1) f15) hZ (own_at hw 74 rfl) (own_at hw 73 rfl) (by decide) (by decide)) q12a q12c (g := (mkF m 28 #[rv r0, rv r1, .val .null, .val .null, rv r4, .unset, .unset, .unset] [(.ref r1), (.int 31)])) rfl (by rw [hml]; rfl) (Steps.refl _) (argsL := []) (rest := [(.int 31)]) (lenOf pd_5 rfl) rfl (Nat.le_refl _) (hb hby d9_28) (fun _ _ => ⟨rfl, e11, (by decide : 0 + 0 ≤ _), (by decide : 0 + 0 ≤ _)⟩)
  dsimp only [Pt.U, Pt.locs, Pt.cells, Pt.slots] at X12 l12 y12 z12 st12 hQ12
  subst l12 y12 z12
  obtain ⟨rfl, N12q, e12⟩ := hQ12
  have N12 := Fr.app N11 N12q
  obtain ⟨_, T16, L16, X16, hQ16, st16⟩ := own_cS 1 (rm11_n l Z a0 hw []  h11 n0 (Nat.le_trans (Nat.le_trans (Nat.le_trans (Nat.le_trans Z0 (Keep.of_wr W2).1) (Keep.of_wr W5).1) (Keep.of_wr W8).1) (Keep.of_wr W11).1) ) X12 hx hZ hown hw 77 78 47 79 rfl rfl rfl rfl 33 #[rv r0, rv r1, .val .null, .val .null, rv r4, .unset, .unset, .unset] [.null] [(.int 124)] (hb hby d9_33) hml (lenOf pd_8 rfl) e12 rfl (Nat.le_refl _) (by decide)
  obtain ⟨rfl, N16q, e16⟩ := hQ16
  have N16 := Fr.app N12 N16q
  obtain ⟨_, T17, L17, X17, hQ17, st17⟩ := own_cS 1 (rm11_n l Z a0 hw []  h11 n0 (Nat.le_trans (Nat.le_trans (Nat.le_trans (Nat.le_trans Z0 (Keep.of_wr W2).1) (Keep.of_wr W5).1) (Keep.of_wr W8).1) (Keep.of_wr W11).1) ) X16 hx hZ hown hw 77 78 47 79 rfl rfl rfl rfl 38 #[rv r0, rv r1, .val .null, .val .null, rv r4, .unset, .unset, .unset] [.null] [(.int 124)] (hb hby d9_38) hml (lenOf pd_8 rfl) e16 rfl (Nat.le_refl _) (by decide)
  obtain ⟨rfl, N17q, e17⟩ := hQ17
  have N17 := Fr.app N16 N17q
  have f19 := ((((S_EMPTY.wr W2).wr W5).wr W8).wr W11)
  have f20 := ((((E_r4.wr W2).wr W5).wr W8).wr W11)
  have f21 := ((((F_e0_r4.other W2 (Or.inl (ne_exa f20 f14 (by decide)))).other W5 (Or.inl (ne_exa f20 f14 (by decide)))).other W8 (Or.inl (ne_exa f20 f14 (by decide)))).other W11 (Or.inl (ne_exa f20 f14 (by decide))))
  have f22 := ((((F_e1_r4.other W2 (Or.inl (ne_exa f20 f14 (by decide)))).other W5 (Or.inl (ne_exa f20 f14 (by decide)))).other W8 (Or.inl (ne_exa f20 f14 (by decide)))).other W11 (Or.inl (ne_exa f20 f14 (by decide))))
  obtain ⟨_, T18, L18, X18, hQ18, st18⟩ := own_cI 0 (rm15_2 l Z a0 hw [] r4 w_EMPTY x0 x1 h11 n0 (Nat.le_trans (Nat.le_trans (Nat.le_trans (Nat.le_trans Z0 (Keep.of_wr W2).1) (Keep.of_wr W5).1) (Keep.of_wr W8).1) (Keep.of_wr W11).1) f19 hne f20 f21 f22) X17 hx hZ hown hw 98 99 100 346 102 103 347 348 107 106 rfl rfl rfl rfl rfl rfl rfl rfl rfl rfl r4 f20 46 #[rv r0, rv r1, .val .null, .val .null, rv r4, iv 124, .unset, .unset] [] [] (hb hby d9_46) hml (lenOf pd_9 rfl) e17 rfl (Nat.le_refl _) (by decide)
  have f23 := ((((E_x0.wr W2).wr W5).wr W8).wr W11)
  have f24 := ((((E_x1.wr W2).wr W5).wr W8).wr W11)
  obtain ⟨it_18, rfl, N18q, K18, p18_0, p18_1, p18_2, p18_3, p18_4⟩ := hQ18
  have g_it_18 : n0 ≤ it_18 := Nat.le_trans (Nat.le_trans (Nat.le_trans (Nat.le_trans (Nat.le_trans Z0 (Keep.of_wr W2).1) (Keep.of_wr W5).1) (Keep.of_wr W8).1) (Keep.of_wr W11).1) p18_0
  have sz_it_18 : h0.size ≤ it_18 := Nat.le_trans (((((Keep.refl h0 [r0]).wr W2 (Or.inl (List.mem_of_getElem? (i := 0) rfl))).wr W5 (Or.inl (List.mem_of_getElem? (i := 0) rfl))).wr W8 (Or.inl (List.mem_of_getElem? (i := 0) rfl))).wr W11 (Or.inl (List.mem_of_getElem? (i := 0) rfl))).1 p18_0
  have N18 := Fr.app N17 N18q
  obtain ⟨_, T25, L25, X25, hQ25, st25⟩ := own_cI 0 (rm18_f l Z a0 hw [] it_18 (0 : Int32) (2 : Int32) T18.heap n0 (Nat.le_trans (Nat.le_trans (Nat.le_trans (Nat.le_trans (Nat.le_trans Z0 (Keep.of_wr W2).1) (Keep.of_wr W5).1) (Keep.of_wr W8).1) (Keep.of_wr W11).1) K18.1) p18_4 p18_3 (by decide : ¬ ((0 : Int32) = (2 : Int32)))) X18 hx hZ hown hw 133 134 135 136 137 138 139 140 141 110 rfl rfl rfl rfl rfl rfl rfl rfl rfl rfl it_18 p18_1 55 #[rv r0, rv r1, .val .null, .val .null, rv r4, iv 124, rv it_18, .unset] [] [] (hb hby d9_55) hml (lenOf pd_3 rfl) rfl rfl (Nat.le_refl _) (by decide)
  obtain ⟨rfl, N25q, e25⟩ := hQ25
  have N25 := Fr.app N18 N25q
  have f27 := (own_sta_keep f19 K18 all0)
  have f28 := (f20.keep K18)
  have f29 := (f21.keep K18 nin0)
  have f30 := (f22.keep K18 nin0)
  obtain ⟨cq26, kq26, q26a, q26b, q26c⟩ := isOf hZ e25 p18_1
  obtain ⟨_, _, ⟨T26, L26, j26, i26⟩, -, X26, ⟨Lc26, hQ26, l26, y26, z26⟩, st26⟩ := X25.interfaceBack hx (xi := (⟨"java/util/Iterator", "next", cS20⟩ : MethodName)) (y := (⟨cS1, "next", cS20⟩ : MethodName)) hown (mvT hZ (own_at hw 313 rfl)) (mvT hZ (own_at hw 314 rfl)) (mvT hZ (own_at hw 315 rfl)) (mvT hZ (own_at hw 316 rfl)) (mvT hZ (own_at hw 317 rfl)) (mvT hZ (own_at hw 318 rfl)) (mvT hZ (own_at hw 319 rfl)) (mvT hZ (own_at hw 140 rfl)) (by decide) (backOfWith (W := 0) (rm45_20 l Z a0 hw [] it_18 r4 w_EMPTY x0 x1 T18.heap n0 (Nat.le_trans (Nat.le_trans (Nat.le_trans (Nat.le_trans (Nat.le_trans Z0 (Keep.of_wr W2).1) (Keep.of_wr W5).1) (Keep.of_wr W8).1) (Keep.of_wr W11).1) K18.1) f27 hne p18_1 p18_2 p18_3 p18_4 f28 f29 f30 g_it_18) hZ (own_at hw 320 rfl) (own_at hw 110 rfl) (by decide) (by decide)) q26a q26b q26c (g := (mkF m 65 #[rv r0, rv r1, .val .null, .val .null, rv r4, iv 124, rv it_18, .unset] [(.ref it_18)])) rfl (by rw [hml]; rfl) (Steps.refl _) (argsL := []) (rest := []) (lenOf pd_10 rfl) rfl (Nat.le_refl _) (hb hby d9_65) (fun _ _ => ⟨rfl, e25, (by decide : 1 + 0 ≤ _), (by decide : 4 + 0 ≤ _)⟩)
  dsimp only [Pt.U, Pt.locs, Pt.cells, Pt.slots] at X26 l26 y26 z26 st26 hQ26
  subst l26 y26 z26
  have f31 := (f14.keep K18)
  have f32 := (f13.keep K18)
  have f33 := (f23.keep K18)
  have f34 := (f24.keep K18)
  obtain ⟨rfl, N26q, K26, p26_0, p26_1, p26_2, p26_3⟩ := hQ26
  have pl26 := (allS (P := fun x => ∃ cell : Cell, T18.heap[x]? = some cell ∧ cell.vm.isStatics = false) (own_ns p18_1) all0)
  have N26 := Fr.app N25 N26q
  have f35 := (f33.keep K26)
  obtain ⟨T36, X36, e36, st36⟩ := castY X26 hx hZ hown (own_at hw 37 rfl) rfl (Ins.self f35) (g := (mkF m 70 #[rv r0, rv r1, .val .null, .val .null, rv r4, iv 124, rv it_18, .unset] [(.ref x0)])) rfl rfl (hb hby d9_70)
  have f37 := ((((((F_hash_x0.other W2 (Or.inl ne_x0_r0)).other W5 (Or.inl ne_x0_r0)).other W8 (Or.inl ne_x0_r0)).other W11 (Or.inl ne_x0_r0)).keep K18 nin0).keep K26 (ninS (Nat.ne_of_lt (Nat.lt_of_lt_of_le f23.lt p18_0)) nin0))
  obtain ⟨T38, X38, e38, st38⟩ := getF X36 hx hZ hown (host := "") (Or.inl (own_at hw 142 rfl)) Via.refl e36 f37 (g := (mkF m 82 #[rv r0, rv r1, .val .null, .val .null, rv r4, iv 124, rv it_18, rv x0] [(.ref x0), (.int 3844)])) rfl rfl (hb hby d9_82)
  obtain ⟨_, T39, L39, X39, hQ39, st39⟩ := own_cI 0 (rm18_f l Z a0 hw [] it_18 (1 : Int32) (2 : Int32) T26.heap n0 (Nat.le_trans (Nat.le_trans (Nat.le_trans (Nat.le_trans (Nat.le_trans (Nat.le_trans Z0 (Keep.of_wr W2).1) (Keep.of_wr W5).1) (Keep.of_wr W8).1) (Keep.of_wr W11).1) K18.1) K26.1) p26_3 p26_2 (by decide : ¬ ((1 : Int32) = (2 : Int32)))) X38 hx hZ hown hw 133 134 135 136 137 138 139 140 141 110 rfl rfl rfl rfl rfl rfl rfl rfl rfl rfl it_18 p26_0 55 #[rv r0, rv r1, .val .null, .val .null, rv r4, iv ((3844 : Int32) + u0), rv it_18, rv x0] [] [] (hb hby d9_55) hml (lenOf pd_3 rfl) e38 rfl (Nat.le_refl _) (by decide)
  obtain ⟨rfl, N39q, e39⟩ := hQ39
  have N39 := Fr.app N26 N39q
  have f41 := (own_sta_keep f27 K26 pl26)
  have f42 := (f28.keep K26)
  have f43 := (f29.keep K26 (ninS (Nat.ne_of_lt (Nat.lt_of_lt_of_le f20.lt p18_0)) nin0))
  have f44 := (f30.keep K26 (ninS (Nat.ne_of_lt (Nat.lt_of_lt_of_le f20.lt p18_0)) nin0))
  obtain ⟨cq40, kq40, q40a, q40b, q40c⟩ := isOf hZ e39 p26_0
  obtain ⟨_, _, ⟨T40, L40, j40, i40⟩, -, X40, ⟨Lc40, hQ40, l40, y40, z40⟩, st40⟩ := X39.interfaceBack hx (xi := (⟨"java/util/Iterator", "next", cS20⟩ : MethodName)) (y := (⟨cS1, "next", cS20⟩ : MethodName)) hown (mvT hZ (own_at hw 313 rfl)) (mvT hZ (own_at hw 314 rfl)) (mvT hZ (own_at hw 315 rfl)) (mvT hZ (own_at hw 316 rfl)) (mvT hZ (own_at hw 317 rfl)) (mvT hZ (own_at hw 318 rfl)) (mvT hZ (own_at hw 319 rfl)) (mvT hZ (own_at hw 140 rfl)) (by decide) (backOfWith (W := 0) (rm45_21 l Z a0 hw [] it_18 r4 w_EMPTY x0 x1 T26.heap n0 (Nat.le_trans (Nat.le_trans (Nat.le_trans (Nat.le_trans (Nat.le_trans (Nat.le_trans Z0 (Keep.of_wr W2).1) (Keep.of_wr W5).1) (Keep.of_wr W8).1) (Keep.of_wr W11).1) K18.1) K26.1) f41 hne p26_0 p26_1 p26_2 p26_3 f42 f43 f44 g_it_18) hZ (own_at hw 320 rfl) (own_at hw 110 rfl) (by decide) (by decide)) q40a q40b q40c (g := (mkF m 65 #[rv r0, rv r1, .val .null, .val .null, rv r4, iv ((3844 : Int32) + u0), rv it_18, rv x0] [(.ref it_18)])) rfl (by rw [hml]; rfl) (Steps.refl _) (argsL := []) (rest := []) (lenOf pd_10 rfl) rfl (Nat.le_refl _) (hb hby d9_65) (fun _ _ => ⟨rfl, e39, (by decide : 1 + 0 ≤ _), (by decide : 4 + 0 ≤ _)⟩)
  dsimp only [Pt.U, Pt.locs, Pt.cells, Pt.slots] at X40 l40 y40 z40 st40 hQ40
  subst l40 y40 z40
  have f45 := (f31.keep K26)
  have f46 := (f32.keep K26)
  have f47 := (f34.keep K26)
  obtain ⟨rfl, N40q, K40, p40_0, p40_1, p40_2, p40_3⟩ := hQ40
  have pl40 := (allS (P := fun x => ∃ cell : Cell, T26.heap[x]? = some cell ∧ cell.vm.isStatics = false) (own_ns p26_0) all0)
  have N40 := Fr.app N39 N40q
  have f48 := (f47.keep K40)
  obtain ⟨T49, X49, e49, st49⟩ := castY X40 hx hZ hown (own_at hw 37 rfl) rfl (Ins.self f48) (g := (mkF m 70 #[rv r0, rv r1, .val .null, .val .null, rv r4, iv ((3844 : Int32) + u0), rv it_18, rv x0] [(.ref x1)])) rfl rfl (hb hby d9_70)
  have f50 := (((((((F_hash_x1.other W2 (Or.inl ne_x1_r0)).other W5 (Or.inl ne_x1_r0)).other W8 (Or.inl ne_x1_r0)).other W11 (Or.inl ne_x1_r0)).keep K18 nin0).keep K26 (ninS (Nat.ne_of_lt (Nat.lt_of_lt_of_le f24.lt p18_0)) nin0)).keep K40 (ninS (Nat.ne_of_lt (Nat.lt_of_lt_of_le f24.lt p18_0)) nin0))
  obtain ⟨T51, X51, e51, st51⟩ := getF X49 hx hZ hown (host := "") (Or.inl (own_at hw 142 rfl)) Via.refl e49 f50 (g := (mkF m 82 #[rv r0, rv r1, .val .null, .val .null, rv r4, iv ((3844 : Int32) + u0), rv it_18, rv x1] [(.ref x1), (.int ((31 : Int32) * ((3844 : Int32) + u0)))])) rfl rfl (hb hby d9_82)
  obtain ⟨_, T52, L52, X52, hQ52, st52⟩ := own_cI 0 (rm18_t l Z a0 hw [] it_18 (2 : Int32) (2 : Int32) T40.heap n0 (Nat.le_trans (Nat.le_trans (Nat.le_trans (Nat.le_trans (Nat.le_trans (Nat.le_trans (Nat.le_trans Z0 (Keep.of_wr W2).1) (Keep.of_wr W5).1) (Keep.of_wr W8).1) (Keep.of_wr W11).1) K18.1) K26.1) K40.1) p40_3 p40_2 (by decide : (2 : Int32) = (2 : Int32))) X51 hx hZ hown hw 133 134 135 136 137 138 139 140 141 110 rfl rfl rfl rfl rfl rfl rfl rfl rfl rfl it_18 p40_0 55 #[rv r0, rv r1, .val .null, .val .null, rv r4, iv (((31 : Int32) * ((3844 : Int32) + u0)) + u1), rv it_18, rv x1] [] [] (hb hby d9_55) hml (lenOf pd_3 rfl) e51 rfl (Nat.le_refl _) (by decide)
  obtain ⟨rfl, N52q, e52⟩ := hQ52
  have N52 := Fr.app N40 N52q
  have f53 := (f45.keep K40)
  have f54 := (((((((F_hash_r0.other W2 (Or.inr (slot_ne (Or.inr (own_at hw 143 rfl)) (Or.inr (own_at hw 61 rfl)) (by decide) (t := .int) (t' := (.object cS2)) (by decide) (by decide)))).other W5 (Or.inr (slot_ne (Or.inr (own_at hw 143 rfl)) (Or.inr (own_at hw 63 rfl)) (by decide) (t := .int) (t' := (.object cS8)) (by decide) (by decide)))).other W8 (Or.inr (slot_ne (Or.inr (own_at hw 143 rfl)) (Or.inr (own_at hw 65 rfl)) (by decide) (t := .int) (t' := (.object cS9)) (by decide) (by decide)))).other W11 (Or.inr (slot_ne (Or.inr (own_at hw 143 rfl)) (Or.inr (own_at hw 67 rfl)) (by decide) (t := .int) (t' := (.object cS11)) (by decide) (by decide)))).keep K18 nin0).keep K26 (ninS (Nat.ne_of_lt (Nat.lt_of_lt_of_le f14.lt p18_0)) nin0)).keep K40 (ninS (Nat.ne_of_lt (Nat.lt_of_lt_of_le f14.lt p18_0)) nin0))
  obtain ⟨T55, h55, X55, e55, W55, st55⟩ := putF X52 hx hZ hown (host := "") (Or.inl (own_at hw 142 rfl)) Via.refl e52 f54 f53 (Or.inr ⟨(own_at hw 143 rfl), rfl, hnm⟩) (own_at hw 38 rfl) (ty := .int) (by decide) rfl rfl (g := (mkF m 94 #[rv r0, rv r1, .val .null, .val .null, rv r4, iv (((31 : Int32) * ((3844 : Int32) + u0)) + u1), rv it_18, rv x1] [(.int (((31 : Int32) * ((3844 : Int32) + u0)) + u1)), (.ref r0)])) rfl rfl (hb hby d9_94)
  have Fw55 : Fld Z h55 r0 cS0 "hash" "I" (.int (((31 : Int32) * ((3844 : Int32) + u0)) + u1)) := f54.same W55
  have N55 := Fr.snoc X55 N52 ge_r0
  have f56 := (f53.wr W55)
  have f57 := (((((((Fw2.other W5 (Or.inr (slot_ne (Or.inr (own_at hw 61 rfl)) (Or.inr (own_at hw 63 rfl)) (by decide) (t := (.object cS2)) (t' := (.object cS8)) (by decide) (by decide)))).other W8 (Or.inr (slot_ne (Or.inr (own_at hw 61 rfl)) (Or.inr (own_at hw 65 rfl)) (by decide) (t := (.object cS2)) (t' := (.object cS9)) (by decide) (by decide)))).other W11 (Or.inr (slot_ne (Or.inr (own_at hw 61 rfl)) (Or.inr (own_at hw 67 rfl)) (by decide) (t := (.object cS2)) (t' := (.object cS11)) (by decide) (by decide)))).keep K18 nin0).keep K26 (ninS (Nat.ne_of_lt (Nat.lt_of_lt_of_le f14.lt p18_0)) nin0)).keep K40 (ninS (Nat.ne_of_lt (Nat.lt_of_lt_of_le f14.lt p18_0)) nin0)).other W55 (Or.inr (slot_ne (Or.inr (own_at hw 61 rfl)) (Or.inr (own_at hw 143 rfl)) (by decide) (t := (.object cS2)) (t' := .int) (by decide) (by decide))))
  have f58 := ((((((Fw5.other W8 (Or.inr (slot_ne (Or.inr (own_at hw 63 rfl)) (Or.inr (own_at hw 65 rfl)) (by decide) (t := (.object cS8)) (t' := (.object cS9)) (by decide) (by decide)))).other W11 (Or.inr (slot_ne (Or.inr (own_at hw 63 rfl)) (Or.inr (own_at hw 67 rfl)) (by decide) (t := (.object cS8)) (t' := (.object cS11)) (by decide) (by decide)))).keep K18 nin0).keep K26 (ninS (Nat.ne_of_lt (Nat.lt_of_lt_of_le f14.lt p18_0)) nin0)).keep K40 (ninS (Nat.ne_of_lt (Nat.lt_of_lt_of_le f14.lt p18_0)) nin0)).other W55 (Or.inr (slot_ne (Or.inr (own_at hw 63 rfl)) (Or.inr (own_at hw 143 rfl)) (by decide) (t := (.object cS8)) (t' := .int) (by decide) (by decide))))
  have f59 := (((((Fw8.other W11 (Or.inr (slot_ne (Or.inr (own_at hw 65 rfl)) (Or.inr (own_at hw 67 rfl)) (by decide) (t := (.object cS9)) (t' := (.object cS11)) (by decide) (by decide)))).keep K18 nin0).keep K26 (ninS (Nat.ne_of_lt (Nat.lt_of_lt_of_le f14.lt p18_0)) nin0)).keep K40 (ninS (Nat.ne_of_lt (Nat.lt_of_lt_of_le f14.lt p18_0)) nin0)).other W55 (Or.inr (slot_ne (Or.inr (own_at hw 65 rfl)) (Or.inr (own_at hw 143 rfl)) (by decide) (t := (.object cS9)) (t' := .int) (by decide) (by decide))))
  have f60 := ((((Fw11.keep K18 nin0).keep K26 (ninS (Nat.ne_of_lt (Nat.lt_of_lt_of_le f14.lt p18_0)) nin0)).keep K40 (ninS (Nat.ne_of_lt (Nat.lt_of_lt_of_le f14.lt p18_0)) nin0)).other W55 (Or.inr (slot_ne (Or.inr (own_at hw 67 rfl)) (Or.inr (own_at hw 143 rfl)) (by decide) (t := (.object cS11)) (t' := .int) (by decide) (by decide))))
  refine own_out X55 Bd.notSynchronized Bd.returns (none) (fun _ => rfl) (by decide) (by decide) ?_ fun fs hr => k0 _ ?_
  · rw [e55]; exact ⟨(((31 : Int32) * ((3844 : Int32) + u0)) + u1), rfl, N55, (((((((((Keep.refl h0 [r0]).wr W2 (Or.inl (List.mem_of_getElem? (i := 0) rfl))).wr W5 (Or.inl (List.mem_of_getElem? (i := 0) rfl))).wr W8 (Or.inl (List.mem_of_getElem? (i := 0) rfl))).wr W11 (Or.inl (List.mem_of_getElem? (i := 0) rfl))).trans K18 all0).trans K26 (allS (Or.inr sz_it_18) all0)).trans K40 (allS (Or.inr sz_it_18) all0)).wr W55 (Or.inl (List.mem_of_getElem? (i := 0) rfl))), f56, f57, f58, f59, f60, Fw55⟩
  · show OwnS p e below s₁ (mkF m 0 #[rv r0, rv r1, .val .null, .val .null, rv r4, .unset, .unset, .unset] []) _
    refine oAn X0 hx hby d9_0 rfl rfl ?_
    refine st1 _ ?_
    refine oAn X1 hx hby d9_4 rfl rfl (oAn X1 hx hby d9_5 rfl rfl ?_)
    refine st2 _ ?_
    refine oAn X2 hx hby d9_9 rfl rfl (oAn X2 hx hby d9_10 rfl rfl ?_)
    refine st5 _ ?_
    refine oAn X5 hx hby d9_14 rfl rfl (oAn X5 hx hby d9_15 rfl rfl ?_)
    refine st8 _ ?_
    refine oAn X8 hx hby d9_19 rfl rfl (oAl X8 hx hby d9_20 rfl rfl ?_)
    refine st11 _ ?_
    refine oBp X11 hx hby d9_25 (oAn X11 hx hby d9_27 rfl rfl ?_)
    refine st12.trans ?_
    refine XS.imul X12.here hx rfl (hb hby d9_31) rfl ?_
    refine oAn X12 hx hby d9_32 rfl rfl ?_
    refine st16 _ ?_
    refine XS.iadd X16.here hx rfl (hb hby d9_36) rfl ?_
    refine oAn X16 hx hby d9_37 rfl rfl ?_
    refine st17 _ ?_
    refine XS.iadd X17.here hx rfl (hb hby d9_41) rfl ?_
    refine XS.istore X17.here hx rfl (hb hby d9_42) rfl (l' := #[rv r0, rv r1, .val .null, .val .null, rv r4, iv 124, .unset, .unset]) rfl ?_
    refine oAl X17 hx hby d9_44 rfl rfl ?_
    refine st18 _ ?_
    refine XS.astore X18.here hx rfl (hb hby d9_51) rfl rfl (l' := #[rv r0, rv r1, .val .null, .val .null, rv r4, iv 124, rv it_18, .unset]) rfl ?_
    refine oAl X18 hx hby d9_53 rfl rfl ?_
    refine st25 _ ?_
    show OwnS p e below T25 (mkF m 60 #[rv r0, rv r1, .val .null, .val .null, rv r4, iv 124, rv it_18, .unset] [(.int 1)]) _
    refine XS.ifNo X25.here hx rfl (hb hby d9_60) rfl ((if0 _ _).trans (feq (by decide : ¬ ((1 : Int32) = (0 : Int32)))).1) ?_
    refine oAl X25 hx hby d9_63 rfl rfl ?_
    refine st26.trans ?_
    refine st36 _ ?_
    refine XS.astore X36.here hx rfl (hb hby d9_73) rfl rfl (l' := #[rv r0, rv r1, .val .null, .val .null, rv r4, iv 124, rv it_18, rv x0]) rfl ?_
    refine oBp X36 hx hby d9_75 (oIl X36 hx hby d9_77 rfl ?_)
    refine XS.imul X36.here hx rfl (hb hby d9_79) rfl ?_
    refine oAl X36 hx hby d9_80 rfl rfl ?_
    refine st38 _ ?_
    refine XS.iadd X38.here hx rfl (hb hby d9_85) rfl ?_
    refine XS.istore X38.here hx rfl (hb hby d9_86) rfl (l' := #[rv r0, rv r1, .val .null, .val .null, rv r4, iv ((3844 : Int32) + u0), rv it_18, rv x0]) rfl ?_
    refine oGo X38 hx hby 88 53 d9_88 (by decide) (by decide) (oAl X38 hx hby d9_53 rfl rfl ?_)
    refine st39 _ ?_
    refine XS.ifNo X39.here hx rfl (hb hby d9_60) rfl ((if0 _ _).trans (feq (by decide : ¬ ((1 : Int32) = (0 : Int32)))).1) ?_
    refine oAl X39 hx hby d9_63 rfl rfl ?_
    refine st40.trans ?_
    refine st49 _ ?_
    refine XS.astore X49.here hx rfl (hb hby d9_73) rfl rfl (l' := #[rv r0, rv r1, .val .null, .val .null, rv r4, iv ((3844 : Int32) + u0), rv it_18, rv x1]) rfl ?_
    refine oBp X49 hx hby d9_75 (oIl X49 hx hby d9_77 rfl ?_)
    refine XS.imul X49.here hx rfl (hb hby d9_79) rfl ?_
    refine oAl X49 hx hby d9_80 rfl rfl ?_
    refine st51 _ ?_
    refine XS.iadd X51.here hx rfl (hb hby d9_85) rfl ?_
    refine XS.istore X51.here hx rfl (hb hby d9_86) rfl (l' := #[rv r0, rv r1, .val .null, .val .null, rv r4, iv (((31 : Int32) * ((3844 : Int32) + u0)) + u1), rv it_18, rv x1]) rfl ?_
    refine oGo X51 hx hby 88 53 d9_88 (by decide) (by decide) (oAl X51 hx hby d9_53 rfl rfl ?_)
    refine st52 _ ?_
    show OwnS p e below T52 (mkF m 60 #[rv r0, rv r1, .val .null, .val .null, rv r4, iv (((31 : Int32) * ((3844 : Int32) + u0)) + u1), rv it_18, rv x1] [(.int 0)]) _
    refine XS.ifYes X52.here hx rfl (pc0 := 60) (pc' := 91) rfl (hb hby d9_60) rfl ((if0 _ _).trans (teq (by decide : (0 : Int32) = (0 : Int32))).1) (by decide) (by decide) ?_
    refine oAn X52 hx hby d9_91 rfl rfl (oIl X52 hx hby d9_92 rfl ?_)
    refine st55 _ ?_
    exact X55.returnOut hx Bd.returns (hb hby d9_97) hr
def Q_9_3 (Z : State) (r0 r1 r4 el : Addr) (kE : ClassId) (x0 x1 x2 : Addr) (u0 u1 u2 : Int32) (u_kind_r0 u_name_r0 u_role_r0 u_operands_r0 u_hash_r0 : Value) (h0 : Heap) (n0 : Nat) (v : Option Value) (h : Heap) (L : List Loc) : Prop := ∃ hv : Int32, v = none ∧ Fr n0 L ∧ Keep h0 h [r0] ∧ Exa Z h r0 cS0 ∧ Fld Z h r0 cS0 "kind" cS10 (.ref r1) ∧ Fld Z h r0 cS0 "name" cS23 .null ∧ Fld Z h r0 cS0 "role" cS15 .null ∧ Fld Z h r0 cS0 "operands" cS18 (.ref r4) ∧ Fld Z h r0 cS0 "hash" "I" (.int hv)
theorem rm9_3 (l : Launch) (Z : State) (a0 : Array Value) (hw : own_HW a0 Z) (ws : List Jvm.Cond) (r0 r1 r4 el : Addr) (kE : ClassId) (x0 x1 x2 : Addr) (u0 u1 u2 : Int32) (u_kind_r0 u_name_r0 u_role_r0 u_operands_r0 u_hash_r0 : Value) (h0 : Heap) (n0 : Nat) (Z0 : n0 ≤ h0.size) (E_r0 : Exa Z h0 r0 cS0) (E_r1 : Exa Z h0 r1 cS2) (F_ordinal_r1 : Fld Z h0 r1 cS25 "ordinal" "I" (.int 4)) (E_r4 : Exa Z h0 r4 cS7) (F_elements_r4 : Fld Z h0 r4 cS7 "elements" cS6 (.ref el)) (V_el : Arv Z h0 el kE (.object cS3) (3 : Int32) [(.ref x0), (.ref x1), (.ref x2)] .null) (E_x0 : Exa Z h0 x0 cS0) (F_hash_x0 : Fld Z h0 x0 cS0 "hash" "I" (.int u0)) (E_x1 : Exa Z h0 x1 cS0) (F_hash_x1 : Fld Z h0 x1 cS0 "hash" "I" (.int u1)) (E_x2 : Exa Z h0 x2 cS0) (F_hash_x2 : Fld Z h0 x2 cS0 "hash" "I" (.int u2)) (F_kind_r0 : Fld Z h0 r0 cS0 "kind" cS10 u_kind_r0) (ge_r0 : n0 ≤ r0) (F_name_r0 : Fld Z h0 r0 cS0 "name" cS23 u_name_r0) (F_role_r0 : Fld Z h0 r0 cS0 "role" cS15 u_role_r0) (F_operands_r0 : Fld Z h0 r0 cS0 "operands" cS18 u_operands_r0) (ne_el_r0 : el ≠ r0) (ne_x0_r0 : x0 ≠ r0) (ne_x1_r0 : x1 ≠ r0) (ne_x2_r0 : x2 ≠ r0) (F_hash_r0 : Fld Z h0 r0 cS0 "hash" "I" u_hash_r0) :
    own_M l Z (⟨cS0, "<init>", cS12⟩ : MethodName) prog_5_method_1_code 8 none ws ({ frames := 3, cells := 1, slots := 4, locals := 39 } : Room) #[(.ref r0), (.ref r1), .null, .null, (.ref r4)] h0 (Q_9_3 Z r0 r1 r4 el kE x0 x1 x2 u0 u1 u2 u_kind_r0 u_name_r0 u_role_r0 u_operands_r0 u_hash_r0 h0 n0) := by
  refine own_in cS0 rfl (plainFor_of_name pn_com_example_tablox_tablox_concept_Concept) ?_
  intro p e s m below meth c s₁ Bd hml hZ hh hx hby hown X0 e0
  have N0 := Fr.nil n0
  have hnm := (name_of_methodNamed Bd.named Bd.method).1
  have k0 := own_k (p := p) (e := e) (below := below) (T := s₁) (ef_9n2n3 m r0 r1 r4)
  obtain ⟨T1, X1, e1, st1⟩ := initO X0 hx hZ hown (own_at hw 59 rfl) (own_at hw 28 rfl) (own_at hw 29 rfl) e0 (g := (mkF m 1 #[rv r0, rv r1, .val .null, .val .null, rv r4, .unset, .unset, .unset] [(.ref r0)])) rfl (by rw [hml]; rfl) rfl (hb hby d9_1) (by decide) (W := 0) (Nat.le_refl _) (by decide)
  obtain ⟨T2, h2, X2, e2, W2, st2⟩ := putF X1 hx hZ hown (host := "") (Or.inl (own_at hw 60 rfl)) Via.refl e1 F_kind_r0 E_r0 (Or.inr ⟨(own_at hw 61 rfl), rfl, hnm⟩) (own_at hw 38 rfl) (ty := (.object cS2)) (by decide) rfl rfl (g := (mkF m 6 #[rv r0, rv r1, .val .null, .val .null, rv r4, .unset, .unset, .unset] [(.ref r1), (.ref r0)])) rfl rfl (hb hby d9_6)
  have Fw2 : Fld Z h2 r0 cS0 "kind" cS10 (.ref r1) := F_kind_r0.same W2
  have N2 := Fr.snoc X2 N0 ge_r0
  have f3 := (E_r0.wr W2)
  have f4 := (F_name_r0.other W2 (Or.inr (slot_ne (Or.inr (own_at hw 63 rfl)) (Or.inr (own_at hw 61 rfl)) (by decide) (t := (.object cS8)) (t' := (.object cS2)) (by decide) (by decide))))
  obtain ⟨T5, h5, X5, e5, W5, st5⟩ := putF X2 hx hZ hown (host := "") (Or.inl (own_at hw 62 rfl)) Via.refl e2 f4 f3 (Or.inr ⟨(own_at hw 63 rfl), rfl, hnm⟩) (own_at hw 38 rfl) (ty := (.object cS8)) (by decide) rfl rfl (g := (mkF m 11 #[rv r0, rv r1, .val .null, .val .null, rv r4, .unset, .unset, .unset] [.null, (.ref r0)])) rfl rfl (hb hby d9_11)
  have Fw5 : Fld Z h5 r0 cS0 "name" cS23 .null := f4.same W5
  have N5 := Fr.snoc X5 N2 ge_r0
  have f6 := (f3.wr W5)
  have f7 := ((F_role_r0.other W2 (Or.inr (slot_ne (Or.inr (own_at hw 65 rfl)) (Or.inr (own_at hw 61 rfl)) (by decide) (t := (.object cS9)) (t' := (.object cS2)) (by decide) (by decide)))).other W5 (Or.inr (slot_ne (Or.inr (own_at hw 65 rfl)) (Or.inr (own_at hw 63 rfl)) (by decide) (t := (.object cS9)) (t' := (.object cS8)) (by decide) (by decide))))
  obtain ⟨T8, h8, X8, e8, W8, st8⟩ := putF X5 hx hZ hown (host := "") (Or.inl (own_at hw 64 rfl)) Via.refl e5 f7 f6 (Or.inr ⟨(own_at hw 65 rfl), rfl, hnm⟩) (own_at hw 38 rfl) (ty := (.object cS9)) (by decide) rfl rfl (g := (mkF m 16 #[rv r0, rv r1, .val .null, .val .null, rv r4, .unset, .unset, .unset] [.null, (.ref r0)])) rfl rfl (hb hby d9_16)
  have Fw8 : Fld Z h8 r0 cS0 "role" cS15 .null := f7.same W8
  have N8 := Fr.snoc X8 N5 ge_r0
  have f9 := (f6.wr W8)
  have f10 := (((F_operands_r0.other W2 (Or.inr (slot_ne (Or.inr (own_at hw 67 rfl)) (Or.inr (own_at hw 61 rfl)) (by decide) (t := (.object cS11)) (t' := (.object cS2)) (by decide) (by decide)))).other W5 (Or.inr (slot_ne (Or.inr (own_at hw 67 rfl)) (Or.inr (own_at hw 63 rfl)) (by decide) (t := (.object cS11)) (t' := (.object cS8)) (by decide) (by decide)))).other W8 (Or.inr (slot_ne (Or.inr (own_at hw 67 rfl)) (Or.inr (own_at hw 65 rfl)) (by decide) (t := (.object cS11)) (t' := (.object cS9)) (by decide) (by decide))))
  obtain ⟨T11, h11, X11, e11, W11, st11⟩ := putF X8 hx hZ hown (host := "") (Or.inl (own_at hw 66 rfl)) Via.refl e8 f10 f9 (Or.inr ⟨(own_at hw 67 rfl), rfl, hnm⟩) (own_at hw 38 rfl) (ty := (.object cS11)) (by decide) rfl rfl (g := (mkF m 22 #[rv r0, rv r1, .val .null, .val .null, rv r4, .unset, .unset, .unset] [(.ref r4), (.ref r0)])) rfl rfl (hb hby d9_22)
  have Fw11 : Fld Z h11 r0 cS0 "operands" cS18 (.ref r4) := f10.same W11
  have N11 := Fr.snoc X11 N8 ge_r0
  have f13 := ((((E_r1.wr W2).wr W5).wr W8).wr W11)
  have f14 := (f9.wr W11)
  have f15 := ((((F_ordinal_r1.other W2 (Or.inl (ne_exa f13 f14 (by decide)))).other W5 (Or.inl (ne_exa f13 f14 (by decide)))).other W8 (Or.inl (ne_exa f13 f14 (by decide)))).other W11 (Or.inl (ne_exa f13 f14 (by decide))))
  obtain ⟨cq12, kq12, q12a, q12b, q12c⟩ := isOf hZ e11 f13
  obtain ⟨_, _, ⟨T12, L12, j12, i12⟩, -, X12, ⟨Lc12, hQ12, l12, y12, z12⟩, st12⟩ := X11.virtualBackUp hx (owner := cS25) (x := (⟨cS2, "ordinal", "()I"⟩ : MethodName)) (y := (⟨cS25, "ordinal", "()I"⟩ : MethodName)) hown (mvT hZ (own_at hw 68 rfl)) (mvT hZ (own_at hw 69 rfl)) (mvT hZ (own_at hw 70 rfl)) (by decide) (mvT hZ (own_at hw 72 rfl)) (mvT hZ (own_at hw 71 rfl)) (backOf (W := 1) (rm10 l Z a0 hw [] r1 (4 : Int32) h11 n0 (Nat.le_trans (Nat.le_trans (Nat.le_trans (Nat.le_trans Z0 (Keep.of_wr W2).1) (Keep.of_wr W5).1) (Keep.of_wr W8).1) (Keep.of_wr W11).1) f15) hZ (own_at hw 74 rfl) (own_at hw 73 rfl) (by decide) (by decide)) q12a q12c (g := (mkF m 28 #[rv r0, rv r1, .val .null, .val .null, rv r4, .unset, .unset, .unset] [(.ref r1), (.int 31)])) rfl (by rw [hml]; rfl) (Steps.refl _) (argsL := []) (rest := [(.int 31)]) (lenOf pd_5 rfl) rfl (Nat.le_refl _) (hb hby d9_28) (fun _ _ => ⟨rfl, e11, (by decide : 0 + 0 ≤ _), (by decide : 0 + 0 ≤ _)⟩)
  dsimp only [Pt.U, Pt.locs, Pt.cells, Pt.slots] at X12 l12 y12 z12 st12 hQ12
  subst l12 y12 z12
  obtain ⟨rfl, N12q, e12⟩ := hQ12
  have N12 := Fr.app N11 N12q
  obtain ⟨_, T16, L16, X16, hQ16, st16⟩ := own_cS 1 (rm11_n l Z a0 hw []  h11 n0 (Nat.le_trans (Nat.le_trans (Nat.le_trans (Nat.le_trans Z0 (Keep.of_wr W2).1) (Keep.of_wr W5).1) (Keep.of_wr W8).1) (Keep.of_wr W11).1) ) X12 hx hZ hown hw 77 78 47 79 rfl rfl rfl rfl 33 #[rv r0, rv r1, .val .null, .val .null, rv r4, .unset, .unset, .unset] [.null] [(.int 124)] (hb hby d9_33) hml (lenOf pd_8 rfl) e12 rfl (Nat.le_refl _) (by decide)
  obtain ⟨rfl, N16q, e16⟩ := hQ16
  have N16 := Fr.app N12 N16q
  obtain ⟨_, T17, L17, X17, hQ17, st17⟩ := own_cS 1 (rm11_n l Z a0 hw []  h11 n0 (Nat.le_trans (Nat.le_trans (Nat.le_trans (Nat.le_trans Z0 (Keep.of_wr W2).1) (Keep.of_wr W5).1) (Keep.of_wr W8).1) (Keep.of_wr W11).1) ) X16 hx hZ hown hw 77 78 47 79 rfl rfl rfl rfl 38 #[rv r0, rv r1, .val .null, .val .null, rv r4, .unset, .unset, .unset] [.null] [(.int 124)] (hb hby d9_38) hml (lenOf pd_8 rfl) e16 rfl (Nat.le_refl _) (by decide)
  obtain ⟨rfl, N17q, e17⟩ := hQ17
  have N17 := Fr.app N16 N17q
  have f19 := ((((E_r4.wr W2).wr W5).wr W8).wr W11)
  have f20 := ((((F_elements_r4.other W2 (Or.inl (ne_exa f19 f14 (by decide)))).other W5 (Or.inl (ne_exa f19 f14 (by decide)))).other W8 (Or.inl (ne_exa f19 f14 (by decide)))).other W11 (Or.inl (ne_exa f19 f14 (by decide))))
  have f21 := ((((V_el.other W2 ne_el_r0).other W5 ne_el_r0).other W8 ne_el_r0).other W11 ne_el_r0)
  obtain ⟨_, T18, L18, X18, hQ18, st18⟩ := own_cI 0 (rm15_3 l Z a0 hw [] r4 el kE x0 x1 x2 h11 n0 (Nat.le_trans (Nat.le_trans (Nat.le_trans (Nat.le_trans Z0 (Keep.of_wr W2).1) (Keep.of_wr W5).1) (Keep.of_wr W8).1) (Keep.of_wr W11).1) f19 f20 f21) X17 hx hZ hown hw 98 99 100 101 102 103 104 105 107 106 rfl rfl rfl rfl rfl rfl rfl rfl rfl rfl r4 f19 46 #[rv r0, rv r1, .val .null, .val .null, rv r4, iv 124, .unset, .unset] [] [] (hb hby d9_46) hml (lenOf pd_9 rfl) e17 rfl (Nat.le_refl _) (by decide)
  have f22 := ((((E_x0.wr W2).wr W5).wr W8).wr W11)
  have f23 := ((((E_x1.wr W2).wr W5).wr W8).wr W11)
  have f24 := ((((E_x2.wr W2).wr W5).wr W8).wr W11)
  obtain ⟨it_18, rfl, N18q, K18, p18_0, p18_1, p18_2, p18_3, p18_4⟩ := hQ18
  have g_it_18 : n0 ≤ it_18 := Nat.le_trans (Nat.le_trans (Nat.le_trans (Nat.le_trans (Nat.le_trans Z0 (Keep.of_wr W2).1) (Keep.of_wr W5).1) (Keep.of_wr W8).1) (Keep.of_wr W11).1) p18_0
  have sz_it_18 : h0.size ≤ it_18 := Nat.le_trans (((((Keep.refl h0 [r0]).wr W2 (Or.inl (List.mem_of_getElem? (i := 0) rfl))).wr W5 (Or.inl (List.mem_of_getElem? (i := 0) rfl))).wr W8 (Or.inl (List.mem_of_getElem? (i := 0) rfl))).wr W11 (Or.inl (List.mem_of_getElem? (i := 0) rfl))).1 p18_0
  have N18 := Fr.app N17 N18q
  obtain ⟨_, T25, L25, X25, hQ25, st25⟩ := own_cI 0 (rm18_f l Z a0 hw [] it_18 (0 : Int32) (3 : Int32) T18.heap n0 (Nat.le_trans (Nat.le_trans (Nat.le_trans (Nat.le_trans (Nat.le_trans Z0 (Keep.of_wr W2).1) (Keep.of_wr W5).1) (Keep.of_wr W8).1) (Keep.of_wr W11).1) K18.1) p18_4 p18_3 (by decide : ¬ ((0 : Int32) = (3 : Int32)))) X18 hx hZ hown hw 133 134 135 136 137 138 139 140 141 110 rfl rfl rfl rfl rfl rfl rfl rfl rfl rfl it_18 p18_1 55 #[rv r0, rv r1, .val .null, .val .null, rv r4, iv 124, rv it_18, .unset] [] [] (hb hby d9_55) hml (lenOf pd_3 rfl) rfl rfl (Nat.le_refl _) (by decide)
  obtain ⟨rfl, N25q, e25⟩ := hQ25
  have N25 := Fr.app N18 N25q
  have f27 := (f19.keep K18)
  have f28 := (f20.keep K18 nin0)
  have f29 := (f21.keep K18 nin0)
  obtain ⟨cq26, kq26, q26a, q26b, q26c⟩ := isOf hZ e25 p18_1
  obtain ⟨_, _, ⟨T26, L26, j26, i26⟩, -, X26, ⟨Lc26, hQ26, l26, y26, z26⟩, st26⟩ := X25.interfaceBack hx (xi := (⟨"java/util/Iterator", "next", cS20⟩ : MethodName)) (y := (⟨cS1, "next", cS20⟩ : MethodName)) hown (mvT hZ (own_at hw 313 rfl)) (mvT hZ (own_at hw 314 rfl)) (mvT hZ (own_at hw 315 rfl)) (mvT hZ (own_at hw 316 rfl)) (mvT hZ (own_at hw 317 rfl)) (mvT hZ (own_at hw 318 rfl)) (mvT hZ (own_at hw 319 rfl)) (mvT hZ (own_at hw 140 rfl)) (by decide) (backOfWith (W := 0) (rm45_30 l Z a0 hw [] it_18 r4 el kE x0 x1 x2 T18.heap n0 (Nat.le_trans (Nat.le_trans (Nat.le_trans (Nat.le_trans (Nat.le_trans Z0 (Keep.of_wr W2).1) (Keep.of_wr W5).1) (Keep.of_wr W8).1) (Keep.of_wr W11).1) K18.1) p18_1 p18_2 p18_3 p18_4 f27 f28 f29 g_it_18) hZ (own_at hw 320 rfl) (own_at hw 110 rfl) (by decide) (by decide)) q26a q26b q26c (g := (mkF m 65 #[rv r0, rv r1, .val .null, .val .null, rv r4, iv 124, rv it_18, .unset] [(.ref it_18)])) rfl (by rw [hml]; rfl) (Steps.refl _) (argsL := []) (rest := []) (lenOf pd_10 rfl) rfl (Nat.le_refl _) (hb hby d9_65) (fun _ _ => ⟨rfl, e25, (by decide : 1 + 0 ≤ _), (by decide : 4 + 0 ≤ _)⟩)
  dsimp only [Pt.U, Pt.locs, Pt.cells, Pt.slots] at X26 l26 y26 z26 st26 hQ26
  subst l26 y26 z26
  have f30 := (f14.keep K18)
  have f31 := (f13.keep K18)
  have f32 := (f22.keep K18)
  have f33 := (f23.keep K18)
  have f34 := (f24.keep K18)
  obtain ⟨rfl, N26q, K26, p26_0, p26_1, p26_2, p26_3⟩ := hQ26
  have pl26 := (allS (P := fun x => ∃ cell : Cell, T18.heap[x]? = some cell ∧ cell.vm.isStatics = false) (own_ns p18_1) all0)
  have N26 := Fr.app N25 N26q
  have f35 := (f32.keep K26)
  obtain ⟨T36, X36, e36, st36⟩ := castY X26 hx hZ hown (own_at hw 37 rfl) rfl (Ins.self f35) (g := (mkF m 70 #[rv r0, rv r1, .val .null, .val .null, rv r4, iv 124, rv it_18, .unset] [(.ref x0)])) rfl rfl (hb hby d9_70)
  have f37 := ((((((F_hash_x0.other W2 (Or.inl ne_x0_r0)).other W5 (Or.inl ne_x0_r0)).other W8 (Or.inl ne_x0_r0)).other W11 (Or.inl ne_x0_r0)).keep K18 nin0).keep K26 (ninS (Nat.ne_of_lt (Nat.lt_of_lt_of_le f22.lt p18_0)) nin0))
  obtain ⟨T38, X38, e38, st38⟩ := getF X36 hx hZ hown (host := "") (Or.inl (own_at hw 142 rfl)) Via.refl e36 f37 (g := (mkF m 82 #[rv r0, rv r1, .val .null, .val .null, rv r4, iv 124, rv it_18, rv x0] [(.ref x0), (.int 3844)])) rfl rfl (hb hby d9_82)
  obtain ⟨_, T39, L39, X39, hQ39, st39⟩ := own_cI 0 (rm18_f l Z a0 hw [] it_18 (1 : Int32) (3 : Int32) T26.heap n0 (Nat.le_trans (Nat.le_trans (Nat.le_trans (Nat.le_trans (Nat.le_trans (Nat.le_trans Z0 (Keep.of_wr W2).1) (Keep.of_wr W5).1) (Keep.of_wr W8).1) (Keep.of_wr W11).1) K18.1) K26.1) p26_3 p26_2 (by decide : ¬ ((1 : Int32) = (3 : Int32)))) X38 hx hZ hown hw 133 134 135 136 137 138 139 140 141 110 rfl rfl rfl rfl rfl rfl rfl rfl rfl rfl it_18 p26_0 55 #[rv r0, rv r1, .val .null, .val .null, rv r4, iv ((3844 : Int32) + u0), rv it_18, rv x0] [] [] (hb hby d9_55) hml (lenOf pd_3 rfl) e38 rfl (Nat.le_refl _) (by decide)
  obtain ⟨rfl, N39q, e39⟩ := hQ39
  have N39 := Fr.app N26 N39q
  have f41 := (f27.keep K26)
  have f42 := (f28.keep K26 (ninS (Nat.ne_of_lt (Nat.lt_of_lt_of_le f19.lt p18_0)) nin0))
  have f43 := (f29.keep K26 (ninS (Nat.ne_of_lt (Nat.lt_of_lt_of_le f21.lt p18_0)) nin0))
  obtain ⟨cq40, kq40, q40a, q40b, q40c⟩ := isOf hZ e39 p26_0
  obtain ⟨_, _, ⟨T40, L40, j40, i40⟩, -, X40, ⟨Lc40, hQ40, l40, y40, z40⟩, st40⟩ := X39.interfaceBack hx (xi := (⟨"java/util/Iterator", "next", cS20⟩ : MethodName)) (y := (⟨cS1, "next", cS20⟩ : MethodName)) hown (mvT hZ (own_at hw 313 rfl)) (mvT hZ (own_at hw 314 rfl)) (mvT hZ (own_at hw 315 rfl)) (mvT hZ (own_at hw 316 rfl)) (mvT hZ (own_at hw 317 rfl)) (mvT hZ (own_at hw 318 rfl)) (mvT hZ (own_at hw 319 rfl)) (mvT hZ (own_at hw 140 rfl)) (by decide) (backOfWith (W := 0) (rm45_31 l Z a0 hw [] it_18 r4 el kE x0 x1 x2 T26.heap n0 (Nat.le_trans (Nat.le_trans (Nat.le_trans (Nat.le_trans (Nat.le_trans (Nat.le_trans Z0 (Keep.of_wr W2).1) (Keep.of_wr W5).1) (Keep.of_wr W8).1) (Keep.of_wr W11).1) K18.1) K26.1) p26_0 p26_1 p26_2 p26_3 f41 f42 f43 g_it_18) hZ (own_at hw 320 rfl) (own_at hw 110 rfl) (by decide) (by decide)) q40a q40b q40c (g := (mkF m 65 #[rv r0, rv r1, .val .null, .val .null, rv r4, iv ((3844 : Int32) + u0), rv it_18, rv x0] [(.ref it_18)])) rfl (by rw [hml]; rfl) (Steps.refl _) (argsL := []) (rest := []) (lenOf pd_10 rfl) rfl (Nat.le_refl _) (hb hby d9_65) (fun _ _ => ⟨rfl, e39, (by decide : 1 + 0 ≤ _), (by decide : 4 + 0 ≤ _)⟩)
  dsimp only [Pt.U, Pt.locs, Pt.cells, Pt.slots] at X40 l40 y40 z40 st40 hQ40
  subst l40 y40 z40
  have f44 := (f30.keep K26)
  have f45 := (f31.keep K26)
  have f46 := (f33.keep K26)
  have f47 := (f34.keep K26)
  obtain ⟨rfl, N40q, K40, p40_0, p40_1, p40_2, p40_3⟩ := hQ40
  have pl40 := (allS (P := fun x => ∃ cell : Cell, T26.heap[x]? = some cell ∧ cell.vm.isStatics = false) (own_ns p26_0) all0)
  have N40 := Fr.app N39 N40q
  have f48 := (f46.keep K40)
  obtain ⟨T49, X49, e49, st49⟩ := castY X40 hx hZ hown (own_at hw 37 rfl) rfl (Ins.self f48) (g := (mkF m 70 #[rv r0, rv r1, .val .null, .val .null, rv r4, iv ((3844 : Int32) + u0), rv it_18, rv x0] [(.ref x1)])) rfl rfl (hb hby d9_70)
  have f50 := (((((((F_hash_x1.other W2 (Or.inl ne_x1_r0)).other W5 (Or.inl ne_x1_r0)).other W8 (Or.inl ne_x1_r0)).other W11 (Or.inl ne_x1_r0)).keep K18 nin0).keep K26 (ninS (Nat.ne_of_lt (Nat.lt_of_lt_of_le f23.lt p18_0)) nin0)).keep K40 (ninS (Nat.ne_of_lt (Nat.lt_of_lt_of_le f23.lt p18_0)) nin0))
  obtain ⟨T51, X51, e51, st51⟩ := getF X49 hx hZ hown (host := "") (Or.inl (own_at hw 142 rfl)) Via.refl e49 f50 (g := (mkF m 82 #[rv r0, rv r1, .val .null, .val .null, rv r4, iv ((3844 : Int32) + u0), rv it_18, rv x1] [(.ref x1), (.int ((31 : Int32) * ((3844 : Int32) + u0)))])) rfl rfl (hb hby d9_82)
  obtain ⟨_, T52, L52, X52, hQ52, st52⟩ := own_cI 0 (rm18_f l Z a0 hw [] it_18 (2 : Int32) (3 : Int32) T40.heap n0 (Nat.le_trans (Nat.le_trans (Nat.le_trans (Nat.le_trans (Nat.le_trans (Nat.le_trans (Nat.le_trans Z0 (Keep.of_wr W2).1) (Keep.of_wr W5).1) (Keep.of_wr W8).1) (Keep.of_wr W11).1) K18.1) K26.1) K40.1) p40_3 p40_2 (by decide : ¬ ((2 : Int32) = (3 : Int32)))) X51 hx hZ hown hw 133 134 135 136 137 138 139 140 141 110 rfl rfl rfl rfl rfl rfl rfl rfl rfl rfl it_18 p40_0 55 #[rv r0, rv r1, .val .null, .val .null, rv r4, iv (((31 : Int32) * ((3844 : Int32) + u0)) + u1), rv it_18, rv x1] [] [] (hb hby d9_55) hml (lenOf pd_3 rfl) e51 rfl (Nat.le_refl _) (by decide)
  obtain ⟨rfl, N52q, e52⟩ := hQ52
  have N52 := Fr.app N40 N52q
  have f54 := (f41.keep K40)
  have f55 := (f42.keep K40 (ninS (Nat.ne_of_lt (Nat.lt_of_lt_of_le f19.lt p18_0)) nin0))
  have f56 := (f43.keep K40 (ninS (Nat.ne_of_lt (Nat.lt_of_lt_of_le f21.lt p18_0)) nin0))
  obtain ⟨cq53, kq53, q53a, q53b, q53c⟩ := isOf hZ e52 p40_0
  obtain ⟨_, _, ⟨T53, L53, j53, i53⟩, -, X53, ⟨Lc53, hQ53, l53, y53, z53⟩, st53⟩ := X52.interfaceBack hx (xi := (⟨"java/util/Iterator", "next", cS20⟩ : MethodName)) (y := (⟨cS1, "next", cS20⟩ : MethodName)) hown (mvT hZ (own_at hw 313 rfl)) (mvT hZ (own_at hw 314 rfl)) (mvT hZ (own_at hw 315 rfl)) (mvT hZ (own_at hw 316 rfl)) (mvT hZ (own_at hw 317 rfl)) (mvT hZ (own_at hw 318 rfl)) (mvT hZ (own_at hw 319 rfl)) (mvT hZ (own_at hw 140 rfl)) (by decide) (backOfWith (W := 0) (rm45_32 l Z a0 hw [] it_18 r4 el kE x0 x1 x2 T40.heap n0 (Nat.le_trans (Nat.le_trans (Nat.le_trans (Nat.le_trans (Nat.le_trans (Nat.le_trans (Nat.le_trans Z0 (Keep.of_wr W2).1) (Keep.of_wr W5).1) (Keep.of_wr W8).1) (Keep.of_wr W11).1) K18.1) K26.1) K40.1) p40_0 p40_1 p40_2 p40_3 f54 f55 f56 g_it_18) hZ (own_at hw 320 rfl) (own_at hw 110 rfl) (by decide) (by decide)) q53a q53b q53c (g := (mkF m 65 #[rv r0, rv r1, .val .null, .val .null, rv r4, iv (((31 : Int32) * ((3844 : Int32) + u0)) + u1), rv it_18, rv x1] [(.ref it_18)])) rfl (by rw [hml]; rfl) (Steps.refl _) (argsL := []) (rest := []) (lenOf pd_10 rfl) rfl (Nat.le_refl _) (hb hby d9_65) (fun _ _ => ⟨rfl, e52, (by decide : 1 + 0 ≤ _), (by decide : 4 + 0 ≤ _)⟩)
  dsimp only [Pt.U, Pt.locs, Pt.cells, Pt.slots] at X53 l53 y53 z53 st53 hQ53
  subst l53 y53 z53
  have f57 := (f44.keep K40)
  have f58 := (f45.keep K40)
  have f59 := (f35.keep K40)
  have f60 := (f47.keep K40)
  obtain ⟨rfl, N53q, K53, p53_0, p53_1, p53_2, p53_3⟩ := hQ53
  have pl53 := (allS (P := fun x => ∃ cell : Cell, T40.heap[x]? = some cell ∧ cell.vm.isStatics = false) (own_ns p40_0) all0)
  have N53 := Fr.app N52 N53q
  have f61 := (f60.keep K53)
  obtain ⟨T62, X62, e62, st62⟩ := castY X53 hx hZ hown (own_at hw 37 rfl) rfl (Ins.self f61) (g := (mkF m 70 #[rv r0, rv r1, .val .null, .val .null, rv r4, iv (((31 : Int32) * ((3844 : Int32) + u0)) + u1), rv it_18, rv x1] [(.ref x2)])) rfl rfl (hb hby d9_70)
  have f63 := ((((((((F_hash_x2.other W2 (Or.inl ne_x2_r0)).other W5 (Or.inl ne_x2_r0)).other W8 (Or.inl ne_x2_r0)).other W11 (Or.inl ne_x2_r0)).keep K18 nin0).keep K26 (ninS (Nat.ne_of_lt (Nat.lt_of_lt_of_le f24.lt p18_0)) nin0)).keep K40 (ninS (Nat.ne_of_lt (Nat.lt_of_lt_of_le f24.lt p18_0)) nin0)).keep K53 (ninS (Nat.ne_of_lt (Nat.lt_of_lt_of_le f24.lt p18_0)) nin0))
  obtain ⟨T64, X64, e64, st64⟩ := getF X62 hx hZ hown (host := "") (Or.inl (own_at hw 142 rfl)) Via.refl e62 f63 (g := (mkF m 82 #[rv r0, rv r1, .val .null, .val .null, rv r4, iv (((31 : Int32) * ((3844 : Int32) + u0)) + u1), rv it_18, rv x2] [(.ref x2), (.int ((31 : Int32) * (((31 : Int32) * ((3844 : Int32) + u0)) + u1)))])) rfl rfl (hb hby d9_82)
  obtain ⟨_, T65, L65, X65, hQ65, st65⟩ := own_cI 0 (rm18_t l Z a0 hw [] it_18 (3 : Int32) (3 : Int32) T53.heap n0 (Nat.le_trans (Nat.le_trans (Nat.le_trans (Nat.le_trans (Nat.le_trans (Nat.le_trans (Nat.le_trans (Nat.le_trans Z0 (Keep.of_wr W2).1) (Keep.of_wr W5).1) (Keep.of_wr W8).1) (Keep.of_wr W11).1) K18.1) K26.1) K40.1) K53.1) p53_3 p53_2 (by decide : (3 : Int32) = (3 : Int32))) X64 hx hZ hown hw 133 134 135 136 137 138 139 140 141 110 rfl rfl rfl rfl rfl rfl rfl rfl rfl rfl it_18 p53_0 55 #[rv r0, rv r1, .val .null, .val .null, rv r4, iv (((31 : Int32) * (((31 : Int32) * ((3844 : Int32) + u0)) + u1)) + u2), rv it_18, rv x2] [] [] (hb hby d9_55) hml (lenOf pd_3 rfl) e64 rfl (Nat.le_refl _) (by decide)
  obtain ⟨rfl, N65q, e65⟩ := hQ65
  have N65 := Fr.app N53 N65q
  have f66 := (f57.keep K53)
  have f67 := ((((((((F_hash_r0.other W2 (Or.inr (slot_ne (Or.inr (own_at hw 143 rfl)) (Or.inr (own_at hw 61 rfl)) (by decide) (t := .int) (t' := (.object cS2)) (by decide) (by decide)))).other W5 (Or.inr (slot_ne (Or.inr (own_at hw 143 rfl)) (Or.inr (own_at hw 63 rfl)) (by decide) (t := .int) (t' := (.object cS8)) (by decide) (by decide)))).other W8 (Or.inr (slot_ne (Or.inr (own_at hw 143 rfl)) (Or.inr (own_at hw 65 rfl)) (by decide) (t := .int) (t' := (.object cS9)) (by decide) (by decide)))).other W11 (Or.inr (slot_ne (Or.inr (own_at hw 143 rfl)) (Or.inr (own_at hw 67 rfl)) (by decide) (t := .int) (t' := (.object cS11)) (by decide) (by decide)))).keep K18 nin0).keep K26 (ninS (Nat.ne_of_lt (Nat.lt_of_lt_of_le f14.lt p18_0)) nin0)).keep K40 (ninS (Nat.ne_of_lt (Nat.lt_of_lt_of_le f14.lt p18_0)) nin0)).keep K53 (ninS (Nat.ne_of_lt (Nat.lt_of_lt_of_le f14.lt p18_0)) nin0))
  obtain ⟨T68, h68, X68, e68, W68, st68⟩ := putF X65 hx hZ hown (host := "") (Or.inl (own_at hw 142 rfl)) Via.refl e65 f67 f66 (Or.inr ⟨(own_at hw 143 rfl), rfl, hnm⟩) (own_at hw 38 rfl) (ty := .int) (by decide) rfl rfl (g := (mkF m 94 #[rv r0, rv r1, .val .null, .val .null, rv r4, iv (((31 : Int32) * (((31 : Int32) * ((3844 : Int32) + u0)) + u1)) + u2), rv it_18, rv x2] [(.int (((31 : Int32) * (((31 : Int32) * ((3844 : Int32) + u0)) + u1)) + u2)), (.ref r0)])) rfl rfl (hb hby d9_94)
  have Fw68 : Fld Z h68 r0 cS0 "hash" "I" (.int (((31 : Int32) * (((31 : Int32) * ((3844 : Int32) + u0)) + u1)) + u2)) := f67.same W68
  have N68 := Fr.snoc X68 N65 ge_r0
  have f69 := (f66.wr W68)
  have f70 := ((((((((Fw2.other W5 (Or.inr (slot_ne (Or.inr (own_at hw 61 rfl)) (Or.inr (own_at hw 63 rfl)) (by decide) (t := (.object cS2)) (t' := (.object cS8)) (by decide) (by decide)))).other W8 (Or.inr (slot_ne (Or.inr (own_at hw 61 rfl)) (Or.inr (own_at hw 65 rfl)) (by decide) (t := (.object cS2)) (t' := (.object cS9)) (by decide) (by decide)))).other W11 (Or.inr (slot_ne (Or.inr (own_at hw 61 rfl)) (Or.inr (own_at hw 67 rfl)) (by decide) (t := (.object cS2)) (t' := (.object cS11)) (by decide) (by decide)))).keep K18 nin0).keep K26 (ninS (Nat.ne_of_lt (Nat.lt_of_lt_of_le f14.lt p18_0)) nin0)).keep K40 (ninS (Nat.ne_of_lt (Nat.lt_of_lt_of_le f14.lt p18_0)) nin0)).keep K53 (ninS (Nat.ne_of_lt (Nat.lt_of_lt_of_le f14.lt p18_0)) nin0)).other W68 (Or.inr (slot_ne (Or.inr (own_at hw 61 rfl)) (Or.inr (own_at hw 143 rfl)) (by decide) (t := (.object cS2)) (t' := .int) (by decide) (by decide))))
  have f71 := (((((((Fw5.other W8 (Or.inr (slot_ne (Or.inr (own_at hw 63 rfl)) (Or.inr (own_at hw 65 rfl)) (by decide) (t := (.object cS8)) (t' := (.object cS9)) (by decide) (by decide)))).other W11 (Or.inr (slot_ne (Or.inr (own_at hw 63 rfl)) (Or.inr (own_at hw 67 rfl)) (by decide) (t := (.object cS8)) (t' := (.object cS11)) (by decide) (by decide)))).keep K18 nin0).keep K26 (ninS (Nat.ne_of_lt (Nat.lt_of_lt_of_le f14.lt p18_0)) nin0)).keep K40 (ninS (Nat.ne_of_lt (Nat.lt_of_lt_of_le f14.lt p18_0)) nin0)).keep K53 (ninS (Nat.ne_of_lt (Nat.lt_of_lt_of_le f14.lt p18_0)) nin0)).other W68 (Or.inr (slot_ne (Or.inr (own_at hw 63 rfl)) (Or.inr (own_at hw 143 rfl)) (by decide) (t := (.object cS8)) (t' := .int) (by decide) (by decide))))
  have f72 := ((((((Fw8.other W11 (Or.inr (slot_ne (Or.inr (own_at hw 65 rfl)) (Or.inr (own_at hw 67 rfl)) (by decide) (t := (.object cS9)) (t' := (.object cS11)) (by decide) (by decide)))).keep K18 nin0).keep K26 (ninS (Nat.ne_of_lt (Nat.lt_of_lt_of_le f14.lt p18_0)) nin0)).keep K40 (ninS (Nat.ne_of_lt (Nat.lt_of_lt_of_le f14.lt p18_0)) nin0)).keep K53 (ninS (Nat.ne_of_lt (Nat.lt_of_lt_of_le f14.lt p18_0)) nin0)).other W68 (Or.inr (slot_ne (Or.inr (own_at hw 65 rfl)) (Or.inr (own_at hw 143 rfl)) (by decide) (t := (.object cS9)) (t' := .int) (by decide) (by decide))))
  have f73 := (((((Fw11.keep K18 nin0).keep K26 (ninS (Nat.ne_of_lt (Nat.lt_of_lt_of_le f14.lt p18_0)) nin0)).keep K40 (ninS (Nat.ne_of_lt (Nat.lt_of_lt_of_le f14.lt p18_0)) nin0)).keep K53 (ninS (Nat.ne_of_lt (Nat.lt_of_lt_of_le f14.lt p18_0)) nin0)).other W68 (Or.inr (slot_ne (Or.inr (own_at hw 67 rfl)) (Or.inr (own_at hw 143 rfl)) (by decide) (t := (.object cS11)) (t' := .int) (by decide) (by decide))))
  refine own_out X68 Bd.notSynchronized Bd.returns (none) (fun _ => rfl) (by decide) (by decide) ?_ fun fs hr => k0 _ ?_
  · rw [e68]; exact ⟨(((31 : Int32) * (((31 : Int32) * ((3844 : Int32) + u0)) + u1)) + u2), rfl, N68, ((((((((((Keep.refl h0 [r0]).wr W2 (Or.inl (List.mem_of_getElem? (i := 0) rfl))).wr W5 (Or.inl (List.mem_of_getElem? (i := 0) rfl))).wr W8 (Or.inl (List.mem_of_getElem? (i := 0) rfl))).wr W11 (Or.inl (List.mem_of_getElem? (i := 0) rfl))).trans K18 all0).trans K26 (allS (Or.inr sz_it_18) all0)).trans K40 (allS (Or.inr sz_it_18) all0)).trans K53 (allS (Or.inr sz_it_18) all0)).wr W68 (Or.inl (List.mem_of_getElem? (i := 0) rfl))), f69, f70, f71, f72, f73, Fw68⟩
  · show OwnS p e below s₁ (mkF m 0 #[rv r0, rv r1, .val .null, .val .null, rv r4, .unset, .unset, .unset] []) _
    refine oAn X0 hx hby d9_0 rfl rfl ?_
    refine st1 _ ?_
    refine oAn X1 hx hby d9_4 rfl rfl (oAn X1 hx hby d9_5 rfl rfl ?_)
    refine st2 _ ?_
    refine oAn X2 hx hby d9_9 rfl rfl (oAn X2 hx hby d9_10 rfl rfl ?_)
    refine st5 _ ?_
    refine oAn X5 hx hby d9_14 rfl rfl (oAn X5 hx hby d9_15 rfl rfl ?_)
    refine st8 _ ?_
    refine oAn X8 hx hby d9_19 rfl rfl (oAl X8 hx hby d9_20 rfl rfl ?_)
    refine st11 _ ?_
    refine oBp X11 hx hby d9_25 (oAn X11 hx hby d9_27 rfl rfl ?_)
    refine st12.trans ?_
    refine XS.imul X12.here hx rfl (hb hby d9_31) rfl ?_
    refine oAn X12 hx hby d9_32 rfl rfl ?_
    refine st16 _ ?_
    refine XS.iadd X16.here hx rfl (hb hby d9_36) rfl ?_
    refine oAn X16 hx hby d9_37 rfl rfl ?_
    refine st17 _ ?_
    refine XS.iadd X17.here hx rfl (hb hby d9_41) rfl ?_
    refine XS.istore X17.here hx rfl (hb hby d9_42) rfl (l' := #[rv r0, rv r1, .val .null, .val .null, rv r4, iv 124, .unset, .unset]) rfl ?_
    refine oAl X17 hx hby d9_44 rfl rfl ?_
    refine st18 _ ?_
    refine XS.astore X18.here hx rfl (hb hby d9_51) rfl rfl (l' := #[rv r0, rv r1, .val .null, .val .null, rv r4, iv 124, rv it_18, .unset]) rfl ?_
    refine oAl X18 hx hby d9_53 rfl rfl ?_
    refine st25 _ ?_
    show OwnS p e below T25 (mkF m 60 #[rv r0, rv r1, .val .null, .val .null, rv r4, iv 124, rv it_18, .unset] [(.int 1)]) _
    refine XS.ifNo X25.here hx rfl (hb hby d9_60) rfl ((if0 _ _).trans (feq (by decide : ¬ ((1 : Int32) = (0 : Int32)))).1) ?_
    refine oAl X25 hx hby d9_63 rfl rfl ?_
    refine st26.trans ?_
    refine st36 _ ?_
    refine XS.astore X36.here hx rfl (hb hby d9_73) rfl rfl (l' := #[rv r0, rv r1, .val .null, .val .null, rv r4, iv 124, rv it_18, rv x0]) rfl ?_
    refine oBp X36 hx hby d9_75 (oIl X36 hx hby d9_77 rfl ?_)
    refine XS.imul X36.here hx rfl (hb hby d9_79) rfl ?_
    refine oAl X36 hx hby d9_80 rfl rfl ?_
    refine st38 _ ?_
    refine XS.iadd X38.here hx rfl (hb hby d9_85) rfl ?_
    refine XS.istore X38.here hx rfl (hb hby d9_86) rfl (l' := #[rv r0, rv r1, .val .null, .val .null, rv r4, iv ((3844 : Int32) + u0), rv it_18, rv x0]) rfl ?_
    refine oGo X38 hx hby 88 53 d9_88 (by decide) (by decide) (oAl X38 hx hby d9_53 rfl rfl ?_)
    refine st39 _ ?_
    refine XS.ifNo X39.here hx rfl (hb hby d9_60) rfl ((if0 _ _).trans (feq (by decide : ¬ ((1 : Int32) = (0 : Int32)))).1) ?_
    refine oAl X39 hx hby d9_63 rfl rfl ?_
    refine st40.trans ?_
    refine st49 _ ?_
    refine XS.astore X49.here hx rfl (hb hby d9_73) rfl rfl (l' := #[rv r0, rv r1, .val .null, .val .null, rv r4, iv ((3844 : Int32) + u0), rv it_18, rv x1]) rfl ?_
    refine oBp X49 hx hby d9_75 (oIl X49 hx hby d9_77 rfl ?_)
    refine XS.imul X49.here hx rfl (hb hby d9_79) rfl ?_
    refine oAl X49 hx hby d9_80 rfl rfl ?_
    refine st51 _ ?_
    refine XS.iadd X51.here hx rfl (hb hby d9_85) rfl ?_
    refine XS.istore X51.here hx rfl (hb hby d9_86) rfl (l' := #[rv r0, rv r1, .val .null, .val .null, rv r4, iv (((31 : Int32) * ((3844 : Int32) + u0)) + u1), rv it_18, rv x1]) rfl ?_
    refine oGo X51 hx hby 88 53 d9_88 (by decide) (by decide) (oAl X51 hx hby d9_53 rfl rfl ?_)
    refine st52 _ ?_
    show OwnS p e below T52 (mkF m 60 #[rv r0, rv r1, .val .null, .val .null, rv r4, iv (((31 : Int32) * ((3844 : Int32) + u0)) + u1), rv it_18, rv x1] [(.int 1)]) _
    refine XS.ifNo X52.here hx rfl (hb hby d9_60) rfl ((if0 _ _).trans (feq (by decide : ¬ ((1 : Int32) = (0 : Int32)))).1) ?_
    refine oAl X52 hx hby d9_63 rfl rfl ?_
    refine st53.trans ?_
    refine st62 _ ?_
    refine XS.astore X62.here hx rfl (hb hby d9_73) rfl rfl (l' := #[rv r0, rv r1, .val .null, .val .null, rv r4, iv (((31 : Int32) * ((3844 : Int32) + u0)) + u1), rv it_18, rv x2]) rfl ?_
    refine oBp X62 hx hby d9_75 (oIl X62 hx hby d9_77 rfl ?_)
    refine XS.imul X62.here hx rfl (hb hby d9_79) rfl ?_
    refine oAl X62 hx hby d9_80 rfl rfl ?_
    refine st64 _ ?_
    refine XS.iadd X64.here hx rfl (hb hby d9_85) rfl ?_
    refine XS.istore X64.here hx rfl (hb hby d9_86) rfl (l' := #[rv r0, rv r1, .val .null, .val .null, rv r4, iv (((31 : Int32) * (((31 : Int32) * ((3844 : Int32) + u0)) + u1)) + u2), rv it_18, rv x2]) rfl ?_
    refine oGo X64 hx hby 88 53 d9_88 (by decide) (by decide) (oAl X64 hx hby d9_53 rfl rfl ?_)
    refine st65 _ ?_
    refine XS.ifYes X65.here hx rfl (pc0 := 60) (pc' := 91) rfl (hb hby d9_60) rfl ((if0 _ _).trans (teq (by decide : (0 : Int32) = (0 : Int32))).1) (by decide) (by decide) ?_
    refine oAn X65 hx hby d9_91 rfl rfl (oIl X65 hx hby d9_92 rfl ?_)
    refine st68 _ ?_
    exact X68.returnOut hx Bd.returns (hb hby d9_97) hr
theorem ef_9n3 (m : MethodId) (x0 : Addr) (x1 : Addr) (x2 : Addr) (x4 : Addr) : entryFrame m #[(.ref x0), (.ref x1), (.ref x2), .null, (.ref x4)] 8 = mkF m 0 #[.val (.ref x0), .val (.ref x1), .val (.ref x2), .val .null, .val (.ref x4), .unset, .unset, .unset] [] := by first | (simp [entryFrame, mkF, argsToLocals, Value.category]; done) | rfl
def Q_9_s (Z : State) (r0 r1 r2 r4 el : Addr) (kE : ClassId) (w_CS : Int32) (va : Addr) (kB : ClassId) (x0 : Int32) (u_kind_r0 u_name_r0 u_role_r0 u_operands_r0 u_hash_r0 : Value) (h0 : Heap) (n0 : Nat) (v : Option Value) (h : Heap) (L : List Loc) : Prop := ∃ hv : Int32, v = none ∧ Fr n0 L ∧ Keep h0 h [r0, r2] ∧ Exa Z h r0 cS0 ∧ Fld Z h r0 cS0 "kind" cS10 (.ref r1) ∧ Fld Z h r0 cS0 "name" cS23 (.ref r2) ∧ Fld Z h r0 cS0 "role" cS15 .null ∧ Fld Z h r0 cS0 "operands" cS18 (.ref r4) ∧ Fld Z h r0 cS0 "hash" "I" (.int hv)
theorem rm9_s (l : Launch) (Z : State) (a0 : Array Value) (hw : own_HW a0 Z) (ws : List Jvm.Cond) (r0 r1 r2 r4 el : Addr) (kE : ClassId) (w_CS : Int32) (va : Addr) (kB : ClassId) (x0 : Int32) (u_kind_r0 u_name_r0 u_role_r0 u_operands_r0 u_hash_r0 : Value) (h0 : Heap) (n0 : Nat) (Z0 : n0 ≤ h0.size) (S_CS : Sta Z h0 cS8 "COMPACT_STRINGS" "Z" (.int w_CS)) (hcs : ¬ (w_CS = (0 : Int32))) (E_r0 : Exa Z h0 r0 cS0) (E_r1 : Exa Z h0 r1 cS2) (F_ordinal_r1 : Fld Z h0 r1 cS25 "ordinal" "I" (.int 2)) (E_r2 : Exa Z h0 r2 cS8) (F_coder_r2 : Fld Z h0 r2 cS8 "coder" "B" (.int 0)) (F_value_r2 : Fld Z h0 r2 cS8 "value" "[B" (.ref va)) (F_hash_r2 : Fld Z h0 r2 cS8 "hash" "I" (.int 0)) (F_hashIsZero_r2 : Fld Z h0 r2 cS8 "hashIsZero" "Z" (.int 0)) (V_va : Arv Z h0 va kB .byte (1 : Int32) [(.int x0)] (.int 0)) (E_r4 : Exa Z h0 r4 cS7) (F_elements_r4 : Fld Z h0 r4 cS7 "elements" cS6 (.ref el)) (V_el : Arv Z h0 el kE (.object cS3) (0 : Int32) [] .null) (F_kind_r0 : Fld Z h0 r0 cS0 "kind" cS10 u_kind_r0) (ge_r0 : n0 ≤ r0) (F_name_r0 : Fld Z h0 r0 cS0 "name" cS23 u_name_r0) (F_role_r0 : Fld Z h0 r0 cS0 "role" cS15 u_role_r0) (F_operands_r0 : Fld Z h0 r0 cS0 "operands" cS18 u_operands_r0) (ne_va_r0 : va ≠ r0) (ge_r2 : n0 ≤ r2) (ne_el_r0 : el ≠ r0) (ne_el_r2 : el ≠ r2) (ne_va_r2 : va ≠ r2) (F_hash_r0 : Fld Z h0 r0 cS0 "hash" "I" u_hash_r0) :
    own_M l Z (⟨cS0, "<init>", cS12⟩ : MethodName) prog_5_method_1_code 8 none ws ({ frames := 3, cells := 1, slots := 4, locals := 39 } : Room) #[(.ref r0), (.ref r1), (.ref r2), .null, (.ref r4)] h0 (Q_9_s Z r0 r1 r2 r4 el kE w_CS va kB x0 u_kind_r0 u_name_r0 u_role_r0 u_operands_r0 u_hash_r0 h0 n0) := by
  refine own_in cS0 rfl (plainFor_of_name pn_com_example_tablox_tablox_concept_Concept) ?_
  intro p e s m below meth c s₁ Bd hml hZ hh hx hby hown X0 e0
  have N0 := Fr.nil n0
  have hnm := (name_of_methodNamed Bd.named Bd.method).1
  have k0 := own_k (p := p) (e := e) (below := below) (T := s₁) (ef_9n3 m r0 r1 r2 r4)
  obtain ⟨T1, X1, e1, st1⟩ := initO X0 hx hZ hown (own_at hw 59 rfl) (own_at hw 28 rfl) (own_at hw 29 rfl) e0 (g := (mkF m 1 #[rv r0, rv r1, rv r2, .val .null, rv r4, .unset, .unset, .unset] [(.ref r0)])) rfl (by rw [hml]; rfl) rfl (hb hby d9_1) (by decide) (W := 0) (Nat.le_refl _) (by decide)
  obtain ⟨T2, h2, X2, e2, W2, st2⟩ := putF X1 hx hZ hown (host := "") (Or.inl (own_at hw 60 rfl)) Via.refl e1 F_kind_r0 E_r0 (Or.inr ⟨(own_at hw 61 rfl), rfl, hnm⟩) (own_at hw 38 rfl) (ty := (.object cS2)) (by decide) rfl rfl (g := (mkF m 6 #[rv r0, rv r1, rv r2, .val .null, rv r4, .unset, .unset, .unset] [(.ref r1), (.ref r0)])) rfl rfl (hb hby d9_6)
  have Fw2 : Fld Z h2 r0 cS0 "kind" cS10 (.ref r1) := F_kind_r0.same W2
  have N2 := Fr.snoc X2 N0 ge_r0
  have f3 := (E_r0.wr W2)
  have f4 := (F_name_r0.other W2 (Or.inr (slot_ne (Or.inr (own_at hw 63 rfl)) (Or.inr (own_at hw 61 rfl)) (by decide) (t := (.object cS8)) (t' := (.object cS2)) (by decide) (by decide))))
  obtain ⟨T5, h5, X5, e5, W5, st5⟩ := putF X2 hx hZ hown (host := "") (Or.inl (own_at hw 62 rfl)) Via.refl e2 f4 f3 (Or.inr ⟨(own_at hw 63 rfl), rfl, hnm⟩) (own_at hw 38 rfl) (ty := (.object cS8)) (by decide) rfl rfl (g := (mkF m 11 #[rv r0, rv r1, rv r2, .val .null, rv r4, .unset, .unset, .unset] [(.ref r2), (.ref r0)])) rfl rfl (hb hby d9_11)
  have Fw5 : Fld Z h5 r0 cS0 "name" cS23 (.ref r2) := f4.same W5
  have N5 := Fr.snoc X5 N2 ge_r0
  have f6 := (f3.wr W5)
  have f7 := ((F_role_r0.other W2 (Or.inr (slot_ne (Or.inr (own_at hw 65 rfl)) (Or.inr (own_at hw 61 rfl)) (by decide) (t := (.object cS9)) (t' := (.object cS2)) (by decide) (by decide)))).other W5 (Or.inr (slot_ne (Or.inr (own_at hw 65 rfl)) (Or.inr (own_at hw 63 rfl)) (by decide) (t := (.object cS9)) (t' := (.object cS8)) (by decide) (by decide))))
  obtain ⟨T8, h8, X8, e8, W8, st8⟩ := putF X5 hx hZ hown (host := "") (Or.inl (own_at hw 64 rfl)) Via.refl e5 f7 f6 (Or.inr ⟨(own_at hw 65 rfl), rfl, hnm⟩) (own_at hw 38 rfl) (ty := (.object cS9)) (by decide) rfl rfl (g := (mkF m 16 #[rv r0, rv r1, rv r2, .val .null, rv r4, .unset, .unset, .unset] [.null, (.ref r0)])) rfl rfl (hb hby d9_16)
  have Fw8 : Fld Z h8 r0 cS0 "role" cS15 .null := f7.same W8
  have N8 := Fr.snoc X8 N5 ge_r0
  have f9 := (f6.wr W8)
  have f10 := (((F_operands_r0.other W2 (Or.inr (slot_ne (Or.inr (own_at hw 67 rfl)) (Or.inr (own_at hw 61 rfl)) (by decide) (t := (.object cS11)) (t' := (.object cS2)) (by decide) (by decide)))).other W5 (Or.inr (slot_ne (Or.inr (own_at hw 67 rfl)) (Or.inr (own_at hw 63 rfl)) (by decide) (t := (.object cS11)) (t' := (.object cS8)) (by decide) (by decide)))).other W8 (Or.inr (slot_ne (Or.inr (own_at hw 67 rfl)) (Or.inr (own_at hw 65 rfl)) (by decide) (t := (.object cS11)) (t' := (.object cS9)) (by decide) (by decide))))
  obtain ⟨T11, h11, X11, e11, W11, st11⟩ := putF X8 hx hZ hown (host := "") (Or.inl (own_at hw 66 rfl)) Via.refl e8 f10 f9 (Or.inr ⟨(own_at hw 67 rfl), rfl, hnm⟩) (own_at hw 38 rfl) (ty := (.object cS11)) (by decide) rfl rfl (g := (mkF m 22 #[rv r0, rv r1, rv r2, .val .null, rv r4, .unset, .unset, .unset] [(.ref r4), (.ref r0)])) rfl rfl (hb hby d9_22)
  have Fw11 : Fld Z h11 r0 cS0 "operands" cS18 (.ref r4) := f10.same W11
  have N11 := Fr.snoc X11 N8 ge_r0
  have f13 := ((((E_r1.wr W2).wr W5).wr W8).wr W11)
  have f14 := (f9.wr W11)
  have f15 := ((((F_ordinal_r1.other W2 (Or.inl (ne_exa f13 f14 (by decide)))).other W5 (Or.inl (ne_exa f13 f14 (by decide)))).other W8 (Or.inl (ne_exa f13 f14 (by decide)))).other W11 (Or.inl (ne_exa f13 f14 (by decide))))
  obtain ⟨cq12, kq12, q12a, q12b, q12c⟩ := isOf hZ e11 f13
  obtain ⟨_, _, ⟨T12, L12, j12, i12⟩, -, X12, ⟨Lc12, hQ12, l12, y12, z12⟩, st12⟩ := X11.virtualBackUp hx (owner := cS25) (x := (⟨cS2, "ordinal", "()I"⟩ : MethodName)) (y := (⟨cS25, "ordinal", "()I"⟩ : MethodName)) hown (mvT hZ (own_at hw 68 rfl)) (mvT hZ (own_at hw 69 rfl)) (mvT hZ (own_at hw 70 rfl)) (by decide) (mvT hZ (own_at hw 72 rfl)) (mvT hZ (own_at hw 71 rfl)) (backOf (W := 1) (rm10 l Z a0 hw [] r1 (2 : Int32) h11 n0 (Nat.le_trans (Nat.le_trans (Nat.le_trans (Nat.le_trans Z0 (Keep.of_wr W2).1) (Keep.of_wr W5).1) (Keep.of_wr W8).1) (Keep.of_wr W11).1) f15) hZ (own_at hw 74 rfl) (own_at hw 73 rfl) (by decide) (by decide)) q12a q12c (g := (mkF m 28 #[rv r0, rv r1, rv r2, .val .null, rv r4, .unset, .unset, .unset] [(.ref r1), (.int 31)])) rfl (by rw [hml]; rfl) (Steps.refl _) (argsL := []) (rest := [(.int 31)]) (lenOf pd_5 rfl) rfl (Nat.le_refl _) (hb hby d9_28) (fun _ _ => ⟨rfl, e11, (by decide : 0 + 0 ≤ _), (by decide : 0 + 0 ≤ _)⟩)
  dsimp only [Pt.U, Pt.locs, Pt.cells, Pt.slots] at X12 l12 y12 z12 st12 hQ12
  subst l12 y12 z12
  obtain ⟨rfl, N12q, e12⟩ := hQ12
  have N12 := Fr.app N11 N12q
  have f17 := ((((S_CS.wr W2).wr W5).wr W8).wr W11)
  have f18 := ((((E_r2.wr W2).wr W5).wr W8).wr W11)
  have f19 := ((((F_coder_r2.other W2 (Or.inl (ne_exa f18 f14 (by decide)))).other W5 (Or.inl (ne_exa f18 f14 (by decide)))).other W8 (Or.inl (ne_exa f18 f14 (by decide)))).other W11 (Or.inl (ne_exa f18 f14 (by decide))))
  have f20 := ((((F_value_r2.other W2 (Or.inl (ne_exa f18 f14 (by decide)))).other W5 (Or.inl (ne_exa f18 f14 (by decide)))).other W8 (Or.inl (ne_exa f18 f14 (by decide)))).other W11 (Or.inl (ne_exa f18 f14 (by decide))))
  have f21 := ((((F_hash_r2.other W2 (Or.inl (ne_exa f18 f14 (by decide)))).other W5 (Or.inl (ne_exa f18 f14 (by decide)))).other W8 (Or.inl (ne_exa f18 f14 (by decide)))).other W11 (Or.inl (ne_exa f18 f14 (by decide))))
  have f22 := ((((F_hashIsZero_r2.other W2 (Or.inl (ne_exa f18 f14 (by decide)))).other W5 (Or.inl (ne_exa f18 f14 (by decide)))).other W8 (Or.inl (ne_exa f18 f14 (by decide)))).other W11 (Or.inl (ne_exa f18 f14 (by decide))))
  have f23 := ((((V_va.other W2 ne_va_r0).other W5 ne_va_r0).other W8 ne_va_r0).other W11 ne_va_r0)
  obtain ⟨_, T16, L16, X16, hQ16, st16⟩ := own_cS 1 (rm11_s l Z a0 hw [] r2 w_CS va kB x0 h11 n0 (Nat.le_trans (Nat.le_trans (Nat.le_trans (Nat.le_trans Z0 (Keep.of_wr W2).1) (Keep.of_wr W5).1) (Keep.of_wr W8).1) (Keep.of_wr W11).1) f17 hcs f18 f19 f20 f21 f22 f23 ge_r2) X12 hx hZ hown hw 77 78 47 79 rfl rfl rfl rfl 33 #[rv r0, rv r1, rv r2, .val .null, rv r4, .unset, .unset, .unset] [(.ref r2)] [(.int 62)] (hb hby d9_33) hml (lenOf pd_8 rfl) e12 rfl (Nat.le_refl _) (by decide)
  have f24 := ((((E_r4.wr W2).wr W5).wr W8).wr W11)
  have f25 := ((((V_el.other W2 ne_el_r0).other W5 ne_el_r0).other W8 ne_el_r0).other W11 ne_el_r0)
  obtain ⟨rfl, N16q, K16, p16_0⟩ := hQ16
  have pl16 := (allS (P := fun x => ∃ cell : Cell, h11[x]? = some cell ∧ cell.vm.isStatics = false) (own_ns f18) all0)
  have N16 := Fr.app N12 N16q
  obtain ⟨_, T26, L26, X26, hQ26, st26⟩ := own_cS 1 (rm11_n l Z a0 hw []  T16.heap n0 (Nat.le_trans (Nat.le_trans (Nat.le_trans (Nat.le_trans (Nat.le_trans Z0 (Keep.of_wr W2).1) (Keep.of_wr W5).1) (Keep.of_wr W8).1) (Keep.of_wr W11).1) K16.1) ) X16 hx hZ hown hw 77 78 47 79 rfl rfl rfl rfl 38 #[rv r0, rv r1, rv r2, .val .null, rv r4, .unset, .unset, .unset] [.null] [(.int ((62 : Int32) + (x0 &&& (255 : Int32))))] (hb hby d9_38) hml (lenOf pd_8 rfl) rfl rfl (Nat.le_refl _) (by decide)
  obtain ⟨rfl, N26q, e26⟩ := hQ26
  have N26 := Fr.app N16 N26q
  have f28 := (f24.keep K16)
  have f29 := (f14.keep K16)
  have f30 := (((((F_elements_r4.other W2 (Or.inl (ne_exa f28 f29 (by decide)))).other W5 (Or.inl (ne_exa f28 f29 (by decide)))).other W8 (Or.inl (ne_exa f28 f29 (by decide)))).other W11 (Or.inl (ne_exa f28 f29 (by decide)))).keep K16 (ninS (ne_exa f28 p16_0 (by decide)) nin0))
  have f31 := (f25.keep K16 (ninS ne_el_r2 nin0))
  obtain ⟨_, T27, L27, X27, hQ27, st27⟩ := own_cI 0 (rm15_0 l Z a0 hw [] r4 el kE T16.heap n0 (Nat.le_trans (Nat.le_trans (Nat.le_trans (Nat.le_trans (Nat.le_trans Z0 (Keep.of_wr W2).1) (Keep.of_wr W5).1) (Keep.of_wr W8).1) (Keep.of_wr W11).1) K16.1) f28 f30 f31) X26 hx hZ hown hw 98 99 100 101 102 103 104 105 107 106 rfl rfl rfl rfl rfl rfl rfl rfl rfl rfl r4 f28 46 #[rv r0, rv r1, rv r2, .val .null, rv r4, iv (((62 : Int32) + (x0 &&& (255 : Int32))) + (0 : Int32)), .unset, .unset] [] [] (hb hby d9_46) hml (lenOf pd_9 rfl) e26 rfl (Nat.le_refl _) (by decide)
  have f32 := (f13.keep K16)
  have f33 := (f23.keep K16 (ninS ne_va_r2 nin0))
  obtain ⟨it_27, rfl, N27q, K27, p27_0, p27_1, p27_2, p27_3, p27_4⟩ := hQ27
  have g_it_27 : n0 ≤ it_27 := Nat.le_trans (Nat.le_trans (Nat.le_trans (Nat.le_trans (Nat.le_trans (Nat.le_trans Z0 (Keep.of_wr W2).1) (Keep.of_wr W5).1) (Keep.of_wr W8).1) (Keep.of_wr W11).1) K16.1) p27_0
  have sz_it_27 : h0.size ≤ it_27 := Nat.le_trans ((((((Keep.refl h0 [r0, r2]).wr W2 (Or.inl (List.mem_of_getElem? (i := 0) rfl))).wr W5 (Or.inl (List.mem_of_getElem? (i := 0) rfl))).wr W8 (Or.inl (List.mem_of_getElem? (i := 0) rfl))).wr W11 (Or.inl (List.mem_of_getElem? (i := 0) rfl))).trans K16 (allS (Or.inl (List.mem_of_getElem? (i := 1) rfl)) all0)).1 p27_0
  have N27 := Fr.app N26 N27q
  obtain ⟨_, T34, L34, X34, hQ34, st34⟩ := own_cI 0 (rm18_t l Z a0 hw [] it_27 (0 : Int32) (0 : Int32) T27.heap n0 (Nat.le_trans (Nat.le_trans (Nat.le_trans (Nat.le_trans (Nat.le_trans (Nat.le_trans Z0 (Keep.of_wr W2).1) (Keep.of_wr W5).1) (Keep.of_wr W8).1) (Keep.of_wr W11).1) K16.1) K27.1) p27_4 p27_3 (by decide : (0 : Int32) = (0 : Int32))) X27 hx hZ hown hw 133 134 135 136 137 138 139 140 141 110 rfl rfl rfl rfl rfl rfl rfl rfl rfl rfl it_27 p27_1 55 #[rv r0, rv r1, rv r2, .val .null, rv r4, iv (((62 : Int32) + (x0 &&& (255 : Int32))) + (0 : Int32)), rv it_27, .unset] [] [] (hb hby d9_55) hml (lenOf pd_3 rfl) rfl rfl (Nat.le_refl _) (by decide)
  obtain ⟨rfl, N34q, e34⟩ := hQ34
  have N34 := Fr.app N27 N34q
  have f35 := (f29.keep K27)
  have f36 := (p16_0.keep K27)
  have f37 := ((((((F_hash_r0.other W2 (Or.inr (slot_ne (Or.inr (own_at hw 143 rfl)) (Or.inr (own_at hw 61 rfl)) (by decide) (t := .int) (t' := (.object cS2)) (by decide) (by decide)))).other W5 (Or.inr (slot_ne (Or.inr (own_at hw 143 rfl)) (Or.inr (own_at hw 63 rfl)) (by decide) (t := .int) (t' := (.object cS8)) (by decide) (by decide)))).other W8 (Or.inr (slot_ne (Or.inr (own_at hw 143 rfl)) (Or.inr (own_at hw 65 rfl)) (by decide) (t := .int) (t' := (.object cS9)) (by decide) (by decide)))).other W11 (Or.inr (slot_ne (Or.inr (own_at hw 143 rfl)) (Or.inr (own_at hw 67 rfl)) (by decide) (t := .int) (t' := (.object cS11)) (by decide) (by decide)))).keep K16 (ninS (ne_exa f35 f36 (by decide)) nin0)).keep K27 nin0)
  obtain ⟨T38, h38, X38, e38, W38, st38⟩ := putF X34 hx hZ hown (host := "") (Or.inl (own_at hw 142 rfl)) Via.refl e34 f37 f35 (Or.inr ⟨(own_at hw 143 rfl), rfl, hnm⟩) (own_at hw 38 rfl) (ty := .int) (by decide) rfl rfl (g := (mkF m 94 #[rv r0, rv r1, rv r2, .val .null, rv r4, iv (((62 : Int32) + (x0 &&& (255 : Int32))) + (0 : Int32)), rv it_27, .unset] [(.int (((62 : Int32) + (x0 &&& (255 : Int32))) + (0 : Int32))), (.ref r0)])) rfl rfl (hb hby d9_94)
  have Fw38 : Fld Z h38 r0 cS0 "hash" "I" (.int (((62 : Int32) + (x0 &&& (255 : Int32))) + (0 : Int32))) := f37.same W38
  have N38 := Fr.snoc X38 N34 ge_r0
  have f39 := (f35.wr W38)
  have f40 := (f36.wr W38)
  have f41 := ((((((Fw2.other W5 (Or.inr (slot_ne (Or.inr (own_at hw 61 rfl)) (Or.inr (own_at hw 63 rfl)) (by decide) (t := (.object cS2)) (t' := (.object cS8)) (by decide) (by decide)))).other W8 (Or.inr (slot_ne (Or.inr (own_at hw 61 rfl)) (Or.inr (own_at hw 65 rfl)) (by decide) (t := (.object cS2)) (t' := (.object cS9)) (by decide) (by decide)))).other W11 (Or.inr (slot_ne (Or.inr (own_at hw 61 rfl)) (Or.inr (own_at hw 67 rfl)) (by decide) (t := (.object cS2)) (t' := (.object cS11)) (by decide) (by decide)))).keep K16 (ninS (ne_exa f39 f40 (by decide)) nin0)).keep K27 nin0).other W38 (Or.inr (slot_ne (Or.inr (own_at hw 61 rfl)) (Or.inr (own_at hw 143 rfl)) (by decide) (t := (.object cS2)) (t' := .int) (by decide) (by decide))))
  have f42 := (((((Fw5.other W8 (Or.inr (slot_ne (Or.inr (own_at hw 63 rfl)) (Or.inr (own_at hw 65 rfl)) (by decide) (t := (.object cS8)) (t' := (.object cS9)) (by decide) (by decide)))).other W11 (Or.inr (slot_ne (Or.inr (own_at hw 63 rfl)) (Or.inr (own_at hw 67 rfl)) (by decide) (t := (.object cS8)) (t' := (.object cS11)) (by decide) (by decide)))).keep K16 (ninS (ne_exa f39 f40 (by decide)) nin0)).keep K27 nin0).other W38 (Or.inr (slot_ne (Or.inr (own_at hw 63 rfl)) (Or.inr (own_at hw 143 rfl)) (by decide) (t := (.object cS8)) (t' := .int) (by decide) (by decide))))
  have f43 := ((((Fw8.other W11 (Or.inr (slot_ne (Or.inr (own_at hw 65 rfl)) (Or.inr (own_at hw 67 rfl)) (by decide) (t := (.object cS9)) (t' := (.object cS11)) (by decide) (by decide)))).keep K16 (ninS (ne_exa f39 f40 (by decide)) nin0)).keep K27 nin0).other W38 (Or.inr (slot_ne (Or.inr (own_at hw 65 rfl)) (Or.inr (own_at hw 143 rfl)) (by decide) (t := (.object cS9)) (t' := .int) (by decide) (by decide))))
  have f44 := (((Fw11.keep K16 (ninS (ne_exa f39 f40 (by decide)) nin0)).keep K27 nin0).other W38 (Or.inr (slot_ne (Or.inr (own_at hw 67 rfl)) (Or.inr (own_at hw 143 rfl)) (by decide) (t := (.object cS11)) (t' := .int) (by decide) (by decide))))
  refine own_out X38 Bd.notSynchronized Bd.returns (none) (fun _ => rfl) (by decide) (by decide) ?_ fun fs hr => k0 _ ?_
  · rw [e38]; exact ⟨(((62 : Int32) + (x0 &&& (255 : Int32))) + (0 : Int32)), rfl, N38, ((((((((Keep.refl h0 [r0, r2]).wr W2 (Or.inl (List.mem_of_getElem? (i := 0) rfl))).wr W5 (Or.inl (List.mem_of_getElem? (i := 0) rfl))).wr W8 (Or.inl (List.mem_of_getElem? (i := 0) rfl))).wr W11 (Or.inl (List.mem_of_getElem? (i := 0) rfl))).trans K16 (allS (Or.inl (List.mem_of_getElem? (i := 1) rfl)) all0)).trans K27 all0).wr W38 (Or.inl (List.mem_of_getElem? (i := 0) rfl))), f39, f41, f42, f43, f44, Fw38⟩
  · show OwnS p e below s₁ (mkF m 0 #[rv r0, rv r1, rv r2, .val .null, rv r4, .unset, .unset, .unset] []) _
    refine oAn X0 hx hby d9_0 rfl rfl ?_
    refine st1 _ ?_
    refine oAn X1 hx hby d9_4 rfl rfl (oAn X1 hx hby d9_5 rfl rfl ?_)
    refine st2 _ ?_
    refine oAn X2 hx hby d9_9 rfl rfl (oAn X2 hx hby d9_10 rfl rfl ?_)
    refine st5 _ ?_
    refine oAn X5 hx hby d9_14 rfl rfl (oAn X5 hx hby d9_15 rfl rfl ?_)
    refine st8 _ ?_
    refine oAn X8 hx hby d9_19 rfl rfl (oAl X8 hx hby d9_20 rfl rfl ?_)
    refine st11 _ ?_
    refine oBp X11 hx hby d9_25 (oAn X11 hx hby d9_27 rfl rfl ?_)
    refine st12.trans ?_
    refine XS.imul X12.here hx rfl (hb hby d9_31) rfl ?_
    refine oAn X12 hx hby d9_32 rfl rfl ?_
    refine st16 _ ?_
    refine XS.iadd X16.here hx rfl (hb hby d9_36) rfl ?_
    refine oAn X16 hx hby d9_37 rfl rfl ?_
    refine st26 _ ?_
    refine XS.iadd X26.here hx rfl (hb hby d9_41) rfl ?_
    refine XS.istore X26.here hx rfl (hb hby d9_42) rfl (l' := #[rv r0, rv r1, rv r2, .val .null, rv r4, iv (((62 : Int32) + (x0 &&& (255 : Int32))) + (0 : Int32)), .unset, .unset]) rfl ?_
    refine oAl X26 hx hby d9_44 rfl rfl ?_
    refine st27 _ ?_
    refine XS.astore X27.here hx rfl (hb hby d9_51) rfl rfl (l' := #[rv r0, rv r1, rv r2, .val .null, rv r4, iv (((62 : Int32) + (x0 &&& (255 : Int32))) + (0 : Int32)), rv it_27, .unset]) rfl ?_
    refine oAl X27 hx hby d9_53 rfl rfl ?_
    refine st34 _ ?_
    show OwnS p e below T34 (mkF m 60 #[rv r0, rv r1, rv r2, .val .null, rv r4, iv (((62 : Int32) + (x0 &&& (255 : Int32))) + (0 : Int32)), rv it_27, .unset] [(.int 0)]) _
    refine XS.ifYes X34.here hx rfl (pc0 := 60) (pc' := 91) rfl (hb hby d9_60) rfl ((if0 _ _).trans (teq (by decide : (0 : Int32) = (0 : Int32))).1) (by decide) (by decide) ?_
    refine oAn X34 hx hby d9_91 rfl rfl (oIl X34 hx hby d9_92 rfl ?_)
    refine st38 _ ?_
    exact X38.returnOut hx Bd.returns (hb hby d9_97) hr
theorem pd_11 : parseMethodDescriptor "(Ljava/lang/Object;Ljava/lang/String;)Ljava/lang/Object;" = some ⟨[(.object cS3), (.object cS8)], some (.object cS3)⟩ := by decide +kernel
theorem pd_12 : parseMethodDescriptor "()Ljava/util/List;" = some ⟨[], some (.object cS11)⟩ := by decide +kernel
theorem pd_13 : parseMethodDescriptor cS12 = some ⟨[(.object cS2), (.object cS8), (.object cS9), (.object cS11)], none⟩ := by decide +kernel
theorem d6_0 : decode prog_5_method_2_code 0 = .ok (.new 8, 3) := by decide +kernel
theorem d6_3 : decode prog_5_method_2_code 3 = .ok (.dup, 1) := by decide +kernel
theorem d6_4 : decode prog_5_method_2_code 4 = .ok (.getstatic 57, 3) := by decide +kernel
theorem d6_7 : decode prog_5_method_2_code 7 = .ok (.aload_n 0, 1) := by decide +kernel
theorem d6_8 : decode prog_5_method_2_code 8 = .ok (.ldc 60, 2) := by decide +kernel
theorem d6_10 : decode prog_5_method_2_code 10 = .ok (.invokestatic 62, 3) := by decide +kernel
theorem d6_13 : decode prog_5_method_2_code 13 = .ok (.checkcast 66, 3) := by decide +kernel
theorem d6_16 : decode prog_5_method_2_code 16 = .ok (.aconst_null, 1) := by decide +kernel
theorem d6_17 : decode prog_5_method_2_code 17 = .ok (.invokestatic 68, 3) := by decide +kernel
theorem d6_20 : decode prog_5_method_2_code 20 = .ok (.invokespecial 72, 3) := by decide +kernel
theorem d6_23 : decode prog_5_method_2_code 23 = .ok (.areturn, 1) := by decide +kernel
theorem ef_6 (m : MethodId) (x0 : Addr) : entryFrame m #[(.ref x0)] 1 = mkF m 0 #[.val (.ref x0)] [] := by first | (simp [entryFrame, mkF, argsToLocals, Value.category]; done) | rfl
def Q_6 (Z : State) (r0 : Addr) (w_CS : Int32) (va : Addr) (kB : ClassId) (x0 : Int32) (w_NAME w_EMPTY_LIST wel : Addr) (kW : ClassId) (h0 : Heap) (n0 : Nat) (v : Option Value) (h : Heap) (L : List Loc) : Prop := ∃ ob : Addr, ∃ hv : Int32, v = some (.ref ob) ∧ Fr n0 L ∧ Keep h0 h [r0] ∧ h0.size ≤ ob ∧ Exa Z h ob cS0 ∧ Fld Z h ob cS0 "hash" "I" (.int hv)
theorem rm6 (l : Launch) (Z : State) (a0 : Array Value) (hw : ∀ d ∈ tables_1, d.before a0 Z = true) (ws : List Jvm.Cond) (r0 : Addr) (w_CS : Int32) (va : Addr) (kB : ClassId) (x0 : Int32) (w_NAME w_EMPTY_LIST wel : Addr) (kW : ClassId) (h0 : Heap) (n0 : Nat) (Z0 : n0 ≤ h0.size) (S_CS : Sta Z h0 cS8 "COMPACT_STRINGS" "Z" (.int w_CS)) (hcs : ¬ (w_CS = (0 : Int32))) (E_r0 : Exa Z h0 r0 cS8) (F_coder_r0 : Fld Z h0 r0 cS8 "coder" "B" (.int 0)) (F_value_r0 : Fld Z h0 r0 cS8 "value" "[B" (.ref va)) (F_hash_r0 : Fld Z h0 r0 cS8 "hash" "I" (.int 0)) (F_hashIsZero_r0 : Fld Z h0 r0 cS8 "hashIsZero" "Z" (.int 0)) (V_va : Arv Z h0 va kB .byte (1 : Int32) [(.int x0)] (.int 0)) (S_NAME : Sta Z h0 cS2 "NAME" cS10 (.ref w_NAME)) (E_w_NAME : Exa Z h0 w_NAME cS2) (F_ordinal_w_NAME : Fld Z h0 w_NAME cS25 "ordinal" "I" (.int 2)) (S_EMPTY_LIST : Sta Z h0 cS14 "EMPTY_LIST" "Ljava/util/ImmutableCollections$ListN;" (.ref w_EMPTY_LIST)) (E_w_EMPTY_LIST : Exa Z h0 w_EMPTY_LIST cS7) (F_elements_w_EMPTY_LIST : Fld Z h0 w_EMPTY_LIST cS7 "elements" cS6 (.ref wel)) (V_wel : Arv Z h0 wel kW (.object cS3) (0 : Int32) [] .null) (ge_r0 : n0 ≤ r0) (ne_wel_r0 : wel ≠ r0) (ne_va_r0 : va ≠ r0) :
    MetFree l (⟨cS0, "named", "(Ljava/lang/String;)Lcom/example/tablox/tablox/concept/Concept;"⟩ : MethodName) (head1 (Jvm.Cond.code (⟨cS0, "named", "(Ljava/lang/String;)Lcom/example/tablox/tablox/concept/Concept;"⟩ : MethodName) prog_5_method_2_code 1 (some (.object cS0)) :: ws) ({ frames := 4, cells := 4, slots := 25, locals := 59 } : Room)) (fun a U => a = #[(.ref r0)] ∧ Z.Warmed39 U.vm ∧ U.heap = h0 ∧ CHv Z own_EL U.vm h0) (fun _ _ _ _ _ => True) (fun _ U o U' => ∃ v L, o = .returned v ∧ Q_6 Z r0 w_CS va kB x0 w_NAME w_EMPTY_LIST wel kW h0 n0 v U'.heap L ∧ CHr Z own_EL U.vm U.heap U'.vm U'.heap ∧ ReturnedEndW U o U' L 4 25) := by
  refine MetFree.of_bodySF (plainFor_of_name pn_com_example_tablox_tablox_concept_Concept) hisR ?_
  intro p e s m args below meth c s₁ Bd hml0 hP hK
  obtain ⟨rfl, hZ, hh, H0c⟩ := hP
  have hx := Bd.exec
  have hby := Bd.bytes
  have hml : c.maxLocals = 1 := hml0
  have hown : (s.setVm s.vm).vm.findClass cS0 = some m.cls := findClass_of_methodNamed Bd.named
  have hnm := (name_of_methodNamed Bd.named Bd.method).1
  have X0 : Stand p l e ({ frames := 4, cells := 4, slots := 25, locals := 59 } : Room) (s.setVm s.vm) m #[(.ref r0)] below meth c s₁ [] 0 0 := Stand.of_body Bd
  have e0 : s₁.heap = h0 := by rw [← hh, Bd.state]; rfl
  have N0 := Fr.nil n0
  have k0 : ∀ t, OwnS p e below s₁ (mkF m 0 #[rv r0] []) t → OwnS p e below s₁ (entryFrame m #[(.ref r0)] 1) t := fun t k => castTop (ef_6 m r0) k
  have hZ : Z.Warmed39 (s.setVm s.vm).vm := hZ
  have hS0 : s.Since s.vm h0.size := (State.WarmedH.refl s).since _
  have hk0 : h0.size ≤ h0.size := Nat.le_refl _
  have R0c := CHr.refl H0c
  obtain ⟨T1, h1, X1, e1, E1, A1, D1, -, st1⟩ := newO X0 hx hZ hown (own_at hw 37 rfl) (own_at hw 38 rfl) (own_at hw 3 rfl) e0 (g := (mkF m 0 #[rv r0] [])) rfl (hb hby d6_0) (by decide) (by decide)
  obtain ⟨b1, g1⟩ : ∃ z, z = h0.size := ⟨_, rfl⟩
  rw [← g1] at A1 D1 st1
  have g_b1 : n0 ≤ b1 := Nat.le_trans Z0 (Nat.le_of_eq g1.symm)
  have sz_b1 : h0.size ≤ b1 := Nat.le_trans (Keep.refl h0 []).1 (Nat.le_of_eq g1.symm)
  have hk1 := Nat.le_trans hk0 E1.1
  have F_kind_b1 : Fld Z h1 b1 cS0 "kind" cS10 .null := D1 (Or.inr (own_at hw 61 rfl)) (ty := (.object cS2)) (by decide)
  have F_name_b1 : Fld Z h1 b1 cS0 "name" cS23 .null := D1 (Or.inr (own_at hw 63 rfl)) (ty := (.object cS8)) (by decide)
  have F_role_b1 : Fld Z h1 b1 cS0 "role" cS15 .null := D1 (Or.inr (own_at hw 65 rfl)) (ty := (.object cS9)) (by decide)
  have F_operands_b1 : Fld Z h1 b1 cS0 "operands" cS18 .null := D1 (Or.inr (own_at hw 67 rfl)) (ty := (.object cS11)) (by decide)
  have F_hash_b1 : Fld Z h1 b1 cS0 "hash" "I" (.int 0) := D1 (Or.inr (own_at hw 143 rfl)) (ty := .int) (by decide)
  have f2 := (S_NAME.ext E1)
  obtain ⟨T3, X3, e3, st3⟩ := getS2 X1 hx hZ hown (host := "") (Or.inl (own_at hw 39 rfl)) Via.refl e1 f2 (g := (mkF m 4 #[rv r0] [(.ref b1), (.ref b1)])) rfl (hb hby d6_4)
  have f5 := (E_r0.ext E1)
  have f6 := (V_va.ext E1)
  have f7 := (E_w_NAME.ext E1)
  have f8 := (E_w_EMPTY_LIST.ext E1)
  have f9 := (V_wel.ext E1)
  obtain ⟨a4, T4, h4, k14, X4, e4, E4, hS4, hk4, hZ4, hown4, CR4, LT4, st4⟩ := ldcOH X3 hx hZ hown (own_at hw 42 rfl) (own_ws hw) e3 hS0 hk1 (own_ew hw) own_ch (g := (mkF m 8 #[rv r0] [(.ref r0), (.ref w_NAME), (.ref b1), (.ref b1)])) rfl (hb hby d6_8) (n := 12) (by decide) (by decide) (by decide) (by decide)
  obtain ⟨_, T10, L10, X10, hQ10, st10⟩ := own_cS 3 (rm7 l Z a0 hw [] r0 a4 h4 n0 (Nat.le_trans (Nat.le_trans Z0 E1.1) E4.1) ) X4 hx hZ4 hown4 hw 45 46 47 48 rfl rfl rfl rfl 10 #[rv r0] [(.ref r0), (.ref a4)] [(.ref w_NAME), (.ref b1), (.ref b1)] (hb hby d6_10) hml (lenOf pd_11 rfl) e4 rfl (Nat.le_refl _) (by decide)
  obtain ⟨rfl, N10q, e10⟩ := hQ10
  have N10 := Fr.app N0 N10q
  have f11 := (f5.ext E4)
  obtain ⟨T12, X12, e12, st12⟩ := castY X10 hx hZ4 hown4 (own_at hw 49 rfl) e10 (Ins.self f11) (g := (mkF m 13 #[rv r0] [(.ref r0), (.ref w_NAME), (.ref b1), (.ref b1)])) rfl rfl (hb hby d6_13)
  have f14 := ((S_EMPTY_LIST.ext E1).ext E4)
  obtain ⟨_, T13, L13, X13, hQ13, st13⟩ := own_cS 5 (rm8 l Z a0 hw [] w_EMPTY_LIST h4 n0 (Nat.le_trans (Nat.le_trans Z0 E1.1) E4.1) f14) X12 hx hZ4 hown4 hw 50 51 52 53 rfl rfl rfl rfl 17 #[rv r0] [] [.null, (.ref r0), (.ref w_NAME), (.ref b1), (.ref b1)] (hb hby d6_17) hml (lenOf pd_12 rfl) e12 rfl (Nat.le_refl _) (by decide)
  obtain ⟨rfl, N13q, e13⟩ := hQ13
  have N13 := Fr.app N10 N13q
  have f16 := ((S_CS.ext E1).ext E4)
  have f17 := (A1.ext E4)
  have f18 := (f7.ext E4)
  have f19 := ((F_ordinal_w_NAME.ext E1).ext E4)
  have f20 := ((F_coder_r0.ext E1).ext E4)
  have f21 := ((F_value_r0.ext E1).ext E4)
  have f22 := ((F_hash_r0.ext E1).ext E4)
  have f23 := ((F_hashIsZero_r0.ext E1).ext E4)
  have f24 := (f6.ext E4)
  have f25 := (f8.ext E4)
  have f26 := ((F_elements_w_EMPTY_LIST.ext E1).ext E4)
  have f27 := (f9.ext E4)
  have f28 := (F_kind_b1.ext E4)
  have f29 := (F_name_b1.ext E4)
  have f30 := (F_role_b1.ext E4)
  have f31 := (F_operands_b1.ext E4)
  have f32 := (F_hash_b1.ext E4)
  obtain ⟨_, _, ⟨T15, L15, j15, i15⟩, -, X15, ⟨Lc15, hQ15, l15, y15, z15⟩, st15⟩ := X13.specialBack hx (y := (⟨cS0, "<init>", cS12⟩ : MethodName)) rfl hown4 (mvT hZ4 (own_at hw 56 rfl)) (mvT hZ4 (own_at hw 57 rfl)) (mvT hZ4 (own_at hw 58 rfl)) (by decide) (backOf (W := 1) (rm9_s l Z a0 hw [] b1 w_NAME r0 w_EMPTY_LIST wel kW w_CS va kB x0 .null .null .null .null (.int 0) h4 n0 (Nat.le_trans (Nat.le_trans Z0 E1.1) E4.1) f16 hcs f17 f18 f19 f11 f20 f21 f22 f23 f24 f25 f26 f27 f28 g_b1 f29 f30 f31 (Nat.ne_of_lt (Nat.lt_of_lt_of_le V_va.lt (Nat.le_of_eq g1.symm))) ge_r0 (Nat.ne_of_lt (Nat.lt_of_lt_of_le V_wel.lt (Nat.le_of_eq g1.symm))) ne_wel_r0 ne_va_r0 f32) hZ4 (own_at hw 58 rfl) (own_at hw 3 rfl) (by decide) (by decide)) (g := (mkF m 20 #[rv r0] [(.ref w_EMPTY_LIST), .null, (.ref r0), (.ref w_NAME), (.ref b1), (.ref b1)])) rfl (by rw [hml]; rfl) (Steps.refl _) (a := b1) (argsL := [(.ref w_NAME), (.ref r0), .null, (.ref w_EMPTY_LIST)]) (rest := [(.ref b1)]) (lenOf pd_13 rfl) rfl (Nat.le_refl _) (hb hby d6_20) (fun _ _ => ⟨rfl, e13, (by decide : 3 + 1 ≤ _), (by decide : 21 + 4 ≤ _)⟩)
  dsimp only [Pt.U, Pt.locs, Pt.cells, Pt.slots] at X15 l15 y15 z15 st15 hQ15
  subst l15 y15 z15
  obtain ⟨hv_15, rfl, N15q, K15, p15_0, p15_1, p15_2, p15_3, p15_4, p15_5⟩ := hQ15
  have pl15 := (allS (P := fun x => ∃ cell : Cell, h4[x]? = some cell ∧ cell.vm.isStatics = false) (own_ns f17) (allS (P := fun x => ∃ cell : Cell, h4[x]? = some cell ∧ cell.vm.isStatics = false) (own_ns f11) all0))
  have hk15 := Nat.le_trans hk4 K15.1
  have N15 := Fr.app N13 N15q
  obtain ⟨fs, hr, hrun, hended, hRW⟩ := X15.leaveW hS4 hk15 (v := some (.ref b1)) (fun h => by rw [Bd.returns] at h; cases h)
  have hCE : CHr Z own_EL s.vm s.heap T15.vm T15.heap := own_cr (by rw [hh]; exact ((((Keep.refl h0 [r0]).ext E1).ext E4).trans K15 (allS (Or.inr sz_b1) (allS (Or.inl (List.mem_of_getElem? (i := 0) rfl)) all0))).1)
  refine ⟨_, _, k0 _ ?_, hrun, hended, _, _, rfl, ?_, hCE, hRW.1, hRW.2.1, hRW.2.2.1, hRW.2.2.2.mono (by decide) (by decide)⟩
  · show OwnS p e below s₁ (mkF m 0 #[rv r0] []) _
    refine st1 _ ?_
    refine XS.dup X1.here hx rfl (hb hby d6_3) rfl rfl ?_
    refine st3 _ ?_
    refine oAn X3 hx hby d6_7 rfl rfl ?_
    refine st4 _ ?_
    refine st10 _ ?_
    refine st12 _ ?_
    refine XS.aconstNull X12.here hx rfl (hb hby d6_16) ?_
    refine st13 _ ?_
    refine st15.trans ?_
    jvm_step X15.here [X15.here.top, hx, (hb hby d6_23), X15.method', Bd.returns, Value.isRef, FieldType.isReference]
    first | (intro acts; rw [hr _ acts rfl rfl rfl]) | rw [hr _ _ rfl rfl rfl]
    exact Steps.refl _
  · show Q_6 Z _ _ _ _ _ _ _ _ _ h0 n0 _ T15.heap _
    exact ⟨b1, hv_15, rfl, N15, ((((Keep.refl h0 [r0]).ext E1).ext E4).trans K15 (allS (Or.inr sz_b1) (allS (Or.inl (List.mem_of_getElem? (i := 0) rfl)) all0))), sz_b1, p15_0, p15_5⟩
theorem d21_0 : decode jdk_22_method_1_code 0 = .ok (.aload_n 0, 1) := by decide +kernel
theorem d21_1 : decode jdk_22_method_1_code 1 = .ok (.invokespecial 1, 3) := by decide +kernel
theorem d21_4 : decode jdk_22_method_1_code 4 = .ok (.return_, 1) := by decide +kernel
theorem pn_java_util_AbstractCollection : plainName cS21 = true := by first | (simp [plainName, overriddenIn]; done) | decide +kernel
theorem ef_21 (m : MethodId) (x0 : Addr) : entryFrame m #[(.ref x0)] 1 = mkF m 0 #[.val (.ref x0)] [] := by first | (simp [entryFrame, mkF, argsToLocals, Value.category]; done) | rfl
def Q_21 (Z : State) (r0 : Addr) (h0 : Heap) (n0 : Nat) (v : Option Value) (h : Heap) (L : List Loc) : Prop := v = none ∧ Fr n0 L ∧ h = h0
theorem rm21 (l : Launch) (Z : State) (a0 : Array Value) (hw : own_HW a0 Z) (ws : List Jvm.Cond) (r0 : Addr) (h0 : Heap) (n0 : Nat) (Z0 : n0 ≤ h0.size) :
    own_M l Z (⟨cS21, "<init>", "()V"⟩ : MethodName) jdk_22_method_1_code 1 none ws ({ frames := 1, cells := 0, slots := 0, locals := 12 } : Room) #[(.ref r0)] h0 (Q_21 Z r0 h0 n0) := by
  refine own_in cS21 rfl (plainFor_of_name pn_java_util_AbstractCollection) ?_
  intro p e s m below meth c s₁ Bd hml hZ hh hx hby hown X0 e0
  have N0 := Fr.nil n0
  have k0 := own_k (p := p) (e := e) (below := below) (T := s₁) (ef_21 m r0)
  obtain ⟨T1, X1, e1, st1⟩ := initO X0 hx hZ hown (own_at hw 162 rfl) (own_at hw 28 rfl) (own_at hw 29 rfl) e0 (g := (mkF m 1 #[rv r0] [(.ref r0)])) rfl (by rw [hml]; rfl) rfl (hb hby d21_1) (by decide) (W := 0) (Nat.le_refl _) (by decide)
  refine own_out X1 Bd.notSynchronized Bd.returns (none) (fun _ => rfl) (by decide) (by decide) ?_ fun fs hr => k0 _ ?_
  · rw [e1]; exact ⟨rfl, N0, rfl⟩
  · show OwnS p e below s₁ (mkF m 0 #[rv r0] []) _
    refine oAn X0 hx hby d21_0 rfl rfl ?_
    refine st1 _ ?_
    exact X1.returnOut hx Bd.returns (hb hby d21_4) hr
theorem pd_14 : parseMethodDescriptor "()V" = some ⟨[], none⟩ := by decide +kernel
theorem d20_0 : decode jdk_39_method_1_code 0 = .ok (.aload_n 0, 1) := by decide +kernel
theorem d20_1 : decode jdk_39_method_1_code 1 = .ok (.invokespecial 1, 3) := by decide +kernel
theorem d20_4 : decode jdk_39_method_1_code 4 = .ok (.aload_n 0, 1) := by decide +kernel
theorem d20_5 : decode jdk_39_method_1_code 5 = .ok (.iconst 0, 1) := by decide +kernel
theorem d20_6 : decode jdk_39_method_1_code 6 = .ok (.putfield 7, 3) := by decide +kernel
theorem d20_9 : decode jdk_39_method_1_code 9 = .ok (.return_, 1) := by decide +kernel
theorem pn_java_util_AbstractList : plainName cS16 = true := by first | (simp [plainName, overriddenIn]; done) | decide +kernel
theorem ef_20 (m : MethodId) (x0 : Addr) : entryFrame m #[(.ref x0)] 1 = mkF m 0 #[.val (.ref x0)] [] := by first | (simp [entryFrame, mkF, argsToLocals, Value.category]; done) | rfl
def Q_20 (Z : State) (r0 : Addr) (h0 : Heap) (n0 : Nat) (v : Option Value) (h : Heap) (L : List Loc) : Prop := v = none ∧ Fr n0 L ∧ Keep h0 h [r0] ∧ Exa Z h r0 cS4 ∧ Fld Z h r0 cS16 "modCount" "I" (.int 0) ∧ Fld Z h r0 cS4 "elementData" cS6 .null ∧ Fld Z h r0 cS4 "size" "I" (.int 0)
theorem rm20 (l : Launch) (Z : State) (a0 : Array Value) (hw : own_HW a0 Z) (ws : List Jvm.Cond) (r0 : Addr) (h0 : Heap) (n0 : Nat) (Z0 : n0 ≤ h0.size) (E_r0 : Exa Z h0 r0 cS4) (F_modCount_r0 : Fld Z h0 r0 cS16 "modCount" "I" (.int 0)) (F_elementData_r0 : Fld Z h0 r0 cS4 "elementData" cS6 .null) (F_size_r0 : Fld Z h0 r0 cS4 "size" "I" (.int 0)) (ge_r0 : n0 ≤ r0) :
    own_M l Z (⟨cS16, "<init>", "()V"⟩ : MethodName) jdk_39_method_1_code 1 none ws ({ frames := 2, cells := 0, slots := 0, locals := 24 } : Room) #[(.ref r0)] h0 (Q_20 Z r0 h0 n0) := by
  refine own_in cS16 rfl (plainFor_of_name pn_java_util_AbstractList) ?_
  intro p e s m below meth c s₁ Bd hml hZ hh hx hby hown X0 e0
  have N0 := Fr.nil n0
  have k0 := own_k (p := p) (e := e) (below := below) (T := s₁) (ef_20 m r0)
  obtain ⟨_, _, ⟨T1, L1, j1, i1⟩, -, X1, ⟨Lc1, hQ1, l1, y1, z1⟩, st1⟩ := X0.specialBack hx (y := (⟨cS21, "<init>", "()V"⟩ : MethodName)) rfl hown (mvT hZ (own_at hw 156 rfl)) (mvT hZ (own_at hw 157 rfl)) (mvT hZ (own_at hw 161 rfl)) (by decide) (backOf (W := 0) (rm21 l Z a0 hw [] r0 h0 n0 Z0 ) hZ (own_at hw 161 rfl) (own_at hw 160 rfl) (by decide) (by decide)) (g := (mkF m 1 #[rv r0] [(.ref r0)])) rfl (by rw [hml]; rfl) (Steps.refl _) (a := r0) (argsL := []) (rest := []) (lenOf pd_14 rfl) rfl (Nat.le_refl _) (hb hby d20_1) (fun _ _ => ⟨rfl, e0, (by decide : 0 + 0 ≤ _), (by decide : 0 + 0 ≤ _)⟩)
  dsimp only [Pt.U, Pt.locs, Pt.cells, Pt.slots] at X1 l1 y1 z1 st1 hQ1
  subst l1 y1 z1
  obtain ⟨rfl, N1q, e1⟩ := hQ1
  have N1 := Fr.app N0 N1q
  obtain ⟨T2, h2, X2, e2, W2, st2⟩ := putF X1 hx hZ hown (host := "") (Or.inl (own_at hw 163 rfl)) Via.refl e1 F_modCount_r0 E_r0 (Or.inl (own_at hw 164 rfl)) (own_at hw 145 rfl) (ty := .int) (by decide) rfl rfl (g := (mkF m 6 #[rv r0] [(.int 0), (.ref r0)])) rfl rfl (hb hby d20_6)
  have Fw2 : Fld Z h2 r0 cS16 "modCount" "I" (.int 0) := F_modCount_r0.same W2
  have N2 := Fr.snoc X2 N1 ge_r0
  have f3 := (E_r0.wr W2)
  have f4 := (F_elementData_r0.other W2 (Or.inr (slot_ne (Or.inl (own_at hw 167 rfl)) (Or.inl (own_at hw 164 rfl)) (by decide) (t := (.array (.object cS3))) (t' := .int) (by decide) (by decide))))
  have f5 := (F_size_r0.other W2 (Or.inr (slot_ne (Or.inl (own_at hw 195 rfl)) (Or.inl (own_at hw 164 rfl)) (by decide) (t := .int) (t' := .int) (by decide) (by decide))))
  refine own_out X2 Bd.notSynchronized Bd.returns (none) (fun _ => rfl) (by decide) (by decide) ?_ fun fs hr => k0 _ ?_
  · rw [e2]; exact ⟨rfl, N2, ((Keep.refl h0 [r0]).wr W2 (Or.inl (List.mem_of_getElem? (i := 0) rfl))), f3, Fw2, f4, f5⟩
  · show OwnS p e below s₁ (mkF m 0 #[rv r0] []) _
    refine oAn X0 hx hby d20_0 rfl rfl ?_
    refine st1.trans ?_
    refine oAn X1 hx hby d20_4 rfl rfl (oIc X1 hx hby d20_5 ?_)
    refine st2 _ ?_
    exact X2.returnOut hx Bd.returns (hb hby d20_9) hr
theorem d19_0 : decode jdk_38_method_2_code 0 = .ok (.aload_n 0, 1) := by decide +kernel
theorem d19_1 : decode jdk_38_method_2_code 1 = .ok (.invokespecial 1, 3) := by decide +kernel
theorem d19_4 : decode jdk_38_method_2_code 4 = .ok (.aload_n 0, 1) := by decide +kernel
theorem d19_5 : decode jdk_38_method_2_code 5 = .ok (.getstatic 39, 3) := by decide +kernel
theorem d19_8 : decode jdk_38_method_2_code 8 = .ok (.putfield 9, 3) := by decide +kernel
theorem d19_11 : decode jdk_38_method_2_code 11 = .ok (.return_, 1) := by decide +kernel
theorem pn_java_util_ArrayList : plainName cS4 = true := by first | (simp [plainName, overriddenIn]; done) | decide +kernel
theorem ef_19 (m : MethodId) (x0 : Addr) : entryFrame m #[(.ref x0)] 1 = mkF m 0 #[.val (.ref x0)] [] := by first | (simp [entryFrame, mkF, argsToLocals, Value.category]; done) | rfl
def Q_19 (Z : State) (r0 w_DEFAULTCAPACITY_EMPTY_ELEMENTDATA : Addr) (h0 : Heap) (n0 : Nat) (v : Option Value) (h : Heap) (L : List Loc) : Prop := v = none ∧ Fr n0 L ∧ Keep h0 h [r0] ∧ Exa Z h r0 cS4 ∧ Fld Z h r0 cS16 "modCount" "I" (.int 0) ∧ Fld Z h r0 cS4 "elementData" cS6 (.ref w_DEFAULTCAPACITY_EMPTY_ELEMENTDATA) ∧ Fld Z h r0 cS4 "size" "I" (.int 0)
theorem rm19 (l : Launch) (Z : State) (a0 : Array Value) (hw : own_HW a0 Z) (ws : List Jvm.Cond) (r0 w_DEFAULTCAPACITY_EMPTY_ELEMENTDATA : Addr) (h0 : Heap) (n0 : Nat) (Z0 : n0 ≤ h0.size) (S_DEFAULTCAPACITY_EMPTY_ELEMENTDATA : Sta Z h0 cS4 "DEFAULTCAPACITY_EMPTY_ELEMENTDATA" cS6 (.ref w_DEFAULTCAPACITY_EMPTY_ELEMENTDATA)) (E_r0 : Exa Z h0 r0 cS4) (F_modCount_r0 : Fld Z h0 r0 cS16 "modCount" "I" (.int 0)) (F_elementData_r0 : Fld Z h0 r0 cS4 "elementData" cS6 .null) (F_size_r0 : Fld Z h0 r0 cS4 "size" "I" (.int 0)) (ge_r0 : n0 ≤ r0) :
    own_M l Z (⟨cS4, "<init>", "()V"⟩ : MethodName) jdk_38_method_2_code 1 none ws ({ frames := 3, cells := 0, slots := 0, locals := 36 } : Room) #[(.ref r0)] h0 (Q_19 Z r0 w_DEFAULTCAPACITY_EMPTY_ELEMENTDATA h0 n0) := by
  refine own_in cS4 rfl (plainFor_of_name pn_java_util_ArrayList) ?_
  intro p e s m below meth c s₁ Bd hml hZ hh hx hby hown X0 e0
  have N0 := Fr.nil n0
  have k0 := own_k (p := p) (e := e) (below := below) (T := s₁) (ef_19 m r0)
  obtain ⟨_, _, ⟨T1, L1, j1, i1⟩, -, X1, ⟨Lc1, hQ1, l1, y1, z1⟩, st1⟩ := X0.specialBack hx (y := (⟨cS16, "<init>", "()V"⟩ : MethodName)) rfl hown (mvT hZ (own_at hw 150 rfl)) (mvT hZ (own_at hw 151 rfl)) (mvT hZ (own_at hw 155 rfl)) (by decide) (backOf (W := 0) (rm20 l Z a0 hw [] r0 h0 n0 Z0 E_r0 F_modCount_r0 F_elementData_r0 F_size_r0 ge_r0) hZ (own_at hw 155 rfl) (own_at hw 154 rfl) (by decide) (by decide)) (g := (mkF m 1 #[rv r0] [(.ref r0)])) rfl (by rw [hml]; rfl) (Steps.refl _) (a := r0) (argsL := []) (rest := []) (lenOf pd_14 rfl) rfl (Nat.le_refl _) (hb hby d19_1) (fun _ _ => ⟨rfl, e0, (by decide : 0 + 0 ≤ _), (by decide : 0 + 0 ≤ _)⟩)
  dsimp only [Pt.U, Pt.locs, Pt.cells, Pt.slots] at X1 l1 y1 z1 st1 hQ1
  subst l1 y1 z1
  obtain ⟨rfl, N1q, K1, p1_0, p1_1, p1_2, p1_3⟩ := hQ1
  have pl1 := (allS (P := fun x => ∃ cell : Cell, h0[x]? = some cell ∧ cell.vm.isStatics = false) (own_ns E_r0) all0)
  have N1 := Fr.app N0 N1q
  have f2 := (own_sta_keep S_DEFAULTCAPACITY_EMPTY_ELEMENTDATA K1 pl1)
  obtain ⟨T3, X3, e3, st3⟩ := getS2 X1 hx hZ hown (host := "") (Or.inl (own_at hw 165 rfl)) Via.refl rfl f2 (g := (mkF m 5 #[rv r0] [(.ref r0)])) rfl (hb hby d19_5)
  obtain ⟨T4, h4, X4, e4, W4, st4⟩ := putF X3 hx hZ hown (host := "") (Or.inl (own_at hw 166 rfl)) Via.refl e3 p1_2 p1_0 (Or.inl (own_at hw 167 rfl)) (own_at hw 145 rfl) (ty := (.array (.object cS3))) (by decide) rfl rfl (g := (mkF m 8 #[rv r0] [(.ref w_DEFAULTCAPACITY_EMPTY_ELEMENTDATA), (.ref r0)])) rfl rfl (hb hby d19_8)
  have Fw4 : Fld Z h4 r0 cS4 "elementData" cS6 (.ref w_DEFAULTCAPACITY_EMPTY_ELEMENTDATA) := p1_2.same W4
  have N4 := Fr.snoc X4 N1 ge_r0
  have f5 := (p1_0.wr W4)
  have f6 := (p1_1.other W4 (Or.inr (slot_ne (Or.inl (own_at hw 164 rfl)) (Or.inl (own_at hw 167 rfl)) (by decide) (t := .int) (t' := (.array (.object cS3))) (by decide) (by decide))))
  have f7 := (p1_3.other W4 (Or.inr (slot_ne (Or.inl (own_at hw 195 rfl)) (Or.inl (own_at hw 167 rfl)) (by decide) (t := .int) (t' := (.array (.object cS3))) (by decide) (by decide))))
  refine own_out X4 Bd.notSynchronized Bd.returns (none) (fun _ => rfl) (by decide) (by decide) ?_ fun fs hr => k0 _ ?_
  · rw [e4]; exact ⟨rfl, N4, (((Keep.refl h0 [r0]).trans K1 (allS (Or.inl (List.mem_of_getElem? (i := 0) rfl)) all0)).wr W4 (Or.inl (List.mem_of_getElem? (i := 0) rfl))), f5, f6, Fw4, f7⟩
  · show OwnS p e below s₁ (mkF m 0 #[rv r0] []) _
    refine oAn X0 hx hby d19_0 rfl rfl ?_
    refine st1.trans ?_
    refine oAn X1 hx hby d19_4 rfl rfl ?_
    refine st3 _ ?_
    refine st4 _ ?_
    exact X4.returnOut hx Bd.returns (hb hby d19_11) hr
theorem d30_0 : decode jdk_29_method_65_code 0 = .ok (.iload_n 0, 1) := by decide +kernel
theorem d30_1 : decode jdk_29_method_65_code 1 = .ok (.iload_n 1, 1) := by decide +kernel
theorem d30_2 : decode jdk_29_method_65_code 2 = .ok (.if_icmp .lt 7, 3) := by decide +kernel
theorem d30_5 : decode jdk_29_method_65_code 5 = .ok (.iload_n 0, 1) := by decide +kernel
theorem d30_6 : decode jdk_29_method_65_code 6 = .ok (.goto 4, 3) := by decide +kernel
theorem d30_10 : decode jdk_29_method_65_code 10 = .ok (.ireturn, 1) := by decide +kernel
theorem ef_30 (m : MethodId) (x0 : Int32) (x1 : Int32) : entryFrame m #[(.int x0), (.int x1)] 2 = mkF m 0 #[.val (.int x0), .val (.int x1)] [] := by first | (simp [entryFrame, mkF, argsToLocals, Value.category]; done) | rfl
def Q_30 (Z : State)  (h0 : Heap) (n0 : Nat) (v : Option Value) (h : Heap) (L : List Loc) : Prop := v = some (.int 10) ∧ Fr n0 L ∧ h = h0
theorem rm30 (l : Launch) (Z : State) (a0 : Array Value) (hw : own_HW a0 Z) (ws : List Jvm.Cond)  (h0 : Heap) (n0 : Nat) (Z0 : n0 ≤ h0.size) :
    own_M l Z (⟨"java/lang/Math", "max", "(II)I"⟩ : MethodName) jdk_29_method_65_code 2 (some .int) ws ({ frames := 0, cells := 0, slots := 0, locals := 0 } : Room) #[(.int 10), (.int 1)] h0 (Q_30 Z  h0 n0) := by
  refine own_in "java/lang/Math" rfl (Jvm.Free.JP.mathPlain rfl (by decide +kernel)) ?_
  intro p e s m below meth c s₁ Bd hml hZ hh hx hby hown X0 e0
  have N0 := Fr.nil n0
  have k0 := own_k (p := p) (e := e) (below := below) (T := s₁) (ef_30 m (10 : Int32) (1 : Int32))
  refine own_out X0 Bd.notSynchronized Bd.returns (some (.int 10)) nofun (by decide) (by decide) ?_ fun fs hr => k0 _ ?_
  · rw [e0]; exact ⟨rfl, N0, rfl⟩
  · show OwnS p e below s₁ (mkF m 0 #[iv 10, iv 1] []) _
    refine oIn X0 hx hby d30_0 rfl (oIn X0 hx hby d30_1 rfl ?_)
    refine XS.icmpNo X0.here hx rfl (hb hby d30_2) rfl (flt (by decide : ¬ ((10 : Int32) < (1 : Int32)))).1 ?_
    refine oIn X0 hx hby d30_5 rfl (oGo X0 hx hby 6 10 d30_6 (by decide) (by decide) ?_)
    exact retI X0 hx Bd.returns (hb hby d30_10) hr
theorem pd_15 : parseMethodDescriptor "(II)I" = some ⟨[.int, .int], some .int⟩ := by decide +kernel
theorem d29_0 : decode jdk_38_method_6_code 0 = .ok (.aload_n 0, 1) := by decide +kernel
theorem d29_1 : decode jdk_38_method_6_code 1 = .ok (.getfield 9, 3) := by decide +kernel
theorem d29_4 : decode jdk_38_method_6_code 4 = .ok (.arraylength, 1) := by decide +kernel
theorem d29_5 : decode jdk_38_method_6_code 5 = .ok (.istore_n 2, 1) := by decide +kernel
theorem d29_6 : decode jdk_38_method_6_code 6 = .ok (.iload_n 2, 1) := by decide +kernel
theorem d29_7 : decode jdk_38_method_6_code 7 = .ok (.ifCond .gt 13, 3) := by decide +kernel
theorem d29_10 : decode jdk_38_method_6_code 10 = .ok (.aload_n 0, 1) := by decide +kernel
theorem d29_11 : decode jdk_38_method_6_code 11 = .ok (.getfield 9, 3) := by decide +kernel
theorem d29_14 : decode jdk_38_method_6_code 14 = .ok (.getstatic 39, 3) := by decide +kernel
theorem d29_17 : decode jdk_38_method_6_code 17 = .ok (.if_acmp .eq 28, 3) := by decide +kernel
theorem d29_45 : decode jdk_38_method_6_code 45 = .ok (.aload_n 0, 1) := by decide +kernel
theorem d29_46 : decode jdk_38_method_6_code 46 = .ok (.bipush 10, 2) := by decide +kernel
theorem d29_48 : decode jdk_38_method_6_code 48 = .ok (.iload_n 1, 1) := by decide +kernel
theorem d29_49 : decode jdk_38_method_6_code 49 = .ok (.invokestatic 79, 3) := by decide +kernel
theorem d29_52 : decode jdk_38_method_6_code 52 = .ok (.anewarray 7, 3) := by decide +kernel
theorem d29_55 : decode jdk_38_method_6_code 55 = .ok (.dup_x1, 1) := by decide +kernel
theorem d29_56 : decode jdk_38_method_6_code 56 = .ok (.putfield 9, 3) := by decide +kernel
theorem d29_59 : decode jdk_38_method_6_code 59 = .ok (.areturn, 1) := by decide +kernel
theorem ef_29 (m : MethodId) (x0 : Addr) (x1 : Int32) : entryFrame m #[(.ref x0), (.int x1)] 4 = mkF m 0 #[.val (.ref x0), .val (.int x1), .unset, .unset] [] := by first | (simp [entryFrame, mkF, argsToLocals, Value.category]; done) | rfl
def Q_29 (Z : State) (r0 w_DEFAULTCAPACITY_EMPTY_ELEMENTDATA : Addr) (kD : ClassId) (pm : Int32) (h0 : Heap) (n0 : Nat) (v : Option Value) (h : Heap) (L : List Loc) : Prop := ∃ ar : Addr, ∃ kk : ClassId, v = some (.ref ar) ∧ Fr n0 L ∧ Keep h0 h [r0] ∧ h0.size ≤ ar ∧ Ovr Z kk cS3 ∧ Exa Z h ar cS6 ∧ Arv Z h ar kk (.object cS3) (10 : Int32) [.null, .null, .null, .null, .null, .null, .null, .null, .null, .null] .null ∧ Exa Z h r0 cS4 ∧ Fld Z h r0 cS16 "modCount" "I" (.int pm) ∧ Fld Z h r0 cS4 "elementData" cS6 (.ref ar) ∧ Fld Z h r0 cS4 "size" "I" (.int 0)
theorem rm29 (l : Launch) (Z : State) (a0 : Array Value) (hw : own_HW a0 Z) (ws : List Jvm.Cond) (r0 w_DEFAULTCAPACITY_EMPTY_ELEMENTDATA : Addr) (kD : ClassId) (pm : Int32) (h0 : Heap) (n0 : Nat) (Z0 : n0 ≤ h0.size) (S_DEFAULTCAPACITY_EMPTY_ELEMENTDATA : Sta Z h0 cS4 "DEFAULTCAPACITY_EMPTY_ELEMENTDATA" cS6 (.ref w_DEFAULTCAPACITY_EMPTY_ELEMENTDATA)) (V_w_DEFAULTCAPACITY_EMPTY_ELEMENTDATA : Arv Z h0 w_DEFAULTCAPACITY_EMPTY_ELEMENTDATA kD (.object cS3) (0 : Int32) [] .null) (E_r0 : Exa Z h0 r0 cS4) (F_modCount_r0 : Fld Z h0 r0 cS16 "modCount" "I" (.int pm)) (F_elementData_r0 : Fld Z h0 r0 cS4 "elementData" cS6 (.ref w_DEFAULTCAPACITY_EMPTY_ELEMENTDATA)) (F_size_r0 : Fld Z h0 r0 cS4 "size" "I" (.int 0)) (ge_r0 : n0 ≤ r0) :
    own_M l Z (⟨cS4, "grow", "(I)[Ljava/lang/Object;"⟩ : MethodName) jdk_38_method_6_code 4 (some (.array (.object cS3))) ws ({ frames := 1, cells := 1, slots := 10, locals := 14 } : Room) #[(.ref r0), (.int 1)] h0 (Q_29 Z r0 w_DEFAULTCAPACITY_EMPTY_ELEMENTDATA kD pm h0 n0) := by
  refine own_in cS4 rfl (plainFor_of_name pn_java_util_ArrayList) ?_
  intro p e s m below meth c s₁ Bd hml hZ hh hx hby hown X0 e0
  have N0 := Fr.nil n0
  have k0 := own_k (p := p) (e := e) (below := below) (T := s₁) (ef_29 m r0 (1 : Int32))
  obtain ⟨T1, X1, e1, st1⟩ := getF X0 hx hZ hown (host := "") (Or.inl (own_at hw 166 rfl)) Via.refl e0 F_elementData_r0 (g := (mkF m 1 #[rv r0, iv 1, .unset, .unset] [(.ref r0)])) rfl rfl (hb hby d29_1)
  obtain ⟨cl_z2, Ar_z2, q_z2, S_z2, N_z2, H_z2, G_z2⟩ := id V_w_DEFAULTCAPACITY_EMPTY_ELEMENTDATA
  obtain ⟨T3, X3, e3, st3⟩ := getF X1 hx hZ hown (host := "") (Or.inl (own_at hw 166 rfl)) Via.refl e1 F_elementData_r0 (g := (mkF m 11 #[rv r0, iv 1, iv 0, .unset] [(.ref r0)])) rfl rfl (hb hby d29_11)
  obtain ⟨T4, X4, e4, st4⟩ := getS2 X3 hx hZ hown (host := "") (Or.inl (own_at hw 165 rfl)) Via.refl e3 S_DEFAULTCAPACITY_EMPTY_ELEMENTDATA (g := (mkF m 14 #[rv r0, iv 1, iv 0, .unset] [(.ref w_DEFAULTCAPACITY_EMPTY_ELEMENTDATA)])) rfl (hb hby d29_14)
  obtain ⟨_, T5, L5, X5, hQ5, st5⟩ := own_cS 1 (rm30 l Z a0 hw []  h0 n0 Z0 ) X4 hx hZ hown hw 219 220 221 222 rfl rfl rfl rfl 49 #[rv r0, iv 1, iv 0, .unset] [(.int 10), (.int 1)] [(.ref r0)] (hb hby d29_49) hml (lenOf pd_15 rfl) e4 rfl (Nat.le_refl _) (by decide)
  obtain ⟨rfl, N5q, e5⟩ := hQ5
  have N5 := Fr.app N0 N5q
  obtain ⟨T6, h6, k6, X6, e6, E6, A6, EA6, O6, st6⟩ := newRE X5 hx hZ hown (own_at hw 223 rfl) (own_at hw 224 rfl) e5 (g := (mkF m 52 #[rv r0, iv 1, iv 0, .unset] [(.int 10), (.ref r0)])) rfl (hb hby d29_52) rfl (by decide) (cap := 10) (by decide) (by decide) (by decide) (by decide) (ad := cS6) (by decide)
  obtain ⟨b6, g6⟩ : ∃ z, z = h0.size := ⟨_, rfl⟩
  rw [← g6] at A6 EA6 st6
  have g_b6 : n0 ≤ b6 := Nat.le_trans Z0 (Nat.le_of_eq g6.symm)
  have sz_b6 : h0.size ≤ b6 := Nat.le_trans (Keep.refl h0 []).1 (Nat.le_of_eq g6.symm)
  have V_b6 : Arv Z h6 b6 k6 (.object cS3) (10 : Int32) [.null, .null, .null, .null, .null, .null, .null, .null, .null, .null] .null := (Arv.new A6 (by decide)).pad (pad_rep [] .null 10)
  have f7 := (E_r0.ext E6)
  have f8 := (F_elementData_r0.ext E6)
  obtain ⟨T9, h9, X9, e9, W9, st9⟩ := putF X6 hx hZ hown (host := "") (Or.inl (own_at hw 166 rfl)) Via.refl e6 f8 f7 (Or.inl (own_at hw 167 rfl)) (own_at hw 145 rfl) (ty := (.array (.object cS3))) (by decide) rfl rfl (g := (mkF m 56 #[rv r0, iv 1, iv 0, .unset] [(.ref b6), (.ref r0), (.ref b6)])) rfl rfl (hb hby d29_56)
  have Fw9 : Fld Z h9 r0 cS4 "elementData" cS6 (.ref b6) := f8.same W9
  have N9 := Fr.snoc X9 N5 ge_r0
  have f10 := (EA6.wr W9)
  have f11 := (V_b6.other W9 (Ne.symm (Nat.ne_of_lt (Nat.lt_of_lt_of_le E_r0.lt (Nat.le_of_eq g6.symm)))))
  have f12 := (f7.wr W9)
  have f13 := ((F_modCount_r0.ext E6).other W9 (Or.inr (slot_ne (Or.inl (own_at hw 164 rfl)) (Or.inl (own_at hw 167 rfl)) (by decide) (t := .int) (t' := (.array (.object cS3))) (by decide) (by decide))))
  have f14 := ((F_size_r0.ext E6).other W9 (Or.inr (slot_ne (Or.inl (own_at hw 195 rfl)) (Or.inl (own_at hw 167 rfl)) (by decide) (t := .int) (t' := (.array (.object cS3))) (by decide) (by decide))))
  refine own_out X9 Bd.notSynchronized Bd.returns (some (.ref b6)) nofun (by decide) (by decide) ?_ fun fs hr => k0 _ ?_
  · rw [e9]; exact ⟨b6, k6, rfl, N9, (((Keep.refl h0 [r0]).ext E6).wr W9 (Or.inl (List.mem_of_getElem? (i := 0) rfl))), sz_b6, O6, f10, f11, f12, f13, Fw9, f14⟩
  · show OwnS p e below s₁ (mkF m 0 #[rv r0, iv 1, .unset, .unset] []) _
    refine oAn X0 hx hby d29_0 rfl rfl ?_
    refine st1 _ ?_
    refine X1.arraylength hx (by rw [e1]; exact Ar_z2.1) (State.isArrayOf_alike hZ.alike Ar_z2.2.1) (g := (mkF m 4 #[rv r0, iv 1, .unset, .unset] [(.ref w_DEFAULTCAPACITY_EMPTY_ELEMENTDATA)])) rfl rfl (hb hby d29_4) _ ?_
    rw [len_of S_z2 N_z2]
    refine XS.istoreN X1.here hx rfl (hb hby d29_5) rfl (l' := #[rv r0, iv 1, iv 0, .unset]) rfl ?_
    refine oIn X1 hx hby d29_6 rfl ?_
    refine XS.ifNo X1.here hx rfl (hb hby d29_7) rfl ((if0 _ _).trans (flt (by decide : ¬ ((0 : Int32) < (0 : Int32)))).2.2.1) ?_
    refine oAn X1 hx hby d29_10 rfl rfl ?_
    refine st3 _ ?_
    refine st4 _ ?_
    refine Jvm.RoadKit.acmp (g := (mkF m 17 #[rv r0, iv 1, iv 0, .unset] [(.ref w_DEFAULTCAPACITY_EMPTY_ELEMENTDATA), (.ref w_DEFAULTCAPACITY_EMPTY_ELEMENTDATA)])) X4 hx rfl rfl rfl (pc0 := 17) (pc' := 45) (same := true) rfl (hb hby d29_17) rfl (decide_eq_true rfl) (by decide) (by decide) ?_
    refine oAn X4 hx hby d29_45 rfl rfl (oBp X4 hx hby d29_46 (oIn X4 hx hby d29_48 rfl ?_))
    refine st5 _ ?_
    refine st6 _ ?_
    refine XS.dupX1 X6.here hx rfl (hb hby d29_55) rfl rfl rfl ?_
    refine st9 _ ?_
    jvm_step X9.here [X9.here.top, hx, (hb hby d29_59), X9.method', Bd.returns, Value.isRef, FieldType.isReference]
    first | (intro acts; rw [hr _ acts rfl rfl rfl]) | rw [hr _ _ rfl rfl rfl]
    exact Steps.refl _
theorem pd_16 : parseMethodDescriptor "(I)[Ljava/lang/Object;" = some ⟨[.int], some (.array (.object cS3))⟩ := by decide +kernel
theorem d28_0 : decode jdk_38_method_7_code 0 = .ok (.aload_n 0, 1) := by decide +kernel
theorem d28_1 : decode jdk_38_method_7_code 1 = .ok (.aload_n 0, 1) := by decide +kernel
theorem d28_2 : decode jdk_38_method_7_code 2 = .ok (.getfield 48, 3) := by decide +kernel
theorem d28_5 : decode jdk_38_method_7_code 5 = .ok (.iconst 1, 1) := by decide +kernel
theorem d28_6 : decode jdk_38_method_7_code 6 = .ok (.iadd, 1) := by decide +kernel
theorem d28_7 : decode jdk_38_method_7_code 7 = .ok (.invokevirtual 69, 3) := by decide +kernel
theorem d28_10 : decode jdk_38_method_7_code 10 = .ok (.areturn, 1) := by decide +kernel
theorem ef_28 (m : MethodId) (x0 : Addr) : entryFrame m #[(.ref x0)] 1 = mkF m 0 #[.val (.ref x0)] [] := by first | (simp [entryFrame, mkF, argsToLocals, Value.category]; done) | rfl
def Q_28 (Z : State) (r0 w_DEFAULTCAPACITY_EMPTY_ELEMENTDATA : Addr) (kD : ClassId) (pm : Int32) (h0 : Heap) (n0 : Nat) (v : Option Value) (h : Heap) (L : List Loc) : Prop := ∃ ar : Addr, ∃ kk : ClassId, v = some (.ref ar) ∧ Fr n0 L ∧ Keep h0 h [r0] ∧ h0.size ≤ ar ∧ Ovr Z kk cS3 ∧ Exa Z h ar cS6 ∧ Arv Z h ar kk (.object cS3) (10 : Int32) [.null, .null, .null, .null, .null, .null, .null, .null, .null, .null] .null ∧ Exa Z h r0 cS4 ∧ Fld Z h r0 cS16 "modCount" "I" (.int pm) ∧ Fld Z h r0 cS4 "elementData" cS6 (.ref ar) ∧ Fld Z h r0 cS4 "size" "I" (.int 0)
theorem rm28 (l : Launch) (Z : State) (a0 : Array Value) (hw : own_HW a0 Z) (ws : List Jvm.Cond) (r0 w_DEFAULTCAPACITY_EMPTY_ELEMENTDATA : Addr) (kD : ClassId) (pm : Int32) (h0 : Heap) (n0 : Nat) (Z0 : n0 ≤ h0.size) (S_DEFAULTCAPACITY_EMPTY_ELEMENTDATA : Sta Z h0 cS4 "DEFAULTCAPACITY_EMPTY_ELEMENTDATA" cS6 (.ref w_DEFAULTCAPACITY_EMPTY_ELEMENTDATA)) (V_w_DEFAULTCAPACITY_EMPTY_ELEMENTDATA : Arv Z h0 w_DEFAULTCAPACITY_EMPTY_ELEMENTDATA kD (.object cS3) (0 : Int32) [] .null) (E_r0 : Exa Z h0 r0 cS4) (F_modCount_r0 : Fld Z h0 r0 cS16 "modCount" "I" (.int pm)) (F_elementData_r0 : Fld Z h0 r0 cS4 "elementData" cS6 (.ref w_DEFAULTCAPACITY_EMPTY_ELEMENTDATA)) (F_size_r0 : Fld Z h0 r0 cS4 "size" "I" (.int 0)) (ge_r0 : n0 ≤ r0) :
    own_M l Z (⟨cS4, "grow", "()[Ljava/lang/Object;"⟩ : MethodName) jdk_38_method_7_code 1 (some (.array (.object cS3))) ws ({ frames := 2, cells := 1, slots := 10, locals := 29 } : Room) #[(.ref r0)] h0 (Q_28 Z r0 w_DEFAULTCAPACITY_EMPTY_ELEMENTDATA kD pm h0 n0) := by
  refine own_in cS4 rfl (plainFor_of_name pn_java_util_ArrayList) ?_
  intro p e s m below meth c s₁ Bd hml hZ hh hx hby hown X0 e0
  have N0 := Fr.nil n0
  have k0 := own_k (p := p) (e := e) (below := below) (T := s₁) (ef_28 m r0)
  obtain ⟨T1, X1, e1, st1⟩ := getF X0 hx hZ hown (host := "") (Or.inl (own_at hw 194 rfl)) Via.refl e0 F_size_r0 (g := (mkF m 2 #[rv r0] [(.ref r0), (.ref r0)])) rfl rfl (hb hby d28_2)
  obtain ⟨cq2, q2, q2'⟩ := E_r0.cell
  obtain ⟨_, _, ⟨T2, L2, j2, i2⟩, -, X2, ⟨Lc2, hQ2, l2, y2, z2⟩, st2⟩ := X1.privateBack hx (y := (⟨cS4, "grow", "(I)[Ljava/lang/Object;"⟩ : MethodName)) hown (mvT hZ (own_at hw 214 rfl)) (mvT hZ (own_at hw 215 rfl)) (own_selpriv (by decide) (mvT hZ (own_at hw 145 rfl)) (mvP hZ (own_at hw 216 rfl)) (mvT hZ (own_at hw 215 rfl))) (Cond.privateMethod_at (mvP hZ (own_at hw 216 rfl) (args := #[]))) (mvT hZ (own_at hw 218 rfl)) (by decide) (backOf (W := 0) (rm29 l Z a0 hw [] r0 w_DEFAULTCAPACITY_EMPTY_ELEMENTDATA kD pm h0 n0 Z0 S_DEFAULTCAPACITY_EMPTY_ELEMENTDATA V_w_DEFAULTCAPACITY_EMPTY_ELEMENTDATA E_r0 F_modCount_r0 F_elementData_r0 F_size_r0 ge_r0) hZ (own_at hw 218 rfl) (own_at hw 146 rfl) (by decide) (by decide)) (g := (mkF m 7 #[rv r0] [(.int 1), (.ref r0)])) rfl (by rw [hml]; rfl) (Steps.refl _) (a := r0) (by rw [e1]; exact q2) q2' (argsL := [(.int 1)]) (rest := []) (lenOf pd_16 rfl) rfl (Nat.le_refl _) (hb hby d28_7) (fun _ _ => ⟨rfl, e1, (by decide : 0 + 1 ≤ _), (by decide : 0 + 10 ≤ _)⟩)
  dsimp only [Pt.U, Pt.locs, Pt.cells, Pt.slots] at X2 l2 y2 z2 st2 hQ2
  subst l2 y2 z2
  obtain ⟨ar_2, kk_2, rfl, N2q, K2, p2_0, p2_1, p2_2, p2_3, p2_4, p2_5, p2_6, p2_7⟩ := hQ2
  have pl2 := (allS (P := fun x => ∃ cell : Cell, h0[x]? = some cell ∧ cell.vm.isStatics = false) (own_ns E_r0) all0)
  have g_ar_2 : n0 ≤ ar_2 := Nat.le_trans Z0 p2_0
  have sz_ar_2 : h0.size ≤ ar_2 := Nat.le_trans (Keep.refl h0 []).1 p2_0
  have N2 := Fr.app N0 N2q
  refine own_out X2 Bd.notSynchronized Bd.returns (some (.ref ar_2)) nofun (by decide) (by decide) ?_ fun fs hr => k0 _ ?_
  · exact ⟨ar_2, kk_2, rfl, N2, ((Keep.refl h0 [r0]).trans K2 (allS (Or.inl (List.mem_of_getElem? (i := 0) rfl)) all0)), sz_ar_2, p2_1, p2_2, p2_3, p2_4, p2_5, p2_6, p2_7⟩
  · show OwnS p e below s₁ (mkF m 0 #[rv r0] []) _
    refine oAn X0 hx hby d28_0 rfl rfl (oAn X0 hx hby d28_1 rfl rfl ?_)
    refine st1 _ ?_
    refine oIc X1 hx hby d28_5 ?_
    refine XS.iadd X1.here hx rfl (hb hby d28_6) rfl ?_
    refine st2.trans ?_
    jvm_step X2.here [X2.here.top, hx, (hb hby d28_10), X2.method', Bd.returns, Value.isRef, FieldType.isReference]
    first | (intro acts; rw [hr _ acts rfl rfl rfl]) | rw [hr _ _ rfl rfl rfl]
    exact Steps.refl _
theorem pd_17 : parseMethodDescriptor "()[Ljava/lang/Object;" = some ⟨[], some (.array (.object cS3))⟩ := by decide +kernel
theorem d27_0 : decode jdk_38_method_24_code 0 = .ok (.iload_n 3, 1) := by decide +kernel
theorem d27_1 : decode jdk_38_method_24_code 1 = .ok (.aload_n 2, 1) := by decide +kernel
theorem d27_2 : decode jdk_38_method_24_code 2 = .ok (.arraylength, 1) := by decide +kernel
theorem d27_3 : decode jdk_38_method_24_code 3 = .ok (.if_icmp .ne 8, 3) := by decide +kernel
theorem d27_6 : decode jdk_38_method_24_code 6 = .ok (.aload_n 0, 1) := by decide +kernel
theorem d27_7 : decode jdk_38_method_24_code 7 = .ok (.invokevirtual 129, 3) := by decide +kernel
theorem d27_10 : decode jdk_38_method_24_code 10 = .ok (.astore_n 2, 1) := by decide +kernel
theorem d27_11 : decode jdk_38_method_24_code 11 = .ok (.aload_n 2, 1) := by decide +kernel
theorem d27_12 : decode jdk_38_method_24_code 12 = .ok (.iload_n 3, 1) := by decide +kernel
theorem d27_13 : decode jdk_38_method_24_code 13 = .ok (.aload_n 1, 1) := by decide +kernel
theorem d27_14 : decode jdk_38_method_24_code 14 = .ok (.aastore, 1) := by decide +kernel
theorem d27_15 : decode jdk_38_method_24_code 15 = .ok (.aload_n 0, 1) := by decide +kernel
theorem d27_16 : decode jdk_38_method_24_code 16 = .ok (.iload_n 3, 1) := by decide +kernel
theorem d27_17 : decode jdk_38_method_24_code 17 = .ok (.iconst 1, 1) := by decide +kernel
theorem d27_18 : decode jdk_38_method_24_code 18 = .ok (.iadd, 1) := by decide +kernel
theorem d27_19 : decode jdk_38_method_24_code 19 = .ok (.putfield 48, 3) := by decide +kernel
theorem d27_22 : decode jdk_38_method_24_code 22 = .ok (.return_, 1) := by decide +kernel
theorem ef_27 (m : MethodId) (x0 : Addr) (x1 : Addr) (x2 : Addr) (x3 : Int32) : entryFrame m #[(.ref x0), (.ref x1), (.ref x2), (.int x3)] 4 = mkF m 0 #[.val (.ref x0), .val (.ref x1), .val (.ref x2), .val (.int x3)] [] := by first | (simp [entryFrame, mkF, argsToLocals, Value.category]; done) | rfl
def Q_27_0 (Z : State) (r0 r1 w_DEFAULTCAPACITY_EMPTY_ELEMENTDATA w_DEFAULTCAPACITY_EMPTY_ELEMENTDATA : Addr) (kD : ClassId) (pm : Int32) (h0 : Heap) (n0 : Nat) (v : Option Value) (h : Heap) (L : List Loc) : Prop := ∃ ar : Addr, ∃ kk : ClassId, v = none ∧ Fr n0 L ∧ Keep h0 h [r0] ∧ h0.size ≤ ar ∧ Ovr Z kk cS3 ∧ Exa Z h ar cS6 ∧ Arv Z h ar kk (.object cS3) (10 : Int32) [(.ref r1), .null, .null, .null, .null, .null, .null, .null, .null, .null] .null ∧ Exa Z h r0 cS4 ∧ Fld Z h r0 cS16 "modCount" "I" (.int pm) ∧ Fld Z h r0 cS4 "elementData" cS6 (.ref ar) ∧ Fld Z h r0 cS4 "size" "I" (.int 1)
theorem rm27_0 (l : Launch) (Z : State) (a0 : Array Value) (hw : own_HW a0 Z) (ws : List Jvm.Cond) (r0 r1 w_DEFAULTCAPACITY_EMPTY_ELEMENTDATA w_DEFAULTCAPACITY_EMPTY_ELEMENTDATA : Addr) (kD : ClassId) (pm : Int32) (h0 : Heap) (n0 : Nat) (Z0 : n0 ≤ h0.size) (S_DEFAULTCAPACITY_EMPTY_ELEMENTDATA : Sta Z h0 cS4 "DEFAULTCAPACITY_EMPTY_ELEMENTDATA" cS6 (.ref w_DEFAULTCAPACITY_EMPTY_ELEMENTDATA)) (V_w_DEFAULTCAPACITY_EMPTY_ELEMENTDATA : Arv Z h0 w_DEFAULTCAPACITY_EMPTY_ELEMENTDATA kD (.object cS3) (0 : Int32) [] .null) (E_r0 : Exa Z h0 r0 cS4) (F_modCount_r0 : Fld Z h0 r0 cS16 "modCount" "I" (.int pm)) (F_elementData_r0 : Fld Z h0 r0 cS4 "elementData" cS6 (.ref w_DEFAULTCAPACITY_EMPTY_ELEMENTDATA)) (F_size_r0 : Fld Z h0 r0 cS4 "size" "I" (.int 0)) (E_r1 : Exa Z h0 r1 cS0) (ge_r0 : n0 ≤ r0) :
    own_M l Z (⟨cS4, "add", "(Ljava/lang/Object;[Ljava/lang/Object;I)V"⟩ : MethodName) jdk_38_method_24_code 4 none ws ({ frames := 3, cells := 1, slots := 10, locals := 41 } : Room) #[(.ref r0), (.ref r1), (.ref w_DEFAULTCAPACITY_EMPTY_ELEMENTDATA), (.int 0)] h0 (Q_27_0 Z r0 r1 w_DEFAULTCAPACITY_EMPTY_ELEMENTDATA w_DEFAULTCAPACITY_EMPTY_ELEMENTDATA kD pm h0 n0) := by
  refine own_in cS4 rfl (plainFor_of_name pn_java_util_ArrayList) ?_
  intro p e s m below meth c s₁ Bd hml hZ hh hx hby hown X0 e0
  have N0 := Fr.nil n0
  have k0 := own_k (p := p) (e := e) (below := below) (T := s₁) (ef_27 m r0 r1 w_DEFAULTCAPACITY_EMPTY_ELEMENTDATA (0 : Int32))
  obtain ⟨cl_z1, Ar_z1, q_z1, S_z1, N_z1, H_z1, G_z1⟩ := id V_w_DEFAULTCAPACITY_EMPTY_ELEMENTDATA
  obtain ⟨cq2, q2, q2'⟩ := E_r0.cell
  obtain ⟨_, _, ⟨T2, L2, j2, i2⟩, -, X2, ⟨Lc2, hQ2, l2, y2, z2⟩, st2⟩ := X0.privateBack hx (y := (⟨cS4, "grow", "()[Ljava/lang/Object;"⟩ : MethodName)) hown (mvT hZ (own_at hw 209 rfl)) (mvT hZ (own_at hw 210 rfl)) (own_selpriv (by decide) (mvT hZ (own_at hw 145 rfl)) (mvP hZ (own_at hw 211 rfl)) (mvT hZ (own_at hw 210 rfl))) (Cond.privateMethod_at (mvP hZ (own_at hw 211 rfl) (args := #[]))) (mvT hZ (own_at hw 213 rfl)) (by decide) (backOf (W := 0) (rm28 l Z a0 hw [] r0 w_DEFAULTCAPACITY_EMPTY_ELEMENTDATA kD pm h0 n0 Z0 S_DEFAULTCAPACITY_EMPTY_ELEMENTDATA V_w_DEFAULTCAPACITY_EMPTY_ELEMENTDATA E_r0 F_modCount_r0 F_elementData_r0 F_size_r0 ge_r0) hZ (own_at hw 213 rfl) (own_at hw 146 rfl) (by decide) (by decide)) (g := (mkF m 7 #[rv r0, rv r1, rv w_DEFAULTCAPACITY_EMPTY_ELEMENTDATA, iv 0] [(.ref r0)])) rfl (by rw [hml]; rfl) (Steps.refl _) (a := r0) (by rw [e0]; exact q2) q2' (argsL := []) (rest := []) (lenOf pd_17 rfl) rfl (Nat.le_refl _) (hb hby d27_7) (fun _ _ => ⟨rfl, e0, (by decide : 0 + 1 ≤ _), (by decide : 0 + 10 ≤ _)⟩)
  dsimp only [Pt.U, Pt.locs, Pt.cells, Pt.slots] at X2 l2 y2 z2 st2 hQ2
  subst l2 y2 z2
  obtain ⟨ar_2, kk_2, rfl, N2q, K2, p2_0, p2_1, p2_2, p2_3, p2_4, p2_5, p2_6, p2_7⟩ := hQ2
  have pl2 := (allS (P := fun x => ∃ cell : Cell, h0[x]? = some cell ∧ cell.vm.isStatics = false) (own_ns E_r0) all0)
  have g_ar_2 : n0 ≤ ar_2 := Nat.le_trans Z0 p2_0
  have sz_ar_2 : h0.size ≤ ar_2 := Nat.le_trans (Keep.refl h0 []).1 p2_0
  have N2 := Fr.app N0 N2q
  obtain ⟨cl_z3, Ar_z3, q_z3, S_z3, N_z3, H_z3, G_z3⟩ := id p2_3
  have hin4 : ¬ ((0 : Int32) < 0 ∨ cl_z3.slots.size ≤ ((0 : Int32)).toNatClampNeg) := inb_of S_z3 ⟨by decide, by decide⟩
  have f5 := (E_r1.keep K2)
  obtain ⟨T6, h6, X6, e6, W6, st6⟩ := stR X2 hx hZ rfl Ar_z3 (j := (0 : Int32)) hin4 rfl (Sto.ofV Ar_z3 q_z3 p2_1 (Ins.of_exa f5 (own_at hw 225 rfl))) (g := (mkF m 14 #[rv r0, rv r1, rv ar_2, iv 0] [(.ref r1), (.int 0), (.ref ar_2)])) rfl rfl (hb hby d27_14)
  have V6 : Arv Z h6 ar_2 kk_2 (.object cS3) (10 : Int32) [(.ref r1), .null, .null, .null, .null, .null, .null, .null, .null, .null] .null := Arv.set Ar_z3 q_z3 S_z3 N_z3 H_z3 G_z3 rfl W6 0 rfl (Nat.le_of_ble_eq_true rfl)
  have N6 := Fr.snoc X6 N2 g_ar_2
  have f7 := (p2_4.wr W6)
  have f8 := (p2_7.other W6 (Or.inl (Nat.ne_of_lt (Nat.lt_of_lt_of_le E_r0.lt p2_0))))
  obtain ⟨T9, h9, X9, e9, W9, st9⟩ := putF X6 hx hZ hown (host := "") (Or.inl (own_at hw 194 rfl)) Via.refl e6 f8 f7 (Or.inl (own_at hw 195 rfl)) (own_at hw 145 rfl) (ty := .int) (by decide) rfl rfl (g := (mkF m 19 #[rv r0, rv r1, rv ar_2, iv 0] [(.int 1), (.ref r0)])) rfl rfl (hb hby d27_19)
  have Fw9 : Fld Z h9 r0 cS4 "size" "I" (.int 1) := f8.same W9
  have N9 := Fr.snoc X9 N6 ge_r0
  have f10 := ((p2_2.wr W6).wr W9)
  have f11 := (V6.other W9 (Ne.symm (Nat.ne_of_lt (Nat.lt_of_lt_of_le E_r0.lt p2_0))))
  have f12 := (f7.wr W9)
  have f13 := ((p2_5.other W6 (Or.inl (Nat.ne_of_lt (Nat.lt_of_lt_of_le E_r0.lt p2_0)))).other W9 (Or.inr (slot_ne (Or.inl (own_at hw 164 rfl)) (Or.inl (own_at hw 195 rfl)) (by decide) (t := .int) (t' := .int) (by decide) (by decide))))
  have f14 := ((p2_6.other W6 (Or.inl (Nat.ne_of_lt (Nat.lt_of_lt_of_le E_r0.lt p2_0)))).other W9 (Or.inr (slot_ne (Or.inl (own_at hw 167 rfl)) (Or.inl (own_at hw 195 rfl)) (by decide) (t := (.array (.object cS3))) (t' := .int) (by decide) (by decide))))
  refine own_out X9 Bd.notSynchronized Bd.returns (none) (fun _ => rfl) (by decide) (by decide) ?_ fun fs hr => k0 _ ?_
  · rw [e9]; exact ⟨ar_2, kk_2, rfl, N9, ((((Keep.refl h0 [r0]).trans K2 (allS (Or.inl (List.mem_of_getElem? (i := 0) rfl)) all0)).wr W6 (Or.inr sz_ar_2)).wr W9 (Or.inl (List.mem_of_getElem? (i := 0) rfl))), sz_ar_2, p2_1, f10, f11, f12, f13, f14, Fw9⟩
  · show OwnS p e below s₁ (mkF m 0 #[rv r0, rv r1, rv w_DEFAULTCAPACITY_EMPTY_ELEMENTDATA, iv 0] []) _
    refine oIn X0 hx hby d27_0 rfl (oAn X0 hx hby d27_1 rfl rfl ?_)
    refine X0.arraylength hx (by rw [e0]; exact Ar_z1.1) (State.isArrayOf_alike hZ.alike Ar_z1.2.1) (g := (mkF m 2 #[rv r0, rv r1, rv w_DEFAULTCAPACITY_EMPTY_ELEMENTDATA, iv 0] [(.ref w_DEFAULTCAPACITY_EMPTY_ELEMENTDATA), (.int 0)])) rfl rfl (hb hby d27_2) _ ?_
    rw [len_of S_z1 N_z1]
    refine XS.icmpNo X0.here hx rfl (hb hby d27_3) rfl (teq (by decide : (0 : Int32) = (0 : Int32))).2 ?_
    refine oAn X0 hx hby d27_6 rfl rfl ?_
    refine st2.trans ?_
    refine XS.astoreN X2.here hx rfl (hb hby d27_10) rfl rfl (l' := #[rv r0, rv r1, rv ar_2, iv 0]) rfl ?_
    refine oAn X2 hx hby d27_11 rfl rfl (oIn X2 hx hby d27_12 rfl (oAn X2 hx hby d27_13 rfl rfl ?_))
    refine st6 _ ?_
    refine oAn X6 hx hby d27_15 rfl rfl (oIn X6 hx hby d27_16 rfl (oIc X6 hx hby d27_17 ?_))
    refine XS.iadd X6.here hx rfl (hb hby d27_18) rfl ?_
    refine st9 _ ?_
    exact X9.returnOut hx Bd.returns (hb hby d27_22) hr
def Q_27_1 (Z : State) (r0 r1 ed : Addr) (kE : ClassId) (pm : Int32) (x0 : Addr) (h0 : Heap) (n0 : Nat) (v : Option Value) (h : Heap) (L : List Loc) : Prop := v = none ∧ Fr n0 L ∧ Keep h0 h [r0, ed] ∧ Exa Z h ed cS6 ∧ Arv Z h ed kE (.object cS3) (10 : Int32) [(.ref x0), (.ref r1), .null, .null, .null, .null, .null, .null, .null, .null] .null ∧ Exa Z h r0 cS4 ∧ Fld Z h r0 cS16 "modCount" "I" (.int pm) ∧ Fld Z h r0 cS4 "elementData" cS6 (.ref ed) ∧ Fld Z h r0 cS4 "size" "I" (.int 2)
theorem rm27_1 (l : Launch) (Z : State) (a0 : Array Value) (hw : own_HW a0 Z) (ws : List Jvm.Cond) (r0 r1 ed : Addr) (kE : ClassId) (pm : Int32) (x0 : Addr) (h0 : Heap) (n0 : Nat) (Z0 : n0 ≤ h0.size) (E_r0 : Exa Z h0 r0 cS4) (F_modCount_r0 : Fld Z h0 r0 cS16 "modCount" "I" (.int pm)) (F_elementData_r0 : Fld Z h0 r0 cS4 "elementData" cS6 (.ref ed)) (F_size_r0 : Fld Z h0 r0 cS4 "size" "I" (.int 1)) (E_ed : Exa Z h0 ed cS6) (V_ed : Arv Z h0 ed kE (.object cS3) (10 : Int32) [(.ref x0), .null, .null, .null, .null, .null, .null, .null, .null, .null] .null) (E_r1 : Exa Z h0 r1 cS0) (O_kE : Ovr Z kE cS3) (ge_ed : n0 ≤ ed) (ge_r0 : n0 ≤ r0) :
    own_M l Z (⟨cS4, "add", "(Ljava/lang/Object;[Ljava/lang/Object;I)V"⟩ : MethodName) jdk_38_method_24_code 4 none ws ({ frames := 0, cells := 0, slots := 0, locals := 0 } : Room) #[(.ref r0), (.ref r1), (.ref ed), (.int 1)] h0 (Q_27_1 Z r0 r1 ed kE pm x0 h0 n0) := by
  refine own_in cS4 rfl (plainFor_of_name pn_java_util_ArrayList) ?_
  intro p e s m below meth c s₁ Bd hml hZ hh hx hby hown X0 e0
  have N0 := Fr.nil n0
  have k0 := own_k (p := p) (e := e) (below := below) (T := s₁) (ef_27 m r0 r1 ed (1 : Int32))
  obtain ⟨cl_z1, Ar_z1, q_z1, S_z1, N_z1, H_z1, G_z1⟩ := id V_ed
  have hin2 : ¬ ((1 : Int32) < 0 ∨ cl_z1.slots.size ≤ ((1 : Int32)).toNatClampNeg) := inb_of S_z1 ⟨by decide, by decide⟩
  obtain ⟨T3, h3, X3, e3, W3, st3⟩ := stR X0 hx hZ e0 Ar_z1 (j := (1 : Int32)) hin2 rfl (Sto.ofV Ar_z1 q_z1 O_kE (Ins.of_exa E_r1 (own_at hw 225 rfl))) (g := (mkF m 14 #[rv r0, rv r1, rv ed, iv 1] [(.ref r1), (.int 1), (.ref ed)])) rfl rfl (hb hby d27_14)
  have V3 : Arv Z h3 ed kE (.object cS3) (10 : Int32) [(.ref x0), (.ref r1), .null, .null, .null, .null, .null, .null, .null, .null] .null := Arv.set Ar_z1 q_z1 S_z1 N_z1 H_z1 G_z1 rfl W3 1 rfl (Nat.le_of_ble_eq_true rfl)
  have N3 := Fr.snoc X3 N0 ge_ed
  have f4 := (E_r0.wr W3)
  have f5 := (E_ed.wr W3)
  have f6 := (F_size_r0.other W3 (Or.inl (ne_exa f4 f5 (by decide))))
  obtain ⟨T7, h7, X7, e7, W7, st7⟩ := putF X3 hx hZ hown (host := "") (Or.inl (own_at hw 194 rfl)) Via.refl e3 f6 f4 (Or.inl (own_at hw 195 rfl)) (own_at hw 145 rfl) (ty := .int) (by decide) rfl rfl (g := (mkF m 19 #[rv r0, rv r1, rv ed, iv 1] [(.int 2), (.ref r0)])) rfl rfl (hb hby d27_19)
  have Fw7 : Fld Z h7 r0 cS4 "size" "I" (.int 2) := f6.same W7
  have N7 := Fr.snoc X7 N3 ge_r0
  have f8 := (f5.wr W7)
  have f9 := (f4.wr W7)
  have f10 := (V3.other W7 (ne_exa f8 f9 (by decide)))
  have f11 := ((F_modCount_r0.other W3 (Or.inl (ne_exa f9 f8 (by decide)))).other W7 (Or.inr (slot_ne (Or.inl (own_at hw 164 rfl)) (Or.inl (own_at hw 195 rfl)) (by decide) (t := .int) (t' := .int) (by decide) (by decide))))
  have f12 := ((F_elementData_r0.other W3 (Or.inl (ne_exa f9 f8 (by decide)))).other W7 (Or.inr (slot_ne (Or.inl (own_at hw 167 rfl)) (Or.inl (own_at hw 195 rfl)) (by decide) (t := (.array (.object cS3))) (t' := .int) (by decide) (by decide))))
  refine own_out X7 Bd.notSynchronized Bd.returns (none) (fun _ => rfl) (by decide) (by decide) ?_ fun fs hr => k0 _ ?_
  · rw [e7]; exact ⟨rfl, N7, (((Keep.refl h0 [r0, ed]).wr W3 (Or.inl (List.mem_of_getElem? (i := 1) rfl))).wr W7 (Or.inl (List.mem_of_getElem? (i := 0) rfl))), f8, f10, f9, f11, f12, Fw7⟩
  · show OwnS p e below s₁ (mkF m 0 #[rv r0, rv r1, rv ed, iv 1] []) _
    refine oIn X0 hx hby d27_0 rfl (oAn X0 hx hby d27_1 rfl rfl ?_)
    refine X0.arraylength hx (by rw [e0]; exact Ar_z1.1) (State.isArrayOf_alike hZ.alike Ar_z1.2.1) (g := (mkF m 2 #[rv r0, rv r1, rv ed, iv 1] [(.ref ed), (.int 1)])) rfl rfl (hb hby d27_2) _ ?_
    rw [len_of S_z1 N_z1]
    refine XS.icmpYes X0.here hx rfl (pc0 := 3) (pc' := 11) rfl (hb hby d27_3) rfl (feq (by decide : ¬ ((1 : Int32) = (10 : Int32)))).2 (by decide) (by decide) ?_
    refine oAn X0 hx hby d27_11 rfl rfl (oIn X0 hx hby d27_12 rfl (oAn X0 hx hby d27_13 rfl rfl ?_))
    refine st3 _ ?_
    refine oAn X3 hx hby d27_15 rfl rfl (oIn X3 hx hby d27_16 rfl (oIc X3 hx hby d27_17 ?_))
    refine XS.iadd X3.here hx rfl (hb hby d27_18) rfl ?_
    refine st7 _ ?_
    exact X7.returnOut hx Bd.returns (hb hby d27_22) hr
def Q_27_2 (Z : State) (r0 r1 ed : Addr) (kE : ClassId) (pm : Int32) (x0 x1 : Addr) (h0 : Heap) (n0 : Nat) (v : Option Value) (h : Heap) (L : List Loc) : Prop := v = none ∧ Fr n0 L ∧ Keep h0 h [r0, ed] ∧ Exa Z h ed cS6 ∧ Arv Z h ed kE (.object cS3) (10 : Int32) [(.ref x0), (.ref x1), (.ref r1), .null, .null, .null, .null, .null, .null, .null] .null ∧ Exa Z h r0 cS4 ∧ Fld Z h r0 cS16 "modCount" "I" (.int pm) ∧ Fld Z h r0 cS4 "elementData" cS6 (.ref ed) ∧ Fld Z h r0 cS4 "size" "I" (.int 3)
theorem rm27_2 (l : Launch) (Z : State) (a0 : Array Value) (hw : own_HW a0 Z) (ws : List Jvm.Cond) (r0 r1 ed : Addr) (kE : ClassId) (pm : Int32) (x0 x1 : Addr) (h0 : Heap) (n0 : Nat) (Z0 : n0 ≤ h0.size) (E_r0 : Exa Z h0 r0 cS4) (F_modCount_r0 : Fld Z h0 r0 cS16 "modCount" "I" (.int pm)) (F_elementData_r0 : Fld Z h0 r0 cS4 "elementData" cS6 (.ref ed)) (F_size_r0 : Fld Z h0 r0 cS4 "size" "I" (.int 2)) (E_ed : Exa Z h0 ed cS6) (V_ed : Arv Z h0 ed kE (.object cS3) (10 : Int32) [(.ref x0), (.ref x1), .null, .null, .null, .null, .null, .null, .null, .null] .null) (E_r1 : Exa Z h0 r1 cS0) (O_kE : Ovr Z kE cS3) (ge_ed : n0 ≤ ed) (ge_r0 : n0 ≤ r0) :
    own_M l Z (⟨cS4, "add", "(Ljava/lang/Object;[Ljava/lang/Object;I)V"⟩ : MethodName) jdk_38_method_24_code 4 none ws ({ frames := 0, cells := 0, slots := 0, locals := 0 } : Room) #[(.ref r0), (.ref r1), (.ref ed), (.int 2)] h0 (Q_27_2 Z r0 r1 ed kE pm x0 x1 h0 n0) := by
  refine own_in cS4 rfl (plainFor_of_name pn_java_util_ArrayList) ?_
  intro p e s m below meth c s₁ Bd hml hZ hh hx hby hown X0 e0
  have N0 := Fr.nil n0
  have k0 := own_k (p := p) (e := e) (below := below) (T := s₁) (ef_27 m r0 r1 ed (2 : Int32))
  obtain ⟨cl_z1, Ar_z1, q_z1, S_z1, N_z1, H_z1, G_z1⟩ := id V_ed
  have hin2 : ¬ ((2 : Int32) < 0 ∨ cl_z1.slots.size ≤ ((2 : Int32)).toNatClampNeg) := inb_of S_z1 ⟨by decide, by decide⟩
  obtain ⟨T3, h3, X3, e3, W3, st3⟩ := stR X0 hx hZ e0 Ar_z1 (j := (2 : Int32)) hin2 rfl (Sto.ofV Ar_z1 q_z1 O_kE (Ins.of_exa E_r1 (own_at hw 225 rfl))) (g := (mkF m 14 #[rv r0, rv r1, rv ed, iv 2] [(.ref r1), (.int 2), (.ref ed)])) rfl rfl (hb hby d27_14)
  have V3 : Arv Z h3 ed kE (.object cS3) (10 : Int32) [(.ref x0), (.ref x1), (.ref r1), .null, .null, .null, .null, .null, .null, .null] .null := Arv.set Ar_z1 q_z1 S_z1 N_z1 H_z1 G_z1 rfl W3 2 rfl (Nat.le_of_ble_eq_true rfl)
  have N3 := Fr.snoc X3 N0 ge_ed
  have f4 := (E_r0.wr W3)
  have f5 := (E_ed.wr W3)
  have f6 := (F_size_r0.other W3 (Or.inl (ne_exa f4 f5 (by decide))))
  obtain ⟨T7, h7, X7, e7, W7, st7⟩ := putF X3 hx hZ hown (host := "") (Or.inl (own_at hw 194 rfl)) Via.refl e3 f6 f4 (Or.inl (own_at hw 195 rfl)) (own_at hw 145 rfl) (ty := .int) (by decide) rfl rfl (g := (mkF m 19 #[rv r0, rv r1, rv ed, iv 2] [(.int 3), (.ref r0)])) rfl rfl (hb hby d27_19)
  have Fw7 : Fld Z h7 r0 cS4 "size" "I" (.int 3) := f6.same W7
  have N7 := Fr.snoc X7 N3 ge_r0
  have f8 := (f5.wr W7)
  have f9 := (f4.wr W7)
  have f10 := (V3.other W7 (ne_exa f8 f9 (by decide)))
  have f11 := ((F_modCount_r0.other W3 (Or.inl (ne_exa f9 f8 (by decide)))).other W7 (Or.inr (slot_ne (Or.inl (own_at hw 164 rfl)) (Or.inl (own_at hw 195 rfl)) (by decide) (t := .int) (t' := .int) (by decide) (by decide))))
  have f12 := ((F_elementData_r0.other W3 (Or.inl (ne_exa f9 f8 (by decide)))).other W7 (Or.inr (slot_ne (Or.inl (own_at hw 167 rfl)) (Or.inl (own_at hw 195 rfl)) (by decide) (t := (.array (.object cS3))) (t' := .int) (by decide) (by decide))))
  refine own_out X7 Bd.notSynchronized Bd.returns (none) (fun _ => rfl) (by decide) (by decide) ?_ fun fs hr => k0 _ ?_
  · rw [e7]; exact ⟨rfl, N7, (((Keep.refl h0 [r0, ed]).wr W3 (Or.inl (List.mem_of_getElem? (i := 1) rfl))).wr W7 (Or.inl (List.mem_of_getElem? (i := 0) rfl))), f8, f10, f9, f11, f12, Fw7⟩
  · show OwnS p e below s₁ (mkF m 0 #[rv r0, rv r1, rv ed, iv 2] []) _
    refine oIn X0 hx hby d27_0 rfl (oAn X0 hx hby d27_1 rfl rfl ?_)
    refine X0.arraylength hx (by rw [e0]; exact Ar_z1.1) (State.isArrayOf_alike hZ.alike Ar_z1.2.1) (g := (mkF m 2 #[rv r0, rv r1, rv ed, iv 2] [(.ref ed), (.int 2)])) rfl rfl (hb hby d27_2) _ ?_
    rw [len_of S_z1 N_z1]
    refine XS.icmpYes X0.here hx rfl (pc0 := 3) (pc' := 11) rfl (hb hby d27_3) rfl (feq (by decide : ¬ ((2 : Int32) = (10 : Int32)))).2 (by decide) (by decide) ?_
    refine oAn X0 hx hby d27_11 rfl rfl (oIn X0 hx hby d27_12 rfl (oAn X0 hx hby d27_13 rfl rfl ?_))
    refine st3 _ ?_
    refine oAn X3 hx hby d27_15 rfl rfl (oIn X3 hx hby d27_16 rfl (oIc X3 hx hby d27_17 ?_))
    refine XS.iadd X3.here hx rfl (hb hby d27_18) rfl ?_
    refine st7 _ ?_
    exact X7.returnOut hx Bd.returns (hb hby d27_22) hr
def Q_27_3 (Z : State) (r0 r1 ed : Addr) (kE : ClassId) (pm : Int32) (x0 x1 x2 : Addr) (h0 : Heap) (n0 : Nat) (v : Option Value) (h : Heap) (L : List Loc) : Prop := v = none ∧ Fr n0 L ∧ Keep h0 h [r0, ed] ∧ Exa Z h ed cS6 ∧ Arv Z h ed kE (.object cS3) (10 : Int32) [(.ref x0), (.ref x1), (.ref x2), (.ref r1), .null, .null, .null, .null, .null, .null] .null ∧ Exa Z h r0 cS4 ∧ Fld Z h r0 cS16 "modCount" "I" (.int pm) ∧ Fld Z h r0 cS4 "elementData" cS6 (.ref ed) ∧ Fld Z h r0 cS4 "size" "I" (.int 4)
theorem rm27_3 (l : Launch) (Z : State) (a0 : Array Value) (hw : own_HW a0 Z) (ws : List Jvm.Cond) (r0 r1 ed : Addr) (kE : ClassId) (pm : Int32) (x0 x1 x2 : Addr) (h0 : Heap) (n0 : Nat) (Z0 : n0 ≤ h0.size) (E_r0 : Exa Z h0 r0 cS4) (F_modCount_r0 : Fld Z h0 r0 cS16 "modCount" "I" (.int pm)) (F_elementData_r0 : Fld Z h0 r0 cS4 "elementData" cS6 (.ref ed)) (F_size_r0 : Fld Z h0 r0 cS4 "size" "I" (.int 3)) (E_ed : Exa Z h0 ed cS6) (V_ed : Arv Z h0 ed kE (.object cS3) (10 : Int32) [(.ref x0), (.ref x1), (.ref x2), .null, .null, .null, .null, .null, .null, .null] .null) (E_r1 : Exa Z h0 r1 cS0) (O_kE : Ovr Z kE cS3) (ge_ed : n0 ≤ ed) (ge_r0 : n0 ≤ r0) :
    own_M l Z (⟨cS4, "add", "(Ljava/lang/Object;[Ljava/lang/Object;I)V"⟩ : MethodName) jdk_38_method_24_code 4 none ws ({ frames := 0, cells := 0, slots := 0, locals := 0 } : Room) #[(.ref r0), (.ref r1), (.ref ed), (.int 3)] h0 (Q_27_3 Z r0 r1 ed kE pm x0 x1 x2 h0 n0) := by
  refine own_in cS4 rfl (plainFor_of_name pn_java_util_ArrayList) ?_
  intro p e s m below meth c s₁ Bd hml hZ hh hx hby hown X0 e0
  have N0 := Fr.nil n0
  have k0 := own_k (p := p) (e := e) (below := below) (T := s₁) (ef_27 m r0 r1 ed (3 : Int32))
  obtain ⟨cl_z1, Ar_z1, q_z1, S_z1, N_z1, H_z1, G_z1⟩ := id V_ed
  have hin2 : ¬ ((3 : Int32) < 0 ∨ cl_z1.slots.size ≤ ((3 : Int32)).toNatClampNeg) := inb_of S_z1 ⟨by decide, by decide⟩
  obtain ⟨T3, h3, X3, e3, W3, st3⟩ := stR X0 hx hZ e0 Ar_z1 (j := (3 : Int32)) hin2 rfl (Sto.ofV Ar_z1 q_z1 O_kE (Ins.of_exa E_r1 (own_at hw 225 rfl))) (g := (mkF m 14 #[rv r0, rv r1, rv ed, iv 3] [(.ref r1), (.int 3), (.ref ed)])) rfl rfl (hb hby d27_14)
  have V3 : Arv Z h3 ed kE (.object cS3) (10 : Int32) [(.ref x0), (.ref x1), (.ref x2), (.ref r1), .null, .null, .null, .null, .null, .null] .null := Arv.set Ar_z1 q_z1 S_z1 N_z1 H_z1 G_z1 rfl W3 3 rfl (Nat.le_of_ble_eq_true rfl)
  have N3 := Fr.snoc X3 N0 ge_ed
  have f4 := (E_r0.wr W3)
  have f5 := (E_ed.wr W3)
  have f6 := (F_size_r0.other W3 (Or.inl (ne_exa f4 f5 (by decide))))
  obtain ⟨T7, h7, X7, e7, W7, st7⟩ := putF X3 hx hZ hown (host := "") (Or.inl (own_at hw 194 rfl)) Via.refl e3 f6 f4 (Or.inl (own_at hw 195 rfl)) (own_at hw 145 rfl) (ty := .int) (by decide) rfl rfl (g := (mkF m 19 #[rv r0, rv r1, rv ed, iv 3] [(.int 4), (.ref r0)])) rfl rfl (hb hby d27_19)
  have Fw7 : Fld Z h7 r0 cS4 "size" "I" (.int 4) := f6.same W7
  have N7 := Fr.snoc X7 N3 ge_r0
  have f8 := (f5.wr W7)
  have f9 := (f4.wr W7)
  have f10 := (V3.other W7 (ne_exa f8 f9 (by decide)))
  have f11 := ((F_modCount_r0.other W3 (Or.inl (ne_exa f9 f8 (by decide)))).other W7 (Or.inr (slot_ne (Or.inl (own_at hw 164 rfl)) (Or.inl (own_at hw 195 rfl)) (by decide) (t := .int) (t' := .int) (by decide) (by decide))))
  have f12 := ((F_elementData_r0.other W3 (Or.inl (ne_exa f9 f8 (by decide)))).other W7 (Or.inr (slot_ne (Or.inl (own_at hw 167 rfl)) (Or.inl (own_at hw 195 rfl)) (by decide) (t := (.array (.object cS3))) (t' := .int) (by decide) (by decide))))
  refine own_out X7 Bd.notSynchronized Bd.returns (none) (fun _ => rfl) (by decide) (by decide) ?_ fun fs hr => k0 _ ?_
  · rw [e7]; exact ⟨rfl, N7, (((Keep.refl h0 [r0, ed]).wr W3 (Or.inl (List.mem_of_getElem? (i := 1) rfl))).wr W7 (Or.inl (List.mem_of_getElem? (i := 0) rfl))), f8, f10, f9, f11, f12, Fw7⟩
  · show OwnS p e below s₁ (mkF m 0 #[rv r0, rv r1, rv ed, iv 3] []) _
    refine oIn X0 hx hby d27_0 rfl (oAn X0 hx hby d27_1 rfl rfl ?_)
    refine X0.arraylength hx (by rw [e0]; exact Ar_z1.1) (State.isArrayOf_alike hZ.alike Ar_z1.2.1) (g := (mkF m 2 #[rv r0, rv r1, rv ed, iv 3] [(.ref ed), (.int 3)])) rfl rfl (hb hby d27_2) _ ?_
    rw [len_of S_z1 N_z1]
    refine XS.icmpYes X0.here hx rfl (pc0 := 3) (pc' := 11) rfl (hb hby d27_3) rfl (feq (by decide : ¬ ((3 : Int32) = (10 : Int32)))).2 (by decide) (by decide) ?_
    refine oAn X0 hx hby d27_11 rfl rfl (oIn X0 hx hby d27_12 rfl (oAn X0 hx hby d27_13 rfl rfl ?_))
    refine st3 _ ?_
    refine oAn X3 hx hby d27_15 rfl rfl (oIn X3 hx hby d27_16 rfl (oIc X3 hx hby d27_17 ?_))
    refine XS.iadd X3.here hx rfl (hb hby d27_18) rfl ?_
    refine st7 _ ?_
    exact X7.returnOut hx Bd.returns (hb hby d27_22) hr
theorem pd_18 : parseMethodDescriptor "(Ljava/lang/Object;[Ljava/lang/Object;I)V" = some ⟨[(.object cS3), (.array (.object cS3)), .int], none⟩ := by decide +kernel
theorem d26_0 : decode jdk_38_method_25_code 0 = .ok (.aload_n 0, 1) := by decide +kernel
theorem d26_1 : decode jdk_38_method_25_code 1 = .ok (.dup, 1) := by decide +kernel
theorem d26_2 : decode jdk_38_method_25_code 2 = .ok (.getfield 63, 3) := by decide +kernel
theorem d26_5 : decode jdk_38_method_25_code 5 = .ok (.iconst 1, 1) := by decide +kernel
theorem d26_6 : decode jdk_38_method_25_code 6 = .ok (.iadd, 1) := by decide +kernel
theorem d26_7 : decode jdk_38_method_25_code 7 = .ok (.putfield 63, 3) := by decide +kernel
theorem d26_10 : decode jdk_38_method_25_code 10 = .ok (.aload_n 0, 1) := by decide +kernel
theorem d26_11 : decode jdk_38_method_25_code 11 = .ok (.aload_n 1, 1) := by decide +kernel
theorem d26_12 : decode jdk_38_method_25_code 12 = .ok (.aload_n 0, 1) := by decide +kernel
theorem d26_13 : decode jdk_38_method_25_code 13 = .ok (.getfield 9, 3) := by decide +kernel
theorem d26_16 : decode jdk_38_method_25_code 16 = .ok (.aload_n 0, 1) := by decide +kernel
theorem d26_17 : decode jdk_38_method_25_code 17 = .ok (.getfield 48, 3) := by decide +kernel
theorem d26_20 : decode jdk_38_method_25_code 20 = .ok (.invokevirtual 131, 3) := by decide +kernel
theorem d26_23 : decode jdk_38_method_25_code 23 = .ok (.iconst 1, 1) := by decide +kernel
theorem d26_24 : decode jdk_38_method_25_code 24 = .ok (.ireturn, 1) := by decide +kernel
theorem ef_26 (m : MethodId) (x0 : Addr) (x1 : Addr) : entryFrame m #[(.ref x0), (.ref x1)] 2 = mkF m 0 #[.val (.ref x0), .val (.ref x1)] [] := by first | (simp [entryFrame, mkF, argsToLocals, Value.category]; done) | rfl
def Q_26_0 (Z : State) (r0 r1 w_DEFAULTCAPACITY_EMPTY_ELEMENTDATA : Addr) (kD : ClassId) (pm : Int32) (h0 : Heap) (n0 : Nat) (v : Option Value) (h : Heap) (L : List Loc) : Prop := ∃ ar : Addr, ∃ kk : ClassId, v = some (.int 1) ∧ Fr n0 L ∧ Keep h0 h [r0] ∧ h0.size ≤ ar ∧ Ovr Z kk cS3 ∧ Exa Z h ar cS6 ∧ Arv Z h ar kk (.object cS3) (10 : Int32) [(.ref r1), .null, .null, .null, .null, .null, .null, .null, .null, .null] .null ∧ Exa Z h r0 cS4 ∧ Fld Z h r0 cS16 "modCount" "I" (.int (pm + (1 : Int32))) ∧ Fld Z h r0 cS4 "elementData" cS6 (.ref ar) ∧ Fld Z h r0 cS4 "size" "I" (.int 1)
theorem rm26_0 (l : Launch) (Z : State) (a0 : Array Value) (hw : own_HW a0 Z) (ws : List Jvm.Cond) (r0 r1 w_DEFAULTCAPACITY_EMPTY_ELEMENTDATA : Addr) (kD : ClassId) (pm : Int32) (h0 : Heap) (n0 : Nat) (Z0 : n0 ≤ h0.size) (S_DEFAULTCAPACITY_EMPTY_ELEMENTDATA : Sta Z h0 cS4 "DEFAULTCAPACITY_EMPTY_ELEMENTDATA" cS6 (.ref w_DEFAULTCAPACITY_EMPTY_ELEMENTDATA)) (V_w_DEFAULTCAPACITY_EMPTY_ELEMENTDATA : Arv Z h0 w_DEFAULTCAPACITY_EMPTY_ELEMENTDATA kD (.object cS3) (0 : Int32) [] .null) (E_r0 : Exa Z h0 r0 cS4) (F_modCount_r0 : Fld Z h0 r0 cS16 "modCount" "I" (.int pm)) (F_elementData_r0 : Fld Z h0 r0 cS4 "elementData" cS6 (.ref w_DEFAULTCAPACITY_EMPTY_ELEMENTDATA)) (F_size_r0 : Fld Z h0 r0 cS4 "size" "I" (.int 0)) (E_r1 : Exa Z h0 r1 cS0) (ge_r0 : n0 ≤ r0) (ne_w_DEFAULTCAPACITY_EMPTY_ELEMENTDATA_r0 : w_DEFAULTCAPACITY_EMPTY_ELEMENTDATA ≠ r0) :
    own_M l Z (⟨cS4, "add", "(Ljava/lang/Object;)Z"⟩ : MethodName) jdk_38_method_25_code 2 (some .boolean) ws ({ frames := 4, cells := 1, slots := 10, locals := 56 } : Room) #[(.ref r0), (.ref r1)] h0 (Q_26_0 Z r0 r1 w_DEFAULTCAPACITY_EMPTY_ELEMENTDATA kD pm h0 n0) := by
  refine own_in cS4 rfl (plainFor_of_name pn_java_util_ArrayList) ?_
  intro p e s m below meth c s₁ Bd hml hZ hh hx hby hown X0 e0
  have N0 := Fr.nil n0
  have k0 := own_k (p := p) (e := e) (below := below) (T := s₁) (ef_26 m r0 r1)
  obtain ⟨T1, X1, e1, st1⟩ := getF X0 hx hZ hown (host := "") (Or.inl (own_at hw 202 rfl)) (Via.of (own_at hw 203 rfl)) e0 F_modCount_r0 (g := (mkF m 2 #[rv r0, rv r1] [(.ref r0), (.ref r0)])) rfl rfl (hb hby d26_2)
  obtain ⟨T2, h2, X2, e2, W2, st2⟩ := putF X1 hx hZ hown (host := "") (Or.inl (own_at hw 202 rfl)) (Via.of (own_at hw 203 rfl)) e1 F_modCount_r0 E_r0 (Or.inl (own_at hw 164 rfl)) (own_at hw 145 rfl) (ty := .int) (by decide) rfl rfl (g := (mkF m 7 #[rv r0, rv r1] [(.int (pm + (1 : Int32))), (.ref r0)])) rfl rfl (hb hby d26_7)
  have Fw2 : Fld Z h2 r0 cS16 "modCount" "I" (.int (pm + (1 : Int32))) := F_modCount_r0.same W2
  have N2 := Fr.snoc X2 N0 ge_r0
  have f3 := (F_elementData_r0.other W2 (Or.inr (slot_ne (Or.inl (own_at hw 167 rfl)) (Or.inl (own_at hw 164 rfl)) (by decide) (t := (.array (.object cS3))) (t' := .int) (by decide) (by decide))))
  obtain ⟨T4, X4, e4, st4⟩ := getF X2 hx hZ hown (host := "") (Or.inl (own_at hw 166 rfl)) Via.refl e2 f3 (g := (mkF m 13 #[rv r0, rv r1] [(.ref r0), (.ref r1), (.ref r0)])) rfl rfl (hb hby d26_13)
  have f5 := (F_size_r0.other W2 (Or.inr (slot_ne (Or.inl (own_at hw 195 rfl)) (Or.inl (own_at hw 164 rfl)) (by decide) (t := .int) (t' := .int) (by decide) (by decide))))
  obtain ⟨T6, X6, e6, st6⟩ := getF X4 hx hZ hown (host := "") (Or.inl (own_at hw 194 rfl)) Via.refl e4 f5 (g := (mkF m 17 #[rv r0, rv r1] [(.ref r0), (.ref w_DEFAULTCAPACITY_EMPTY_ELEMENTDATA), (.ref r1), (.ref r0)])) rfl rfl (hb hby d26_17)
  have f8 := (S_DEFAULTCAPACITY_EMPTY_ELEMENTDATA.wr W2)
  have f9 := (V_w_DEFAULTCAPACITY_EMPTY_ELEMENTDATA.other W2 ne_w_DEFAULTCAPACITY_EMPTY_ELEMENTDATA_r0)
  have f10 := (E_r0.wr W2)
  have f11 := (E_r1.wr W2)
  obtain ⟨cq7, q7, q7'⟩ := f10.cell
  obtain ⟨_, _, ⟨T7, L7, j7, i7⟩, -, X7, ⟨Lc7, hQ7, l7, y7, z7⟩, st7⟩ := X6.privateBack hx (y := (⟨cS4, "add", "(Ljava/lang/Object;[Ljava/lang/Object;I)V"⟩ : MethodName)) hown (mvT hZ (own_at hw 204 rfl)) (mvT hZ (own_at hw 205 rfl)) (own_selpriv (by decide) (mvT hZ (own_at hw 145 rfl)) (mvP hZ (own_at hw 206 rfl)) (mvT hZ (own_at hw 205 rfl))) (Cond.privateMethod_at (mvP hZ (own_at hw 206 rfl) (args := #[]))) (mvT hZ (own_at hw 208 rfl)) (by decide) (backOf (W := 0) (rm27_0 l Z a0 hw [] r0 r1 w_DEFAULTCAPACITY_EMPTY_ELEMENTDATA w_DEFAULTCAPACITY_EMPTY_ELEMENTDATA kD (pm + (1 : Int32)) h2 n0 (Nat.le_trans Z0 (Keep.of_wr W2).1) f8 f9 f10 Fw2 f3 f5 f11 ge_r0) hZ (own_at hw 208 rfl) (own_at hw 146 rfl) (by decide) (by decide)) (g := (mkF m 20 #[rv r0, rv r1] [(.int 0), (.ref w_DEFAULTCAPACITY_EMPTY_ELEMENTDATA), (.ref r1), (.ref r0)])) rfl (by rw [hml]; rfl) (Steps.refl _) (a := r0) (by rw [e6]; exact q7) q7' (argsL := [(.ref r1), (.ref w_DEFAULTCAPACITY_EMPTY_ELEMENTDATA), (.int 0)]) (rest := []) (lenOf pd_18 rfl) rfl (Nat.le_refl _) (hb hby d26_20) (fun _ _ => ⟨rfl, e6, (by decide : 0 + 1 ≤ _), (by decide : 0 + 10 ≤ _)⟩)
  dsimp only [Pt.U, Pt.locs, Pt.cells, Pt.slots] at X7 l7 y7 z7 st7 hQ7
  subst l7 y7 z7
  obtain ⟨ar_7, kk_7, rfl, N7q, K7, p7_0, p7_1, p7_2, p7_3, p7_4, p7_5, p7_6, p7_7⟩ := hQ7
  have pl7 := (allS (P := fun x => ∃ cell : Cell, h2[x]? = some cell ∧ cell.vm.isStatics = false) (own_ns f10) all0)
  have g_ar_7 : n0 ≤ ar_7 := Nat.le_trans (Nat.le_trans Z0 (Keep.of_wr W2).1) p7_0
  have sz_ar_7 : h0.size ≤ ar_7 := Nat.le_trans ((Keep.refl h0 [r0]).wr W2 (Or.inl (List.mem_of_getElem? (i := 0) rfl))).1 p7_0
  have N7 := Fr.app N2 N7q
  refine own_out X7 Bd.notSynchronized Bd.returns (some (.int 1)) nofun (by decide) (by decide) ?_ fun fs hr => k0 _ ?_
  · exact ⟨ar_7, kk_7, rfl, N7, (((Keep.refl h0 [r0]).wr W2 (Or.inl (List.mem_of_getElem? (i := 0) rfl))).trans K7 (allS (Or.inl (List.mem_of_getElem? (i := 0) rfl)) all0)), sz_ar_7, p7_1, p7_2, p7_3, p7_4, p7_5, p7_6, p7_7⟩
  · show OwnS p e below s₁ (mkF m 0 #[rv r0, rv r1] []) _
    refine oAn X0 hx hby d26_0 rfl rfl ?_
    refine XS.dup X0.here hx rfl (hb hby d26_1) rfl rfl ?_
    refine st1 _ ?_
    refine oIc X1 hx hby d26_5 ?_
    refine XS.iadd X1.here hx rfl (hb hby d26_6) rfl ?_
    refine st2 _ ?_
    refine oAn X2 hx hby d26_10 rfl rfl (oAn X2 hx hby d26_11 rfl rfl (oAn X2 hx hby d26_12 rfl rfl ?_))
    refine st4 _ ?_
    refine oAn X4 hx hby d26_16 rfl rfl ?_
    refine st6 _ ?_
    refine st7.trans ?_
    refine oIc X7 hx hby d26_23 ?_
    exact retN X7 hx (t := .boolean) Bd.returns (by simp) (hb hby d26_24) hr
def Q_26_1 (Z : State) (r0 r1 ed : Addr) (kE : ClassId) (pm : Int32) (x0 : Addr) (h0 : Heap) (n0 : Nat) (v : Option Value) (h : Heap) (L : List Loc) : Prop := v = some (.int 1) ∧ Fr n0 L ∧ Keep h0 h [r0, ed] ∧ Exa Z h ed cS6 ∧ Arv Z h ed kE (.object cS3) (10 : Int32) [(.ref x0), (.ref r1), .null, .null, .null, .null, .null, .null, .null, .null] .null ∧ Exa Z h r0 cS4 ∧ Fld Z h r0 cS16 "modCount" "I" (.int (pm + (1 : Int32))) ∧ Fld Z h r0 cS4 "elementData" cS6 (.ref ed) ∧ Fld Z h r0 cS4 "size" "I" (.int 2)
theorem rm26_1 (l : Launch) (Z : State) (a0 : Array Value) (hw : own_HW a0 Z) (ws : List Jvm.Cond) (r0 r1 ed : Addr) (kE : ClassId) (pm : Int32) (x0 : Addr) (h0 : Heap) (n0 : Nat) (Z0 : n0 ≤ h0.size) (E_r0 : Exa Z h0 r0 cS4) (F_modCount_r0 : Fld Z h0 r0 cS16 "modCount" "I" (.int pm)) (F_elementData_r0 : Fld Z h0 r0 cS4 "elementData" cS6 (.ref ed)) (F_size_r0 : Fld Z h0 r0 cS4 "size" "I" (.int 1)) (E_ed : Exa Z h0 ed cS6) (V_ed : Arv Z h0 ed kE (.object cS3) (10 : Int32) [(.ref x0), .null, .null, .null, .null, .null, .null, .null, .null, .null] .null) (E_r1 : Exa Z h0 r1 cS0) (O_kE : Ovr Z kE cS3) (ge_r0 : n0 ≤ r0) (ge_ed : n0 ≤ ed) :
    own_M l Z (⟨cS4, "add", "(Ljava/lang/Object;)Z"⟩ : MethodName) jdk_38_method_25_code 2 (some .boolean) ws ({ frames := 1, cells := 0, slots := 0, locals := 15 } : Room) #[(.ref r0), (.ref r1)] h0 (Q_26_1 Z r0 r1 ed kE pm x0 h0 n0) := by
  refine own_in cS4 rfl (plainFor_of_name pn_java_util_ArrayList) ?_
  intro p e s m below meth c s₁ Bd hml hZ hh hx hby hown X0 e0
  have N0 := Fr.nil n0
  have k0 := own_k (p := p) (e := e) (below := below) (T := s₁) (ef_26 m r0 r1)
  obtain ⟨T1, X1, e1, st1⟩ := getF X0 hx hZ hown (host := "") (Or.inl (own_at hw 202 rfl)) (Via.of (own_at hw 203 rfl)) e0 F_modCount_r0 (g := (mkF m 2 #[rv r0, rv r1] [(.ref r0), (.ref r0)])) rfl rfl (hb hby d26_2)
  obtain ⟨T2, h2, X2, e2, W2, st2⟩ := putF X1 hx hZ hown (host := "") (Or.inl (own_at hw 202 rfl)) (Via.of (own_at hw 203 rfl)) e1 F_modCount_r0 E_r0 (Or.inl (own_at hw 164 rfl)) (own_at hw 145 rfl) (ty := .int) (by decide) rfl rfl (g := (mkF m 7 #[rv r0, rv r1] [(.int (pm + (1 : Int32))), (.ref r0)])) rfl rfl (hb hby d26_7)
  have Fw2 : Fld Z h2 r0 cS16 "modCount" "I" (.int (pm + (1 : Int32))) := F_modCount_r0.same W2
  have N2 := Fr.snoc X2 N0 ge_r0
  have f3 := (F_elementData_r0.other W2 (Or.inr (slot_ne (Or.inl (own_at hw 167 rfl)) (Or.inl (own_at hw 164 rfl)) (by decide) (t := (.array (.object cS3))) (t' := .int) (by decide) (by decide))))
  obtain ⟨T4, X4, e4, st4⟩ := getF X2 hx hZ hown (host := "") (Or.inl (own_at hw 166 rfl)) Via.refl e2 f3 (g := (mkF m 13 #[rv r0, rv r1] [(.ref r0), (.ref r1), (.ref r0)])) rfl rfl (hb hby d26_13)
  have f5 := (F_size_r0.other W2 (Or.inr (slot_ne (Or.inl (own_at hw 195 rfl)) (Or.inl (own_at hw 164 rfl)) (by decide) (t := .int) (t' := .int) (by decide) (by decide))))
  obtain ⟨T6, X6, e6, st6⟩ := getF X4 hx hZ hown (host := "") (Or.inl (own_at hw 194 rfl)) Via.refl e4 f5 (g := (mkF m 17 #[rv r0, rv r1] [(.ref r0), (.ref ed), (.ref r1), (.ref r0)])) rfl rfl (hb hby d26_17)
  have f8 := (E_r0.wr W2)
  have f9 := (E_ed.wr W2)
  have f10 := (V_ed.other W2 (ne_exa f9 f8 (by decide)))
  have f11 := (E_r1.wr W2)
  obtain ⟨cq7, q7, q7'⟩ := f8.cell
  obtain ⟨_, _, ⟨T7, L7, j7, i7⟩, -, X7, ⟨Lc7, hQ7, l7, y7, z7⟩, st7⟩ := X6.privateBack hx (y := (⟨cS4, "add", "(Ljava/lang/Object;[Ljava/lang/Object;I)V"⟩ : MethodName)) hown (mvT hZ (own_at hw 204 rfl)) (mvT hZ (own_at hw 205 rfl)) (own_selpriv (by decide) (mvT hZ (own_at hw 145 rfl)) (mvP hZ (own_at hw 206 rfl)) (mvT hZ (own_at hw 205 rfl))) (Cond.privateMethod_at (mvP hZ (own_at hw 206 rfl) (args := #[]))) (mvT hZ (own_at hw 208 rfl)) (by decide) (backOf (W := 0) (rm27_1 l Z a0 hw [] r0 r1 ed kE (pm + (1 : Int32)) x0 h2 n0 (Nat.le_trans Z0 (Keep.of_wr W2).1) f8 Fw2 f3 f5 f9 f10 f11 O_kE ge_ed ge_r0) hZ (own_at hw 208 rfl) (own_at hw 146 rfl) (by decide) (by decide)) (g := (mkF m 20 #[rv r0, rv r1] [(.int 1), (.ref ed), (.ref r1), (.ref r0)])) rfl (by rw [hml]; rfl) (Steps.refl _) (a := r0) (by rw [e6]; exact q7) q7' (argsL := [(.ref r1), (.ref ed), (.int 1)]) (rest := []) (lenOf pd_18 rfl) rfl (Nat.le_refl _) (hb hby d26_20) (fun _ _ => ⟨rfl, e6, (by decide : 0 + 0 ≤ _), (by decide : 0 + 0 ≤ _)⟩)
  dsimp only [Pt.U, Pt.locs, Pt.cells, Pt.slots] at X7 l7 y7 z7 st7 hQ7
  subst l7 y7 z7
  obtain ⟨rfl, N7q, K7, p7_0, p7_1, p7_2, p7_3, p7_4, p7_5⟩ := hQ7
  have pl7 := (allS (P := fun x => ∃ cell : Cell, h2[x]? = some cell ∧ cell.vm.isStatics = false) (own_ns f8) (allS (P := fun x => ∃ cell : Cell, h2[x]? = some cell ∧ cell.vm.isStatics = false) (own_ns f9) all0))
  have N7 := Fr.app N2 N7q
  refine own_out X7 Bd.notSynchronized Bd.returns (some (.int 1)) nofun (by decide) (by decide) ?_ fun fs hr => k0 _ ?_
  · exact ⟨rfl, N7, (((Keep.refl h0 [r0, ed]).wr W2 (Or.inl (List.mem_of_getElem? (i := 0) rfl))).trans K7 (allS (Or.inl (List.mem_of_getElem? (i := 0) rfl)) (allS (Or.inl (List.mem_of_getElem? (i := 1) rfl)) all0))), p7_0, p7_1, p7_2, p7_3, p7_4, p7_5⟩
  · show OwnS p e below s₁ (mkF m 0 #[rv r0, rv r1] []) _
    refine oAn X0 hx hby d26_0 rfl rfl ?_
    refine XS.dup X0.here hx rfl (hb hby d26_1) rfl rfl ?_
    refine st1 _ ?_
    refine oIc X1 hx hby d26_5 ?_
    refine XS.iadd X1.here hx rfl (hb hby d26_6) rfl ?_
    refine st2 _ ?_
    refine oAn X2 hx hby d26_10 rfl rfl (oAn X2 hx hby d26_11 rfl rfl (oAn X2 hx hby d26_12 rfl rfl ?_))
    refine st4 _ ?_
    refine oAn X4 hx hby d26_16 rfl rfl ?_
    refine st6 _ ?_
    refine st7.trans ?_
    refine oIc X7 hx hby d26_23 ?_
    exact retN X7 hx (t := .boolean) Bd.returns (by simp) (hb hby d26_24) hr
def Q_26_2 (Z : State) (r0 r1 ed : Addr) (kE : ClassId) (pm : Int32) (x0 x1 : Addr) (h0 : Heap) (n0 : Nat) (v : Option Value) (h : Heap) (L : List Loc) : Prop := v = some (.int 1) ∧ Fr n0 L ∧ Keep h0 h [r0, ed] ∧ Exa Z h ed cS6 ∧ Arv Z h ed kE (.object cS3) (10 : Int32) [(.ref x0), (.ref x1), (.ref r1), .null, .null, .null, .null, .null, .null, .null] .null ∧ Exa Z h r0 cS4 ∧ Fld Z h r0 cS16 "modCount" "I" (.int (pm + (1 : Int32))) ∧ Fld Z h r0 cS4 "elementData" cS6 (.ref ed) ∧ Fld Z h r0 cS4 "size" "I" (.int 3)
theorem rm26_2 (l : Launch) (Z : State) (a0 : Array Value) (hw : own_HW a0 Z) (ws : List Jvm.Cond) (r0 r1 ed : Addr) (kE : ClassId) (pm : Int32) (x0 x1 : Addr) (h0 : Heap) (n0 : Nat) (Z0 : n0 ≤ h0.size) (E_r0 : Exa Z h0 r0 cS4) (F_modCount_r0 : Fld Z h0 r0 cS16 "modCount" "I" (.int pm)) (F_elementData_r0 : Fld Z h0 r0 cS4 "elementData" cS6 (.ref ed)) (F_size_r0 : Fld Z h0 r0 cS4 "size" "I" (.int 2)) (E_ed : Exa Z h0 ed cS6) (V_ed : Arv Z h0 ed kE (.object cS3) (10 : Int32) [(.ref x0), (.ref x1), .null, .null, .null, .null, .null, .null, .null, .null] .null) (E_r1 : Exa Z h0 r1 cS0) (O_kE : Ovr Z kE cS3) (ge_r0 : n0 ≤ r0) (ge_ed : n0 ≤ ed) :
    own_M l Z (⟨cS4, "add", "(Ljava/lang/Object;)Z"⟩ : MethodName) jdk_38_method_25_code 2 (some .boolean) ws ({ frames := 1, cells := 0, slots := 0, locals := 15 } : Room) #[(.ref r0), (.ref r1)] h0 (Q_26_2 Z r0 r1 ed kE pm x0 x1 h0 n0) := by
  refine own_in cS4 rfl (plainFor_of_name pn_java_util_ArrayList) ?_
  intro p e s m below meth c s₁ Bd hml hZ hh hx hby hown X0 e0
  have N0 := Fr.nil n0
  have k0 := own_k (p := p) (e := e) (below := below) (T := s₁) (ef_26 m r0 r1)
  obtain ⟨T1, X1, e1, st1⟩ := getF X0 hx hZ hown (host := "") (Or.inl (own_at hw 202 rfl)) (Via.of (own_at hw 203 rfl)) e0 F_modCount_r0 (g := (mkF m 2 #[rv r0, rv r1] [(.ref r0), (.ref r0)])) rfl rfl (hb hby d26_2)
  obtain ⟨T2, h2, X2, e2, W2, st2⟩ := putF X1 hx hZ hown (host := "") (Or.inl (own_at hw 202 rfl)) (Via.of (own_at hw 203 rfl)) e1 F_modCount_r0 E_r0 (Or.inl (own_at hw 164 rfl)) (own_at hw 145 rfl) (ty := .int) (by decide) rfl rfl (g := (mkF m 7 #[rv r0, rv r1] [(.int (pm + (1 : Int32))), (.ref r0)])) rfl rfl (hb hby d26_7)
  have Fw2 : Fld Z h2 r0 cS16 "modCount" "I" (.int (pm + (1 : Int32))) := F_modCount_r0.same W2
  have N2 := Fr.snoc X2 N0 ge_r0
  have f3 := (F_elementData_r0.other W2 (Or.inr (slot_ne (Or.inl (own_at hw 167 rfl)) (Or.inl (own_at hw 164 rfl)) (by decide) (t := (.array (.object cS3))) (t' := .int) (by decide) (by decide))))
  obtain ⟨T4, X4, e4, st4⟩ := getF X2 hx hZ hown (host := "") (Or.inl (own_at hw 166 rfl)) Via.refl e2 f3 (g := (mkF m 13 #[rv r0, rv r1] [(.ref r0), (.ref r1), (.ref r0)])) rfl rfl (hb hby d26_13)
  have f5 := (F_size_r0.other W2 (Or.inr (slot_ne (Or.inl (own_at hw 195 rfl)) (Or.inl (own_at hw 164 rfl)) (by decide) (t := .int) (t' := .int) (by decide) (by decide))))
  obtain ⟨T6, X6, e6, st6⟩ := getF X4 hx hZ hown (host := "") (Or.inl (own_at hw 194 rfl)) Via.refl e4 f5 (g := (mkF m 17 #[rv r0, rv r1] [(.ref r0), (.ref ed), (.ref r1), (.ref r0)])) rfl rfl (hb hby d26_17)
  have f8 := (E_r0.wr W2)
  have f9 := (E_ed.wr W2)
  have f10 := (V_ed.other W2 (ne_exa f9 f8 (by decide)))
  have f11 := (E_r1.wr W2)
  obtain ⟨cq7, q7, q7'⟩ := f8.cell
  obtain ⟨_, _, ⟨T7, L7, j7, i7⟩, -, X7, ⟨Lc7, hQ7, l7, y7, z7⟩, st7⟩ := X6.privateBack hx (y := (⟨cS4, "add", "(Ljava/lang/Object;[Ljava/lang/Object;I)V"⟩ : MethodName)) hown (mvT hZ (own_at hw 204 rfl)) (mvT hZ (own_at hw 205 rfl)) (own_selpriv (by decide) (mvT hZ (own_at hw 145 rfl)) (mvP hZ (own_at hw 206 rfl)) (mvT hZ (own_at hw 205 rfl))) (Cond.privateMethod_at (mvP hZ (own_at hw 206 rfl) (args := #[]))) (mvT hZ (own_at hw 208 rfl)) (by decide) (backOf (W := 0) (rm27_2 l Z a0 hw [] r0 r1 ed kE (pm + (1 : Int32)) x0 x1 h2 n0 (Nat.le_trans Z0 (Keep.of_wr W2).1) f8 Fw2 f3 f5 f9 f10 f11 O_kE ge_ed ge_r0) hZ (own_at hw 208 rfl) (own_at hw 146 rfl) (by decide) (by decide)) (g := (mkF m 20 #[rv r0, rv r1] [(.int 2), (.ref ed), (.ref r1), (.ref r0)])) rfl (by rw [hml]; rfl) (Steps.refl _) (a := r0) (by rw [e6]; exact q7) q7' (argsL := [(.ref r1), (.ref ed), (.int 2)]) (rest := []) (lenOf pd_18 rfl) rfl (Nat.le_refl _) (hb hby d26_20) (fun _ _ => ⟨rfl, e6, (by decide : 0 + 0 ≤ _), (by decide : 0 + 0 ≤ _)⟩)
  dsimp only [Pt.U, Pt.locs, Pt.cells, Pt.slots] at X7 l7 y7 z7 st7 hQ7
  subst l7 y7 z7
  obtain ⟨rfl, N7q, K7, p7_0, p7_1, p7_2, p7_3, p7_4, p7_5⟩ := hQ7
  have pl7 := (allS (P := fun x => ∃ cell : Cell, h2[x]? = some cell ∧ cell.vm.isStatics = false) (own_ns f8) (allS (P := fun x => ∃ cell : Cell, h2[x]? = some cell ∧ cell.vm.isStatics = false) (own_ns f9) all0))
  have N7 := Fr.app N2 N7q
  refine own_out X7 Bd.notSynchronized Bd.returns (some (.int 1)) nofun (by decide) (by decide) ?_ fun fs hr => k0 _ ?_
  · exact ⟨rfl, N7, (((Keep.refl h0 [r0, ed]).wr W2 (Or.inl (List.mem_of_getElem? (i := 0) rfl))).trans K7 (allS (Or.inl (List.mem_of_getElem? (i := 0) rfl)) (allS (Or.inl (List.mem_of_getElem? (i := 1) rfl)) all0))), p7_0, p7_1, p7_2, p7_3, p7_4, p7_5⟩
  · show OwnS p e below s₁ (mkF m 0 #[rv r0, rv r1] []) _
    refine oAn X0 hx hby d26_0 rfl rfl ?_
    refine XS.dup X0.here hx rfl (hb hby d26_1) rfl rfl ?_
    refine st1 _ ?_
    refine oIc X1 hx hby d26_5 ?_
    refine XS.iadd X1.here hx rfl (hb hby d26_6) rfl ?_
    refine st2 _ ?_
    refine oAn X2 hx hby d26_10 rfl rfl (oAn X2 hx hby d26_11 rfl rfl (oAn X2 hx hby d26_12 rfl rfl ?_))
    refine st4 _ ?_
    refine oAn X4 hx hby d26_16 rfl rfl ?_
    refine st6 _ ?_
    refine st7.trans ?_
    refine oIc X7 hx hby d26_23 ?_
    exact retN X7 hx (t := .boolean) Bd.returns (by simp) (hb hby d26_24) hr
def Q_26_3 (Z : State) (r0 r1 ed : Addr) (kE : ClassId) (pm : Int32) (x0 x1 x2 : Addr) (h0 : Heap) (n0 : Nat) (v : Option Value) (h : Heap) (L : List Loc) : Prop := v = some (.int 1) ∧ Fr n0 L ∧ Keep h0 h [r0, ed] ∧ Exa Z h ed cS6 ∧ Arv Z h ed kE (.object cS3) (10 : Int32) [(.ref x0), (.ref x1), (.ref x2), (.ref r1), .null, .null, .null, .null, .null, .null] .null ∧ Exa Z h r0 cS4 ∧ Fld Z h r0 cS16 "modCount" "I" (.int (pm + (1 : Int32))) ∧ Fld Z h r0 cS4 "elementData" cS6 (.ref ed) ∧ Fld Z h r0 cS4 "size" "I" (.int 4)
theorem rm26_3 (l : Launch) (Z : State) (a0 : Array Value) (hw : own_HW a0 Z) (ws : List Jvm.Cond) (r0 r1 ed : Addr) (kE : ClassId) (pm : Int32) (x0 x1 x2 : Addr) (h0 : Heap) (n0 : Nat) (Z0 : n0 ≤ h0.size) (E_r0 : Exa Z h0 r0 cS4) (F_modCount_r0 : Fld Z h0 r0 cS16 "modCount" "I" (.int pm)) (F_elementData_r0 : Fld Z h0 r0 cS4 "elementData" cS6 (.ref ed)) (F_size_r0 : Fld Z h0 r0 cS4 "size" "I" (.int 3)) (E_ed : Exa Z h0 ed cS6) (V_ed : Arv Z h0 ed kE (.object cS3) (10 : Int32) [(.ref x0), (.ref x1), (.ref x2), .null, .null, .null, .null, .null, .null, .null] .null) (E_r1 : Exa Z h0 r1 cS0) (O_kE : Ovr Z kE cS3) (ge_r0 : n0 ≤ r0) (ge_ed : n0 ≤ ed) :
    own_M l Z (⟨cS4, "add", "(Ljava/lang/Object;)Z"⟩ : MethodName) jdk_38_method_25_code 2 (some .boolean) ws ({ frames := 1, cells := 0, slots := 0, locals := 15 } : Room) #[(.ref r0), (.ref r1)] h0 (Q_26_3 Z r0 r1 ed kE pm x0 x1 x2 h0 n0) := by
  refine own_in cS4 rfl (plainFor_of_name pn_java_util_ArrayList) ?_
  intro p e s m below meth c s₁ Bd hml hZ hh hx hby hown X0 e0
  have N0 := Fr.nil n0
  have k0 := own_k (p := p) (e := e) (below := below) (T := s₁) (ef_26 m r0 r1)
  obtain ⟨T1, X1, e1, st1⟩ := getF X0 hx hZ hown (host := "") (Or.inl (own_at hw 202 rfl)) (Via.of (own_at hw 203 rfl)) e0 F_modCount_r0 (g := (mkF m 2 #[rv r0, rv r1] [(.ref r0), (.ref r0)])) rfl rfl (hb hby d26_2)
  obtain ⟨T2, h2, X2, e2, W2, st2⟩ := putF X1 hx hZ hown (host := "") (Or.inl (own_at hw 202 rfl)) (Via.of (own_at hw 203 rfl)) e1 F_modCount_r0 E_r0 (Or.inl (own_at hw 164 rfl)) (own_at hw 145 rfl) (ty := .int) (by decide) rfl rfl (g := (mkF m 7 #[rv r0, rv r1] [(.int (pm + (1 : Int32))), (.ref r0)])) rfl rfl (hb hby d26_7)
  have Fw2 : Fld Z h2 r0 cS16 "modCount" "I" (.int (pm + (1 : Int32))) := F_modCount_r0.same W2
  have N2 := Fr.snoc X2 N0 ge_r0
  have f3 := (F_elementData_r0.other W2 (Or.inr (slot_ne (Or.inl (own_at hw 167 rfl)) (Or.inl (own_at hw 164 rfl)) (by decide) (t := (.array (.object cS3))) (t' := .int) (by decide) (by decide))))
  obtain ⟨T4, X4, e4, st4⟩ := getF X2 hx hZ hown (host := "") (Or.inl (own_at hw 166 rfl)) Via.refl e2 f3 (g := (mkF m 13 #[rv r0, rv r1] [(.ref r0), (.ref r1), (.ref r0)])) rfl rfl (hb hby d26_13)
  have f5 := (F_size_r0.other W2 (Or.inr (slot_ne (Or.inl (own_at hw 195 rfl)) (Or.inl (own_at hw 164 rfl)) (by decide) (t := .int) (t' := .int) (by decide) (by decide))))
  obtain ⟨T6, X6, e6, st6⟩ := getF X4 hx hZ hown (host := "") (Or.inl (own_at hw 194 rfl)) Via.refl e4 f5 (g := (mkF m 17 #[rv r0, rv r1] [(.ref r0), (.ref ed), (.ref r1), (.ref r0)])) rfl rfl (hb hby d26_17)
  have f8 := (E_r0.wr W2)
  have f9 := (E_ed.wr W2)
  have f10 := (V_ed.other W2 (ne_exa f9 f8 (by decide)))
  have f11 := (E_r1.wr W2)
  obtain ⟨cq7, q7, q7'⟩ := f8.cell
  obtain ⟨_, _, ⟨T7, L7, j7, i7⟩, -, X7, ⟨Lc7, hQ7, l7, y7, z7⟩, st7⟩ := X6.privateBack hx (y := (⟨cS4, "add", "(Ljava/lang/Object;[Ljava/lang/Object;I)V"⟩ : MethodName)) hown (mvT hZ (own_at hw 204 rfl)) (mvT hZ (own_at hw 205 rfl)) (own_selpriv (by decide) (mvT hZ (own_at hw 145 rfl)) (mvP hZ (own_at hw 206 rfl)) (mvT hZ (own_at hw 205 rfl))) (Cond.privateMethod_at (mvP hZ (own_at hw 206 rfl) (args := #[]))) (mvT hZ (own_at hw 208 rfl)) (by decide) (backOf (W := 0) (rm27_3 l Z a0 hw [] r0 r1 ed kE (pm + (1 : Int32)) x0 x1 x2 h2 n0 (Nat.le_trans Z0 (Keep.of_wr W2).1) f8 Fw2 f3 f5 f9 f10 f11 O_kE ge_ed ge_r0) hZ (own_at hw 208 rfl) (own_at hw 146 rfl) (by decide) (by decide)) (g := (mkF m 20 #[rv r0, rv r1] [(.int 3), (.ref ed), (.ref r1), (.ref r0)])) rfl (by rw [hml]; rfl) (Steps.refl _) (a := r0) (by rw [e6]; exact q7) q7' (argsL := [(.ref r1), (.ref ed), (.int 3)]) (rest := []) (lenOf pd_18 rfl) rfl (Nat.le_refl _) (hb hby d26_20) (fun _ _ => ⟨rfl, e6, (by decide : 0 + 0 ≤ _), (by decide : 0 + 0 ≤ _)⟩)
  dsimp only [Pt.U, Pt.locs, Pt.cells, Pt.slots] at X7 l7 y7 z7 st7 hQ7
  subst l7 y7 z7
  obtain ⟨rfl, N7q, K7, p7_0, p7_1, p7_2, p7_3, p7_4, p7_5⟩ := hQ7
  have pl7 := (allS (P := fun x => ∃ cell : Cell, h2[x]? = some cell ∧ cell.vm.isStatics = false) (own_ns f8) (allS (P := fun x => ∃ cell : Cell, h2[x]? = some cell ∧ cell.vm.isStatics = false) (own_ns f9) all0))
  have N7 := Fr.app N2 N7q
  refine own_out X7 Bd.notSynchronized Bd.returns (some (.int 1)) nofun (by decide) (by decide) ?_ fun fs hr => k0 _ ?_
  · exact ⟨rfl, N7, (((Keep.refl h0 [r0, ed]).wr W2 (Or.inl (List.mem_of_getElem? (i := 0) rfl))).trans K7 (allS (Or.inl (List.mem_of_getElem? (i := 0) rfl)) (allS (Or.inl (List.mem_of_getElem? (i := 1) rfl)) all0))), p7_0, p7_1, p7_2, p7_3, p7_4, p7_5⟩
  · show OwnS p e below s₁ (mkF m 0 #[rv r0, rv r1] []) _
    refine oAn X0 hx hby d26_0 rfl rfl ?_
    refine XS.dup X0.here hx rfl (hb hby d26_1) rfl rfl ?_
    refine st1 _ ?_
    refine oIc X1 hx hby d26_5 ?_
    refine XS.iadd X1.here hx rfl (hb hby d26_6) rfl ?_
    refine st2 _ ?_
    refine oAn X2 hx hby d26_10 rfl rfl (oAn X2 hx hby d26_11 rfl rfl (oAn X2 hx hby d26_12 rfl rfl ?_))
    refine st4 _ ?_
    refine oAn X4 hx hby d26_16 rfl rfl ?_
    refine st6 _ ?_
    refine st7.trans ?_
    refine oIc X7 hx hby d26_23 ?_
    exact retN X7 hx (t := .boolean) Bd.returns (by simp) (hb hby d26_24) hr
theorem d25_0 : decode jdk_38_method_9_code 0 = .ok (.aload_n 0, 1) := by decide +kernel
theorem d25_1 : decode jdk_38_method_9_code 1 = .ok (.getfield 48, 3) := by decide +kernel
theorem d25_4 : decode jdk_38_method_9_code 4 = .ok (.ifCond .ne 7, 3) := by decide +kernel
theorem d25_11 : decode jdk_38_method_9_code 11 = .ok (.iconst 0, 1) := by decide +kernel
theorem d25_12 : decode jdk_38_method_9_code 12 = .ok (.ireturn, 1) := by decide +kernel
theorem ef_25 (m : MethodId) (x0 : Addr) : entryFrame m #[(.ref x0)] 1 = mkF m 0 #[.val (.ref x0)] [] := by first | (simp [entryFrame, mkF, argsToLocals, Value.category]; done) | rfl
def Q_25_t (Z : State) (r0 : Addr) (pz : Int32) (h0 : Heap) (n0 : Nat) (v : Option Value) (h : Heap) (L : List Loc) : Prop := v = some (.int 0) ∧ Fr n0 L ∧ h = h0
theorem rm25_t (l : Launch) (Z : State) (a0 : Array Value) (hw : own_HW a0 Z) (ws : List Jvm.Cond) (r0 : Addr) (pz : Int32) (h0 : Heap) (n0 : Nat) (Z0 : n0 ≤ h0.size) (F_size_r0 : Fld Z h0 r0 cS4 "size" "I" (.int pz)) (hc4 : ¬ (pz = (0 : Int32))) :
    own_M l Z (⟨cS4, "isEmpty", "()Z"⟩ : MethodName) jdk_38_method_9_code 1 (some .boolean) ws ({ frames := 0, cells := 0, slots := 0, locals := 0 } : Room) #[(.ref r0)] h0 (Q_25_t Z r0 pz h0 n0) := by
  refine own_in cS4 rfl (plainFor_of_name pn_java_util_ArrayList) ?_
  intro p e s m below meth c s₁ Bd hml hZ hh hx hby hown X0 e0
  have N0 := Fr.nil n0
  have k0 := own_k (p := p) (e := e) (below := below) (T := s₁) (ef_25 m r0)
  obtain ⟨T1, X1, e1, st1⟩ := getF X0 hx hZ hown (host := "") (Or.inl (own_at hw 194 rfl)) Via.refl e0 F_size_r0 (g := (mkF m 1 #[rv r0] [(.ref r0)])) rfl rfl (hb hby d25_1)
  refine own_out X1 Bd.notSynchronized Bd.returns (some (.int 0)) nofun (by decide) (by decide) ?_ fun fs hr => k0 _ ?_
  · rw [e1]; exact ⟨rfl, N0, rfl⟩
  · show OwnS p e below s₁ (mkF m 0 #[rv r0] []) _
    refine oAn X0 hx hby d25_0 rfl rfl ?_
    refine st1 _ ?_
    refine XS.ifYes X1.here hx rfl (pc0 := 4) (pc' := 11) rfl (hb hby d25_4) rfl ((if0 _ _).trans (feq hc4).2) (by decide) (by decide) ?_
    refine oIc X1 hx hby d25_11 ?_
    exact retN X1 hx (t := .boolean) Bd.returns (by simp) (hb hby d25_12) hr
theorem d25_7 : decode jdk_38_method_9_code 7 = .ok (.iconst 1, 1) := by decide +kernel
theorem d25_8 : decode jdk_38_method_9_code 8 = .ok (.goto 4, 3) := by decide +kernel
def Q_25_f (Z : State) (r0 : Addr) (pz : Int32) (h0 : Heap) (n0 : Nat) (v : Option Value) (h : Heap) (L : List Loc) : Prop := v = some (.int 1) ∧ Fr n0 L ∧ h = h0
theorem rm25_f (l : Launch) (Z : State) (a0 : Array Value) (hw : own_HW a0 Z) (ws : List Jvm.Cond) (r0 : Addr) (pz : Int32) (h0 : Heap) (n0 : Nat) (Z0 : n0 ≤ h0.size) (F_size_r0 : Fld Z h0 r0 cS4 "size" "I" (.int pz)) (hc4 : pz = (0 : Int32)) :
    own_M l Z (⟨cS4, "isEmpty", "()Z"⟩ : MethodName) jdk_38_method_9_code 1 (some .boolean) ws ({ frames := 0, cells := 0, slots := 0, locals := 0 } : Room) #[(.ref r0)] h0 (Q_25_f Z r0 pz h0 n0) := by
  refine own_in cS4 rfl (plainFor_of_name pn_java_util_ArrayList) ?_
  intro p e s m below meth c s₁ Bd hml hZ hh hx hby hown X0 e0
  have N0 := Fr.nil n0
  have k0 := own_k (p := p) (e := e) (below := below) (T := s₁) (ef_25 m r0)
  obtain ⟨T1, X1, e1, st1⟩ := getF X0 hx hZ hown (host := "") (Or.inl (own_at hw 194 rfl)) Via.refl e0 F_size_r0 (g := (mkF m 1 #[rv r0] [(.ref r0)])) rfl rfl (hb hby d25_1)
  refine own_out X1 Bd.notSynchronized Bd.returns (some (.int 1)) nofun (by decide) (by decide) ?_ fun fs hr => k0 _ ?_
  · rw [e1]; exact ⟨rfl, N0, rfl⟩
  · show OwnS p e below s₁ (mkF m 0 #[rv r0] []) _
    refine oAn X0 hx hby d25_0 rfl rfl ?_
    refine st1 _ ?_
    refine XS.ifNo X1.here hx rfl (hb hby d25_4) rfl ((if0 _ _).trans (teq hc4).2) ?_
    refine oIc X1 hx hby d25_7 (oGo X1 hx hby 8 12 d25_8 (by decide) (by decide) ?_)
    exact retN X1 hx (t := .boolean) Bd.returns (by simp) (hb hby d25_12) hr
theorem d44_0 : decode jdk_47_method_1_code 0 = .ok (.aload_n 0, 1) := by decide +kernel
theorem d44_1 : decode jdk_47_method_1_code 1 = .ok (.invokespecial 1, 3) := by decide +kernel
theorem d44_4 : decode jdk_47_method_1_code 4 = .ok (.return_, 1) := by decide +kernel
theorem pn_java_util_ImmutableCollections_AbstractImmutableCollection : plainName "java/util/ImmutableCollections$AbstractImmutableCollection" = true := by first | (simp [plainName, overriddenIn]; done) | decide +kernel
theorem ef_44 (m : MethodId) (x0 : Addr) : entryFrame m #[(.ref x0)] 1 = mkF m 0 #[.val (.ref x0)] [] := by first | (simp [entryFrame, mkF, argsToLocals, Value.category]; done) | rfl
def Q_44 (Z : State) (r0 : Addr) (h0 : Heap) (n0 : Nat) (v : Option Value) (h : Heap) (L : List Loc) : Prop := v = none ∧ Fr n0 L ∧ h = h0
theorem rm44 (l : Launch) (Z : State) (a0 : Array Value) (hw : own_HW a0 Z) (ws : List Jvm.Cond) (r0 : Addr) (h0 : Heap) (n0 : Nat) (Z0 : n0 ≤ h0.size) :
    own_M l Z (⟨"java/util/ImmutableCollections$AbstractImmutableCollection", "<init>", "()V"⟩ : MethodName) jdk_47_method_1_code 1 none ws ({ frames := 2, cells := 0, slots := 0, locals := 24 } : Room) #[(.ref r0)] h0 (Q_44 Z r0 h0 n0) := by
  refine own_in "java/util/ImmutableCollections$AbstractImmutableCollection" rfl (plainFor_of_name pn_java_util_ImmutableCollections_AbstractImmutableCollection) ?_
  intro p e s m below meth c s₁ Bd hml hZ hh hx hby hown X0 e0
  have N0 := Fr.nil n0
  have k0 := own_k (p := p) (e := e) (below := below) (T := s₁) (ef_44 m r0)
  obtain ⟨_, _, ⟨T1, L1, j1, i1⟩, -, X1, ⟨Lc1, hQ1, l1, y1, z1⟩, st1⟩ := X0.specialBack hx (y := (⟨cS21, "<init>", "()V"⟩ : MethodName)) rfl hown (mvT hZ (own_at hw 309 rfl)) (mvT hZ (own_at hw 157 rfl)) (mvT hZ (own_at hw 161 rfl)) (by decide) (backOf (W := 0) (rm21 l Z a0 hw [] r0 h0 n0 Z0 ) hZ (own_at hw 161 rfl) (own_at hw 160 rfl) (by decide) (by decide)) (g := (mkF m 1 #[rv r0] [(.ref r0)])) rfl (by rw [hml]; rfl) (Steps.refl _) (a := r0) (argsL := []) (rest := []) (lenOf pd_14 rfl) rfl (Nat.le_refl _) (hb hby d44_1) (fun _ _ => ⟨rfl, e0, (by decide : 0 + 0 ≤ _), (by decide : 0 + 0 ≤ _)⟩)
  dsimp only [Pt.U, Pt.locs, Pt.cells, Pt.slots] at X1 l1 y1 z1 st1 hQ1
  subst l1 y1 z1
  obtain ⟨rfl, N1q, e1⟩ := hQ1
  have N1 := Fr.app N0 N1q
  refine own_out X1 Bd.notSynchronized Bd.returns (none) (fun _ => rfl) (by decide) (by decide) ?_ fun fs hr => k0 _ ?_
  · rw [e1]; exact ⟨rfl, N1, rfl⟩
  · show OwnS p e below s₁ (mkF m 0 #[rv r0] []) _
    refine oAn X0 hx hby d44_0 rfl rfl ?_
    refine st1.trans ?_
    exact X1.returnOut hx Bd.returns (hb hby d44_4) hr
theorem d43_0 : decode jdk_46_method_1_code 0 = .ok (.aload_n 0, 1) := by decide +kernel
theorem d43_1 : decode jdk_46_method_1_code 1 = .ok (.invokespecial 1, 3) := by decide +kernel
theorem d43_4 : decode jdk_46_method_1_code 4 = .ok (.return_, 1) := by decide +kernel
theorem ef_43 (m : MethodId) (x0 : Addr) : entryFrame m #[(.ref x0)] 1 = mkF m 0 #[.val (.ref x0)] [] := by first | (simp [entryFrame, mkF, argsToLocals, Value.category]; done) | rfl
def Q_43 (Z : State) (r0 : Addr) (h0 : Heap) (n0 : Nat) (v : Option Value) (h : Heap) (L : List Loc) : Prop := v = none ∧ Fr n0 L ∧ h = h0
theorem rm43 (l : Launch) (Z : State) (a0 : Array Value) (hw : own_HW a0 Z) (ws : List Jvm.Cond) (r0 : Addr) (h0 : Heap) (n0 : Nat) (Z0 : n0 ≤ h0.size) :
    own_M l Z (⟨cS17, "<init>", "()V"⟩ : MethodName) jdk_46_method_1_code 1 none ws ({ frames := 3, cells := 0, slots := 0, locals := 36 } : Room) #[(.ref r0)] h0 (Q_43 Z r0 h0 n0) := by
  refine own_in cS17 rfl (plainFor_of_name pn_java_util_ImmutableCollections_AbstractImmutableList) ?_
  intro p e s m below meth c s₁ Bd hml hZ hh hx hby hown X0 e0
  have N0 := Fr.nil n0
  have k0 := own_k (p := p) (e := e) (below := below) (T := s₁) (ef_43 m r0)
  obtain ⟨_, _, ⟨T1, L1, j1, i1⟩, -, X1, ⟨Lc1, hQ1, l1, y1, z1⟩, st1⟩ := X0.specialBack hx (y := (⟨"java/util/ImmutableCollections$AbstractImmutableCollection", "<init>", "()V"⟩ : MethodName)) rfl hown (mvT hZ (own_at hw 303 rfl)) (mvT hZ (own_at hw 304 rfl)) (mvT hZ (own_at hw 308 rfl)) (by decide) (backOf (W := 0) (rm44 l Z a0 hw [] r0 h0 n0 Z0 ) hZ (own_at hw 308 rfl) (own_at hw 307 rfl) (by decide) (by decide)) (g := (mkF m 1 #[rv r0] [(.ref r0)])) rfl (by rw [hml]; rfl) (Steps.refl _) (a := r0) (argsL := []) (rest := []) (lenOf pd_14 rfl) rfl (Nat.le_refl _) (hb hby d43_1) (fun _ _ => ⟨rfl, e0, (by decide : 0 + 0 ≤ _), (by decide : 0 + 0 ≤ _)⟩)
  dsimp only [Pt.U, Pt.locs, Pt.cells, Pt.slots] at X1 l1 y1 z1 st1 hQ1
  subst l1 y1 z1
  obtain ⟨rfl, N1q, e1⟩ := hQ1
  have N1 := Fr.app N0 N1q
  refine own_out X1 Bd.notSynchronized Bd.returns (none) (fun _ => rfl) (by decide) (by decide) ?_ fun fs hr => k0 _ ?_
  · rw [e1]; exact ⟨rfl, N1, rfl⟩
  · show OwnS p e below s₁ (mkF m 0 #[rv r0] []) _
    refine oAn X0 hx hby d43_0 rfl rfl ?_
    refine st1.trans ?_
    exact X1.returnOut hx Bd.returns (hb hby d43_4) hr
theorem d42_0 : decode jdk_45_method_1_code 0 = .ok (.aload_n 0, 1) := by decide +kernel
theorem d42_1 : decode jdk_45_method_1_code 1 = .ok (.invokespecial 1, 3) := by decide +kernel
theorem d42_4 : decode jdk_45_method_1_code 4 = .ok (.aload_n 0, 1) := by decide +kernel
theorem d42_5 : decode jdk_45_method_1_code 5 = .ok (.aload_n 1, 1) := by decide +kernel
theorem d42_6 : decode jdk_45_method_1_code 6 = .ok (.putfield 7, 3) := by decide +kernel
theorem d42_9 : decode jdk_45_method_1_code 9 = .ok (.aload_n 0, 1) := by decide +kernel
theorem d42_10 : decode jdk_45_method_1_code 10 = .ok (.iload_n 2, 1) := by decide +kernel
theorem d42_11 : decode jdk_45_method_1_code 11 = .ok (.putfield 13, 3) := by decide +kernel
theorem d42_14 : decode jdk_45_method_1_code 14 = .ok (.return_, 1) := by decide +kernel
theorem ef_42 (m : MethodId) (x0 : Addr) (x1 : Addr) (x2 : Int32) : entryFrame m #[(.ref x0), (.ref x1), (.int x2)] 3 = mkF m 0 #[.val (.ref x0), .val (.ref x1), .val (.int x2)] [] := by first | (simp [entryFrame, mkF, argsToLocals, Value.category]; done) | rfl
def Q_42 (Z : State) (r0 r1 : Addr) (u_elements_r0 u_allowNulls_r0 : Value) (h0 : Heap) (n0 : Nat) (v : Option Value) (h : Heap) (L : List Loc) : Prop := v = none ∧ Fr n0 L ∧ Keep h0 h [r0] ∧ Exa Z h r0 cS7 ∧ Fld Z h r0 cS7 "elements" cS6 (.ref r1)
theorem rm42 (l : Launch) (Z : State) (a0 : Array Value) (hw : own_HW a0 Z) (ws : List Jvm.Cond) (r0 r1 : Addr) (u_elements_r0 u_allowNulls_r0 : Value) (h0 : Heap) (n0 : Nat) (Z0 : n0 ≤ h0.size) (E_r0 : Exa Z h0 r0 cS7) (F_elements_r0 : Fld Z h0 r0 cS7 "elements" cS6 u_elements_r0) (ge_r0 : n0 ≤ r0) (F_allowNulls_r0 : Fld Z h0 r0 cS7 "allowNulls" "Z" u_allowNulls_r0) :
    own_M l Z (⟨cS7, "<init>", "([Ljava/lang/Object;Z)V"⟩ : MethodName) jdk_45_method_1_code 3 none ws ({ frames := 4, cells := 0, slots := 0, locals := 48 } : Room) #[(.ref r0), (.ref r1), (.int 0)] h0 (Q_42 Z r0 r1 u_elements_r0 u_allowNulls_r0 h0 n0) := by
  refine own_in cS7 rfl (plainFor_of_name pn_java_util_ImmutableCollections_ListN) ?_
  intro p e s m below meth c s₁ Bd hml hZ hh hx hby hown X0 e0
  have N0 := Fr.nil n0
  have hnm := (name_of_methodNamed Bd.named Bd.method).1
  have k0 := own_k (p := p) (e := e) (below := below) (T := s₁) (ef_42 m r0 r1 (0 : Int32))
  obtain ⟨_, _, ⟨T1, L1, j1, i1⟩, -, X1, ⟨Lc1, hQ1, l1, y1, z1⟩, st1⟩ := X0.specialBack hx (y := (⟨cS17, "<init>", "()V"⟩ : MethodName)) rfl hown (mvT hZ (own_at hw 298 rfl)) (mvT hZ (own_at hw 299 rfl)) (mvT hZ (own_at hw 302 rfl)) (by decide) (backOf (W := 0) (rm43 l Z a0 hw [] r0 h0 n0 Z0 ) hZ (own_at hw 302 rfl) (own_at hw 106 rfl) (by decide) (by decide)) (g := (mkF m 1 #[rv r0, rv r1, iv 0] [(.ref r0)])) rfl (by rw [hml]; rfl) (Steps.refl _) (a := r0) (argsL := []) (rest := []) (lenOf pd_14 rfl) rfl (Nat.le_refl _) (hb hby d42_1) (fun _ _ => ⟨rfl, e0, (by decide : 0 + 0 ≤ _), (by decide : 0 + 0 ≤ _)⟩)
  dsimp only [Pt.U, Pt.locs, Pt.cells, Pt.slots] at X1 l1 y1 z1 st1 hQ1
  subst l1 y1 z1
  obtain ⟨rfl, N1q, e1⟩ := hQ1
  have N1 := Fr.app N0 N1q
  obtain ⟨T2, h2, X2, e2, W2, st2⟩ := putF X1 hx hZ hown (host := "") (Or.inl (own_at hw 118 rfl)) Via.refl e1 F_elements_r0 E_r0 (Or.inr ⟨(own_at hw 119 rfl), rfl, hnm⟩) (own_at hw 293 rfl) (ty := (.array (.object cS3))) (by decide) rfl rfl (g := (mkF m 6 #[rv r0, rv r1, iv 0] [(.ref r1), (.ref r0)])) rfl rfl (hb hby d42_6)
  have Fw2 : Fld Z h2 r0 cS7 "elements" cS6 (.ref r1) := F_elements_r0.same W2
  have N2 := Fr.snoc X2 N1 ge_r0
  have f3 := (E_r0.wr W2)
  have f4 := (F_allowNulls_r0.other W2 (Or.inr (slot_ne (Or.inr (own_at hw 312 rfl)) (Or.inr (own_at hw 119 rfl)) (by decide) (t := .boolean) (t' := (.array (.object cS3))) (by decide) (by decide))))
  obtain ⟨T5, h5, X5, e5, W5, st5⟩ := putFN X2 hx hZ hown (own_at hw 311 rfl) Via.refl e2 f4 f3 (Or.inr ⟨(own_at hw 312 rfl), rfl, hnm⟩) (own_at hw 293 rfl) (ty := .boolean) (v' := (.int 0)) (by decide) rfl rfl (g := (mkF m 11 #[rv r0, rv r1, iv 0] [(.int 0), (.ref r0)])) rfl rfl (hb hby d42_11)
  have Fw5 : Fld Z h5 r0 cS7 "allowNulls" "Z" (.int 0) := f4.same W5
  have N5 := Fr.snoc X5 N2 ge_r0
  have f6 := (f3.wr W5)
  have f7 := (Fw2.other W5 (Or.inr (slot_ne (Or.inr (own_at hw 119 rfl)) (Or.inr (own_at hw 312 rfl)) (by decide) (t := (.array (.object cS3))) (t' := .boolean) (by decide) (by decide))))
  refine own_out X5 Bd.notSynchronized Bd.returns (none) (fun _ => rfl) (by decide) (by decide) ?_ fun fs hr => k0 _ ?_
  · rw [e5]; exact ⟨rfl, N5, (((Keep.refl h0 [r0]).wr W2 (Or.inl (List.mem_of_getElem? (i := 0) rfl))).wr W5 (Or.inl (List.mem_of_getElem? (i := 0) rfl))), f6, f7⟩
  · show OwnS p e below s₁ (mkF m 0 #[rv r0, rv r1, iv 0] []) _
    refine oAn X0 hx hby d42_0 rfl rfl ?_
    refine st1.trans ?_
    refine oAn X1 hx hby d42_4 rfl rfl (oAn X1 hx hby d42_5 rfl rfl ?_)
    refine st2 _ ?_
    refine oAn X2 hx hby d42_9 rfl rfl (oIn X2 hx hby d42_10 rfl ?_)
    refine st5 _ ?_
    exact X5.returnOut hx Bd.returns (hb hby d42_14) hr
theorem pd_19 : parseMethodDescriptor "(Ljava/lang/Object;)Ljava/lang/Object;" = some ⟨[(.object cS3)], some (.object cS3)⟩ := by decide +kernel
theorem d47_0 : decode jdk_44_method_2_code 0 = .ok (.aload_n 0, 1) := by decide +kernel
theorem d47_1 : decode jdk_44_method_2_code 1 = .ok (.invokespecial 1, 3) := by decide +kernel
theorem d47_4 : decode jdk_44_method_2_code 4 = .ok (.aload_n 0, 1) := by decide +kernel
theorem d47_5 : decode jdk_44_method_2_code 5 = .ok (.aload_n 1, 1) := by decide +kernel
theorem d47_6 : decode jdk_44_method_2_code 6 = .ok (.invokestatic 7, 3) := by decide +kernel
theorem d47_9 : decode jdk_44_method_2_code 9 = .ok (.putfield 13, 3) := by decide +kernel
theorem d47_12 : decode jdk_44_method_2_code 12 = .ok (.aload_n 0, 1) := by decide +kernel
theorem d47_13 : decode jdk_44_method_2_code 13 = .ok (.aload_n 2, 1) := by decide +kernel
theorem d47_14 : decode jdk_44_method_2_code 14 = .ok (.invokestatic 7, 3) := by decide +kernel
theorem d47_17 : decode jdk_44_method_2_code 17 = .ok (.putfield 24, 3) := by decide +kernel
theorem d47_20 : decode jdk_44_method_2_code 20 = .ok (.return_, 1) := by decide +kernel
theorem ef_47 (m : MethodId) (x0 : Addr) (x1 : Addr) (x2 : Addr) : entryFrame m #[(.ref x0), (.ref x1), (.ref x2)] 3 = mkF m 0 #[.val (.ref x0), .val (.ref x1), .val (.ref x2)] [] := by first | (simp [entryFrame, mkF, argsToLocals, Value.category]; done) | rfl
def Q_47 (Z : State) (r0 r1 r2 : Addr) (u_e0_r0 u_e1_r0 : Value) (h0 : Heap) (n0 : Nat) (v : Option Value) (h : Heap) (L : List Loc) : Prop := v = none ∧ Fr n0 L ∧ Keep h0 h [r0] ∧ Exa Z h r0 cS5 ∧ Fld Z h r0 cS5 "e0" cS13 (.ref r1) ∧ Fld Z h r0 cS5 "e1" cS13 (.ref r2)
theorem rm47 (l : Launch) (Z : State) (a0 : Array Value) (hw : own_HW a0 Z) (ws : List Jvm.Cond) (r0 r1 r2 : Addr) (u_e0_r0 u_e1_r0 : Value) (h0 : Heap) (n0 : Nat) (Z0 : n0 ≤ h0.size) (E_r0 : Exa Z h0 r0 cS5) (F_e0_r0 : Fld Z h0 r0 cS5 "e0" cS13 u_e0_r0) (ge_r0 : n0 ≤ r0) (F_e1_r0 : Fld Z h0 r0 cS5 "e1" cS13 u_e1_r0) :
    own_M l Z (⟨cS5, "<init>", "(Ljava/lang/Object;Ljava/lang/Object;)V"⟩ : MethodName) jdk_44_method_2_code 3 none ws ({ frames := 4, cells := 0, slots := 0, locals := 48 } : Room) #[(.ref r0), (.ref r1), (.ref r2)] h0 (Q_47 Z r0 r1 r2 u_e0_r0 u_e1_r0 h0 n0) := by
  refine own_in cS5 rfl (plainFor_of_name pn_java_util_ImmutableCollections_List12) ?_
  intro p e s m below meth c s₁ Bd hml hZ hh hx hby hown X0 e0
  have N0 := Fr.nil n0
  have hnm := (name_of_methodNamed Bd.named Bd.method).1
  have k0 := own_k (p := p) (e := e) (below := below) (T := s₁) (ef_47 m r0 r1 r2)
  obtain ⟨_, _, ⟨T1, L1, j1, i1⟩, -, X1, ⟨Lc1, hQ1, l1, y1, z1⟩, st1⟩ := X0.specialBack hx (y := (⟨cS17, "<init>", "()V"⟩ : MethodName)) rfl hown (mvT hZ (own_at hw 337 rfl)) (mvT hZ (own_at hw 299 rfl)) (mvT hZ (own_at hw 302 rfl)) (by decide) (backOf (W := 0) (rm43 l Z a0 hw [] r0 h0 n0 Z0 ) hZ (own_at hw 302 rfl) (own_at hw 106 rfl) (by decide) (by decide)) (g := (mkF m 1 #[rv r0, rv r1, rv r2] [(.ref r0)])) rfl (by rw [hml]; rfl) (Steps.refl _) (a := r0) (argsL := []) (rest := []) (lenOf pd_14 rfl) rfl (Nat.le_refl _) (hb hby d47_1) (fun _ _ => ⟨rfl, e0, (by decide : 0 + 0 ≤ _), (by decide : 0 + 0 ≤ _)⟩)
  dsimp only [Pt.U, Pt.locs, Pt.cells, Pt.slots] at X1 l1 y1 z1 st1 hQ1
  subst l1 y1 z1
  obtain ⟨rfl, N1q, e1⟩ := hQ1
  have N1 := Fr.app N0 N1q
  obtain ⟨_, T2, L2, X2, hQ2, st2⟩ := own_cS 1 (rm41 l Z a0 hw [] r1 h0 n0 Z0 ) X1 hx hZ hown hw 341 291 47 292 rfl rfl rfl rfl 6 #[rv r0, rv r1, rv r2] [(.ref r1)] [(.ref r0)] (hb hby d47_6) hml (lenOf pd_19 rfl) e1 rfl (Nat.le_refl _) (by decide)
  obtain ⟨rfl, N2q, e2⟩ := hQ2
  have N2 := Fr.app N1 N2q
  obtain ⟨T3, h3, X3, e3, W3, st3⟩ := putF X2 hx hZ hown (host := "") (Or.inl (own_at hw 342 rfl)) Via.refl e2 F_e0_r0 E_r0 (Or.inr ⟨(own_at hw 343 rfl), rfl, hnm⟩) (own_at hw 331 rfl) (ty := (.object cS3)) (by decide) rfl rfl (g := (mkF m 9 #[rv r0, rv r1, rv r2] [(.ref r1), (.ref r0)])) rfl rfl (hb hby d47_9)
  have Fw3 : Fld Z h3 r0 cS5 "e0" cS13 (.ref r1) := F_e0_r0.same W3
  have N3 := Fr.snoc X3 N2 ge_r0
  obtain ⟨_, T4, L4, X4, hQ4, st4⟩ := own_cS 1 (rm41 l Z a0 hw [] r2 h3 n0 (Nat.le_trans Z0 (Keep.of_wr W3).1) ) X3 hx hZ hown hw 341 291 47 292 rfl rfl rfl rfl 14 #[rv r0, rv r1, rv r2] [(.ref r2)] [(.ref r0)] (hb hby d47_14) hml (lenOf pd_19 rfl) e3 rfl (Nat.le_refl _) (by decide)
  obtain ⟨rfl, N4q, e4⟩ := hQ4
  have N4 := Fr.app N3 N4q
  have f5 := (E_r0.wr W3)
  have f6 := (F_e1_r0.other W3 (Or.inr (slot_ne (Or.inr (own_at hw 345 rfl)) (Or.inr (own_at hw 343 rfl)) (by decide) (t := (.object cS3)) (t' := (.object cS3)) (by decide) (by decide))))
  obtain ⟨T7, h7, X7, e7, W7, st7⟩ := putF X4 hx hZ hown (host := "") (Or.inl (own_at hw 344 rfl)) Via.refl e4 f6 f5 (Or.inr ⟨(own_at hw 345 rfl), rfl, hnm⟩) (own_at hw 331 rfl) (ty := (.object cS3)) (by decide) rfl rfl (g := (mkF m 17 #[rv r0, rv r1, rv r2] [(.ref r2), (.ref r0)])) rfl rfl (hb hby d47_17)
  have Fw7 : Fld Z h7 r0 cS5 "e1" cS13 (.ref r2) := f6.same W7
  have N7 := Fr.snoc X7 N4 ge_r0
  have f8 := (f5.wr W7)
  have f9 := (Fw3.other W7 (Or.inr (slot_ne (Or.inr (own_at hw 343 rfl)) (Or.inr (own_at hw 345 rfl)) (by decide) (t := (.object cS3)) (t' := (.object cS3)) (by decide) (by decide))))
  refine own_out X7 Bd.notSynchronized Bd.returns (none) (fun _ => rfl) (by decide) (by decide) ?_ fun fs hr => k0 _ ?_
  · rw [e7]; exact ⟨rfl, N7, (((Keep.refl h0 [r0]).wr W3 (Or.inl (List.mem_of_getElem? (i := 0) rfl))).wr W7 (Or.inl (List.mem_of_getElem? (i := 0) rfl))), f8, f9, Fw7⟩
  · show OwnS p e below s₁ (mkF m 0 #[rv r0, rv r1, rv r2] []) _
    refine oAn X0 hx hby d47_0 rfl rfl ?_
    refine st1.trans ?_
    refine oAn X1 hx hby d47_4 rfl rfl (oAn X1 hx hby d47_5 rfl rfl ?_)
    refine st2 _ ?_
    refine st3 _ ?_
    refine oAn X3 hx hby d47_12 rfl rfl (oAn X3 hx hby d47_13 rfl rfl ?_)
    refine st4 _ ?_
    refine st7 _ ?_
    exact X7.returnOut hx Bd.returns (hb hby d47_20) hr
theorem d50_0 : decode jdk_44_method_1_code 0 = .ok (.aload_n 0, 1) := by decide +kernel
theorem d50_1 : decode jdk_44_method_1_code 1 = .ok (.invokespecial 1, 3) := by decide +kernel
theorem d50_4 : decode jdk_44_method_1_code 4 = .ok (.aload_n 0, 1) := by decide +kernel
theorem d50_5 : decode jdk_44_method_1_code 5 = .ok (.aload_n 1, 1) := by decide +kernel
theorem d50_6 : decode jdk_44_method_1_code 6 = .ok (.invokestatic 7, 3) := by decide +kernel
theorem d50_9 : decode jdk_44_method_1_code 9 = .ok (.putfield 13, 3) := by decide +kernel
theorem d50_12 : decode jdk_44_method_1_code 12 = .ok (.aload_n 0, 1) := by decide +kernel
theorem d50_13 : decode jdk_44_method_1_code 13 = .ok (.getstatic 19, 3) := by decide +kernel
theorem d50_16 : decode jdk_44_method_1_code 16 = .ok (.putfield 24, 3) := by decide +kernel
theorem d50_19 : decode jdk_44_method_1_code 19 = .ok (.return_, 1) := by decide +kernel
theorem ef_50 (m : MethodId) (x0 : Addr) (x1 : Addr) : entryFrame m #[(.ref x0), (.ref x1)] 2 = mkF m 0 #[.val (.ref x0), .val (.ref x1)] [] := by first | (simp [entryFrame, mkF, argsToLocals, Value.category]; done) | rfl
def Q_50 (Z : State) (r0 r1 w_EMPTY : Addr) (u_e0_r0 u_e1_r0 : Value) (h0 : Heap) (n0 : Nat) (v : Option Value) (h : Heap) (L : List Loc) : Prop := v = none ∧ Fr n0 L ∧ Keep h0 h [r0] ∧ Exa Z h r0 cS5 ∧ Fld Z h r0 cS5 "e0" cS13 (.ref r1) ∧ Fld Z h r0 cS5 "e1" cS13 (.ref w_EMPTY)
theorem rm50 (l : Launch) (Z : State) (a0 : Array Value) (hw : own_HW a0 Z) (ws : List Jvm.Cond) (r0 r1 w_EMPTY : Addr) (u_e0_r0 u_e1_r0 : Value) (h0 : Heap) (n0 : Nat) (Z0 : n0 ≤ h0.size) (S_EMPTY : Sta Z h0 cS14 "EMPTY" cS13 (.ref w_EMPTY)) (E_r0 : Exa Z h0 r0 cS5) (F_e0_r0 : Fld Z h0 r0 cS5 "e0" cS13 u_e0_r0) (ge_r0 : n0 ≤ r0) (F_e1_r0 : Fld Z h0 r0 cS5 "e1" cS13 u_e1_r0) :
    own_M l Z (⟨cS5, "<init>", "(Ljava/lang/Object;)V"⟩ : MethodName) jdk_44_method_1_code 2 none ws ({ frames := 4, cells := 0, slots := 0, locals := 48 } : Room) #[(.ref r0), (.ref r1)] h0 (Q_50 Z r0 r1 w_EMPTY u_e0_r0 u_e1_r0 h0 n0) := by
  refine own_in cS5 rfl (plainFor_of_name pn_java_util_ImmutableCollections_List12) ?_
  intro p e s m below meth c s₁ Bd hml hZ hh hx hby hown X0 e0
  have N0 := Fr.nil n0
  have hnm := (name_of_methodNamed Bd.named Bd.method).1
  have k0 := own_k (p := p) (e := e) (below := below) (T := s₁) (ef_50 m r0 r1)
  obtain ⟨_, _, ⟨T1, L1, j1, i1⟩, -, X1, ⟨Lc1, hQ1, l1, y1, z1⟩, st1⟩ := X0.specialBack hx (y := (⟨cS17, "<init>", "()V"⟩ : MethodName)) rfl hown (mvT hZ (own_at hw 337 rfl)) (mvT hZ (own_at hw 299 rfl)) (mvT hZ (own_at hw 302 rfl)) (by decide) (backOf (W := 0) (rm43 l Z a0 hw [] r0 h0 n0 Z0 ) hZ (own_at hw 302 rfl) (own_at hw 106 rfl) (by decide) (by decide)) (g := (mkF m 1 #[rv r0, rv r1] [(.ref r0)])) rfl (by rw [hml]; rfl) (Steps.refl _) (a := r0) (argsL := []) (rest := []) (lenOf pd_14 rfl) rfl (Nat.le_refl _) (hb hby d50_1) (fun _ _ => ⟨rfl, e0, (by decide : 0 + 0 ≤ _), (by decide : 0 + 0 ≤ _)⟩)
  dsimp only [Pt.U, Pt.locs, Pt.cells, Pt.slots] at X1 l1 y1 z1 st1 hQ1
  subst l1 y1 z1
  obtain ⟨rfl, N1q, e1⟩ := hQ1
  have N1 := Fr.app N0 N1q
  obtain ⟨_, T2, L2, X2, hQ2, st2⟩ := own_cS 1 (rm41 l Z a0 hw [] r1 h0 n0 Z0 ) X1 hx hZ hown hw 341 291 47 292 rfl rfl rfl rfl 6 #[rv r0, rv r1] [(.ref r1)] [(.ref r0)] (hb hby d50_6) hml (lenOf pd_19 rfl) e1 rfl (Nat.le_refl _) (by decide)
  obtain ⟨rfl, N2q, e2⟩ := hQ2
  have N2 := Fr.app N1 N2q
  obtain ⟨T3, h3, X3, e3, W3, st3⟩ := putF X2 hx hZ hown (host := "") (Or.inl (own_at hw 342 rfl)) Via.refl e2 F_e0_r0 E_r0 (Or.inr ⟨(own_at hw 343 rfl), rfl, hnm⟩) (own_at hw 331 rfl) (ty := (.object cS3)) (by decide) rfl rfl (g := (mkF m 9 #[rv r0, rv r1] [(.ref r1), (.ref r0)])) rfl rfl (hb hby d50_9)
  have Fw3 : Fld Z h3 r0 cS5 "e0" cS13 (.ref r1) := F_e0_r0.same W3
  have N3 := Fr.snoc X3 N2 ge_r0
  have f4 := (S_EMPTY.wr W3)
  obtain ⟨T5, X5, e5, st5⟩ := getS2 X3 hx hZ hown (Or.inr (own_at hw 352 rfl)) Via.refl e3 f4 (g := (mkF m 13 #[rv r0, rv r1] [(.ref r0)])) rfl (hb hby d50_13)
  have f6 := (E_r0.wr W3)
  have f7 := (F_e1_r0.other W3 (Or.inr (slot_ne (Or.inr (own_at hw 345 rfl)) (Or.inr (own_at hw 343 rfl)) (by decide) (t := (.object cS3)) (t' := (.object cS3)) (by decide) (by decide))))
  obtain ⟨T8, h8, X8, e8, W8, st8⟩ := putF X5 hx hZ hown (host := "") (Or.inl (own_at hw 344 rfl)) Via.refl e5 f7 f6 (Or.inr ⟨(own_at hw 345 rfl), rfl, hnm⟩) (own_at hw 331 rfl) (ty := (.object cS3)) (by decide) rfl rfl (g := (mkF m 16 #[rv r0, rv r1] [(.ref w_EMPTY), (.ref r0)])) rfl rfl (hb hby d50_16)
  have Fw8 : Fld Z h8 r0 cS5 "e1" cS13 (.ref w_EMPTY) := f7.same W8
  have N8 := Fr.snoc X8 N3 ge_r0
  have f9 := (f6.wr W8)
  have f10 := (Fw3.other W8 (Or.inr (slot_ne (Or.inr (own_at hw 343 rfl)) (Or.inr (own_at hw 345 rfl)) (by decide) (t := (.object cS3)) (t' := (.object cS3)) (by decide) (by decide))))
  refine own_out X8 Bd.notSynchronized Bd.returns (none) (fun _ => rfl) (by decide) (by decide) ?_ fun fs hr => k0 _ ?_
  · rw [e8]; exact ⟨rfl, N8, (((Keep.refl h0 [r0]).wr W3 (Or.inl (List.mem_of_getElem? (i := 0) rfl))).wr W8 (Or.inl (List.mem_of_getElem? (i := 0) rfl))), f9, f10, Fw8⟩
  · show OwnS p e below s₁ (mkF m 0 #[rv r0, rv r1] []) _
    refine oAn X0 hx hby d50_0 rfl rfl ?_
    refine st1.trans ?_
    refine oAn X1 hx hby d50_4 rfl rfl (oAn X1 hx hby d50_5 rfl rfl ?_)
    refine st2 _ ?_
    refine st3 _ ?_
    refine oAn X3 hx hby d50_12 rfl rfl ?_
    refine st5 _ ?_
    refine st8 _ ?_
    exact X8.returnOut hx Bd.returns (hb hby d50_19) hr
theorem pd_20 : parseMethodDescriptor "([Ljava/lang/Object;Z)V" = some ⟨[(.array (.object cS3)), .boolean], none⟩ := by decide +kernel
theorem d40_0 : decode jdk_56_method_4_code 0 = .ok (.aload_n 0, 1) := by decide +kernel
theorem d40_1 : decode jdk_56_method_4_code 1 = .ok (.arraylength, 1) := by decide +kernel
theorem d40_2 : decode jdk_56_method_4_code 2 = .ok (.anewarray 2, 3) := by decide +kernel
theorem d40_5 : decode jdk_56_method_4_code 5 = .ok (.astore_n 1, 1) := by decide +kernel
theorem d40_6 : decode jdk_56_method_4_code 6 = .ok (.iconst 0, 1) := by decide +kernel
theorem d40_7 : decode jdk_56_method_4_code 7 = .ok (.istore_n 2, 1) := by decide +kernel
theorem d40_8 : decode jdk_56_method_4_code 8 = .ok (.iload_n 2, 1) := by decide +kernel
theorem d40_9 : decode jdk_56_method_4_code 9 = .ok (.aload_n 0, 1) := by decide +kernel
theorem d40_10 : decode jdk_56_method_4_code 10 = .ok (.arraylength, 1) := by decide +kernel
theorem d40_11 : decode jdk_56_method_4_code 11 = .ok (.if_icmp .ge 18, 3) := by decide +kernel
theorem d40_14 : decode jdk_56_method_4_code 14 = .ok (.aload_n 1, 1) := by decide +kernel
theorem d40_15 : decode jdk_56_method_4_code 15 = .ok (.iload_n 2, 1) := by decide +kernel
theorem d40_16 : decode jdk_56_method_4_code 16 = .ok (.aload_n 0, 1) := by decide +kernel
theorem d40_17 : decode jdk_56_method_4_code 17 = .ok (.iload_n 2, 1) := by decide +kernel
theorem d40_18 : decode jdk_56_method_4_code 18 = .ok (.aaload, 1) := by decide +kernel
theorem d40_19 : decode jdk_56_method_4_code 19 = .ok (.invokestatic 37, 3) := by decide +kernel
theorem d40_22 : decode jdk_56_method_4_code 22 = .ok (.aastore, 1) := by decide +kernel
theorem d40_23 : decode jdk_56_method_4_code 23 = .ok (.iinc 2 1, 3) := by decide +kernel
theorem d40_26 : decode jdk_56_method_4_code 26 = .ok (.goto (-18), 3) := by decide +kernel
theorem d40_29 : decode jdk_56_method_4_code 29 = .ok (.new 12, 3) := by decide +kernel
theorem d40_32 : decode jdk_56_method_4_code 32 = .ok (.dup, 1) := by decide +kernel
theorem d40_33 : decode jdk_56_method_4_code 33 = .ok (.aload_n 1, 1) := by decide +kernel
theorem d40_34 : decode jdk_56_method_4_code 34 = .ok (.iconst 0, 1) := by decide +kernel
theorem d40_35 : decode jdk_56_method_4_code 35 = .ok (.invokespecial 43, 3) := by decide +kernel
theorem d40_38 : decode jdk_56_method_4_code 38 = .ok (.areturn, 1) := by decide +kernel
theorem pn_java_util_ImmutableCollections : plainName cS14 = true := by first | (simp [plainName, overriddenIn]; done) | decide +kernel
theorem ef_40 (m : MethodId) (x0 : Addr) : entryFrame m #[(.ref x0)] 3 = mkF m 0 #[.val (.ref x0), .unset, .unset] [] := by first | (simp [entryFrame, mkF, argsToLocals, Value.category]; done) | rfl
def Q_40 (Z : State) (r0 : Addr) (kA : ClassId) (x0 x1 x2 : Addr) (h0 : Heap) (n0 : Nat) (v : Option Value) (h : Heap) (L : List Loc) : Prop := ∃ ls : Addr, ∃ el : Addr, ∃ kE : ClassId, v = some (.ref ls) ∧ Fr n0 L ∧ Keep h0 h [] ∧ h0.size ≤ ls ∧ h0.size ≤ el ∧ Exa Z h ls cS7 ∧ Fld Z h ls cS7 "elements" cS6 (.ref el) ∧ Arv Z h el kE (.object cS3) (3 : Int32) [(.ref x0), (.ref x1), (.ref x2)] .null
theorem rm40 (l : Launch) (Z : State) (a0 : Array Value) (hw : own_HW a0 Z) (ws : List Jvm.Cond) (r0 : Addr) (kA : ClassId) (x0 x1 x2 : Addr) (h0 : Heap) (n0 : Nat) (Z0 : n0 ≤ h0.size) (V_r0 : Arv Z h0 r0 kA (.object cS3) (3 : Int32) [(.ref x0), (.ref x1), (.ref x2)] .null) (E_x0 : Exa Z h0 x0 cS0) (E_x1 : Exa Z h0 x1 cS0) (E_x2 : Exa Z h0 x2 cS0) :
    own_M l Z (⟨cS14, "listFromArray", "([Ljava/lang/Object;)Ljava/util/List;"⟩ : MethodName) jdk_56_method_4_code 3 (some (.object cS11)) ws ({ frames := 5, cells := 2, slots := 5, locals := 63 } : Room) #[(.ref r0)] h0 (Q_40 Z r0 kA x0 x1 x2 h0 n0) := by
  refine own_in cS14 rfl (plainFor_of_name pn_java_util_ImmutableCollections) ?_
  intro p e s m below meth c s₁ Bd hml hZ hh hx hby hown X0 e0
  have N0 := Fr.nil n0
  have k0 := own_k (p := p) (e := e) (below := below) (T := s₁) (ef_40 m r0)
  obtain ⟨cl_z1, Ar_z1, q_z1, S_z1, N_z1, H_z1, G_z1⟩ := id V_r0
  obtain ⟨T2, h2, k2, X2, e2, E2, A2, EA2, O2, st2⟩ := newRE X0 hx hZ hown (own_at hw 289 rfl) (own_at hw 224 rfl) e0 (g := (mkF m 2 #[rv r0, .unset, .unset] [(.int 3)])) rfl (hb hby d40_2) rfl (by decide) (cap := 3) (by decide) (by decide) (by decide) (by decide) (ad := cS6) (by decide)
  obtain ⟨b2, g2⟩ : ∃ z, z = h0.size := ⟨_, rfl⟩
  rw [← g2] at A2 EA2 st2
  have g_b2 : n0 ≤ b2 := Nat.le_trans Z0 (Nat.le_of_eq g2.symm)
  have sz_b2 : h0.size ≤ b2 := Nat.le_trans (Keep.refl h0 []).1 (Nat.le_of_eq g2.symm)
  have V_b2 : Arv Z h2 b2 k2 (.object cS3) (3 : Int32) [.null, .null, .null] .null := (Arv.new A2 (by decide)).pad (pad_rep [] .null 3)
  have f3 := (V_r0.ext E2)
  obtain ⟨cl_z4, Ar_z4, q_z4, S_z4, N_z4, H_z4, G_z4⟩ := id f3
  have hin5 : ¬ ((0 : Int32) < 0 ∨ cl_z4.slots.size ≤ ((0 : Int32)).toNatClampNeg) := inb_of S_z4 ⟨by decide, by decide⟩
  obtain ⟨_, T6, L6, X6, hQ6, st6⟩ := own_cS 2 (rm41 l Z a0 hw [] x0 h2 n0 (Nat.le_trans Z0 E2.1) ) X2 hx hZ hown hw 290 291 47 292 rfl rfl rfl rfl 19 #[rv r0, rv b2, iv 0] [(.ref x0)] [(.int 0), (.ref b2)] (hb hby d40_19) hml (lenOf pd_19 rfl) e2 rfl (Nat.le_refl _) (by decide)
  obtain ⟨rfl, N6q, e6⟩ := hQ6
  have N6 := Fr.app N0 N6q
  obtain ⟨cl_z7, Ar_z7, q_z7, S_z7, N_z7, H_z7, G_z7⟩ := id V_b2
  have hin8 : ¬ ((0 : Int32) < 0 ∨ cl_z7.slots.size ≤ ((0 : Int32)).toNatClampNeg) := inb_of S_z7 ⟨by decide, by decide⟩
  have f9 := (E_x0.ext E2)
  obtain ⟨T10, h10, X10, e10, W10, st10⟩ := stR X6 hx hZ e6 Ar_z7 (j := (0 : Int32)) hin8 rfl (Sto.ofV Ar_z7 q_z7 O2 (Ins.of_exa f9 (own_at hw 225 rfl))) (g := (mkF m 22 #[rv r0, rv b2, iv 0] [(.ref x0), (.int 0), (.ref b2)])) rfl rfl (hb hby d40_22)
  have V10 : Arv Z h10 b2 k2 (.object cS3) (3 : Int32) [(.ref x0), .null, .null] .null := Arv.set Ar_z7 q_z7 S_z7 N_z7 H_z7 G_z7 rfl W10 0 rfl (Nat.le_of_ble_eq_true rfl)
  have N10 := Fr.snoc X10 N6 g_b2
  have f11 := (f3.other W10 (Nat.ne_of_lt (Nat.lt_of_lt_of_le V_r0.lt (Nat.le_of_eq g2.symm))))
  obtain ⟨cl_z12, Ar_z12, q_z12, S_z12, N_z12, H_z12, G_z12⟩ := id f11
  have hin13 : ¬ ((1 : Int32) < 0 ∨ cl_z12.slots.size ≤ ((1 : Int32)).toNatClampNeg) := inb_of S_z12 ⟨by decide, by decide⟩
  obtain ⟨_, T14, L14, X14, hQ14, st14⟩ := own_cS 2 (rm41 l Z a0 hw [] x1 h10 n0 (Nat.le_trans (Nat.le_trans Z0 E2.1) (Keep.of_wr W10).1) ) X10 hx hZ hown hw 290 291 47 292 rfl rfl rfl rfl 19 #[rv r0, rv b2, iv 1] [(.ref x1)] [(.int 1), (.ref b2)] (hb hby d40_19) hml (lenOf pd_19 rfl) e10 rfl (Nat.le_refl _) (by decide)
  obtain ⟨rfl, N14q, e14⟩ := hQ14
  have N14 := Fr.app N10 N14q
  obtain ⟨cl_z15, Ar_z15, q_z15, S_z15, N_z15, H_z15, G_z15⟩ := id V10
  have hin16 : ¬ ((1 : Int32) < 0 ∨ cl_z15.slots.size ≤ ((1 : Int32)).toNatClampNeg) := inb_of S_z15 ⟨by decide, by decide⟩
  have f17 := ((E_x1.ext E2).wr W10)
  obtain ⟨T18, h18, X18, e18, W18, st18⟩ := stR X14 hx hZ e14 Ar_z15 (j := (1 : Int32)) hin16 rfl (Sto.ofV Ar_z15 q_z15 O2 (Ins.of_exa f17 (own_at hw 225 rfl))) (g := (mkF m 22 #[rv r0, rv b2, iv 1] [(.ref x1), (.int 1), (.ref b2)])) rfl rfl (hb hby d40_22)
  have V18 : Arv Z h18 b2 k2 (.object cS3) (3 : Int32) [(.ref x0), (.ref x1), .null] .null := Arv.set Ar_z15 q_z15 S_z15 N_z15 H_z15 G_z15 rfl W18 1 rfl (Nat.le_of_ble_eq_true rfl)
  have N18 := Fr.snoc X18 N14 g_b2
  have f19 := (f11.other W18 (Nat.ne_of_lt (Nat.lt_of_lt_of_le V_r0.lt (Nat.le_of_eq g2.symm))))
  obtain ⟨cl_z20, Ar_z20, q_z20, S_z20, N_z20, H_z20, G_z20⟩ := id f19
  have hin21 : ¬ ((2 : Int32) < 0 ∨ cl_z20.slots.size ≤ ((2 : Int32)).toNatClampNeg) := inb_of S_z20 ⟨by decide, by decide⟩
  obtain ⟨_, T22, L22, X22, hQ22, st22⟩ := own_cS 2 (rm41 l Z a0 hw [] x2 h18 n0 (Nat.le_trans (Nat.le_trans (Nat.le_trans Z0 E2.1) (Keep.of_wr W10).1) (Keep.of_wr W18).1) ) X18 hx hZ hown hw 290 291 47 292 rfl rfl rfl rfl 19 #[rv r0, rv b2, iv 2] [(.ref x2)] [(.int 2), (.ref b2)] (hb hby d40_19) hml (lenOf pd_19 rfl) e18 rfl (Nat.le_refl _) (by decide)
  obtain ⟨rfl, N22q, e22⟩ := hQ22
  have N22 := Fr.app N18 N22q
  obtain ⟨cl_z23, Ar_z23, q_z23, S_z23, N_z23, H_z23, G_z23⟩ := id V18
  have hin24 : ¬ ((2 : Int32) < 0 ∨ cl_z23.slots.size ≤ ((2 : Int32)).toNatClampNeg) := inb_of S_z23 ⟨by decide, by decide⟩
  have f25 := (((E_x2.ext E2).wr W10).wr W18)
  obtain ⟨T26, h26, X26, e26, W26, st26⟩ := stR X22 hx hZ e22 Ar_z23 (j := (2 : Int32)) hin24 rfl (Sto.ofV Ar_z23 q_z23 O2 (Ins.of_exa f25 (own_at hw 225 rfl))) (g := (mkF m 22 #[rv r0, rv b2, iv 2] [(.ref x2), (.int 2), (.ref b2)])) rfl rfl (hb hby d40_22)
  have V26 : Arv Z h26 b2 k2 (.object cS3) (3 : Int32) [(.ref x0), (.ref x1), (.ref x2)] .null := Arv.set Ar_z23 q_z23 S_z23 N_z23 H_z23 G_z23 rfl W26 2 rfl (Nat.le_of_ble_eq_true rfl)
  have N26 := Fr.snoc X26 N22 g_b2
  have f27 := (f19.other W26 (Nat.ne_of_lt (Nat.lt_of_lt_of_le V_r0.lt (Nat.le_of_eq g2.symm))))
  obtain ⟨cl_z28, Ar_z28, q_z28, S_z28, N_z28, H_z28, G_z28⟩ := id f27
  have f29 := (((f9.wr W10).wr W18).wr W26)
  have f30 := ((f17.wr W18).wr W26)
  have f31 := (f25.wr W26)
  have f32 := (((EA2.wr W10).wr W18).wr W26)
  obtain ⟨T33, h33, X33, e33, E33, A33, D33, -, st33⟩ := newO X26 hx hZ hown (own_at hw 184 rfl) (own_at hw 293 rfl) (own_at hw 116 rfl) e26 (g := (mkF m 29 #[rv r0, rv b2, iv 3] [])) rfl (hb hby d40_29) (by decide) (by decide)
  obtain ⟨b33, g33⟩ : ∃ z, z = h26.size := ⟨_, rfl⟩
  rw [← g33] at A33 D33 st33
  have g_b33 : n0 ≤ b33 := Nat.le_trans (Nat.le_trans (Nat.le_trans (Nat.le_trans (Nat.le_trans Z0 E2.1) (Keep.of_wr W10).1) (Keep.of_wr W18).1) (Keep.of_wr W26).1) (Nat.le_of_eq g33.symm)
  have sz_b33 : h0.size ≤ b33 := Nat.le_trans (((((Keep.refl h0 []).ext E2).wr W10 (Or.inr sz_b2)).wr W18 (Or.inr sz_b2)).wr W26 (Or.inr sz_b2)).1 (Nat.le_of_eq g33.symm)
  have F_elements_b33 : Fld Z h33 b33 cS7 "elements" cS6 .null := D33 (Or.inr (own_at hw 119 rfl)) (ty := (.array (.object cS3))) (by decide)
  have F_allowNulls_b33 : Fld Z h33 b33 cS7 "allowNulls" "Z" (.int 0) := D33 (Or.inr (own_at hw 312 rfl)) (ty := .boolean) (by decide)
  obtain ⟨_, _, ⟨T34, L34, j34, i34⟩, -, X34, ⟨Lc34, hQ34, l34, y34, z34⟩, st34⟩ := X33.specialBackNest hx (y := (⟨cS7, "<init>", "([Ljava/lang/Object;Z)V"⟩ : MethodName)) rfl hown (own_mvn hZ (own_at hw 294 rfl)) (mvT hZ (own_at hw 295 rfl)) (mvT hZ (own_at hw 297 rfl)) (by decide) (backOf (W := 1) (rm42 l Z a0 hw [] b33 b2 .null (.int 0) h33 n0 (Nat.le_trans (Nat.le_trans (Nat.le_trans (Nat.le_trans (Nat.le_trans Z0 E2.1) (Keep.of_wr W10).1) (Keep.of_wr W18).1) (Keep.of_wr W26).1) E33.1) A33 F_elements_b33 g_b33 F_allowNulls_b33) hZ (own_at hw 297 rfl) (own_at hw 116 rfl) (by decide) (by decide)) (g := (mkF m 35 #[rv r0, rv b2, iv 3] [(.int 0), (.ref b2), (.ref b33), (.ref b33)])) rfl (by rw [hml]; rfl) (Steps.refl _) (a := b33) (argsL := [(.ref b2), (.int 0)]) (rest := [(.ref b33)]) (lenOf pd_20 rfl) rfl (Nat.le_refl _) (hb hby d40_35) (fun _ _ => ⟨rfl, e33, (by decide : 2 + 0 ≤ _), (by decide : 5 + 0 ≤ _)⟩)
  dsimp only [Pt.U, Pt.locs, Pt.cells, Pt.slots] at X34 l34 y34 z34 st34 hQ34
  subst l34 y34 z34
  have f35 := (f27.ext E33)
  have f36 := (f29.ext E33)
  have f37 := (f30.ext E33)
  have f38 := (f31.ext E33)
  have f39 := (f32.ext E33)
  obtain ⟨rfl, N34q, K34, p34_0, p34_1⟩ := hQ34
  have pl34 := (allS (P := fun x => ∃ cell : Cell, h33[x]? = some cell ∧ cell.vm.isStatics = false) (own_ns A33) all0)
  have N34 := Fr.app N26 N34q
  have f40 := ((V26.ext E33).keep K34 (ninS (Nat.ne_of_lt (Nat.lt_of_lt_of_le f32.lt (Nat.le_of_eq g33.symm))) nin0))
  refine own_out X34 Bd.notSynchronized Bd.returns (some (.ref b33)) nofun (by decide) (by decide) ?_ fun fs hr => k0 _ ?_
  · exact ⟨b33, b2, k2, rfl, N34, (((((((Keep.refl h0 []).ext E2).wr W10 (Or.inr sz_b2)).wr W18 (Or.inr sz_b2)).wr W26 (Or.inr sz_b2)).ext E33).trans K34 (allS (Or.inr sz_b33) all0)), sz_b33, sz_b2, p34_0, p34_1, f40⟩
  · show OwnS p e below s₁ (mkF m 0 #[rv r0, .unset, .unset] []) _
    refine oAn X0 hx hby d40_0 rfl rfl ?_
    refine X0.arraylength hx (by rw [e0]; exact Ar_z1.1) (State.isArrayOf_alike hZ.alike Ar_z1.2.1) (g := (mkF m 1 #[rv r0, .unset, .unset] [(.ref r0)])) rfl rfl (hb hby d40_1) _ ?_
    rw [len_of S_z1 N_z1]
    refine st2 _ ?_
    refine XS.astoreN X2.here hx rfl (hb hby d40_5) rfl rfl (l' := #[rv r0, rv b2, .unset]) rfl ?_
    refine oIc X2 hx hby d40_6 ?_
    refine XS.istoreN X2.here hx rfl (hb hby d40_7) rfl (l' := #[rv r0, rv b2, iv 0]) rfl ?_
    refine oIn X2 hx hby d40_8 rfl (oAn X2 hx hby d40_9 rfl rfl ?_)
    refine X2.arraylength hx (by rw [e2]; exact Ar_z4.1) (State.isArrayOf_alike hZ.alike Ar_z4.2.1) (g := (mkF m 10 #[rv r0, rv b2, iv 0] [(.ref r0), (.int 0)])) rfl rfl (hb hby d40_10) _ ?_
    rw [len_of S_z4 N_z4]
    refine XS.icmpNo X2.here hx rfl (hb hby d40_11) rfl (tlt (by decide : (0 : Int32) < (3 : Int32))).2.1 ?_
    refine oAn X2 hx hby d40_14 rfl rfl (oIn X2 hx hby d40_15 rfl (oAn X2 hx hby d40_16 rfl rfl (oIn X2 hx hby d40_17 rfl ?_)))
    refine X2.aaload hx (j := (0 : Int32)) (v := (.ref x0)) (by rw [e2]; exact Ar_z4.1) (State.isArrayOf_alike hZ.alike Ar_z4.2.1) rfl Ar_z4.2.2 hin5 (Has.at H_z4 hin5 rfl) (g := (mkF m 18 #[rv r0, rv b2, iv 0] [(.int 0), (.ref r0), (.int 0), (.ref b2)])) rfl rfl (hb hby d40_18) _ ?_
    refine st6 _ ?_
    refine st10 _ ?_
    refine XS.iinc X10.here hx rfl (hb hby d40_23) rfl (l' := #[rv r0, rv b2, iv 1]) rfl ?_
    refine oGo X10 hx hby 26 8 d40_26 (by decide) (by decide) (oIn X10 hx hby d40_8 rfl (oAn X10 hx hby d40_9 rfl rfl ?_))
    refine X10.arraylength hx (by rw [e10]; exact Ar_z12.1) (State.isArrayOf_alike hZ.alike Ar_z12.2.1) (g := (mkF m 10 #[rv r0, rv b2, iv 1] [(.ref r0), (.int 1)])) rfl rfl (hb hby d40_10) _ ?_
    rw [len_of S_z12 N_z12]
    refine XS.icmpNo X10.here hx rfl (hb hby d40_11) rfl (tlt (by decide : (1 : Int32) < (3 : Int32))).2.1 ?_
    refine oAn X10 hx hby d40_14 rfl rfl (oIn X10 hx hby d40_15 rfl (oAn X10 hx hby d40_16 rfl rfl (oIn X10 hx hby d40_17 rfl ?_)))
    show OwnS p e below T10 (mkF m 18 #[rv r0, rv b2, iv 1] [(.int 1), (.ref r0), (.int 1), (.ref b2)]) _
    refine X10.aaload hx (j := (1 : Int32)) (v := (.ref x1)) (by rw [e10]; exact Ar_z12.1) (State.isArrayOf_alike hZ.alike Ar_z12.2.1) rfl Ar_z12.2.2 hin13 (Has.at H_z12 hin13 rfl) (g := (mkF m 18 #[rv r0, rv b2, iv 1] [(.int 1), (.ref r0), (.int 1), (.ref b2)])) rfl rfl (hb hby d40_18) _ ?_
    refine st14 _ ?_
    refine st18 _ ?_
    refine XS.iinc X18.here hx rfl (hb hby d40_23) rfl (l' := #[rv r0, rv b2, iv 2]) rfl ?_
    refine oGo X18 hx hby 26 8 d40_26 (by decide) (by decide) (oIn X18 hx hby d40_8 rfl (oAn X18 hx hby d40_9 rfl rfl ?_))
    refine X18.arraylength hx (by rw [e18]; exact Ar_z20.1) (State.isArrayOf_alike hZ.alike Ar_z20.2.1) (g := (mkF m 10 #[rv r0, rv b2, iv 2] [(.ref r0), (.int 2)])) rfl rfl (hb hby d40_10) _ ?_
    rw [len_of S_z20 N_z20]
    refine XS.icmpNo X18.here hx rfl (hb hby d40_11) rfl (tlt (by decide : (2 : Int32) < (3 : Int32))).2.1 ?_
    refine oAn X18 hx hby d40_14 rfl rfl (oIn X18 hx hby d40_15 rfl (oAn X18 hx hby d40_16 rfl rfl (oIn X18 hx hby d40_17 rfl ?_)))
    refine X18.aaload hx (j := (2 : Int32)) (v := (.ref x2)) (by rw [e18]; exact Ar_z20.1) (State.isArrayOf_alike hZ.alike Ar_z20.2.1) rfl Ar_z20.2.2 hin21 (Has.at H_z20 hin21 rfl) (g := (mkF m 18 #[rv r0, rv b2, iv 2] [(.int 2), (.ref r0), (.int 2), (.ref b2)])) rfl rfl (hb hby d40_18) _ ?_
    refine st22 _ ?_
    refine st26 _ ?_
    refine XS.iinc X26.here hx rfl (hb hby d40_23) rfl (l' := #[rv r0, rv b2, iv 3]) rfl ?_
    refine oGo X26 hx hby 26 8 d40_26 (by decide) (by decide) (oIn X26 hx hby d40_8 rfl (oAn X26 hx hby d40_9 rfl rfl ?_))
    refine X26.arraylength hx (by rw [e26]; exact Ar_z28.1) (State.isArrayOf_alike hZ.alike Ar_z28.2.1) (g := (mkF m 10 #[rv r0, rv b2, iv 3] [(.ref r0), (.int 3)])) rfl rfl (hb hby d40_10) _ ?_
    rw [len_of S_z28 N_z28]
    refine XS.icmpYes X26.here hx rfl (pc0 := 11) (pc' := 29) rfl (hb hby d40_11) rfl (flt (by decide : ¬ ((3 : Int32) < (3 : Int32)))).2.1 (by decide) (by decide) ?_
    refine st33 _ ?_
    refine XS.dup X33.here hx rfl (hb hby d40_32) rfl rfl ?_
    refine oAn X33 hx hby d40_33 rfl rfl (oIc X33 hx hby d40_34 ?_)
    refine st34.trans ?_
    jvm_step X34.here [X34.here.top, hx, (hb hby d40_38), X34.method', Bd.returns, Value.isRef, FieldType.isReference]
    first | (intro acts; rw [hr _ acts rfl rfl rfl]) | rw [hr _ _ rfl rfl rfl]
    exact Steps.refl _
theorem d38_0 : decode jdk_29_method_69_code 0 = .ok (.iload_n 0, 1) := by decide +kernel
theorem d38_1 : decode jdk_29_method_69_code 1 = .ok (.iload_n 1, 1) := by decide +kernel
theorem d38_2 : decode jdk_29_method_69_code 2 = .ok (.if_icmp .gt 7, 3) := by decide +kernel
theorem d38_9 : decode jdk_29_method_69_code 9 = .ok (.iload_n 1, 1) := by decide +kernel
theorem d38_10 : decode jdk_29_method_69_code 10 = .ok (.ireturn, 1) := by decide +kernel
theorem ef_38 (m : MethodId) (x0 : Int32) (x1 : Int32) : entryFrame m #[(.int x0), (.int x1)] 2 = mkF m 0 #[.val (.int x0), .val (.int x1)] [] := by first | (simp [entryFrame, mkF, argsToLocals, Value.category]; done) | rfl
def Q_38_1 (Z : State)  (h0 : Heap) (n0 : Nat) (v : Option Value) (h : Heap) (L : List Loc) : Prop := v = some (.int 1) ∧ Fr n0 L ∧ h = h0
theorem rm38_1 (l : Launch) (Z : State) (a0 : Array Value) (hw : own_HW a0 Z) (ws : List Jvm.Cond)  (h0 : Heap) (n0 : Nat) (Z0 : n0 ≤ h0.size) :
    own_M l Z (⟨"java/lang/Math", "min", "(II)I"⟩ : MethodName) jdk_29_method_69_code 2 (some .int) ws ({ frames := 0, cells := 0, slots := 0, locals := 0 } : Room) #[(.int 10), (.int 1)] h0 (Q_38_1 Z  h0 n0) := by
  refine own_in "java/lang/Math" rfl (Jvm.Free.JP.mathPlain rfl (by decide +kernel)) ?_
  intro p e s m below meth c s₁ Bd hml hZ hh hx hby hown X0 e0
  have N0 := Fr.nil n0
  have k0 := own_k (p := p) (e := e) (below := below) (T := s₁) (ef_38 m (10 : Int32) (1 : Int32))
  refine own_out X0 Bd.notSynchronized Bd.returns (some (.int 1)) nofun (by decide) (by decide) ?_ fun fs hr => k0 _ ?_
  · rw [e0]; exact ⟨rfl, N0, rfl⟩
  · show OwnS p e below s₁ (mkF m 0 #[iv 10, iv 1] []) _
    refine oIn X0 hx hby d38_0 rfl (oIn X0 hx hby d38_1 rfl ?_)
    refine XS.icmpYes X0.here hx rfl (pc0 := 2) (pc' := 9) rfl (hb hby d38_2) rfl (tlt (by decide : (1 : Int32) < (10 : Int32))).2.2.1 (by decide) (by decide) ?_
    refine oIn X0 hx hby d38_9 rfl ?_
    exact retI X0 hx Bd.returns (hb hby d38_10) hr
theorem d37_0 : decode jdk_65_method_120_code 0 = .ok (.aload_n 2, 1) := by decide +kernel
theorem d37_1 : decode jdk_65_method_120_code 1 = .ok (.ldc 110, 2) := by decide +kernel
theorem d37_3 : decode jdk_65_method_120_code 3 = .ok (.if_acmp .ne 10, 3) := by decide +kernel
theorem d37_6 : decode jdk_65_method_120_code 6 = .ok (.iload_n 1, 1) := by decide +kernel
theorem d37_7 : decode jdk_65_method_120_code 7 = .ok (.anewarray 2, 3) := by decide +kernel
theorem d37_10 : decode jdk_65_method_120_code 10 = .ok (.goto 14, 3) := by decide +kernel
theorem d37_24 : decode jdk_65_method_120_code 24 = .ok (.astore_n 3, 1) := by decide +kernel
theorem d37_25 : decode jdk_65_method_120_code 25 = .ok (.aload_n 0, 1) := by decide +kernel
theorem d37_26 : decode jdk_65_method_120_code 26 = .ok (.iconst 0, 1) := by decide +kernel
theorem d37_27 : decode jdk_65_method_120_code 27 = .ok (.aload_n 3, 1) := by decide +kernel
theorem d37_28 : decode jdk_65_method_120_code 28 = .ok (.iconst 0, 1) := by decide +kernel
theorem d37_29 : decode jdk_65_method_120_code 29 = .ok (.aload_n 0, 1) := by decide +kernel
theorem d37_30 : decode jdk_65_method_120_code 30 = .ok (.arraylength, 1) := by decide +kernel
theorem d37_31 : decode jdk_65_method_120_code 31 = .ok (.iload_n 1, 1) := by decide +kernel
theorem d37_32 : decode jdk_65_method_120_code 32 = .ok (.invokestatic 304, 3) := by decide +kernel
theorem d37_35 : decode jdk_65_method_120_code 35 = .ok (.invokestatic 150, 3) := by decide +kernel
theorem d37_38 : decode jdk_65_method_120_code 38 = .ok (.aload_n 3, 1) := by decide +kernel
theorem d37_39 : decode jdk_65_method_120_code 39 = .ok (.areturn, 1) := by decide +kernel
theorem pn_java_util_Arrays : plainName "java/util/Arrays" = true := by first | (simp [plainName, overriddenIn]; done) | decide +kernel
theorem ef_37 (m : MethodId) (x0 : Addr) (x1 : Int32) (x2 : Addr) : entryFrame m #[(.ref x0), (.int x1), (.ref x2)] 4 = mkF m 0 #[.val (.ref x0), .val (.int x1), .val (.ref x2), .unset] [] := by first | (simp [entryFrame, mkF, argsToLocals, Value.category]; done) | rfl
def Q_37_1 (Z : State) (r0 mir_Object_ : Addr) (kE : ClassId) (x0 : Addr) (h0 : Heap) (n0 : Nat) (v : Option Value) (h : Heap) (L : List Loc) : Prop := ∃ ar : Addr, ∃ kk : ClassId, v = some (.ref ar) ∧ Fr n0 L ∧ Keep h0 h [] ∧ h0.size ≤ ar ∧ Ovr Z kk cS3 ∧ Exa Z h ar cS6 ∧ Arv Z h ar kk (.object cS3) (1 : Int32) [(.ref x0)] .null
theorem rm37_1 (l : Launch) (Z : State) (a0 : Array Value) (hw : own_HW a0 Z) (ws : List Jvm.Cond) (r0 mir_Object_ : Addr) (kE : ClassId) (x0 : Addr) (h0 : Heap) (n0 : Nat) (Z0 : n0 ≤ h0.size) (M_mir_Object_ : own_Mir Z cS6 mir_Object_) (V_r0 : Arv Z h0 r0 kE (.object cS3) (10 : Int32) [(.ref x0), .null, .null, .null, .null, .null, .null, .null, .null, .null] .null) (E_x0 : Exa Z h0 x0 cS0) :
    own_M l Z (⟨"java/util/Arrays", "copyOf", "([Ljava/lang/Object;ILjava/lang/Class;)[Ljava/lang/Object;"⟩ : MethodName) jdk_65_method_120_code 4 (some (.array (.object cS3))) ws ({ frames := 1, cells := 1, slots := 1, locals := 18 } : Room) #[(.ref r0), (.int 1), (.ref mir_Object_)] h0 (Q_37_1 Z r0 mir_Object_ kE x0 h0 n0) := by
  refine own_in "java/util/Arrays" rfl (plainFor_of_name pn_java_util_Arrays) ?_
  intro p e s m below meth c s₁ Bd hml hZ hh hx hby hown X0 e0
  have N0 := Fr.nil n0
  have k0 := own_k (p := p) (e := e) (below := below) (T := s₁) (ef_37 m r0 (1 : Int32) mir_Object_)
  obtain ⟨vm1, X1, st1⟩ := X0.ldcMirror hx hown (mvT hZ (own_at hw 274 rfl)) (own_mev hZ M_mir_Object_) (g := (mkF m 1 #[rv r0, iv 1, rv mir_Object_, .unset] [(.ref mir_Object_)])) rfl (hb hby d37_1)
  obtain ⟨T1, hT1⟩ : ∃ T', T' = s₁.setVm vm1 := ⟨_, rfl⟩
  rw [← hT1] at X1 st1
  have e1 : T1.heap = h0 := by rw [hT1]; exact e0
  obtain ⟨T2, h2, k2, X2, e2, E2, A2, EA2, O2, st2⟩ := newRE X1 hx hZ hown (own_at hw 275 rfl) (own_at hw 224 rfl) e1 (g := (mkF m 7 #[rv r0, iv 1, rv mir_Object_, .unset] [(.int 1)])) rfl (hb hby d37_7) rfl (by decide) (cap := 1) (by decide) (by decide) (by decide) (by decide) (ad := cS6) (by decide)
  obtain ⟨b2, g2⟩ : ∃ z, z = h0.size := ⟨_, rfl⟩
  rw [← g2] at A2 EA2 st2
  have g_b2 : n0 ≤ b2 := Nat.le_trans Z0 (Nat.le_of_eq g2.symm)
  have sz_b2 : h0.size ≤ b2 := Nat.le_trans (Keep.refl h0 []).1 (Nat.le_of_eq g2.symm)
  have V_b2 : Arv Z h2 b2 k2 (.object cS3) (1 : Int32) [.null] .null := (Arv.new A2 (by decide)).pad (pad_rep [] .null 1)
  have f3 := (V_r0.ext E2)
  obtain ⟨cl_z4, Ar_z4, q_z4, S_z4, N_z4, H_z4, G_z4⟩ := id f3
  obtain ⟨_, T5, L5, X5, hQ5, st5⟩ := own_cS 4 (rm38_1 l Z a0 hw []  h2 n0 (Nat.le_trans Z0 E2.1) ) X2 hx hZ hown hw 276 277 221 278 rfl rfl rfl rfl 32 #[rv r0, iv 1, rv mir_Object_, rv b2] [(.int 10), (.int 1)] [(.int 0), (.ref b2), (.int 0), (.ref r0)] (hb hby d37_32) hml (lenOf pd_15 rfl) e2 rfl (Nat.le_refl _) (by decide)
  obtain ⟨rfl, N5q, e5⟩ := hQ5
  have N5 := Fr.app N0 N5q
  obtain ⟨cl_z6, Ar_z6, q_z6, S_z6, N_z6, H_z6, G_z6⟩ := id V_b2
  have f7 := (E_x0.ext E2)
  obtain ⟨T8, h8, L8, X8, e8, N8, K8, Vr8, st8⟩ := cpA X5 hx hZ hown (own_at hw 279 rfl) (own_at hw 282 rfl) (own_at hw 280 rfl) (own_at hw 281 rfl) e5 f3 V_b2 (us := [(.ref x0)]) (Or.inr ⟨rfl, rfl, ⟨(Sto.ofV Ar_z6 q_z6 O2 (Ins.of_exa f7 (own_at hw 225 rfl))), trivial⟩⟩) (by decide) (by decide) (by decide) (by decide) (by decide) rfl (Nat.le_of_ble_eq_true rfl) N5 g_b2 (g := (mkF m 35 #[rv r0, iv 1, rv mir_Object_, rv b2] [(.int 1), (.int 0), (.ref b2), (.int 0), (.ref r0)])) rfl (by rw [hml]; rfl) rfl (hb hby d37_35) (by decide) (W := 0) (Nat.le_refl _) (by decide)
  have pl8 := (allS (P := fun x => ∃ cell : Cell, h2[x]? = some cell ∧ cell.vm.isStatics = false) (own_ns EA2) all0)
  have V8 : Arv Z h8 b2 k2 (.object cS3) (1 : Int32) [(.ref x0)] .null := Vr8
  have f9 := (EA2.keep K8)
  refine own_out X8 Bd.notSynchronized Bd.returns (some (.ref b2)) nofun (by decide) (by decide) ?_ fun fs hr => k0 _ ?_
  · rw [e8]; exact ⟨b2, k2, rfl, N8, (((Keep.refl h0 []).ext E2).trans K8 (allS (Or.inr sz_b2) all0)), sz_b2, O2, f9, V8⟩
  · show OwnS p e below s₁ (mkF m 0 #[rv r0, iv 1, rv mir_Object_, .unset] []) _
    refine oAn X0 hx hby d37_0 rfl rfl ?_
    refine st1 _ ?_
    refine Jvm.RoadKit.acmp (g := (mkF m 3 #[rv r0, iv 1, rv mir_Object_, .unset] [(.ref mir_Object_), (.ref mir_Object_)])) X1 hx rfl rfl rfl (pc0 := 3) (pc' := 6) (same := true) rfl (hb hby d37_3) rfl (decide_eq_true rfl) (by decide) (by decide) ?_
    refine oIn X1 hx hby d37_6 rfl ?_
    refine st2 _ ?_
    refine oGo X2 hx hby 10 24 d37_10 (by decide) (by decide) ?_
    refine XS.astoreN X2.here hx rfl (hb hby d37_24) rfl rfl (l' := #[rv r0, iv 1, rv mir_Object_, rv b2]) rfl ?_
    refine oAn X2 hx hby d37_25 rfl rfl (oIc X2 hx hby d37_26 (oAn X2 hx hby d37_27 rfl rfl (oIc X2 hx hby d37_28 (oAn X2 hx hby d37_29 rfl rfl ?_))))
    refine X2.arraylength hx (by rw [e2]; exact Ar_z4.1) (State.isArrayOf_alike hZ.alike Ar_z4.2.1) (g := (mkF m 30 #[rv r0, iv 1, rv mir_Object_, rv b2] [(.ref r0), (.int 0), (.ref b2), (.int 0), (.ref r0)])) rfl rfl (hb hby d37_30) _ ?_
    rw [len_of S_z4 N_z4]
    refine oIn X2 hx hby d37_31 rfl ?_
    refine st5 _ ?_
    refine st8 _ ?_
    refine oAn X8 hx hby d37_38 rfl rfl ?_
    jvm_step X8.here [X8.here.top, hx, (hb hby d37_39), X8.method', Bd.returns, Value.isRef, FieldType.isReference]
    first | (intro acts; rw [hr _ acts rfl rfl rfl]) | rw [hr _ _ rfl rfl rfl]
    exact Steps.refl _
theorem pd_21 : parseMethodDescriptor "([Ljava/lang/Object;ILjava/lang/Class;)[Ljava/lang/Object;" = some ⟨[(.array (.object cS3)), .int, (.object "java/lang/Class")], some (.array (.object cS3))⟩ := by decide +kernel
theorem d36_0 : decode jdk_65_method_119_code 0 = .ok (.aload_n 0, 1) := by decide +kernel
theorem d36_1 : decode jdk_65_method_119_code 1 = .ok (.iload_n 1, 1) := by decide +kernel
theorem d36_2 : decode jdk_65_method_119_code 2 = .ok (.aload_n 0, 1) := by decide +kernel
theorem d36_3 : decode jdk_65_method_119_code 3 = .ok (.invokevirtual 86, 3) := by decide +kernel
theorem d36_6 : decode jdk_65_method_119_code 6 = .ok (.invokestatic 300, 3) := by decide +kernel
theorem d36_9 : decode jdk_65_method_119_code 9 = .ok (.areturn, 1) := by decide +kernel
theorem ef_36 (m : MethodId) (x0 : Addr) (x1 : Int32) : entryFrame m #[(.ref x0), (.int x1)] 2 = mkF m 0 #[.val (.ref x0), .val (.int x1)] [] := by first | (simp [entryFrame, mkF, argsToLocals, Value.category]; done) | rfl
def Q_36_1 (Z : State) (r0 mir_Object_ : Addr) (kE : ClassId) (x0 : Addr) (h0 : Heap) (n0 : Nat) (v : Option Value) (h : Heap) (L : List Loc) : Prop := ∃ ar : Addr, ∃ kk : ClassId, v = some (.ref ar) ∧ Fr n0 L ∧ Keep h0 h [] ∧ h0.size ≤ ar ∧ Ovr Z kk cS3 ∧ Exa Z h ar cS6 ∧ Arv Z h ar kk (.object cS3) (1 : Int32) [(.ref x0)] .null
theorem rm36_1 (l : Launch) (Z : State) (a0 : Array Value) (hw : own_HW a0 Z) (ws : List Jvm.Cond) (r0 mir_Object_ : Addr) (kE : ClassId) (x0 : Addr) (h0 : Heap) (n0 : Nat) (Z0 : n0 ≤ h0.size) (M_mir_Object_ : own_Mir Z cS6 mir_Object_) (E_r0 : Exa Z h0 r0 cS6) (V_r0 : Arv Z h0 r0 kE (.object cS3) (10 : Int32) [(.ref x0), .null, .null, .null, .null, .null, .null, .null, .null, .null] .null) (E_x0 : Exa Z h0 x0 cS0) :
    own_M l Z (⟨"java/util/Arrays", "copyOf", "([Ljava/lang/Object;I)[Ljava/lang/Object;"⟩ : MethodName) jdk_65_method_119_code 2 (some (.array (.object cS3))) ws ({ frames := 2, cells := 1, slots := 1, locals := 33 } : Room) #[(.ref r0), (.int 1)] h0 (Q_36_1 Z r0 mir_Object_ kE x0 h0 n0) := by
  refine own_in "java/util/Arrays" rfl (plainFor_of_name pn_java_util_Arrays) ?_
  intro p e s m below meth c s₁ Bd hml hZ hh hx hby hown X0 e0
  have N0 := Fr.nil n0
  have k0 := own_k (p := p) (e := e) (below := below) (T := s₁) (ef_36 m r0 (1 : Int32))
  obtain ⟨cm1, km1, ma1, mb1, mc1⟩ := own_mir hZ M_mir_Object_
  obtain ⟨cB1, kB1, ia1, ib1, ic1⟩ := isOf hZ e0 E_r0
  have hcb1 : cB1 = cm1 := Option.some.inj (ia1.symm.trans ma1)
  subst hcb1
  obtain ⟨vm1, X1, st1⟩ := X0.getClassOf hx hown (mvT hZ (own_at hw 265 rfl)) (mvT hZ (own_at hw 266 rfl)) (notFace_of_selects (args := #[]) (mvT hZ (own_at hw 268 rfl))) (mvT hZ (own_at hw 268 rfl)) (mvT hZ (own_at hw 267 rfl)) (mvT hZ (own_at hw 269 rfl)) ma1 ic1 mb1 mc1 (g := (mkF m 3 #[rv r0, iv 1] [(.ref r0), (.int 1), (.ref r0)])) rfl (by rw [hml]; rfl) rfl (hb hby d36_3) (by decide) (by show 2 * 0 + 2 + _ ≤ _; decide)
  obtain ⟨T1, hT1⟩ : ∃ T', T' = s₁.setVm vm1 := ⟨_, rfl⟩
  rw [← hT1] at X1 st1
  have e1 : T1.heap = h0 := by rw [hT1]; exact e0
  obtain ⟨_, T2, L2, X2, hQ2, st2⟩ := own_cS 0 (rm37_1 l Z a0 hw [] r0 mir_Object_ kE x0 h0 n0 Z0 M_mir_Object_ V_r0 E_x0) X1 hx hZ hown hw 271 272 263 273 rfl rfl rfl rfl 6 #[rv r0, iv 1] [(.ref r0), (.int 1), (.ref mir_Object_)] [] (hb hby d36_6) hml (lenOf pd_21 rfl) e1 rfl (Nat.le_refl _) (by decide)
  obtain ⟨ar_2, kk_2, rfl, N2q, K2, p2_0, p2_1, p2_2, p2_3⟩ := hQ2
  have g_ar_2 : n0 ≤ ar_2 := Nat.le_trans Z0 p2_0
  have sz_ar_2 : h0.size ≤ ar_2 := Nat.le_trans (Keep.refl h0 []).1 p2_0
  have N2 := Fr.app N0 N2q
  refine own_out X2 Bd.notSynchronized Bd.returns (some (.ref ar_2)) nofun (by decide) (by decide) ?_ fun fs hr => k0 _ ?_
  · exact ⟨ar_2, kk_2, rfl, N2, ((Keep.refl h0 []).trans K2 all0), sz_ar_2, p2_1, p2_2, p2_3⟩
  · show OwnS p e below s₁ (mkF m 0 #[rv r0, iv 1] []) _
    refine oAn X0 hx hby d36_0 rfl rfl (oIn X0 hx hby d36_1 rfl (oAn X0 hx hby d36_2 rfl rfl ?_))
    refine st1 _ ?_
    refine st2 _ ?_
    jvm_step X2.here [X2.here.top, hx, (hb hby d36_9), X2.method', Bd.returns, Value.isRef, FieldType.isReference]
    first | (intro acts; rw [hr _ acts rfl rfl rfl]) | rw [hr _ _ rfl rfl rfl]
    exact Steps.refl _
theorem pd_22 : parseMethodDescriptor "([Ljava/lang/Object;I)[Ljava/lang/Object;" = some ⟨[(.array (.object cS3)), .int], some (.array (.object cS3))⟩ := by decide +kernel
theorem d35_0 : decode jdk_38_method_16_code 0 = .ok (.aload_n 0, 1) := by decide +kernel
theorem d35_1 : decode jdk_38_method_16_code 1 = .ok (.getfield 9, 3) := by decide +kernel
theorem d35_4 : decode jdk_38_method_16_code 4 = .ok (.aload_n 0, 1) := by decide +kernel
theorem d35_5 : decode jdk_38_method_16_code 5 = .ok (.getfield 48, 3) := by decide +kernel
theorem d35_8 : decode jdk_38_method_16_code 8 = .ok (.invokestatic 66, 3) := by decide +kernel
theorem d35_11 : decode jdk_38_method_16_code 11 = .ok (.areturn, 1) := by decide +kernel
theorem ef_35 (m : MethodId) (x0 : Addr) : entryFrame m #[(.ref x0)] 1 = mkF m 0 #[.val (.ref x0)] [] := by first | (simp [entryFrame, mkF, argsToLocals, Value.category]; done) | rfl
def Q_35_1 (Z : State) (r0 mir_Object_ ed : Addr) (kE : ClassId) (x0 : Addr) (h0 : Heap) (n0 : Nat) (v : Option Value) (h : Heap) (L : List Loc) : Prop := ∃ ar : Addr, ∃ kk : ClassId, v = some (.ref ar) ∧ Fr n0 L ∧ Keep h0 h [] ∧ h0.size ≤ ar ∧ Ovr Z kk cS3 ∧ Exa Z h ar cS6 ∧ Arv Z h ar kk (.object cS3) (1 : Int32) [(.ref x0)] .null
theorem rm35_1 (l : Launch) (Z : State) (a0 : Array Value) (hw : own_HW a0 Z) (ws : List Jvm.Cond) (r0 mir_Object_ ed : Addr) (kE : ClassId) (x0 : Addr) (h0 : Heap) (n0 : Nat) (Z0 : n0 ≤ h0.size) (M_mir_Object_ : own_Mir Z cS6 mir_Object_) (F_elementData_r0 : Fld Z h0 r0 cS4 "elementData" cS6 (.ref ed)) (F_size_r0 : Fld Z h0 r0 cS4 "size" "I" (.int 1)) (E_ed : Exa Z h0 ed cS6) (V_ed : Arv Z h0 ed kE (.object cS3) (10 : Int32) [(.ref x0), .null, .null, .null, .null, .null, .null, .null, .null, .null] .null) (E_x0 : Exa Z h0 x0 cS0) :
    own_M l Z (⟨cS4, "toArray", "()[Ljava/lang/Object;"⟩ : MethodName) jdk_38_method_16_code 1 (some (.array (.object cS3))) ws ({ frames := 3, cells := 1, slots := 1, locals := 46 } : Room) #[(.ref r0)] h0 (Q_35_1 Z r0 mir_Object_ ed kE x0 h0 n0) := by
  refine own_in cS4 rfl (plainFor_of_name pn_java_util_ArrayList) ?_
  intro p e s m below meth c s₁ Bd hml hZ hh hx hby hown X0 e0
  have N0 := Fr.nil n0
  have k0 := own_k (p := p) (e := e) (below := below) (T := s₁) (ef_35 m r0)
  obtain ⟨T1, X1, e1, st1⟩ := getF X0 hx hZ hown (host := "") (Or.inl (own_at hw 166 rfl)) Via.refl e0 F_elementData_r0 (g := (mkF m 1 #[rv r0] [(.ref r0)])) rfl rfl (hb hby d35_1)
  obtain ⟨T2, X2, e2, st2⟩ := getF X1 hx hZ hown (host := "") (Or.inl (own_at hw 194 rfl)) Via.refl e1 F_size_r0 (g := (mkF m 5 #[rv r0] [(.ref r0), (.ref ed)])) rfl rfl (hb hby d35_5)
  obtain ⟨_, T3, L3, X3, hQ3, st3⟩ := own_cS 0 (rm36_1 l Z a0 hw [] ed mir_Object_ kE x0 h0 n0 Z0 M_mir_Object_ E_ed V_ed E_x0) X2 hx hZ hown hw 261 262 263 264 rfl rfl rfl rfl 8 #[rv r0] [(.ref ed), (.int 1)] [] (hb hby d35_8) hml (lenOf pd_22 rfl) e2 rfl (Nat.le_refl _) (by decide)
  obtain ⟨ar_3, kk_3, rfl, N3q, K3, p3_0, p3_1, p3_2, p3_3⟩ := hQ3
  have g_ar_3 : n0 ≤ ar_3 := Nat.le_trans Z0 p3_0
  have sz_ar_3 : h0.size ≤ ar_3 := Nat.le_trans (Keep.refl h0 []).1 p3_0
  have N3 := Fr.app N0 N3q
  refine own_out X3 Bd.notSynchronized Bd.returns (some (.ref ar_3)) nofun (by decide) (by decide) ?_ fun fs hr => k0 _ ?_
  · exact ⟨ar_3, kk_3, rfl, N3, ((Keep.refl h0 []).trans K3 all0), sz_ar_3, p3_1, p3_2, p3_3⟩
  · show OwnS p e below s₁ (mkF m 0 #[rv r0] []) _
    refine oAn X0 hx hby d35_0 rfl rfl ?_
    refine st1 _ ?_
    refine oAn X1 hx hby d35_4 rfl rfl ?_
    refine st2 _ ?_
    refine st3 _ ?_
    jvm_step X3.here [X3.here.top, hx, (hb hby d35_11), X3.method', Bd.returns, Value.isRef, FieldType.isReference]
    first | (intro acts; rw [hr _ acts rfl rfl rfl]) | rw [hr _ _ rfl rfl rfl]
    exact Steps.refl _
theorem pd_23 : parseMethodDescriptor "(Ljava/lang/Object;)V" = some ⟨[(.object cS3)], none⟩ := by decide +kernel
theorem d39_0 : decode jdk_40_method_47_code 0 = .ok (.aload_n 0, 1) := by decide +kernel
theorem d39_1 : decode jdk_40_method_47_code 1 = .ok (.arraylength, 1) := by decide +kernel
theorem d39_2 : decode jdk_40_method_47_code 2 = .ok (.tableswitch 57 0 2 #[26, 32, 43], 26) := by decide +kernel
theorem d39_34 : decode jdk_40_method_47_code 34 = .ok (.new 96, 3) := by decide +kernel
theorem d39_37 : decode jdk_40_method_47_code 37 = .ok (.dup, 1) := by decide +kernel
theorem d39_38 : decode jdk_40_method_47_code 38 = .ok (.aload_n 0, 1) := by decide +kernel
theorem d39_39 : decode jdk_40_method_47_code 39 = .ok (.iconst 0, 1) := by decide +kernel
theorem d39_40 : decode jdk_40_method_47_code 40 = .ok (.aaload, 1) := by decide +kernel
theorem d39_41 : decode jdk_40_method_47_code 41 = .ok (.invokespecial 98, 3) := by decide +kernel
theorem d39_44 : decode jdk_40_method_47_code 44 = .ok (.areturn, 1) := by decide +kernel
theorem ef_39 (m : MethodId) (x0 : Addr) : entryFrame m #[(.ref x0)] 2 = mkF m 0 #[.val (.ref x0), .unset] [] := by first | (simp [entryFrame, mkF, argsToLocals, Value.category]; done) | rfl
def Q_39_1 (Z : State) (r0 w_EMPTY : Addr) (kA : ClassId) (x0 : Addr) (h0 : Heap) (n0 : Nat) (v : Option Value) (h : Heap) (L : List Loc) : Prop := ∃ ls : Addr, v = some (.ref ls) ∧ Fr n0 L ∧ Keep h0 h [] ∧ h0.size ≤ ls ∧ Exa Z h ls cS5 ∧ Fld Z h ls cS5 "e0" cS13 (.ref x0) ∧ Fld Z h ls cS5 "e1" cS13 (.ref w_EMPTY)
theorem rm39_1 (l : Launch) (Z : State) (a0 : Array Value) (hw : own_HW a0 Z) (ws : List Jvm.Cond) (r0 w_EMPTY : Addr) (kA : ClassId) (x0 : Addr) (h0 : Heap) (n0 : Nat) (Z0 : n0 ≤ h0.size) (S_EMPTY : Sta Z h0 cS14 "EMPTY" cS13 (.ref w_EMPTY)) (V_r0 : Arv Z h0 r0 kA (.object cS3) (1 : Int32) [(.ref x0)] .null) (E_x0 : Exa Z h0 x0 cS0) :
    own_M l Z (⟨cS11, "of", "([Ljava/lang/Object;)Ljava/util/List;"⟩ : MethodName) jdk_40_method_47_code 2 (some (.object cS11)) ws ({ frames := 5, cells := 1, slots := 2, locals := 62 } : Room) #[(.ref r0)] h0 (Q_39_1 Z r0 w_EMPTY kA x0 h0 n0) := by
  refine own_in cS11 rfl (plainFor_of_name pn_java_util_List) ?_
  intro p e s m below meth c s₁ Bd hml hZ hh hx hby hown X0 e0
  have N0 := Fr.nil n0
  have k0 := own_k (p := p) (e := e) (below := below) (T := s₁) (ef_39 m r0)
  obtain ⟨cl_z1, Ar_z1, q_z1, S_z1, N_z1, H_z1, G_z1⟩ := id V_r0
  obtain ⟨T2, h2, X2, e2, E2, A2, D2, -, st2⟩ := newO X0 hx hZ hown (own_at hw 330 rfl) (own_at hw 331 rfl) (own_at hw 332 rfl) e0 (g := (mkF m 34 #[rv r0, .unset] [])) rfl (hb hby d39_34) (by decide) (by decide)
  obtain ⟨b2, g2⟩ : ∃ z, z = h0.size := ⟨_, rfl⟩
  rw [← g2] at A2 D2 st2
  have g_b2 : n0 ≤ b2 := Nat.le_trans Z0 (Nat.le_of_eq g2.symm)
  have sz_b2 : h0.size ≤ b2 := Nat.le_trans (Keep.refl h0 []).1 (Nat.le_of_eq g2.symm)
  have F_e0_b2 : Fld Z h2 b2 cS5 "e0" cS13 .null := D2 (Or.inr (own_at hw 343 rfl)) (ty := (.object cS3)) (by decide)
  have F_e1_b2 : Fld Z h2 b2 cS5 "e1" cS13 .null := D2 (Or.inr (own_at hw 345 rfl)) (ty := (.object cS3)) (by decide)
  have f3 := (V_r0.ext E2)
  obtain ⟨cl_z4, Ar_z4, q_z4, S_z4, N_z4, H_z4, G_z4⟩ := id f3
  have hin5 : ¬ ((0 : Int32) < 0 ∨ cl_z4.slots.size ≤ ((0 : Int32)).toNatClampNeg) := inb_of S_z4 ⟨by decide, by decide⟩
  have f7 := (S_EMPTY.ext E2)
  obtain ⟨_, _, ⟨T6, L6, j6, i6⟩, -, X6, ⟨Lc6, hQ6, l6, y6, z6⟩, st6⟩ := X2.specialBack hx (y := (⟨cS5, "<init>", "(Ljava/lang/Object;)V"⟩ : MethodName)) rfl hown (mvT hZ (own_at hw 361 rfl)) (mvT hZ (own_at hw 362 rfl)) (mvT hZ (own_at hw 363 rfl)) (by decide) (backOf (W := 1) (rm50 l Z a0 hw [] b2 x0 w_EMPTY .null .null h2 n0 (Nat.le_trans Z0 E2.1) f7 A2 F_e0_b2 g_b2 F_e1_b2) hZ (own_at hw 363 rfl) (own_at hw 332 rfl) (by decide) (by decide)) (g := (mkF m 41 #[rv r0, .unset] [(.ref x0), (.ref b2), (.ref b2)])) rfl (by rw [hml]; rfl) (Steps.refl _) (a := b2) (argsL := [(.ref x0)]) (rest := [(.ref b2)]) (lenOf pd_23 rfl) rfl (Nat.le_refl _) (hb hby d39_41) (fun _ _ => ⟨rfl, e2, (by decide : 1 + 0 ≤ _), (by decide : 2 + 0 ≤ _)⟩)
  dsimp only [Pt.U, Pt.locs, Pt.cells, Pt.slots] at X6 l6 y6 z6 st6 hQ6
  subst l6 y6 z6
  have f8 := (E_x0.ext E2)
  obtain ⟨rfl, N6q, K6, p6_0, p6_1, p6_2⟩ := hQ6
  have pl6 := (allS (P := fun x => ∃ cell : Cell, h2[x]? = some cell ∧ cell.vm.isStatics = false) (own_ns A2) all0)
  have N6 := Fr.app N0 N6q
  refine own_out X6 Bd.notSynchronized Bd.returns (some (.ref b2)) nofun (by decide) (by decide) ?_ fun fs hr => k0 _ ?_
  · exact ⟨b2, rfl, N6, (((Keep.refl h0 []).ext E2).trans K6 (allS (Or.inr sz_b2) all0)), sz_b2, p6_0, p6_1, p6_2⟩
  · show OwnS p e below s₁ (mkF m 0 #[rv r0, .unset] []) _
    refine oAn X0 hx hby d39_0 rfl rfl ?_
    refine X0.arraylength hx (by rw [e0]; exact Ar_z1.1) (State.isArrayOf_alike hZ.alike Ar_z1.2.1) (g := (mkF m 1 #[rv r0, .unset] [(.ref r0)])) rfl rfl (hb hby d39_1) _ ?_
    rw [len_of S_z1 N_z1]
    refine XS.tswIn X0.here hx rfl (pc0 := 2) (pc' := 34) (o := 32) rfl (hb hby d39_2) rfl (by decide) (by decide +kernel) (by decide) (by decide) ?_
    refine st2 _ ?_
    refine XS.dup X2.here hx rfl (hb hby d39_37) rfl rfl ?_
    refine oAn X2 hx hby d39_38 rfl rfl (oIc X2 hx hby d39_39 ?_)
    refine X2.aaload hx (j := (0 : Int32)) (v := (.ref x0)) (by rw [e2]; exact Ar_z4.1) (State.isArrayOf_alike hZ.alike Ar_z4.2.1) rfl Ar_z4.2.2 hin5 (Has.at H_z4 hin5 rfl) (g := (mkF m 40 #[rv r0, .unset] [(.int 0), (.ref r0), (.ref b2), (.ref b2)])) rfl rfl (hb hby d39_40) _ ?_
    refine st6.trans ?_
    jvm_step X6.here [X6.here.top, hx, (hb hby d39_44), X6.method', Bd.returns, Value.isRef, FieldType.isReference]
    first | (intro acts; rw [hr _ acts rfl rfl rfl]) | rw [hr _ _ rfl rfl rfl]
    exact Steps.refl _
theorem pd_24 : parseMethodDescriptor "([Ljava/lang/Object;)Ljava/util/List;" = some ⟨[(.array (.object cS3))], some (.object cS11)⟩ := by decide +kernel
theorem d24_0 : decode jdk_56_method_3_code 0 = .ok (.aload_n 0, 1) := by decide +kernel
theorem d24_1 : decode jdk_56_method_3_code 1 = .ok (.instanceof 10, 3) := by decide +kernel
theorem d24_4 : decode jdk_56_method_3_code 4 = .ok (.ifCond .ne 22, 3) := by decide +kernel
theorem d24_7 : decode jdk_56_method_3_code 7 = .ok (.aload_n 0, 1) := by decide +kernel
theorem d24_8 : decode jdk_56_method_3_code 8 = .ok (.instanceof 12, 3) := by decide +kernel
theorem d24_11 : decode jdk_56_method_3_code 11 = .ok (.ifCond .eq 20, 3) := by decide +kernel
theorem d24_31 : decode jdk_56_method_3_code 31 = .ok (.aload_n 0, 1) := by decide +kernel
theorem d24_32 : decode jdk_56_method_3_code 32 = .ok (.invokeinterface 20 1, 5) := by decide +kernel
theorem d24_37 : decode jdk_56_method_3_code 37 = .ok (.ifCond .eq 7, 3) := by decide +kernel
theorem d24_44 : decode jdk_56_method_3_code 44 = .ok (.aload_n 0, 1) := by decide +kernel
theorem d24_45 : decode jdk_56_method_3_code 45 = .ok (.invokeinterface 30 1, 5) := by decide +kernel
theorem d24_50 : decode jdk_56_method_3_code 50 = .ok (.invokestatic 34, 3) := by decide +kernel
theorem d24_53 : decode jdk_56_method_3_code 53 = .ok (.areturn, 1) := by decide +kernel
theorem ef_24 (m : MethodId) (x0 : Addr) : entryFrame m #[(.ref x0)] 2 = mkF m 0 #[.val (.ref x0), .unset] [] := by first | (simp [entryFrame, mkF, argsToLocals, Value.category]; done) | rfl
def Q_24_1 (Z : State) (r0 w_EMPTY mir_Object_ ed : Addr) (kE : ClassId) (x0 : Addr) (h0 : Heap) (n0 : Nat) (v : Option Value) (h : Heap) (L : List Loc) : Prop := ∃ ls : Addr, v = some (.ref ls) ∧ Fr n0 L ∧ Keep h0 h [] ∧ h0.size ≤ ls ∧ Exa Z h ls cS5 ∧ Fld Z h ls cS5 "e0" cS13 (.ref x0) ∧ Fld Z h ls cS5 "e1" cS13 (.ref w_EMPTY)
theorem rm24_1 (l : Launch) (Z : State) (a0 : Array Value) (hw : own_HW a0 Z) (ws : List Jvm.Cond) (r0 w_EMPTY mir_Object_ ed : Addr) (kE : ClassId) (x0 : Addr) (h0 : Heap) (n0 : Nat) (Z0 : n0 ≤ h0.size) (S_EMPTY : Sta Z h0 cS14 "EMPTY" cS13 (.ref w_EMPTY)) (M_mir_Object_ : own_Mir Z cS6 mir_Object_) (E_r0 : Exa Z h0 r0 cS4) (F_elementData_r0 : Fld Z h0 r0 cS4 "elementData" cS6 (.ref ed)) (F_size_r0 : Fld Z h0 r0 cS4 "size" "I" (.int 1)) (E_ed : Exa Z h0 ed cS6) (V_ed : Arv Z h0 ed kE (.object cS3) (10 : Int32) [(.ref x0), .null, .null, .null, .null, .null, .null, .null, .null, .null] .null) (E_x0 : Exa Z h0 x0 cS0) :
    own_M l Z (⟨cS14, "listCopy", "(Ljava/util/Collection;)Ljava/util/List;"⟩ : MethodName) jdk_56_method_3_code 2 (some (.object cS11)) ws ({ frames := 6, cells := 2, slots := 3, locals := 75 } : Room) #[(.ref r0)] h0 (Q_24_1 Z r0 w_EMPTY mir_Object_ ed kE x0 h0 n0) := by
  refine own_in cS14 rfl (plainFor_of_name pn_java_util_ImmutableCollections) ?_
  intro p e s m below meth c s₁ Bd hml hZ hh hx hby hown X0 e0
  have N0 := Fr.nil n0
  have k0 := own_k (p := p) (e := e) (below := below) (T := s₁) (ef_24 m r0)
  obtain ⟨T1, X1, e1, st1⟩ := instNo X0 hx hZ hown (own_at hw 179 rfl) e0 E_r0 (own_noinst (t := [cS16, cS21, cS3]) (by intro w hw'; simp only [Cond.chainWords, List.mem_cons, List.not_mem_nil, or_false] at hw'; rcases hw' with rfl | rfl | rfl | rfl; exact (own_at hw 180 rfl); exact (own_at hw 181 rfl); exact (own_at hw 182 rfl); exact (own_at hw 183 rfl)) (own_at hw 331 rfl) (by decide)) (g := (mkF m 1 #[rv r0, .unset] [(.ref r0)])) rfl rfl (hb hby d24_1)
  obtain ⟨T2, X2, e2, st2⟩ := instNo X1 hx hZ hown (own_at hw 184 rfl) e1 E_r0 (own_noinst (t := [cS16, cS21, cS3]) (by intro w hw'; simp only [Cond.chainWords, List.mem_cons, List.not_mem_nil, or_false] at hw'; rcases hw' with rfl | rfl | rfl | rfl; exact (own_at hw 180 rfl); exact (own_at hw 181 rfl); exact (own_at hw 182 rfl); exact (own_at hw 183 rfl)) (own_at hw 293 rfl) (by decide)) (g := (mkF m 8 #[rv r0, .unset] [(.ref r0)])) rfl rfl (hb hby d24_8)
  obtain ⟨_, T3, L3, X3, hQ3, st3⟩ := own_cI 0 (rm25_t l Z a0 hw [] r0 (1 : Int32) h0 n0 Z0 F_size_r0 (by decide : ¬ ((1 : Int32) = (0 : Int32)))) X2 hx hZ hown hw 185 186 187 188 189 190 191 192 193 146 rfl rfl rfl rfl rfl rfl rfl rfl rfl rfl r0 E_r0 32 #[rv r0, .unset] [] [] (hb hby d24_32) hml (lenOf pd_3 rfl) e2 rfl (Nat.le_refl _) (by decide)
  obtain ⟨rfl, N3q, e3⟩ := hQ3
  have N3 := Fr.app N0 N3q
  obtain ⟨_, T4, L4, X4, hQ4, st4⟩ := own_cI 0 (rm35_1 l Z a0 hw [] r0 mir_Object_ ed kE x0 h0 n0 Z0 M_mir_Object_ F_elementData_r0 F_size_r0 E_ed V_ed E_x0) X3 hx hZ hown hw 253 254 255 256 257 258 259 192 260 146 rfl rfl rfl rfl rfl rfl rfl rfl rfl rfl r0 E_r0 45 #[rv r0, .unset] [] [] (hb hby d24_45) hml (lenOf pd_17 rfl) e3 rfl (Nat.le_refl _) (by decide)
  obtain ⟨ar_4, kk_4, rfl, N4q, K4, p4_0, p4_1, p4_2, p4_3⟩ := hQ4
  have g_ar_4 : n0 ≤ ar_4 := Nat.le_trans Z0 p4_0
  have sz_ar_4 : h0.size ≤ ar_4 := Nat.le_trans (Keep.refl h0 []).1 p4_0
  have N4 := Fr.app N3 N4q
  have f6 := (own_sta_keep S_EMPTY K4 all0)
  have f7 := (E_x0.keep K4)
  obtain ⟨_, T5, L5, X5, hQ5, st5⟩ := own_cS 0 (rm39_1 l Z a0 hw [] ar_4 w_EMPTY kk_4 x0 T4.heap n0 (Nat.le_trans Z0 K4.1) f6 p4_3 f7) X4 hx hZ hown hw 283 284 52 285 rfl rfl rfl rfl 50 #[rv r0, .unset] [(.ref ar_4)] [] (hb hby d24_50) hml (lenOf pd_24 rfl) rfl rfl (Nat.le_refl _) (by decide)
  have f8 := (E_r0.keep K4)
  have f9 := (E_ed.keep K4)
  obtain ⟨ls_5, rfl, N5q, K5, p5_0, p5_1, p5_2, p5_3⟩ := hQ5
  have g_ls_5 : n0 ≤ ls_5 := Nat.le_trans (Nat.le_trans Z0 K4.1) p5_0
  have sz_ls_5 : h0.size ≤ ls_5 := Nat.le_trans ((Keep.refl h0 []).trans K4 all0).1 p5_0
  have N5 := Fr.app N4 N5q
  refine own_out X5 Bd.notSynchronized Bd.returns (some (.ref ls_5)) nofun (by decide) (by decide) ?_ fun fs hr => k0 _ ?_
  · exact ⟨ls_5, rfl, N5, (((Keep.refl h0 []).trans K4 all0).trans K5 all0), sz_ls_5, p5_1, p5_2, p5_3⟩
  · show OwnS p e below s₁ (mkF m 0 #[rv r0, .unset] []) _
    refine oAn X0 hx hby d24_0 rfl rfl ?_
    refine st1 _ ?_
    refine XS.ifNo X1.here hx rfl (hb hby d24_4) rfl ((if0 _ _).trans (teq (by decide : (0 : Int32) = (0 : Int32))).2) ?_
    refine oAn X1 hx hby d24_7 rfl rfl ?_
    refine st2 _ ?_
    refine XS.ifYes X2.here hx rfl (pc0 := 11) (pc' := 31) rfl (hb hby d24_11) rfl ((if0 _ _).trans (teq (by decide : (0 : Int32) = (0 : Int32))).1) (by decide) (by decide) ?_
    refine oAn X2 hx hby d24_31 rfl rfl ?_
    refine st3 _ ?_
    refine XS.ifYes X3.here hx rfl (pc0 := 37) (pc' := 44) rfl (hb hby d24_37) rfl ((if0 _ _).trans (teq (by decide : (0 : Int32) = (0 : Int32))).1) (by decide) (by decide) ?_
    refine oAn X3 hx hby d24_44 rfl rfl ?_
    refine st4 _ ?_
    refine st5 _ ?_
    jvm_step X5.here [X5.here.top, hx, (hb hby d24_53), X5.method', Bd.returns, Value.isRef, FieldType.isReference]
    first | (intro acts; rw [hr _ acts rfl rfl rfl]) | rw [hr _ _ rfl rfl rfl]
    exact Steps.refl _
theorem pd_25 : parseMethodDescriptor "(Ljava/util/Collection;)Ljava/util/List;" = some ⟨[(.object "java/util/Collection")], some (.object cS11)⟩ := by decide +kernel
theorem d23_0 : decode jdk_40_method_48_code 0 = .ok (.aload_n 0, 1) := by decide +kernel
theorem d23_1 : decode jdk_40_method_48_code 1 = .ok (.invokestatic 112, 3) := by decide +kernel
theorem d23_4 : decode jdk_40_method_48_code 4 = .ok (.areturn, 1) := by decide +kernel
theorem ef_23 (m : MethodId) (x0 : Addr) : entryFrame m #[(.ref x0)] 1 = mkF m 0 #[.val (.ref x0)] [] := by first | (simp [entryFrame, mkF, argsToLocals, Value.category]; done) | rfl
def Q_23_1 (Z : State) (r0 w_EMPTY mir_Object_ ed : Addr) (kE : ClassId) (x0 : Addr) (h0 : Heap) (n0 : Nat) (v : Option Value) (h : Heap) (L : List Loc) : Prop := ∃ ls : Addr, v = some (.ref ls) ∧ Fr n0 L ∧ Keep h0 h [] ∧ h0.size ≤ ls ∧ Exa Z h ls cS5 ∧ Fld Z h ls cS5 "e0" cS13 (.ref x0) ∧ Fld Z h ls cS5 "e1" cS13 (.ref w_EMPTY)
theorem rm23_1 (l : Launch) (Z : State) (a0 : Array Value) (hw : own_HW a0 Z) (ws : List Jvm.Cond) (r0 w_EMPTY mir_Object_ ed : Addr) (kE : ClassId) (x0 : Addr) (h0 : Heap) (n0 : Nat) (Z0 : n0 ≤ h0.size) (S_EMPTY : Sta Z h0 cS14 "EMPTY" cS13 (.ref w_EMPTY)) (M_mir_Object_ : own_Mir Z cS6 mir_Object_) (E_r0 : Exa Z h0 r0 cS4) (F_elementData_r0 : Fld Z h0 r0 cS4 "elementData" cS6 (.ref ed)) (F_size_r0 : Fld Z h0 r0 cS4 "size" "I" (.int 1)) (E_ed : Exa Z h0 ed cS6) (V_ed : Arv Z h0 ed kE (.object cS3) (10 : Int32) [(.ref x0), .null, .null, .null, .null, .null, .null, .null, .null, .null] .null) (E_x0 : Exa Z h0 x0 cS0) :
    own_M l Z (⟨cS11, "copyOf", "(Ljava/util/Collection;)Ljava/util/List;"⟩ : MethodName) jdk_40_method_48_code 1 (some (.object cS11)) ws ({ frames := 7, cells := 2, slots := 3, locals := 88 } : Room) #[(.ref r0)] h0 (Q_23_1 Z r0 w_EMPTY mir_Object_ ed kE x0 h0 n0) := by
  refine own_in cS11 rfl (plainFor_of_name pn_java_util_List) ?_
  intro p e s m below meth c s₁ Bd hml hZ hh hx hby hown X0 e0
  have N0 := Fr.nil n0
  have k0 := own_k (p := p) (e := e) (below := below) (T := s₁) (ef_23 m r0)
  obtain ⟨_, T1, L1, X1, hQ1, st1⟩ := own_cS 0 (rm24_1 l Z a0 hw [] r0 w_EMPTY mir_Object_ ed kE x0 h0 n0 Z0 S_EMPTY M_mir_Object_ E_r0 F_elementData_r0 F_size_r0 E_ed V_ed E_x0) X0 hx hZ hown hw 176 177 55 178 rfl rfl rfl rfl 1 #[rv r0] [(.ref r0)] [] (hb hby d23_1) hml (lenOf pd_25 rfl) e0 rfl (Nat.le_refl _) (by decide)
  obtain ⟨ls_1, rfl, N1q, K1, p1_0, p1_1, p1_2, p1_3⟩ := hQ1
  have g_ls_1 : n0 ≤ ls_1 := Nat.le_trans Z0 p1_0
  have sz_ls_1 : h0.size ≤ ls_1 := Nat.le_trans (Keep.refl h0 []).1 p1_0
  have N1 := Fr.app N0 N1q
  refine own_out X1 Bd.notSynchronized Bd.returns (some (.ref ls_1)) nofun (by decide) (by decide) ?_ fun fs hr => k0 _ ?_
  · exact ⟨ls_1, rfl, N1, ((Keep.refl h0 []).trans K1 all0), sz_ls_1, p1_1, p1_2, p1_3⟩
  · show OwnS p e below s₁ (mkF m 0 #[rv r0] []) _
    refine oAn X0 hx hby d23_0 rfl rfl ?_
    refine st1 _ ?_
    jvm_step X1.here [X1.here.top, hx, (hb hby d23_4), X1.method', Bd.returns, Value.isRef, FieldType.isReference]
    first | (intro acts; rw [hr _ acts rfl rfl rfl]) | rw [hr _ _ rfl rfl rfl]
    exact Steps.refl _
def Q_38_2 (Z : State)  (h0 : Heap) (n0 : Nat) (v : Option Value) (h : Heap) (L : List Loc) : Prop := v = some (.int 2) ∧ Fr n0 L ∧ h = h0
theorem rm38_2 (l : Launch) (Z : State) (a0 : Array Value) (hw : own_HW a0 Z) (ws : List Jvm.Cond)  (h0 : Heap) (n0 : Nat) (Z0 : n0 ≤ h0.size) :
    own_M l Z (⟨"java/lang/Math", "min", "(II)I"⟩ : MethodName) jdk_29_method_69_code 2 (some .int) ws ({ frames := 0, cells := 0, slots := 0, locals := 0 } : Room) #[(.int 10), (.int 2)] h0 (Q_38_2 Z  h0 n0) := by
  refine own_in "java/lang/Math" rfl (Jvm.Free.JP.mathPlain rfl (by decide +kernel)) ?_
  intro p e s m below meth c s₁ Bd hml hZ hh hx hby hown X0 e0
  have N0 := Fr.nil n0
  have k0 := own_k (p := p) (e := e) (below := below) (T := s₁) (ef_38 m (10 : Int32) (2 : Int32))
  refine own_out X0 Bd.notSynchronized Bd.returns (some (.int 2)) nofun (by decide) (by decide) ?_ fun fs hr => k0 _ ?_
  · rw [e0]; exact ⟨rfl, N0, rfl⟩
  · show OwnS p e below s₁ (mkF m 0 #[iv 10, iv 2] []) _
    refine oIn X0 hx hby d38_0 rfl (oIn X0 hx hby d38_1 rfl ?_)
    refine XS.icmpYes X0.here hx rfl (pc0 := 2) (pc' := 9) rfl (hb hby d38_2) rfl (tlt (by decide : (2 : Int32) < (10 : Int32))).2.2.1 (by decide) (by decide) ?_
    refine oIn X0 hx hby d38_9 rfl ?_
    exact retI X0 hx Bd.returns (hb hby d38_10) hr
def Q_37_2 (Z : State) (r0 mir_Object_ : Addr) (kE : ClassId) (x0 x1 : Addr) (h0 : Heap) (n0 : Nat) (v : Option Value) (h : Heap) (L : List Loc) : Prop := ∃ ar : Addr, ∃ kk : ClassId, v = some (.ref ar) ∧ Fr n0 L ∧ Keep h0 h [] ∧ h0.size ≤ ar ∧ Ovr Z kk cS3 ∧ Exa Z h ar cS6 ∧ Arv Z h ar kk (.object cS3) (2 : Int32) [(.ref x0), (.ref x1)] .null
theorem rm37_2 (l : Launch) (Z : State) (a0 : Array Value) (hw : own_HW a0 Z) (ws : List Jvm.Cond) (r0 mir_Object_ : Addr) (kE : ClassId) (x0 x1 : Addr) (h0 : Heap) (n0 : Nat) (Z0 : n0 ≤ h0.size) (M_mir_Object_ : own_Mir Z cS6 mir_Object_) (V_r0 : Arv Z h0 r0 kE (.object cS3) (10 : Int32) [(.ref x0), (.ref x1), .null, .null, .null, .null, .null, .null, .null, .null] .null) (E_x0 : Exa Z h0 x0 cS0) (E_x1 : Exa Z h0 x1 cS0) :
    own_M l Z (⟨"java/util/Arrays", "copyOf", "([Ljava/lang/Object;ILjava/lang/Class;)[Ljava/lang/Object;"⟩ : MethodName) jdk_65_method_120_code 4 (some (.array (.object cS3))) ws ({ frames := 1, cells := 1, slots := 2, locals := 18 } : Room) #[(.ref r0), (.int 2), (.ref mir_Object_)] h0 (Q_37_2 Z r0 mir_Object_ kE x0 x1 h0 n0) := by
  refine own_in "java/util/Arrays" rfl (plainFor_of_name pn_java_util_Arrays) ?_
  intro p e s m below meth c s₁ Bd hml hZ hh hx hby hown X0 e0
  have N0 := Fr.nil n0
  have k0 := own_k (p := p) (e := e) (below := below) (T := s₁) (ef_37 m r0 (2 : Int32) mir_Object_)
  obtain ⟨vm1, X1, st1⟩ := X0.ldcMirror hx hown (mvT hZ (own_at hw 274 rfl)) (own_mev hZ M_mir_Object_) (g := (mkF m 1 #[rv r0, iv 2, rv mir_Object_, .unset] [(.ref mir_Object_)])) rfl (hb hby d37_1)
  obtain ⟨T1, hT1⟩ : ∃ T', T' = s₁.setVm vm1 := ⟨_, rfl⟩
  rw [← hT1] at X1 st1
  have e1 : T1.heap = h0 := by rw [hT1]; exact e0
  obtain ⟨T2, h2, k2, X2, e2, E2, A2, EA2, O2, st2⟩ := newRE X1 hx hZ hown (own_at hw 275 rfl) (own_at hw 224 rfl) e1 (g := (mkF m 7 #[rv r0, iv 2, rv mir_Object_, .unset] [(.int 2)])) rfl (hb hby d37_7) rfl (by decide) (cap := 2) (by decide) (by decide) (by decide) (by decide) (ad := cS6) (by decide)
  obtain ⟨b2, g2⟩ : ∃ z, z = h0.size := ⟨_, rfl⟩
  rw [← g2] at A2 EA2 st2
  have g_b2 : n0 ≤ b2 := Nat.le_trans Z0 (Nat.le_of_eq g2.symm)
  have sz_b2 : h0.size ≤ b2 := Nat.le_trans (Keep.refl h0 []).1 (Nat.le_of_eq g2.symm)
  have V_b2 : Arv Z h2 b2 k2 (.object cS3) (2 : Int32) [.null, .null] .null := (Arv.new A2 (by decide)).pad (pad_rep [] .null 2)
  have f3 := (V_r0.ext E2)
  obtain ⟨cl_z4, Ar_z4, q_z4, S_z4, N_z4, H_z4, G_z4⟩ := id f3
  obtain ⟨_, T5, L5, X5, hQ5, st5⟩ := own_cS 4 (rm38_2 l Z a0 hw []  h2 n0 (Nat.le_trans Z0 E2.1) ) X2 hx hZ hown hw 276 277 221 278 rfl rfl rfl rfl 32 #[rv r0, iv 2, rv mir_Object_, rv b2] [(.int 10), (.int 2)] [(.int 0), (.ref b2), (.int 0), (.ref r0)] (hb hby d37_32) hml (lenOf pd_15 rfl) e2 rfl (Nat.le_refl _) (by decide)
  obtain ⟨rfl, N5q, e5⟩ := hQ5
  have N5 := Fr.app N0 N5q
  obtain ⟨cl_z6, Ar_z6, q_z6, S_z6, N_z6, H_z6, G_z6⟩ := id V_b2
  have f7 := (E_x1.ext E2)
  have f8 := (E_x0.ext E2)
  obtain ⟨T9, h9, L9, X9, e9, N9, K9, Vr9, st9⟩ := cpA X5 hx hZ hown (own_at hw 279 rfl) (own_at hw 282 rfl) (own_at hw 280 rfl) (own_at hw 281 rfl) e5 f3 V_b2 (us := [(.ref x0), (.ref x1)]) (Or.inr ⟨rfl, rfl, ⟨(Sto.ofV Ar_z6 q_z6 O2 (Ins.of_exa f8 (own_at hw 225 rfl))), ⟨(Sto.ofV Ar_z6 q_z6 O2 (Ins.of_exa f7 (own_at hw 225 rfl))), trivial⟩⟩⟩) (by decide) (by decide) (by decide) (by decide) (by decide) rfl (Nat.le_of_ble_eq_true rfl) N5 g_b2 (g := (mkF m 35 #[rv r0, iv 2, rv mir_Object_, rv b2] [(.int 2), (.int 0), (.ref b2), (.int 0), (.ref r0)])) rfl (by rw [hml]; rfl) rfl (hb hby d37_35) (by decide) (W := 0) (Nat.le_refl _) (by decide)
  have pl9 := (allS (P := fun x => ∃ cell : Cell, h2[x]? = some cell ∧ cell.vm.isStatics = false) (own_ns EA2) all0)
  have V9 : Arv Z h9 b2 k2 (.object cS3) (2 : Int32) [(.ref x0), (.ref x1)] .null := Vr9
  have f10 := (EA2.keep K9)
  refine own_out X9 Bd.notSynchronized Bd.returns (some (.ref b2)) nofun (by decide) (by decide) ?_ fun fs hr => k0 _ ?_
  · rw [e9]; exact ⟨b2, k2, rfl, N9, (((Keep.refl h0 []).ext E2).trans K9 (allS (Or.inr sz_b2) all0)), sz_b2, O2, f10, V9⟩
  · show OwnS p e below s₁ (mkF m 0 #[rv r0, iv 2, rv mir_Object_, .unset] []) _
    refine oAn X0 hx hby d37_0 rfl rfl ?_
    refine st1 _ ?_
    refine Jvm.RoadKit.acmp (g := (mkF m 3 #[rv r0, iv 2, rv mir_Object_, .unset] [(.ref mir_Object_), (.ref mir_Object_)])) X1 hx rfl rfl rfl (pc0 := 3) (pc' := 6) (same := true) rfl (hb hby d37_3) rfl (decide_eq_true rfl) (by decide) (by decide) ?_
    refine oIn X1 hx hby d37_6 rfl ?_
    refine st2 _ ?_
    refine oGo X2 hx hby 10 24 d37_10 (by decide) (by decide) ?_
    refine XS.astoreN X2.here hx rfl (hb hby d37_24) rfl rfl (l' := #[rv r0, iv 2, rv mir_Object_, rv b2]) rfl ?_
    refine oAn X2 hx hby d37_25 rfl rfl (oIc X2 hx hby d37_26 (oAn X2 hx hby d37_27 rfl rfl (oIc X2 hx hby d37_28 (oAn X2 hx hby d37_29 rfl rfl ?_))))
    refine X2.arraylength hx (by rw [e2]; exact Ar_z4.1) (State.isArrayOf_alike hZ.alike Ar_z4.2.1) (g := (mkF m 30 #[rv r0, iv 2, rv mir_Object_, rv b2] [(.ref r0), (.int 0), (.ref b2), (.int 0), (.ref r0)])) rfl rfl (hb hby d37_30) _ ?_
    rw [len_of S_z4 N_z4]
    refine oIn X2 hx hby d37_31 rfl ?_
    refine st5 _ ?_
    refine st9 _ ?_
    refine oAn X9 hx hby d37_38 rfl rfl ?_
    jvm_step X9.here [X9.here.top, hx, (hb hby d37_39), X9.method', Bd.returns, Value.isRef, FieldType.isReference]
    first | (intro acts; rw [hr _ acts rfl rfl rfl]) | rw [hr _ _ rfl rfl rfl]
    exact Steps.refl _
def Q_36_2 (Z : State) (r0 mir_Object_ : Addr) (kE : ClassId) (x0 x1 : Addr) (h0 : Heap) (n0 : Nat) (v : Option Value) (h : Heap) (L : List Loc) : Prop := ∃ ar : Addr, ∃ kk : ClassId, v = some (.ref ar) ∧ Fr n0 L ∧ Keep h0 h [] ∧ h0.size ≤ ar ∧ Ovr Z kk cS3 ∧ Exa Z h ar cS6 ∧ Arv Z h ar kk (.object cS3) (2 : Int32) [(.ref x0), (.ref x1)] .null
theorem rm36_2 (l : Launch) (Z : State) (a0 : Array Value) (hw : own_HW a0 Z) (ws : List Jvm.Cond) (r0 mir_Object_ : Addr) (kE : ClassId) (x0 x1 : Addr) (h0 : Heap) (n0 : Nat) (Z0 : n0 ≤ h0.size) (M_mir_Object_ : own_Mir Z cS6 mir_Object_) (E_r0 : Exa Z h0 r0 cS6) (V_r0 : Arv Z h0 r0 kE (.object cS3) (10 : Int32) [(.ref x0), (.ref x1), .null, .null, .null, .null, .null, .null, .null, .null] .null) (E_x0 : Exa Z h0 x0 cS0) (E_x1 : Exa Z h0 x1 cS0) :
    own_M l Z (⟨"java/util/Arrays", "copyOf", "([Ljava/lang/Object;I)[Ljava/lang/Object;"⟩ : MethodName) jdk_65_method_119_code 2 (some (.array (.object cS3))) ws ({ frames := 2, cells := 1, slots := 2, locals := 33 } : Room) #[(.ref r0), (.int 2)] h0 (Q_36_2 Z r0 mir_Object_ kE x0 x1 h0 n0) := by
  refine own_in "java/util/Arrays" rfl (plainFor_of_name pn_java_util_Arrays) ?_
  intro p e s m below meth c s₁ Bd hml hZ hh hx hby hown X0 e0
  have N0 := Fr.nil n0
  have k0 := own_k (p := p) (e := e) (below := below) (T := s₁) (ef_36 m r0 (2 : Int32))
  obtain ⟨cm1, km1, ma1, mb1, mc1⟩ := own_mir hZ M_mir_Object_
  obtain ⟨cB1, kB1, ia1, ib1, ic1⟩ := isOf hZ e0 E_r0
  have hcb1 : cB1 = cm1 := Option.some.inj (ia1.symm.trans ma1)
  subst hcb1
  obtain ⟨vm1, X1, st1⟩ := X0.getClassOf hx hown (mvT hZ (own_at hw 265 rfl)) (mvT hZ (own_at hw 266 rfl)) (notFace_of_selects (args := #[]) (mvT hZ (own_at hw 268 rfl))) (mvT hZ (own_at hw 268 rfl)) (mvT hZ (own_at hw 267 rfl)) (mvT hZ (own_at hw 269 rfl)) ma1 ic1 mb1 mc1 (g := (mkF m 3 #[rv r0, iv 2] [(.ref r0), (.int 2), (.ref r0)])) rfl (by rw [hml]; rfl) rfl (hb hby d36_3) (by decide) (by show 2 * 0 + 2 + _ ≤ _; decide)
  obtain ⟨T1, hT1⟩ : ∃ T', T' = s₁.setVm vm1 := ⟨_, rfl⟩
  rw [← hT1] at X1 st1
  have e1 : T1.heap = h0 := by rw [hT1]; exact e0
  obtain ⟨_, T2, L2, X2, hQ2, st2⟩ := own_cS 0 (rm37_2 l Z a0 hw [] r0 mir_Object_ kE x0 x1 h0 n0 Z0 M_mir_Object_ V_r0 E_x0 E_x1) X1 hx hZ hown hw 271 272 263 273 rfl rfl rfl rfl 6 #[rv r0, iv 2] [(.ref r0), (.int 2), (.ref mir_Object_)] [] (hb hby d36_6) hml (lenOf pd_21 rfl) e1 rfl (Nat.le_refl _) (by decide)
  obtain ⟨ar_2, kk_2, rfl, N2q, K2, p2_0, p2_1, p2_2, p2_3⟩ := hQ2
  have g_ar_2 : n0 ≤ ar_2 := Nat.le_trans Z0 p2_0
  have sz_ar_2 : h0.size ≤ ar_2 := Nat.le_trans (Keep.refl h0 []).1 p2_0
  have N2 := Fr.app N0 N2q
  refine own_out X2 Bd.notSynchronized Bd.returns (some (.ref ar_2)) nofun (by decide) (by decide) ?_ fun fs hr => k0 _ ?_
  · exact ⟨ar_2, kk_2, rfl, N2, ((Keep.refl h0 []).trans K2 all0), sz_ar_2, p2_1, p2_2, p2_3⟩
  · show OwnS p e below s₁ (mkF m 0 #[rv r0, iv 2] []) _
    refine oAn X0 hx hby d36_0 rfl rfl (oIn X0 hx hby d36_1 rfl (oAn X0 hx hby d36_2 rfl rfl ?_))
    refine st1 _ ?_
    refine st2 _ ?_
    jvm_step X2.here [X2.here.top, hx, (hb hby d36_9), X2.method', Bd.returns, Value.isRef, FieldType.isReference]
    first | (intro acts; rw [hr _ acts rfl rfl rfl]) | rw [hr _ _ rfl rfl rfl]
    exact Steps.refl _
def Q_35_2 (Z : State) (r0 mir_Object_ ed : Addr) (kE : ClassId) (x0 x1 : Addr) (h0 : Heap) (n0 : Nat) (v : Option Value) (h : Heap) (L : List Loc) : Prop := ∃ ar : Addr, ∃ kk : ClassId, v = some (.ref ar) ∧ Fr n0 L ∧ Keep h0 h [] ∧ h0.size ≤ ar ∧ Ovr Z kk cS3 ∧ Exa Z h ar cS6 ∧ Arv Z h ar kk (.object cS3) (2 : Int32) [(.ref x0), (.ref x1)] .null
theorem rm35_2 (l : Launch) (Z : State) (a0 : Array Value) (hw : own_HW a0 Z) (ws : List Jvm.Cond) (r0 mir_Object_ ed : Addr) (kE : ClassId) (x0 x1 : Addr) (h0 : Heap) (n0 : Nat) (Z0 : n0 ≤ h0.size) (M_mir_Object_ : own_Mir Z cS6 mir_Object_) (F_elementData_r0 : Fld Z h0 r0 cS4 "elementData" cS6 (.ref ed)) (F_size_r0 : Fld Z h0 r0 cS4 "size" "I" (.int 2)) (E_ed : Exa Z h0 ed cS6) (V_ed : Arv Z h0 ed kE (.object cS3) (10 : Int32) [(.ref x0), (.ref x1), .null, .null, .null, .null, .null, .null, .null, .null] .null) (E_x0 : Exa Z h0 x0 cS0) (E_x1 : Exa Z h0 x1 cS0) :
    own_M l Z (⟨cS4, "toArray", "()[Ljava/lang/Object;"⟩ : MethodName) jdk_38_method_16_code 1 (some (.array (.object cS3))) ws ({ frames := 3, cells := 1, slots := 2, locals := 46 } : Room) #[(.ref r0)] h0 (Q_35_2 Z r0 mir_Object_ ed kE x0 x1 h0 n0) := by
  refine own_in cS4 rfl (plainFor_of_name pn_java_util_ArrayList) ?_
  intro p e s m below meth c s₁ Bd hml hZ hh hx hby hown X0 e0
  have N0 := Fr.nil n0
  have k0 := own_k (p := p) (e := e) (below := below) (T := s₁) (ef_35 m r0)
  obtain ⟨T1, X1, e1, st1⟩ := getF X0 hx hZ hown (host := "") (Or.inl (own_at hw 166 rfl)) Via.refl e0 F_elementData_r0 (g := (mkF m 1 #[rv r0] [(.ref r0)])) rfl rfl (hb hby d35_1)
  obtain ⟨T2, X2, e2, st2⟩ := getF X1 hx hZ hown (host := "") (Or.inl (own_at hw 194 rfl)) Via.refl e1 F_size_r0 (g := (mkF m 5 #[rv r0] [(.ref r0), (.ref ed)])) rfl rfl (hb hby d35_5)
  obtain ⟨_, T3, L3, X3, hQ3, st3⟩ := own_cS 0 (rm36_2 l Z a0 hw [] ed mir_Object_ kE x0 x1 h0 n0 Z0 M_mir_Object_ E_ed V_ed E_x0 E_x1) X2 hx hZ hown hw 261 262 263 264 rfl rfl rfl rfl 8 #[rv r0] [(.ref ed), (.int 2)] [] (hb hby d35_8) hml (lenOf pd_22 rfl) e2 rfl (Nat.le_refl _) (by decide)
  obtain ⟨ar_3, kk_3, rfl, N3q, K3, p3_0, p3_1, p3_2, p3_3⟩ := hQ3
  have g_ar_3 : n0 ≤ ar_3 := Nat.le_trans Z0 p3_0
  have sz_ar_3 : h0.size ≤ ar_3 := Nat.le_trans (Keep.refl h0 []).1 p3_0
  have N3 := Fr.app N0 N3q
  refine own_out X3 Bd.notSynchronized Bd.returns (some (.ref ar_3)) nofun (by decide) (by decide) ?_ fun fs hr => k0 _ ?_
  · exact ⟨ar_3, kk_3, rfl, N3, ((Keep.refl h0 []).trans K3 all0), sz_ar_3, p3_1, p3_2, p3_3⟩
  · show OwnS p e below s₁ (mkF m 0 #[rv r0] []) _
    refine oAn X0 hx hby d35_0 rfl rfl ?_
    refine st1 _ ?_
    refine oAn X1 hx hby d35_4 rfl rfl ?_
    refine st2 _ ?_
    refine st3 _ ?_
    jvm_step X3.here [X3.here.top, hx, (hb hby d35_11), X3.method', Bd.returns, Value.isRef, FieldType.isReference]
    first | (intro acts; rw [hr _ acts rfl rfl rfl]) | rw [hr _ _ rfl rfl rfl]
    exact Steps.refl _
theorem pd_26 : parseMethodDescriptor "(Ljava/lang/Object;Ljava/lang/Object;)V" = some ⟨[(.object cS3), (.object cS3)], none⟩ := by decide +kernel
theorem d39_45 : decode jdk_40_method_47_code 45 = .ok (.new 96, 3) := by decide +kernel
theorem d39_48 : decode jdk_40_method_47_code 48 = .ok (.dup, 1) := by decide +kernel
theorem d39_49 : decode jdk_40_method_47_code 49 = .ok (.aload_n 0, 1) := by decide +kernel
theorem d39_50 : decode jdk_40_method_47_code 50 = .ok (.iconst 0, 1) := by decide +kernel
theorem d39_51 : decode jdk_40_method_47_code 51 = .ok (.aaload, 1) := by decide +kernel
theorem d39_52 : decode jdk_40_method_47_code 52 = .ok (.aload_n 0, 1) := by decide +kernel
theorem d39_53 : decode jdk_40_method_47_code 53 = .ok (.iconst 1, 1) := by decide +kernel
theorem d39_54 : decode jdk_40_method_47_code 54 = .ok (.aaload, 1) := by decide +kernel
theorem d39_55 : decode jdk_40_method_47_code 55 = .ok (.invokespecial 100, 3) := by decide +kernel
theorem d39_58 : decode jdk_40_method_47_code 58 = .ok (.areturn, 1) := by decide +kernel
def Q_39_2 (Z : State) (r0 w_EMPTY : Addr) (kA : ClassId) (x0 x1 : Addr) (h0 : Heap) (n0 : Nat) (v : Option Value) (h : Heap) (L : List Loc) : Prop := ∃ ls : Addr, v = some (.ref ls) ∧ Fr n0 L ∧ Keep h0 h [] ∧ h0.size ≤ ls ∧ Exa Z h ls cS5 ∧ Fld Z h ls cS5 "e0" cS13 (.ref x0) ∧ Fld Z h ls cS5 "e1" cS13 (.ref x1)
theorem rm39_2 (l : Launch) (Z : State) (a0 : Array Value) (hw : own_HW a0 Z) (ws : List Jvm.Cond) (r0 w_EMPTY : Addr) (kA : ClassId) (x0 x1 : Addr) (h0 : Heap) (n0 : Nat) (Z0 : n0 ≤ h0.size) (V_r0 : Arv Z h0 r0 kA (.object cS3) (2 : Int32) [(.ref x0), (.ref x1)] .null) (E_x0 : Exa Z h0 x0 cS0) (E_x1 : Exa Z h0 x1 cS0) :
    own_M l Z (⟨cS11, "of", "([Ljava/lang/Object;)Ljava/util/List;"⟩ : MethodName) jdk_40_method_47_code 2 (some (.object cS11)) ws ({ frames := 5, cells := 1, slots := 2, locals := 63 } : Room) #[(.ref r0)] h0 (Q_39_2 Z r0 w_EMPTY kA x0 x1 h0 n0) := by
  refine own_in cS11 rfl (plainFor_of_name pn_java_util_List) ?_
  intro p e s m below meth c s₁ Bd hml hZ hh hx hby hown X0 e0
  have N0 := Fr.nil n0
  have k0 := own_k (p := p) (e := e) (below := below) (T := s₁) (ef_39 m r0)
  obtain ⟨cl_z1, Ar_z1, q_z1, S_z1, N_z1, H_z1, G_z1⟩ := id V_r0
  obtain ⟨T2, h2, X2, e2, E2, A2, D2, -, st2⟩ := newO X0 hx hZ hown (own_at hw 330 rfl) (own_at hw 331 rfl) (own_at hw 332 rfl) e0 (g := (mkF m 45 #[rv r0, .unset] [])) rfl (hb hby d39_45) (by decide) (by decide)
  obtain ⟨b2, g2⟩ : ∃ z, z = h0.size := ⟨_, rfl⟩
  rw [← g2] at A2 D2 st2
  have g_b2 : n0 ≤ b2 := Nat.le_trans Z0 (Nat.le_of_eq g2.symm)
  have sz_b2 : h0.size ≤ b2 := Nat.le_trans (Keep.refl h0 []).1 (Nat.le_of_eq g2.symm)
  have F_e0_b2 : Fld Z h2 b2 cS5 "e0" cS13 .null := D2 (Or.inr (own_at hw 343 rfl)) (ty := (.object cS3)) (by decide)
  have F_e1_b2 : Fld Z h2 b2 cS5 "e1" cS13 .null := D2 (Or.inr (own_at hw 345 rfl)) (ty := (.object cS3)) (by decide)
  have f3 := (V_r0.ext E2)
  obtain ⟨cl_z4, Ar_z4, q_z4, S_z4, N_z4, H_z4, G_z4⟩ := id f3
  have hin5 : ¬ ((0 : Int32) < 0 ∨ cl_z4.slots.size ≤ ((0 : Int32)).toNatClampNeg) := inb_of S_z4 ⟨by decide, by decide⟩
  have hin6 : ¬ ((1 : Int32) < 0 ∨ cl_z4.slots.size ≤ ((1 : Int32)).toNatClampNeg) := inb_of S_z4 ⟨by decide, by decide⟩
  obtain ⟨_, _, ⟨T7, L7, j7, i7⟩, -, X7, ⟨Lc7, hQ7, l7, y7, z7⟩, st7⟩ := X2.specialBack hx (y := (⟨cS5, "<init>", "(Ljava/lang/Object;Ljava/lang/Object;)V"⟩ : MethodName)) rfl hown (mvT hZ (own_at hw 333 rfl)) (mvT hZ (own_at hw 334 rfl)) (mvT hZ (own_at hw 336 rfl)) (by decide) (backOf (W := 1) (rm47 l Z a0 hw [] b2 x0 x1 .null .null h2 n0 (Nat.le_trans Z0 E2.1) A2 F_e0_b2 g_b2 F_e1_b2) hZ (own_at hw 336 rfl) (own_at hw 332 rfl) (by decide) (by decide)) (g := (mkF m 55 #[rv r0, .unset] [(.ref x1), (.ref x0), (.ref b2), (.ref b2)])) rfl (by rw [hml]; rfl) (Steps.refl _) (a := b2) (argsL := [(.ref x0), (.ref x1)]) (rest := [(.ref b2)]) (lenOf pd_26 rfl) rfl (Nat.le_refl _) (hb hby d39_55) (fun _ _ => ⟨rfl, e2, (by decide : 1 + 0 ≤ _), (by decide : 2 + 0 ≤ _)⟩)
  dsimp only [Pt.U, Pt.locs, Pt.cells, Pt.slots] at X7 l7 y7 z7 st7 hQ7
  subst l7 y7 z7
  have f8 := (E_x0.ext E2)
  have f9 := (E_x1.ext E2)
  obtain ⟨rfl, N7q, K7, p7_0, p7_1, p7_2⟩ := hQ7
  have pl7 := (allS (P := fun x => ∃ cell : Cell, h2[x]? = some cell ∧ cell.vm.isStatics = false) (own_ns A2) all0)
  have N7 := Fr.app N0 N7q
  refine own_out X7 Bd.notSynchronized Bd.returns (some (.ref b2)) nofun (by decide) (by decide) ?_ fun fs hr => k0 _ ?_
  · exact ⟨b2, rfl, N7, (((Keep.refl h0 []).ext E2).trans K7 (allS (Or.inr sz_b2) all0)), sz_b2, p7_0, p7_1, p7_2⟩
  · show OwnS p e below s₁ (mkF m 0 #[rv r0, .unset] []) _
    refine oAn X0 hx hby d39_0 rfl rfl ?_
    refine X0.arraylength hx (by rw [e0]; exact Ar_z1.1) (State.isArrayOf_alike hZ.alike Ar_z1.2.1) (g := (mkF m 1 #[rv r0, .unset] [(.ref r0)])) rfl rfl (hb hby d39_1) _ ?_
    rw [len_of S_z1 N_z1]
    refine XS.tswIn X0.here hx rfl (pc0 := 2) (pc' := 45) (o := 43) rfl (hb hby d39_2) rfl (by decide) (by decide +kernel) (by decide) (by decide) ?_
    refine st2 _ ?_
    refine XS.dup X2.here hx rfl (hb hby d39_48) rfl rfl ?_
    refine oAn X2 hx hby d39_49 rfl rfl (oIc X2 hx hby d39_50 ?_)
    refine X2.aaload hx (j := (0 : Int32)) (v := (.ref x0)) (by rw [e2]; exact Ar_z4.1) (State.isArrayOf_alike hZ.alike Ar_z4.2.1) rfl Ar_z4.2.2 hin5 (Has.at H_z4 hin5 rfl) (g := (mkF m 51 #[rv r0, .unset] [(.int 0), (.ref r0), (.ref b2), (.ref b2)])) rfl rfl (hb hby d39_51) _ ?_
    refine oAn X2 hx hby d39_52 rfl rfl (oIc X2 hx hby d39_53 ?_)
    refine X2.aaload hx (j := (1 : Int32)) (v := (.ref x1)) (by rw [e2]; exact Ar_z4.1) (State.isArrayOf_alike hZ.alike Ar_z4.2.1) rfl Ar_z4.2.2 hin6 (Has.at H_z4 hin6 rfl) (g := (mkF m 54 #[rv r0, .unset] [(.int 1), (.ref r0), (.ref x0), (.ref b2), (.ref b2)])) rfl rfl (hb hby d39_54) _ ?_
    refine st7.trans ?_
    jvm_step X7.here [X7.here.top, hx, (hb hby d39_58), X7.method', Bd.returns, Value.isRef, FieldType.isReference]
    first | (intro acts; rw [hr _ acts rfl rfl rfl]) | rw [hr _ _ rfl rfl rfl]
    exact Steps.refl _
def Q_24_2 (Z : State) (r0 w_EMPTY mir_Object_ ed : Addr) (kE : ClassId) (x0 x1 : Addr) (h0 : Heap) (n0 : Nat) (v : Option Value) (h : Heap) (L : List Loc) : Prop := ∃ ls : Addr, v = some (.ref ls) ∧ Fr n0 L ∧ Keep h0 h [] ∧ h0.size ≤ ls ∧ Exa Z h ls cS5 ∧ Fld Z h ls cS5 "e0" cS13 (.ref x0) ∧ Fld Z h ls cS5 "e1" cS13 (.ref x1)
theorem rm24_2 (l : Launch) (Z : State) (a0 : Array Value) (hw : own_HW a0 Z) (ws : List Jvm.Cond) (r0 w_EMPTY mir_Object_ ed : Addr) (kE : ClassId) (x0 x1 : Addr) (h0 : Heap) (n0 : Nat) (Z0 : n0 ≤ h0.size) (M_mir_Object_ : own_Mir Z cS6 mir_Object_) (E_r0 : Exa Z h0 r0 cS4) (F_elementData_r0 : Fld Z h0 r0 cS4 "elementData" cS6 (.ref ed)) (F_size_r0 : Fld Z h0 r0 cS4 "size" "I" (.int 2)) (E_ed : Exa Z h0 ed cS6) (V_ed : Arv Z h0 ed kE (.object cS3) (10 : Int32) [(.ref x0), (.ref x1), .null, .null, .null, .null, .null, .null, .null, .null] .null) (E_x0 : Exa Z h0 x0 cS0) (E_x1 : Exa Z h0 x1 cS0) :
    own_M l Z (⟨cS14, "listCopy", "(Ljava/util/Collection;)Ljava/util/List;"⟩ : MethodName) jdk_56_method_3_code 2 (some (.object cS11)) ws ({ frames := 6, cells := 2, slots := 4, locals := 76 } : Room) #[(.ref r0)] h0 (Q_24_2 Z r0 w_EMPTY mir_Object_ ed kE x0 x1 h0 n0) := by
  refine own_in cS14 rfl (plainFor_of_name pn_java_util_ImmutableCollections) ?_
  intro p e s m below meth c s₁ Bd hml hZ hh hx hby hown X0 e0
  have N0 := Fr.nil n0
  have k0 := own_k (p := p) (e := e) (below := below) (T := s₁) (ef_24 m r0)
  obtain ⟨T1, X1, e1, st1⟩ := instNo X0 hx hZ hown (own_at hw 179 rfl) e0 E_r0 (own_noinst (t := [cS16, cS21, cS3]) (by intro w hw'; simp only [Cond.chainWords, List.mem_cons, List.not_mem_nil, or_false] at hw'; rcases hw' with rfl | rfl | rfl | rfl; exact (own_at hw 180 rfl); exact (own_at hw 181 rfl); exact (own_at hw 182 rfl); exact (own_at hw 183 rfl)) (own_at hw 331 rfl) (by decide)) (g := (mkF m 1 #[rv r0, .unset] [(.ref r0)])) rfl rfl (hb hby d24_1)
  obtain ⟨T2, X2, e2, st2⟩ := instNo X1 hx hZ hown (own_at hw 184 rfl) e1 E_r0 (own_noinst (t := [cS16, cS21, cS3]) (by intro w hw'; simp only [Cond.chainWords, List.mem_cons, List.not_mem_nil, or_false] at hw'; rcases hw' with rfl | rfl | rfl | rfl; exact (own_at hw 180 rfl); exact (own_at hw 181 rfl); exact (own_at hw 182 rfl); exact (own_at hw 183 rfl)) (own_at hw 293 rfl) (by decide)) (g := (mkF m 8 #[rv r0, .unset] [(.ref r0)])) rfl rfl (hb hby d24_8)
  obtain ⟨_, T3, L3, X3, hQ3, st3⟩ := own_cI 0 (rm25_t l Z a0 hw [] r0 (2 : Int32) h0 n0 Z0 F_size_r0 (by decide : ¬ ((2 : Int32) = (0 : Int32)))) X2 hx hZ hown hw 185 186 187 188 189 190 191 192 193 146 rfl rfl rfl rfl rfl rfl rfl rfl rfl rfl r0 E_r0 32 #[rv r0, .unset] [] [] (hb hby d24_32) hml (lenOf pd_3 rfl) e2 rfl (Nat.le_refl _) (by decide)
  obtain ⟨rfl, N3q, e3⟩ := hQ3
  have N3 := Fr.app N0 N3q
  obtain ⟨_, T4, L4, X4, hQ4, st4⟩ := own_cI 0 (rm35_2 l Z a0 hw [] r0 mir_Object_ ed kE x0 x1 h0 n0 Z0 M_mir_Object_ F_elementData_r0 F_size_r0 E_ed V_ed E_x0 E_x1) X3 hx hZ hown hw 253 254 255 256 257 258 259 192 260 146 rfl rfl rfl rfl rfl rfl rfl rfl rfl rfl r0 E_r0 45 #[rv r0, .unset] [] [] (hb hby d24_45) hml (lenOf pd_17 rfl) e3 rfl (Nat.le_refl _) (by decide)
  obtain ⟨ar_4, kk_4, rfl, N4q, K4, p4_0, p4_1, p4_2, p4_3⟩ := hQ4
  have g_ar_4 : n0 ≤ ar_4 := Nat.le_trans Z0 p4_0
  have sz_ar_4 : h0.size ≤ ar_4 := Nat.le_trans (Keep.refl h0 []).1 p4_0
  have N4 := Fr.app N3 N4q
  have f6 := (E_x0.keep K4)
  have f7 := (E_x1.keep K4)
  obtain ⟨_, T5, L5, X5, hQ5, st5⟩ := own_cS 0 (rm39_2 l Z a0 hw [] ar_4 w_EMPTY kk_4 x0 x1 T4.heap n0 (Nat.le_trans Z0 K4.1) p4_3 f6 f7) X4 hx hZ hown hw 283 284 52 285 rfl rfl rfl rfl 50 #[rv r0, .unset] [(.ref ar_4)] [] (hb hby d24_50) hml (lenOf pd_24 rfl) rfl rfl (Nat.le_refl _) (by decide)
  have f8 := (E_r0.keep K4)
  have f9 := (E_ed.keep K4)
  obtain ⟨ls_5, rfl, N5q, K5, p5_0, p5_1, p5_2, p5_3⟩ := hQ5
  have g_ls_5 : n0 ≤ ls_5 := Nat.le_trans (Nat.le_trans Z0 K4.1) p5_0
  have sz_ls_5 : h0.size ≤ ls_5 := Nat.le_trans ((Keep.refl h0 []).trans K4 all0).1 p5_0
  have N5 := Fr.app N4 N5q
  refine own_out X5 Bd.notSynchronized Bd.returns (some (.ref ls_5)) nofun (by decide) (by decide) ?_ fun fs hr => k0 _ ?_
  · exact ⟨ls_5, rfl, N5, (((Keep.refl h0 []).trans K4 all0).trans K5 all0), sz_ls_5, p5_1, p5_2, p5_3⟩
  · show OwnS p e below s₁ (mkF m 0 #[rv r0, .unset] []) _
    refine oAn X0 hx hby d24_0 rfl rfl ?_
    refine st1 _ ?_
    refine XS.ifNo X1.here hx rfl (hb hby d24_4) rfl ((if0 _ _).trans (teq (by decide : (0 : Int32) = (0 : Int32))).2) ?_
    refine oAn X1 hx hby d24_7 rfl rfl ?_
    refine st2 _ ?_
    refine XS.ifYes X2.here hx rfl (pc0 := 11) (pc' := 31) rfl (hb hby d24_11) rfl ((if0 _ _).trans (teq (by decide : (0 : Int32) = (0 : Int32))).1) (by decide) (by decide) ?_
    refine oAn X2 hx hby d24_31 rfl rfl ?_
    refine st3 _ ?_
    refine XS.ifYes X3.here hx rfl (pc0 := 37) (pc' := 44) rfl (hb hby d24_37) rfl ((if0 _ _).trans (teq (by decide : (0 : Int32) = (0 : Int32))).1) (by decide) (by decide) ?_
    refine oAn X3 hx hby d24_44 rfl rfl ?_
    refine st4 _ ?_
    refine st5 _ ?_
    jvm_step X5.here [X5.here.top, hx, (hb hby d24_53), X5.method', Bd.returns, Value.isRef, FieldType.isReference]
    first | (intro acts; rw [hr _ acts rfl rfl rfl]) | rw [hr _ _ rfl rfl rfl]
    exact Steps.refl _
def Q_23_2 (Z : State) (r0 w_EMPTY mir_Object_ ed : Addr) (kE : ClassId) (x0 x1 : Addr) (h0 : Heap) (n0 : Nat) (v : Option Value) (h : Heap) (L : List Loc) : Prop := ∃ ls : Addr, v = some (.ref ls) ∧ Fr n0 L ∧ Keep h0 h [] ∧ h0.size ≤ ls ∧ Exa Z h ls cS5 ∧ Fld Z h ls cS5 "e0" cS13 (.ref x0) ∧ Fld Z h ls cS5 "e1" cS13 (.ref x1)
theorem rm23_2 (l : Launch) (Z : State) (a0 : Array Value) (hw : own_HW a0 Z) (ws : List Jvm.Cond) (r0 w_EMPTY mir_Object_ ed : Addr) (kE : ClassId) (x0 x1 : Addr) (h0 : Heap) (n0 : Nat) (Z0 : n0 ≤ h0.size) (M_mir_Object_ : own_Mir Z cS6 mir_Object_) (E_r0 : Exa Z h0 r0 cS4) (F_elementData_r0 : Fld Z h0 r0 cS4 "elementData" cS6 (.ref ed)) (F_size_r0 : Fld Z h0 r0 cS4 "size" "I" (.int 2)) (E_ed : Exa Z h0 ed cS6) (V_ed : Arv Z h0 ed kE (.object cS3) (10 : Int32) [(.ref x0), (.ref x1), .null, .null, .null, .null, .null, .null, .null, .null] .null) (E_x0 : Exa Z h0 x0 cS0) (E_x1 : Exa Z h0 x1 cS0) :
    own_M l Z (⟨cS11, "copyOf", "(Ljava/util/Collection;)Ljava/util/List;"⟩ : MethodName) jdk_40_method_48_code 1 (some (.object cS11)) ws ({ frames := 7, cells := 2, slots := 4, locals := 89 } : Room) #[(.ref r0)] h0 (Q_23_2 Z r0 w_EMPTY mir_Object_ ed kE x0 x1 h0 n0) := by
  refine own_in cS11 rfl (plainFor_of_name pn_java_util_List) ?_
  intro p e s m below meth c s₁ Bd hml hZ hh hx hby hown X0 e0
  have N0 := Fr.nil n0
  have k0 := own_k (p := p) (e := e) (below := below) (T := s₁) (ef_23 m r0)
  obtain ⟨_, T1, L1, X1, hQ1, st1⟩ := own_cS 0 (rm24_2 l Z a0 hw [] r0 w_EMPTY mir_Object_ ed kE x0 x1 h0 n0 Z0 M_mir_Object_ E_r0 F_elementData_r0 F_size_r0 E_ed V_ed E_x0 E_x1) X0 hx hZ hown hw 176 177 55 178 rfl rfl rfl rfl 1 #[rv r0] [(.ref r0)] [] (hb hby d23_1) hml (lenOf pd_25 rfl) e0 rfl (Nat.le_refl _) (by decide)
  obtain ⟨ls_1, rfl, N1q, K1, p1_0, p1_1, p1_2, p1_3⟩ := hQ1
  have g_ls_1 : n0 ≤ ls_1 := Nat.le_trans Z0 p1_0
  have sz_ls_1 : h0.size ≤ ls_1 := Nat.le_trans (Keep.refl h0 []).1 p1_0
  have N1 := Fr.app N0 N1q
  refine own_out X1 Bd.notSynchronized Bd.returns (some (.ref ls_1)) nofun (by decide) (by decide) ?_ fun fs hr => k0 _ ?_
  · exact ⟨ls_1, rfl, N1, ((Keep.refl h0 []).trans K1 all0), sz_ls_1, p1_1, p1_2, p1_3⟩
  · show OwnS p e below s₁ (mkF m 0 #[rv r0] []) _
    refine oAn X0 hx hby d23_0 rfl rfl ?_
    refine st1 _ ?_
    jvm_step X1.here [X1.here.top, hx, (hb hby d23_4), X1.method', Bd.returns, Value.isRef, FieldType.isReference]
    first | (intro acts; rw [hr _ acts rfl rfl rfl]) | rw [hr _ _ rfl rfl rfl]
    exact Steps.refl _
def Q_38_3 (Z : State)  (h0 : Heap) (n0 : Nat) (v : Option Value) (h : Heap) (L : List Loc) : Prop := v = some (.int 3) ∧ Fr n0 L ∧ h = h0
theorem rm38_3 (l : Launch) (Z : State) (a0 : Array Value) (hw : own_HW a0 Z) (ws : List Jvm.Cond)  (h0 : Heap) (n0 : Nat) (Z0 : n0 ≤ h0.size) :
    own_M l Z (⟨"java/lang/Math", "min", "(II)I"⟩ : MethodName) jdk_29_method_69_code 2 (some .int) ws ({ frames := 0, cells := 0, slots := 0, locals := 0 } : Room) #[(.int 10), (.int 3)] h0 (Q_38_3 Z  h0 n0) := by
  refine own_in "java/lang/Math" rfl (Jvm.Free.JP.mathPlain rfl (by decide +kernel)) ?_
  intro p e s m below meth c s₁ Bd hml hZ hh hx hby hown X0 e0
  have N0 := Fr.nil n0
  have k0 := own_k (p := p) (e := e) (below := below) (T := s₁) (ef_38 m (10 : Int32) (3 : Int32))
  refine own_out X0 Bd.notSynchronized Bd.returns (some (.int 3)) nofun (by decide) (by decide) ?_ fun fs hr => k0 _ ?_
  · rw [e0]; exact ⟨rfl, N0, rfl⟩
  · show OwnS p e below s₁ (mkF m 0 #[iv 10, iv 3] []) _
    refine oIn X0 hx hby d38_0 rfl (oIn X0 hx hby d38_1 rfl ?_)
    refine XS.icmpYes X0.here hx rfl (pc0 := 2) (pc' := 9) rfl (hb hby d38_2) rfl (tlt (by decide : (3 : Int32) < (10 : Int32))).2.2.1 (by decide) (by decide) ?_
    refine oIn X0 hx hby d38_9 rfl ?_
    exact retI X0 hx Bd.returns (hb hby d38_10) hr
def Q_37_3 (Z : State) (r0 mir_Object_ : Addr) (kE : ClassId) (x0 x1 x2 : Addr) (h0 : Heap) (n0 : Nat) (v : Option Value) (h : Heap) (L : List Loc) : Prop := ∃ ar : Addr, ∃ kk : ClassId, v = some (.ref ar) ∧ Fr n0 L ∧ Keep h0 h [] ∧ h0.size ≤ ar ∧ Ovr Z kk cS3 ∧ Exa Z h ar cS6 ∧ Arv Z h ar kk (.object cS3) (3 : Int32) [(.ref x0), (.ref x1), (.ref x2)] .null
theorem rm37_3 (l : Launch) (Z : State) (a0 : Array Value) (hw : own_HW a0 Z) (ws : List Jvm.Cond) (r0 mir_Object_ : Addr) (kE : ClassId) (x0 x1 x2 : Addr) (h0 : Heap) (n0 : Nat) (Z0 : n0 ≤ h0.size) (M_mir_Object_ : own_Mir Z cS6 mir_Object_) (V_r0 : Arv Z h0 r0 kE (.object cS3) (10 : Int32) [(.ref x0), (.ref x1), (.ref x2), .null, .null, .null, .null, .null, .null, .null] .null) (E_x0 : Exa Z h0 x0 cS0) (E_x1 : Exa Z h0 x1 cS0) (E_x2 : Exa Z h0 x2 cS0) :
    own_M l Z (⟨"java/util/Arrays", "copyOf", "([Ljava/lang/Object;ILjava/lang/Class;)[Ljava/lang/Object;"⟩ : MethodName) jdk_65_method_120_code 4 (some (.array (.object cS3))) ws ({ frames := 1, cells := 1, slots := 3, locals := 18 } : Room) #[(.ref r0), (.int 3), (.ref mir_Object_)] h0 (Q_37_3 Z r0 mir_Object_ kE x0 x1 x2 h0 n0) := by
  refine own_in "java/util/Arrays" rfl (plainFor_of_name pn_java_util_Arrays) ?_
  intro p e s m below meth c s₁ Bd hml hZ hh hx hby hown X0 e0
  have N0 := Fr.nil n0
  have k0 := own_k (p := p) (e := e) (below := below) (T := s₁) (ef_37 m r0 (3 : Int32) mir_Object_)
  obtain ⟨vm1, X1, st1⟩ := X0.ldcMirror hx hown (mvT hZ (own_at hw 274 rfl)) (own_mev hZ M_mir_Object_) (g := (mkF m 1 #[rv r0, iv 3, rv mir_Object_, .unset] [(.ref mir_Object_)])) rfl (hb hby d37_1)
  obtain ⟨T1, hT1⟩ : ∃ T', T' = s₁.setVm vm1 := ⟨_, rfl⟩
  rw [← hT1] at X1 st1
  have e1 : T1.heap = h0 := by rw [hT1]; exact e0
  obtain ⟨T2, h2, k2, X2, e2, E2, A2, EA2, O2, st2⟩ := newRE X1 hx hZ hown (own_at hw 275 rfl) (own_at hw 224 rfl) e1 (g := (mkF m 7 #[rv r0, iv 3, rv mir_Object_, .unset] [(.int 3)])) rfl (hb hby d37_7) rfl (by decide) (cap := 3) (by decide) (by decide) (by decide) (by decide) (ad := cS6) (by decide)
  obtain ⟨b2, g2⟩ : ∃ z, z = h0.size := ⟨_, rfl⟩
  rw [← g2] at A2 EA2 st2
  have g_b2 : n0 ≤ b2 := Nat.le_trans Z0 (Nat.le_of_eq g2.symm)
  have sz_b2 : h0.size ≤ b2 := Nat.le_trans (Keep.refl h0 []).1 (Nat.le_of_eq g2.symm)
  have V_b2 : Arv Z h2 b2 k2 (.object cS3) (3 : Int32) [.null, .null, .null] .null := (Arv.new A2 (by decide)).pad (pad_rep [] .null 3)
  have f3 := (V_r0.ext E2)
  obtain ⟨cl_z4, Ar_z4, q_z4, S_z4, N_z4, H_z4, G_z4⟩ := id f3
  obtain ⟨_, T5, L5, X5, hQ5, st5⟩ := own_cS 4 (rm38_3 l Z a0 hw []  h2 n0 (Nat.le_trans Z0 E2.1) ) X2 hx hZ hown hw 276 277 221 278 rfl rfl rfl rfl 32 #[rv r0, iv 3, rv mir_Object_, rv b2] [(.int 10), (.int 3)] [(.int 0), (.ref b2), (.int 0), (.ref r0)] (hb hby d37_32) hml (lenOf pd_15 rfl) e2 rfl (Nat.le_refl _) (by decide)
  obtain ⟨rfl, N5q, e5⟩ := hQ5
  have N5 := Fr.app N0 N5q
  obtain ⟨cl_z6, Ar_z6, q_z6, S_z6, N_z6, H_z6, G_z6⟩ := id V_b2
  have f7 := (E_x2.ext E2)
  have f8 := (E_x1.ext E2)
  have f9 := (E_x0.ext E2)
  obtain ⟨T10, h10, L10, X10, e10, N10, K10, Vr10, st10⟩ := cpA X5 hx hZ hown (own_at hw 279 rfl) (own_at hw 282 rfl) (own_at hw 280 rfl) (own_at hw 281 rfl) e5 f3 V_b2 (us := [(.ref x0), (.ref x1), (.ref x2)]) (Or.inr ⟨rfl, rfl, ⟨(Sto.ofV Ar_z6 q_z6 O2 (Ins.of_exa f9 (own_at hw 225 rfl))), ⟨(Sto.ofV Ar_z6 q_z6 O2 (Ins.of_exa f8 (own_at hw 225 rfl))), ⟨(Sto.ofV Ar_z6 q_z6 O2 (Ins.of_exa f7 (own_at hw 225 rfl))), trivial⟩⟩⟩⟩) (by decide) (by decide) (by decide) (by decide) (by decide) rfl (Nat.le_of_ble_eq_true rfl) N5 g_b2 (g := (mkF m 35 #[rv r0, iv 3, rv mir_Object_, rv b2] [(.int 3), (.int 0), (.ref b2), (.int 0), (.ref r0)])) rfl (by rw [hml]; rfl) rfl (hb hby d37_35) (by decide) (W := 0) (Nat.le_refl _) (by decide)
  have pl10 := (allS (P := fun x => ∃ cell : Cell, h2[x]? = some cell ∧ cell.vm.isStatics = false) (own_ns EA2) all0)
  have V10 : Arv Z h10 b2 k2 (.object cS3) (3 : Int32) [(.ref x0), (.ref x1), (.ref x2)] .null := Vr10
  have f11 := (EA2.keep K10)
  refine own_out X10 Bd.notSynchronized Bd.returns (some (.ref b2)) nofun (by decide) (by decide) ?_ fun fs hr => k0 _ ?_
  · rw [e10]; exact ⟨b2, k2, rfl, N10, (((Keep.refl h0 []).ext E2).trans K10 (allS (Or.inr sz_b2) all0)), sz_b2, O2, f11, V10⟩
  · show OwnS p e below s₁ (mkF m 0 #[rv r0, iv 3, rv mir_Object_, .unset] []) _
    refine oAn X0 hx hby d37_0 rfl rfl ?_
    refine st1 _ ?_
    refine Jvm.RoadKit.acmp (g := (mkF m 3 #[rv r0, iv 3, rv mir_Object_, .unset] [(.ref mir_Object_), (.ref mir_Object_)])) X1 hx rfl rfl rfl (pc0 := 3) (pc' := 6) (same := true) rfl (hb hby d37_3) rfl (decide_eq_true rfl) (by decide) (by decide) ?_
    refine oIn X1 hx hby d37_6 rfl ?_
    refine st2 _ ?_
    refine oGo X2 hx hby 10 24 d37_10 (by decide) (by decide) ?_
    refine XS.astoreN X2.here hx rfl (hb hby d37_24) rfl rfl (l' := #[rv r0, iv 3, rv mir_Object_, rv b2]) rfl ?_
    refine oAn X2 hx hby d37_25 rfl rfl (oIc X2 hx hby d37_26 (oAn X2 hx hby d37_27 rfl rfl (oIc X2 hx hby d37_28 (oAn X2 hx hby d37_29 rfl rfl ?_))))
    refine X2.arraylength hx (by rw [e2]; exact Ar_z4.1) (State.isArrayOf_alike hZ.alike Ar_z4.2.1) (g := (mkF m 30 #[rv r0, iv 3, rv mir_Object_, rv b2] [(.ref r0), (.int 0), (.ref b2), (.int 0), (.ref r0)])) rfl rfl (hb hby d37_30) _ ?_
    rw [len_of S_z4 N_z4]
    refine oIn X2 hx hby d37_31 rfl ?_
    refine st5 _ ?_
    refine st10 _ ?_
    refine oAn X10 hx hby d37_38 rfl rfl ?_
    jvm_step X10.here [X10.here.top, hx, (hb hby d37_39), X10.method', Bd.returns, Value.isRef, FieldType.isReference]
    first | (intro acts; rw [hr _ acts rfl rfl rfl]) | rw [hr _ _ rfl rfl rfl]
    exact Steps.refl _
def Q_36_3 (Z : State) (r0 mir_Object_ : Addr) (kE : ClassId) (x0 x1 x2 : Addr) (h0 : Heap) (n0 : Nat) (v : Option Value) (h : Heap) (L : List Loc) : Prop := ∃ ar : Addr, ∃ kk : ClassId, v = some (.ref ar) ∧ Fr n0 L ∧ Keep h0 h [] ∧ h0.size ≤ ar ∧ Ovr Z kk cS3 ∧ Exa Z h ar cS6 ∧ Arv Z h ar kk (.object cS3) (3 : Int32) [(.ref x0), (.ref x1), (.ref x2)] .null
theorem rm36_3 (l : Launch) (Z : State) (a0 : Array Value) (hw : own_HW a0 Z) (ws : List Jvm.Cond) (r0 mir_Object_ : Addr) (kE : ClassId) (x0 x1 x2 : Addr) (h0 : Heap) (n0 : Nat) (Z0 : n0 ≤ h0.size) (M_mir_Object_ : own_Mir Z cS6 mir_Object_) (E_r0 : Exa Z h0 r0 cS6) (V_r0 : Arv Z h0 r0 kE (.object cS3) (10 : Int32) [(.ref x0), (.ref x1), (.ref x2), .null, .null, .null, .null, .null, .null, .null] .null) (E_x0 : Exa Z h0 x0 cS0) (E_x1 : Exa Z h0 x1 cS0) (E_x2 : Exa Z h0 x2 cS0) :
    own_M l Z (⟨"java/util/Arrays", "copyOf", "([Ljava/lang/Object;I)[Ljava/lang/Object;"⟩ : MethodName) jdk_65_method_119_code 2 (some (.array (.object cS3))) ws ({ frames := 2, cells := 1, slots := 3, locals := 33 } : Room) #[(.ref r0), (.int 3)] h0 (Q_36_3 Z r0 mir_Object_ kE x0 x1 x2 h0 n0) := by
  refine own_in "java/util/Arrays" rfl (plainFor_of_name pn_java_util_Arrays) ?_
  intro p e s m below meth c s₁ Bd hml hZ hh hx hby hown X0 e0
  have N0 := Fr.nil n0
  have k0 := own_k (p := p) (e := e) (below := below) (T := s₁) (ef_36 m r0 (3 : Int32))
  obtain ⟨cm1, km1, ma1, mb1, mc1⟩ := own_mir hZ M_mir_Object_
  obtain ⟨cB1, kB1, ia1, ib1, ic1⟩ := isOf hZ e0 E_r0
  have hcb1 : cB1 = cm1 := Option.some.inj (ia1.symm.trans ma1)
  subst hcb1
  obtain ⟨vm1, X1, st1⟩ := X0.getClassOf hx hown (mvT hZ (own_at hw 265 rfl)) (mvT hZ (own_at hw 266 rfl)) (notFace_of_selects (args := #[]) (mvT hZ (own_at hw 268 rfl))) (mvT hZ (own_at hw 268 rfl)) (mvT hZ (own_at hw 267 rfl)) (mvT hZ (own_at hw 269 rfl)) ma1 ic1 mb1 mc1 (g := (mkF m 3 #[rv r0, iv 3] [(.ref r0), (.int 3), (.ref r0)])) rfl (by rw [hml]; rfl) rfl (hb hby d36_3) (by decide) (by show 2 * 0 + 2 + _ ≤ _; decide)
  obtain ⟨T1, hT1⟩ : ∃ T', T' = s₁.setVm vm1 := ⟨_, rfl⟩
  rw [← hT1] at X1 st1
  have e1 : T1.heap = h0 := by rw [hT1]; exact e0
  obtain ⟨_, T2, L2, X2, hQ2, st2⟩ := own_cS 0 (rm37_3 l Z a0 hw [] r0 mir_Object_ kE x0 x1 x2 h0 n0 Z0 M_mir_Object_ V_r0 E_x0 E_x1 E_x2) X1 hx hZ hown hw 271 272 263 273 rfl rfl rfl rfl 6 #[rv r0, iv 3] [(.ref r0), (.int 3), (.ref mir_Object_)] [] (hb hby d36_6) hml (lenOf pd_21 rfl) e1 rfl (Nat.le_refl _) (by decide)
  obtain ⟨ar_2, kk_2, rfl, N2q, K2, p2_0, p2_1, p2_2, p2_3⟩ := hQ2
  have g_ar_2 : n0 ≤ ar_2 := Nat.le_trans Z0 p2_0
  have sz_ar_2 : h0.size ≤ ar_2 := Nat.le_trans (Keep.refl h0 []).1 p2_0
  have N2 := Fr.app N0 N2q
  refine own_out X2 Bd.notSynchronized Bd.returns (some (.ref ar_2)) nofun (by decide) (by decide) ?_ fun fs hr => k0 _ ?_
  · exact ⟨ar_2, kk_2, rfl, N2, ((Keep.refl h0 []).trans K2 all0), sz_ar_2, p2_1, p2_2, p2_3⟩
  · show OwnS p e below s₁ (mkF m 0 #[rv r0, iv 3] []) _
    refine oAn X0 hx hby d36_0 rfl rfl (oIn X0 hx hby d36_1 rfl (oAn X0 hx hby d36_2 rfl rfl ?_))
    refine st1 _ ?_
    refine st2 _ ?_
    jvm_step X2.here [X2.here.top, hx, (hb hby d36_9), X2.method', Bd.returns, Value.isRef, FieldType.isReference]
    first | (intro acts; rw [hr _ acts rfl rfl rfl]) | rw [hr _ _ rfl rfl rfl]
    exact Steps.refl _
def Q_35_3 (Z : State) (r0 mir_Object_ ed : Addr) (kE : ClassId) (x0 x1 x2 : Addr) (h0 : Heap) (n0 : Nat) (v : Option Value) (h : Heap) (L : List Loc) : Prop := ∃ ar : Addr, ∃ kk : ClassId, v = some (.ref ar) ∧ Fr n0 L ∧ Keep h0 h [] ∧ h0.size ≤ ar ∧ Ovr Z kk cS3 ∧ Exa Z h ar cS6 ∧ Arv Z h ar kk (.object cS3) (3 : Int32) [(.ref x0), (.ref x1), (.ref x2)] .null
theorem rm35_3 (l : Launch) (Z : State) (a0 : Array Value) (hw : own_HW a0 Z) (ws : List Jvm.Cond) (r0 mir_Object_ ed : Addr) (kE : ClassId) (x0 x1 x2 : Addr) (h0 : Heap) (n0 : Nat) (Z0 : n0 ≤ h0.size) (M_mir_Object_ : own_Mir Z cS6 mir_Object_) (F_elementData_r0 : Fld Z h0 r0 cS4 "elementData" cS6 (.ref ed)) (F_size_r0 : Fld Z h0 r0 cS4 "size" "I" (.int 3)) (E_ed : Exa Z h0 ed cS6) (V_ed : Arv Z h0 ed kE (.object cS3) (10 : Int32) [(.ref x0), (.ref x1), (.ref x2), .null, .null, .null, .null, .null, .null, .null] .null) (E_x0 : Exa Z h0 x0 cS0) (E_x1 : Exa Z h0 x1 cS0) (E_x2 : Exa Z h0 x2 cS0) :
    own_M l Z (⟨cS4, "toArray", "()[Ljava/lang/Object;"⟩ : MethodName) jdk_38_method_16_code 1 (some (.array (.object cS3))) ws ({ frames := 3, cells := 1, slots := 3, locals := 46 } : Room) #[(.ref r0)] h0 (Q_35_3 Z r0 mir_Object_ ed kE x0 x1 x2 h0 n0) := by
  refine own_in cS4 rfl (plainFor_of_name pn_java_util_ArrayList) ?_
  intro p e s m below meth c s₁ Bd hml hZ hh hx hby hown X0 e0
  have N0 := Fr.nil n0
  have k0 := own_k (p := p) (e := e) (below := below) (T := s₁) (ef_35 m r0)
  obtain ⟨T1, X1, e1, st1⟩ := getF X0 hx hZ hown (host := "") (Or.inl (own_at hw 166 rfl)) Via.refl e0 F_elementData_r0 (g := (mkF m 1 #[rv r0] [(.ref r0)])) rfl rfl (hb hby d35_1)
  obtain ⟨T2, X2, e2, st2⟩ := getF X1 hx hZ hown (host := "") (Or.inl (own_at hw 194 rfl)) Via.refl e1 F_size_r0 (g := (mkF m 5 #[rv r0] [(.ref r0), (.ref ed)])) rfl rfl (hb hby d35_5)
  obtain ⟨_, T3, L3, X3, hQ3, st3⟩ := own_cS 0 (rm36_3 l Z a0 hw [] ed mir_Object_ kE x0 x1 x2 h0 n0 Z0 M_mir_Object_ E_ed V_ed E_x0 E_x1 E_x2) X2 hx hZ hown hw 261 262 263 264 rfl rfl rfl rfl 8 #[rv r0] [(.ref ed), (.int 3)] [] (hb hby d35_8) hml (lenOf pd_22 rfl) e2 rfl (Nat.le_refl _) (by decide)
  obtain ⟨ar_3, kk_3, rfl, N3q, K3, p3_0, p3_1, p3_2, p3_3⟩ := hQ3
  have g_ar_3 : n0 ≤ ar_3 := Nat.le_trans Z0 p3_0
  have sz_ar_3 : h0.size ≤ ar_3 := Nat.le_trans (Keep.refl h0 []).1 p3_0
  have N3 := Fr.app N0 N3q
  refine own_out X3 Bd.notSynchronized Bd.returns (some (.ref ar_3)) nofun (by decide) (by decide) ?_ fun fs hr => k0 _ ?_
  · exact ⟨ar_3, kk_3, rfl, N3, ((Keep.refl h0 []).trans K3 all0), sz_ar_3, p3_1, p3_2, p3_3⟩
  · show OwnS p e below s₁ (mkF m 0 #[rv r0] []) _
    refine oAn X0 hx hby d35_0 rfl rfl ?_
    refine st1 _ ?_
    refine oAn X1 hx hby d35_4 rfl rfl ?_
    refine st2 _ ?_
    refine st3 _ ?_
    jvm_step X3.here [X3.here.top, hx, (hb hby d35_11), X3.method', Bd.returns, Value.isRef, FieldType.isReference]
    first | (intro acts; rw [hr _ acts rfl rfl rfl]) | rw [hr _ _ rfl rfl rfl]
    exact Steps.refl _
theorem d39_59 : decode jdk_40_method_47_code 59 = .ok (.aload_n 0, 1) := by decide +kernel
theorem d39_60 : decode jdk_40_method_47_code 60 = .ok (.invokestatic 109, 3) := by decide +kernel
theorem d39_63 : decode jdk_40_method_47_code 63 = .ok (.areturn, 1) := by decide +kernel
def Q_39_3 (Z : State) (r0 : Addr) (kA : ClassId) (x0 x1 x2 : Addr) (h0 : Heap) (n0 : Nat) (v : Option Value) (h : Heap) (L : List Loc) : Prop := ∃ ls : Addr, ∃ el : Addr, ∃ kE : ClassId, v = some (.ref ls) ∧ Fr n0 L ∧ Keep h0 h [] ∧ h0.size ≤ ls ∧ h0.size ≤ el ∧ Exa Z h ls cS7 ∧ Fld Z h ls cS7 "elements" cS6 (.ref el) ∧ Arv Z h el kE (.object cS3) (3 : Int32) [(.ref x0), (.ref x1), (.ref x2)] .null
theorem rm39_3 (l : Launch) (Z : State) (a0 : Array Value) (hw : own_HW a0 Z) (ws : List Jvm.Cond) (r0 : Addr) (kA : ClassId) (x0 x1 x2 : Addr) (h0 : Heap) (n0 : Nat) (Z0 : n0 ≤ h0.size) (V_r0 : Arv Z h0 r0 kA (.object cS3) (3 : Int32) [(.ref x0), (.ref x1), (.ref x2)] .null) (E_x0 : Exa Z h0 x0 cS0) (E_x1 : Exa Z h0 x1 cS0) (E_x2 : Exa Z h0 x2 cS0) :
    own_M l Z (⟨cS11, "of", "([Ljava/lang/Object;)Ljava/util/List;"⟩ : MethodName) jdk_40_method_47_code 2 (some (.object cS11)) ws ({ frames := 6, cells := 2, slots := 5, locals := 77 } : Room) #[(.ref r0)] h0 (Q_39_3 Z r0 kA x0 x1 x2 h0 n0) := by
  refine own_in cS11 rfl (plainFor_of_name pn_java_util_List) ?_
  intro p e s m below meth c s₁ Bd hml hZ hh hx hby hown X0 e0
  have N0 := Fr.nil n0
  have k0 := own_k (p := p) (e := e) (below := below) (T := s₁) (ef_39 m r0)
  obtain ⟨cl_z1, Ar_z1, q_z1, S_z1, N_z1, H_z1, G_z1⟩ := id V_r0
  obtain ⟨_, T2, L2, X2, hQ2, st2⟩ := own_cS 0 (rm40 l Z a0 hw [] r0 kA x0 x1 x2 h0 n0 Z0 V_r0 E_x0 E_x1 E_x2) X0 hx hZ hown hw 286 287 55 288 rfl rfl rfl rfl 60 #[rv r0, .unset] [(.ref r0)] [] (hb hby d39_60) hml (lenOf pd_24 rfl) e0 rfl (Nat.le_refl _) (by decide)
  obtain ⟨ls_2, el_2, kE_2, rfl, N2q, K2, p2_0, p2_1, p2_2, p2_3, p2_4⟩ := hQ2
  have g_ls_2 : n0 ≤ ls_2 := Nat.le_trans Z0 p2_0
  have sz_ls_2 : h0.size ≤ ls_2 := Nat.le_trans (Keep.refl h0 []).1 p2_0
  have g_el_2 : n0 ≤ el_2 := Nat.le_trans Z0 p2_1
  have sz_el_2 : h0.size ≤ el_2 := Nat.le_trans (Keep.refl h0 []).1 p2_1
  have N2 := Fr.app N0 N2q
  refine own_out X2 Bd.notSynchronized Bd.returns (some (.ref ls_2)) nofun (by decide) (by decide) ?_ fun fs hr => k0 _ ?_
  · exact ⟨ls_2, el_2, kE_2, rfl, N2, ((Keep.refl h0 []).trans K2 all0), sz_ls_2, sz_el_2, p2_2, p2_3, p2_4⟩
  · show OwnS p e below s₁ (mkF m 0 #[rv r0, .unset] []) _
    refine oAn X0 hx hby d39_0 rfl rfl ?_
    refine X0.arraylength hx (by rw [e0]; exact Ar_z1.1) (State.isArrayOf_alike hZ.alike Ar_z1.2.1) (g := (mkF m 1 #[rv r0, .unset] [(.ref r0)])) rfl rfl (hb hby d39_1) _ ?_
    rw [len_of S_z1 N_z1]
    refine XS.tswOut X0.here hx rfl (pc0 := 2) (pc' := 59) rfl (hb hby d39_2) rfl (by decide) (by decide) (by decide) ?_
    refine oAn X0 hx hby d39_59 rfl rfl ?_
    refine st2 _ ?_
    jvm_step X2.here [X2.here.top, hx, (hb hby d39_63), X2.method', Bd.returns, Value.isRef, FieldType.isReference]
    first | (intro acts; rw [hr _ acts rfl rfl rfl]) | rw [hr _ _ rfl rfl rfl]
    exact Steps.refl _
def Q_24_3 (Z : State) (r0 mir_Object_ ed : Addr) (kE : ClassId) (x0 x1 x2 : Addr) (h0 : Heap) (n0 : Nat) (v : Option Value) (h : Heap) (L : List Loc) : Prop := ∃ ls : Addr, ∃ el : Addr, ∃ kE : ClassId, v = some (.ref ls) ∧ Fr n0 L ∧ Keep h0 h [] ∧ h0.size ≤ ls ∧ h0.size ≤ el ∧ Exa Z h ls cS7 ∧ Fld Z h ls cS7 "elements" cS6 (.ref el) ∧ Arv Z h el kE (.object cS3) (3 : Int32) [(.ref x0), (.ref x1), (.ref x2)] .null
theorem rm24_3 (l : Launch) (Z : State) (a0 : Array Value) (hw : own_HW a0 Z) (ws : List Jvm.Cond) (r0 mir_Object_ ed : Addr) (kE : ClassId) (x0 x1 x2 : Addr) (h0 : Heap) (n0 : Nat) (Z0 : n0 ≤ h0.size) (M_mir_Object_ : own_Mir Z cS6 mir_Object_) (E_r0 : Exa Z h0 r0 cS4) (F_elementData_r0 : Fld Z h0 r0 cS4 "elementData" cS6 (.ref ed)) (F_size_r0 : Fld Z h0 r0 cS4 "size" "I" (.int 3)) (E_ed : Exa Z h0 ed cS6) (V_ed : Arv Z h0 ed kE (.object cS3) (10 : Int32) [(.ref x0), (.ref x1), (.ref x2), .null, .null, .null, .null, .null, .null, .null] .null) (E_x0 : Exa Z h0 x0 cS0) (E_x1 : Exa Z h0 x1 cS0) (E_x2 : Exa Z h0 x2 cS0) :
    own_M l Z (⟨cS14, "listCopy", "(Ljava/util/Collection;)Ljava/util/List;"⟩ : MethodName) jdk_56_method_3_code 2 (some (.object cS11)) ws ({ frames := 7, cells := 3, slots := 8, locals := 90 } : Room) #[(.ref r0)] h0 (Q_24_3 Z r0 mir_Object_ ed kE x0 x1 x2 h0 n0) := by
  refine own_in cS14 rfl (plainFor_of_name pn_java_util_ImmutableCollections) ?_
  intro p e s m below meth c s₁ Bd hml hZ hh hx hby hown X0 e0
  have N0 := Fr.nil n0
  have k0 := own_k (p := p) (e := e) (below := below) (T := s₁) (ef_24 m r0)
  obtain ⟨T1, X1, e1, st1⟩ := instNo X0 hx hZ hown (own_at hw 179 rfl) e0 E_r0 (own_noinst (t := [cS16, cS21, cS3]) (by intro w hw'; simp only [Cond.chainWords, List.mem_cons, List.not_mem_nil, or_false] at hw'; rcases hw' with rfl | rfl | rfl | rfl; exact (own_at hw 180 rfl); exact (own_at hw 181 rfl); exact (own_at hw 182 rfl); exact (own_at hw 183 rfl)) (own_at hw 331 rfl) (by decide)) (g := (mkF m 1 #[rv r0, .unset] [(.ref r0)])) rfl rfl (hb hby d24_1)
  obtain ⟨T2, X2, e2, st2⟩ := instNo X1 hx hZ hown (own_at hw 184 rfl) e1 E_r0 (own_noinst (t := [cS16, cS21, cS3]) (by intro w hw'; simp only [Cond.chainWords, List.mem_cons, List.not_mem_nil, or_false] at hw'; rcases hw' with rfl | rfl | rfl | rfl; exact (own_at hw 180 rfl); exact (own_at hw 181 rfl); exact (own_at hw 182 rfl); exact (own_at hw 183 rfl)) (own_at hw 293 rfl) (by decide)) (g := (mkF m 8 #[rv r0, .unset] [(.ref r0)])) rfl rfl (hb hby d24_8)
  obtain ⟨_, T3, L3, X3, hQ3, st3⟩ := own_cI 0 (rm25_t l Z a0 hw [] r0 (3 : Int32) h0 n0 Z0 F_size_r0 (by decide : ¬ ((3 : Int32) = (0 : Int32)))) X2 hx hZ hown hw 185 186 187 188 189 190 191 192 193 146 rfl rfl rfl rfl rfl rfl rfl rfl rfl rfl r0 E_r0 32 #[rv r0, .unset] [] [] (hb hby d24_32) hml (lenOf pd_3 rfl) e2 rfl (Nat.le_refl _) (by decide)
  obtain ⟨rfl, N3q, e3⟩ := hQ3
  have N3 := Fr.app N0 N3q
  obtain ⟨_, T4, L4, X4, hQ4, st4⟩ := own_cI 0 (rm35_3 l Z a0 hw [] r0 mir_Object_ ed kE x0 x1 x2 h0 n0 Z0 M_mir_Object_ F_elementData_r0 F_size_r0 E_ed V_ed E_x0 E_x1 E_x2) X3 hx hZ hown hw 253 254 255 256 257 258 259 192 260 146 rfl rfl rfl rfl rfl rfl rfl rfl rfl rfl r0 E_r0 45 #[rv r0, .unset] [] [] (hb hby d24_45) hml (lenOf pd_17 rfl) e3 rfl (Nat.le_refl _) (by decide)
  obtain ⟨ar_4, kk_4, rfl, N4q, K4, p4_0, p4_1, p4_2, p4_3⟩ := hQ4
  have g_ar_4 : n0 ≤ ar_4 := Nat.le_trans Z0 p4_0
  have sz_ar_4 : h0.size ≤ ar_4 := Nat.le_trans (Keep.refl h0 []).1 p4_0
  have N4 := Fr.app N3 N4q
  have f6 := (E_x0.keep K4)
  have f7 := (E_x1.keep K4)
  have f8 := (E_x2.keep K4)
  obtain ⟨_, T5, L5, X5, hQ5, st5⟩ := own_cS 0 (rm39_3 l Z a0 hw [] ar_4 kk_4 x0 x1 x2 T4.heap n0 (Nat.le_trans Z0 K4.1) p4_3 f6 f7 f8) X4 hx hZ hown hw 283 284 52 285 rfl rfl rfl rfl 50 #[rv r0, .unset] [(.ref ar_4)] [] (hb hby d24_50) hml (lenOf pd_24 rfl) rfl rfl (Nat.le_refl _) (by decide)
  have f9 := (E_r0.keep K4)
  have f10 := (E_ed.keep K4)
  obtain ⟨ls_5, el_5, kE_5, rfl, N5q, K5, p5_0, p5_1, p5_2, p5_3, p5_4⟩ := hQ5
  have g_ls_5 : n0 ≤ ls_5 := Nat.le_trans (Nat.le_trans Z0 K4.1) p5_0
  have sz_ls_5 : h0.size ≤ ls_5 := Nat.le_trans ((Keep.refl h0 []).trans K4 all0).1 p5_0
  have g_el_5 : n0 ≤ el_5 := Nat.le_trans (Nat.le_trans Z0 K4.1) p5_1
  have sz_el_5 : h0.size ≤ el_5 := Nat.le_trans ((Keep.refl h0 []).trans K4 all0).1 p5_1
  have N5 := Fr.app N4 N5q
  refine own_out X5 Bd.notSynchronized Bd.returns (some (.ref ls_5)) nofun (by decide) (by decide) ?_ fun fs hr => k0 _ ?_
  · exact ⟨ls_5, el_5, kE_5, rfl, N5, (((Keep.refl h0 []).trans K4 all0).trans K5 all0), sz_ls_5, sz_el_5, p5_2, p5_3, p5_4⟩
  · show OwnS p e below s₁ (mkF m 0 #[rv r0, .unset] []) _
    refine oAn X0 hx hby d24_0 rfl rfl ?_
    refine st1 _ ?_
    refine XS.ifNo X1.here hx rfl (hb hby d24_4) rfl ((if0 _ _).trans (teq (by decide : (0 : Int32) = (0 : Int32))).2) ?_
    refine oAn X1 hx hby d24_7 rfl rfl ?_
    refine st2 _ ?_
    refine XS.ifYes X2.here hx rfl (pc0 := 11) (pc' := 31) rfl (hb hby d24_11) rfl ((if0 _ _).trans (teq (by decide : (0 : Int32) = (0 : Int32))).1) (by decide) (by decide) ?_
    refine oAn X2 hx hby d24_31 rfl rfl ?_
    refine st3 _ ?_
    refine XS.ifYes X3.here hx rfl (pc0 := 37) (pc' := 44) rfl (hb hby d24_37) rfl ((if0 _ _).trans (teq (by decide : (0 : Int32) = (0 : Int32))).1) (by decide) (by decide) ?_
    refine oAn X3 hx hby d24_44 rfl rfl ?_
    refine st4 _ ?_
    refine st5 _ ?_
    jvm_step X5.here [X5.here.top, hx, (hb hby d24_53), X5.method', Bd.returns, Value.isRef, FieldType.isReference]
    first | (intro acts; rw [hr _ acts rfl rfl rfl]) | rw [hr _ _ rfl rfl rfl]
    exact Steps.refl _
def Q_23_3 (Z : State) (r0 mir_Object_ ed : Addr) (kE : ClassId) (x0 x1 x2 : Addr) (h0 : Heap) (n0 : Nat) (v : Option Value) (h : Heap) (L : List Loc) : Prop := ∃ ls : Addr, ∃ el : Addr, ∃ kE : ClassId, v = some (.ref ls) ∧ Fr n0 L ∧ Keep h0 h [] ∧ h0.size ≤ ls ∧ h0.size ≤ el ∧ Exa Z h ls cS7 ∧ Fld Z h ls cS7 "elements" cS6 (.ref el) ∧ Arv Z h el kE (.object cS3) (3 : Int32) [(.ref x0), (.ref x1), (.ref x2)] .null
theorem rm23_3 (l : Launch) (Z : State) (a0 : Array Value) (hw : own_HW a0 Z) (ws : List Jvm.Cond) (r0 mir_Object_ ed : Addr) (kE : ClassId) (x0 x1 x2 : Addr) (h0 : Heap) (n0 : Nat) (Z0 : n0 ≤ h0.size) (M_mir_Object_ : own_Mir Z cS6 mir_Object_) (E_r0 : Exa Z h0 r0 cS4) (F_elementData_r0 : Fld Z h0 r0 cS4 "elementData" cS6 (.ref ed)) (F_size_r0 : Fld Z h0 r0 cS4 "size" "I" (.int 3)) (E_ed : Exa Z h0 ed cS6) (V_ed : Arv Z h0 ed kE (.object cS3) (10 : Int32) [(.ref x0), (.ref x1), (.ref x2), .null, .null, .null, .null, .null, .null, .null] .null) (E_x0 : Exa Z h0 x0 cS0) (E_x1 : Exa Z h0 x1 cS0) (E_x2 : Exa Z h0 x2 cS0) :
    own_M l Z (⟨cS11, "copyOf", "(Ljava/util/Collection;)Ljava/util/List;"⟩ : MethodName) jdk_40_method_48_code 1 (some (.object cS11)) ws ({ frames := 8, cells := 3, slots := 8, locals := 103 } : Room) #[(.ref r0)] h0 (Q_23_3 Z r0 mir_Object_ ed kE x0 x1 x2 h0 n0) := by
  refine own_in cS11 rfl (plainFor_of_name pn_java_util_List) ?_
  intro p e s m below meth c s₁ Bd hml hZ hh hx hby hown X0 e0
  have N0 := Fr.nil n0
  have k0 := own_k (p := p) (e := e) (below := below) (T := s₁) (ef_23 m r0)
  obtain ⟨_, T1, L1, X1, hQ1, st1⟩ := own_cS 0 (rm24_3 l Z a0 hw [] r0 mir_Object_ ed kE x0 x1 x2 h0 n0 Z0 M_mir_Object_ E_r0 F_elementData_r0 F_size_r0 E_ed V_ed E_x0 E_x1 E_x2) X0 hx hZ hown hw 176 177 55 178 rfl rfl rfl rfl 1 #[rv r0] [(.ref r0)] [] (hb hby d23_1) hml (lenOf pd_25 rfl) e0 rfl (Nat.le_refl _) (by decide)
  obtain ⟨ls_1, el_1, kE_1, rfl, N1q, K1, p1_0, p1_1, p1_2, p1_3, p1_4⟩ := hQ1
  have g_ls_1 : n0 ≤ ls_1 := Nat.le_trans Z0 p1_0
  have sz_ls_1 : h0.size ≤ ls_1 := Nat.le_trans (Keep.refl h0 []).1 p1_0
  have g_el_1 : n0 ≤ el_1 := Nat.le_trans Z0 p1_1
  have sz_el_1 : h0.size ≤ el_1 := Nat.le_trans (Keep.refl h0 []).1 p1_1
  have N1 := Fr.app N0 N1q
  refine own_out X1 Bd.notSynchronized Bd.returns (some (.ref ls_1)) nofun (by decide) (by decide) ?_ fun fs hr => k0 _ ?_
  · exact ⟨ls_1, el_1, kE_1, rfl, N1, ((Keep.refl h0 []).trans K1 all0), sz_ls_1, sz_el_1, p1_2, p1_3, p1_4⟩
  · show OwnS p e below s₁ (mkF m 0 #[rv r0] []) _
    refine oAn X0 hx hby d23_0 rfl rfl ?_
    refine st1 _ ?_
    jvm_step X1.here [X1.here.top, hx, (hb hby d23_4), X1.method', Bd.returns, Value.isRef, FieldType.isReference]
    first | (intro acts; rw [hr _ acts rfl rfl rfl]) | rw [hr _ _ rfl rfl rfl]
    exact Steps.refl _
theorem d24_40 : decode jdk_56_method_3_code 40 = .ok (.invokestatic 26, 3) := by decide +kernel
theorem d24_43 : decode jdk_56_method_3_code 43 = .ok (.areturn, 1) := by decide +kernel
def Q_24_0 (Z : State) (r0 w_EMPTY_LIST : Addr) (h0 : Heap) (n0 : Nat) (v : Option Value) (h : Heap) (L : List Loc) : Prop := v = some (.ref w_EMPTY_LIST) ∧ Fr n0 L ∧ h = h0
theorem rm24_0 (l : Launch) (Z : State) (a0 : Array Value) (hw : own_HW a0 Z) (ws : List Jvm.Cond) (r0 w_EMPTY_LIST : Addr) (h0 : Heap) (n0 : Nat) (Z0 : n0 ≤ h0.size) (S_EMPTY_LIST : Sta Z h0 cS14 "EMPTY_LIST" "Ljava/util/ImmutableCollections$ListN;" (.ref w_EMPTY_LIST)) (E_r0 : Exa Z h0 r0 cS4) (F_size_r0 : Fld Z h0 r0 cS4 "size" "I" (.int 0)) :
    own_M l Z (⟨cS14, "listCopy", "(Ljava/util/Collection;)Ljava/util/List;"⟩ : MethodName) jdk_56_method_3_code 2 (some (.object cS11)) ws ({ frames := 1, cells := 0, slots := 0, locals := 12 } : Room) #[(.ref r0)] h0 (Q_24_0 Z r0 w_EMPTY_LIST h0 n0) := by
  refine own_in cS14 rfl (plainFor_of_name pn_java_util_ImmutableCollections) ?_
  intro p e s m below meth c s₁ Bd hml hZ hh hx hby hown X0 e0
  have N0 := Fr.nil n0
  have k0 := own_k (p := p) (e := e) (below := below) (T := s₁) (ef_24 m r0)
  obtain ⟨T1, X1, e1, st1⟩ := instNo X0 hx hZ hown (own_at hw 179 rfl) e0 E_r0 (own_noinst (t := [cS16, cS21, cS3]) (by intro w hw'; simp only [Cond.chainWords, List.mem_cons, List.not_mem_nil, or_false] at hw'; rcases hw' with rfl | rfl | rfl | rfl; exact (own_at hw 180 rfl); exact (own_at hw 181 rfl); exact (own_at hw 182 rfl); exact (own_at hw 183 rfl)) (own_at hw 331 rfl) (by decide)) (g := (mkF m 1 #[rv r0, .unset] [(.ref r0)])) rfl rfl (hb hby d24_1)
  obtain ⟨T2, X2, e2, st2⟩ := instNo X1 hx hZ hown (own_at hw 184 rfl) e1 E_r0 (own_noinst (t := [cS16, cS21, cS3]) (by intro w hw'; simp only [Cond.chainWords, List.mem_cons, List.not_mem_nil, or_false] at hw'; rcases hw' with rfl | rfl | rfl | rfl; exact (own_at hw 180 rfl); exact (own_at hw 181 rfl); exact (own_at hw 182 rfl); exact (own_at hw 183 rfl)) (own_at hw 293 rfl) (by decide)) (g := (mkF m 8 #[rv r0, .unset] [(.ref r0)])) rfl rfl (hb hby d24_8)
  obtain ⟨_, T3, L3, X3, hQ3, st3⟩ := own_cI 0 (rm25_f l Z a0 hw [] r0 (0 : Int32) h0 n0 Z0 F_size_r0 (by decide : (0 : Int32) = (0 : Int32))) X2 hx hZ hown hw 185 186 187 188 189 190 191 192 193 146 rfl rfl rfl rfl rfl rfl rfl rfl rfl rfl r0 E_r0 32 #[rv r0, .unset] [] [] (hb hby d24_32) hml (lenOf pd_3 rfl) e2 rfl (Nat.le_refl _) (by decide)
  obtain ⟨rfl, N3q, e3⟩ := hQ3
  have N3 := Fr.app N0 N3q
  obtain ⟨_, T4, L4, X4, hQ4, st4⟩ := own_cS 0 (rm8 l Z a0 hw [] w_EMPTY_LIST h0 n0 Z0 S_EMPTY_LIST) X3 hx hZ hown hw 196 51 52 53 rfl rfl rfl rfl 40 #[rv r0, .unset] [] [] (hb hby d24_40) hml (lenOf pd_12 rfl) e3 rfl (Nat.le_refl _) (by decide)
  obtain ⟨rfl, N4q, e4⟩ := hQ4
  have N4 := Fr.app N3 N4q
  refine own_out X4 Bd.notSynchronized Bd.returns (some (.ref w_EMPTY_LIST)) nofun (by decide) (by decide) ?_ fun fs hr => k0 _ ?_
  · rw [e4]; exact ⟨rfl, N4, rfl⟩
  · show OwnS p e below s₁ (mkF m 0 #[rv r0, .unset] []) _
    refine oAn X0 hx hby d24_0 rfl rfl ?_
    refine st1 _ ?_
    refine XS.ifNo X1.here hx rfl (hb hby d24_4) rfl ((if0 _ _).trans (teq (by decide : (0 : Int32) = (0 : Int32))).2) ?_
    refine oAn X1 hx hby d24_7 rfl rfl ?_
    refine st2 _ ?_
    refine XS.ifYes X2.here hx rfl (pc0 := 11) (pc' := 31) rfl (hb hby d24_11) rfl ((if0 _ _).trans (teq (by decide : (0 : Int32) = (0 : Int32))).1) (by decide) (by decide) ?_
    refine oAn X2 hx hby d24_31 rfl rfl ?_
    refine st3 _ ?_
    refine XS.ifNo X3.here hx rfl (hb hby d24_37) rfl ((if0 _ _).trans (feq (by decide : ¬ ((1 : Int32) = (0 : Int32)))).1) ?_
    refine st4 _ ?_
    jvm_step X4.here [X4.here.top, hx, (hb hby d24_43), X4.method', Bd.returns, Value.isRef, FieldType.isReference]
    first | (intro acts; rw [hr _ acts rfl rfl rfl]) | rw [hr _ _ rfl rfl rfl]
    exact Steps.refl _
def Q_23_0 (Z : State) (r0 w_EMPTY_LIST : Addr) (h0 : Heap) (n0 : Nat) (v : Option Value) (h : Heap) (L : List Loc) : Prop := v = some (.ref w_EMPTY_LIST) ∧ Fr n0 L ∧ h = h0
theorem rm23_0 (l : Launch) (Z : State) (a0 : Array Value) (hw : own_HW a0 Z) (ws : List Jvm.Cond) (r0 w_EMPTY_LIST : Addr) (h0 : Heap) (n0 : Nat) (Z0 : n0 ≤ h0.size) (S_EMPTY_LIST : Sta Z h0 cS14 "EMPTY_LIST" "Ljava/util/ImmutableCollections$ListN;" (.ref w_EMPTY_LIST)) (E_r0 : Exa Z h0 r0 cS4) (F_size_r0 : Fld Z h0 r0 cS4 "size" "I" (.int 0)) :
    own_M l Z (⟨cS11, "copyOf", "(Ljava/util/Collection;)Ljava/util/List;"⟩ : MethodName) jdk_40_method_48_code 1 (some (.object cS11)) ws ({ frames := 2, cells := 0, slots := 0, locals := 25 } : Room) #[(.ref r0)] h0 (Q_23_0 Z r0 w_EMPTY_LIST h0 n0) := by
  refine own_in cS11 rfl (plainFor_of_name pn_java_util_List) ?_
  intro p e s m below meth c s₁ Bd hml hZ hh hx hby hown X0 e0
  have N0 := Fr.nil n0
  have k0 := own_k (p := p) (e := e) (below := below) (T := s₁) (ef_23 m r0)
  obtain ⟨_, T1, L1, X1, hQ1, st1⟩ := own_cS 0 (rm24_0 l Z a0 hw [] r0 w_EMPTY_LIST h0 n0 Z0 S_EMPTY_LIST E_r0 F_size_r0) X0 hx hZ hown hw 176 177 55 178 rfl rfl rfl rfl 1 #[rv r0] [(.ref r0)] [] (hb hby d23_1) hml (lenOf pd_25 rfl) e0 rfl (Nat.le_refl _) (by decide)
  obtain ⟨rfl, N1q, e1⟩ := hQ1
  have N1 := Fr.app N0 N1q
  refine own_out X1 Bd.notSynchronized Bd.returns (some (.ref w_EMPTY_LIST)) nofun (by decide) (by decide) ?_ fun fs hr => k0 _ ?_
  · rw [e1]; exact ⟨rfl, N1, rfl⟩
  · show OwnS p e below s₁ (mkF m 0 #[rv r0] []) _
    refine oAn X0 hx hby d23_0 rfl rfl ?_
    refine st1 _ ?_
    jvm_step X1.here [X1.here.top, hx, (hb hby d23_4), X1.method', Bd.returns, Value.isRef, FieldType.isReference]
    first | (intro acts; rw [hr _ acts rfl rfl rfl]) | rw [hr _ _ rfl rfl rfl]
    exact Steps.refl _
theorem d22_0 : decode prog_5_method_4_code 0 = .ok (.new 8, 3) := by decide +kernel
theorem d22_3 : decode prog_5_method_4_code 3 = .ok (.dup, 1) := by decide +kernel
theorem d22_4 : decode prog_5_method_4_code 4 = .ok (.getstatic 81, 3) := by decide +kernel
theorem d22_7 : decode prog_5_method_4_code 7 = .ok (.aconst_null, 1) := by decide +kernel
theorem d22_8 : decode prog_5_method_4_code 8 = .ok (.aconst_null, 1) := by decide +kernel
theorem d22_9 : decode prog_5_method_4_code 9 = .ok (.aload_n 0, 1) := by decide +kernel
theorem d22_10 : decode prog_5_method_4_code 10 = .ok (.invokestatic 84, 3) := by decide +kernel
theorem d22_13 : decode prog_5_method_4_code 13 = .ok (.invokespecial 72, 3) := by decide +kernel
theorem d22_16 : decode prog_5_method_4_code 16 = .ok (.areturn, 1) := by decide +kernel
theorem ef_22 (m : MethodId) (x0 : Addr) : entryFrame m #[(.ref x0)] 1 = mkF m 0 #[.val (.ref x0)] [] := by first | (simp [entryFrame, mkF, argsToLocals, Value.category]; done) | rfl
def Q_22_0 (Z : State) (r0 w_AND w_EMPTY_LIST wel : Addr) (kW : ClassId) (h0 : Heap) (n0 : Nat) (v : Option Value) (h : Heap) (L : List Loc) : Prop := ∃ ob : Addr, ∃ hv : Int32, v = some (.ref ob) ∧ Fr n0 L ∧ Keep h0 h [] ∧ h0.size ≤ ob ∧ Exa Z h ob cS0 ∧ Fld Z h ob cS0 "kind" cS10 (.ref w_AND) ∧ Fld Z h ob cS0 "name" cS23 .null ∧ Fld Z h ob cS0 "role" cS15 .null ∧ Fld Z h ob cS0 "operands" cS18 (.ref w_EMPTY_LIST) ∧ Fld Z h ob cS0 "hash" "I" (.int hv)
theorem rm22_0 (l : Launch) (Z : State) (a0 : Array Value) (hw : own_HW a0 Z) (ws : List Jvm.Cond) (r0 w_AND w_EMPTY_LIST wel : Addr) (kW : ClassId) (h0 : Heap) (n0 : Nat) (Z0 : n0 ≤ h0.size) (S_AND : Sta Z h0 cS2 "AND" cS10 (.ref w_AND)) (E_w_AND : Exa Z h0 w_AND cS2) (F_ordinal_w_AND : Fld Z h0 w_AND cS25 "ordinal" "I" (.int 4)) (S_EMPTY_LIST : Sta Z h0 cS14 "EMPTY_LIST" "Ljava/util/ImmutableCollections$ListN;" (.ref w_EMPTY_LIST)) (E_w_EMPTY_LIST : Exa Z h0 w_EMPTY_LIST cS7) (F_elements_w_EMPTY_LIST : Fld Z h0 w_EMPTY_LIST cS7 "elements" cS6 (.ref wel)) (V_wel : Arv Z h0 wel kW (.object cS3) (0 : Int32) [] .null) (E_r0 : Exa Z h0 r0 cS4) (F_size_r0 : Fld Z h0 r0 cS4 "size" "I" (.int 0)) :
    own_M l Z (⟨cS0, "and", "(Ljava/util/List;)Lcom/example/tablox/tablox/concept/Concept;"⟩ : MethodName) prog_5_method_4_code 1 (some (.object cS0)) ws ({ frames := 4, cells := 2, slots := 9, locals := 59 } : Room) #[(.ref r0)] h0 (Q_22_0 Z r0 w_AND w_EMPTY_LIST wel kW h0 n0) := by
  refine own_in cS0 rfl (plainFor_of_name pn_com_example_tablox_tablox_concept_Concept) ?_
  intro p e s m below meth c s₁ Bd hml hZ hh hx hby hown X0 e0
  have N0 := Fr.nil n0
  have k0 := own_k (p := p) (e := e) (below := below) (T := s₁) (ef_22 m r0)
  obtain ⟨T1, h1, X1, e1, E1, A1, D1, -, st1⟩ := newO X0 hx hZ hown (own_at hw 37 rfl) (own_at hw 38 rfl) (own_at hw 3 rfl) e0 (g := (mkF m 0 #[rv r0] [])) rfl (hb hby d22_0) (by decide) (by decide)
  obtain ⟨b1, g1⟩ : ∃ z, z = h0.size := ⟨_, rfl⟩
  rw [← g1] at A1 D1 st1
  have g_b1 : n0 ≤ b1 := Nat.le_trans Z0 (Nat.le_of_eq g1.symm)
  have sz_b1 : h0.size ≤ b1 := Nat.le_trans (Keep.refl h0 []).1 (Nat.le_of_eq g1.symm)
  have F_kind_b1 : Fld Z h1 b1 cS0 "kind" cS10 .null := D1 (Or.inr (own_at hw 61 rfl)) (ty := (.object cS2)) (by decide)
  have F_name_b1 : Fld Z h1 b1 cS0 "name" cS23 .null := D1 (Or.inr (own_at hw 63 rfl)) (ty := (.object cS8)) (by decide)
  have F_role_b1 : Fld Z h1 b1 cS0 "role" cS15 .null := D1 (Or.inr (own_at hw 65 rfl)) (ty := (.object cS9)) (by decide)
  have F_operands_b1 : Fld Z h1 b1 cS0 "operands" cS18 .null := D1 (Or.inr (own_at hw 67 rfl)) (ty := (.object cS11)) (by decide)
  have F_hash_b1 : Fld Z h1 b1 cS0 "hash" "I" (.int 0) := D1 (Or.inr (own_at hw 143 rfl)) (ty := .int) (by decide)
  have f2 := (S_AND.ext E1)
  obtain ⟨T3, X3, e3, st3⟩ := getS2 X1 hx hZ hown (host := "") (Or.inl (own_at hw 171 rfl)) Via.refl e1 f2 (g := (mkF m 4 #[rv r0] [(.ref b1), (.ref b1)])) rfl (hb hby d22_4)
  have f5 := (S_EMPTY_LIST.ext E1)
  have f6 := (E_r0.ext E1)
  have f7 := (F_size_r0.ext E1)
  obtain ⟨_, T4, L4, X4, hQ4, st4⟩ := own_cS 5 (rm23_0 l Z a0 hw [] r0 w_EMPTY_LIST h1 n0 (Nat.le_trans Z0 E1.1) f5 f6 f7) X3 hx hZ hown hw 173 174 52 175 rfl rfl rfl rfl 10 #[rv r0] [(.ref r0)] [.null, .null, (.ref w_AND), (.ref b1), (.ref b1)] (hb hby d22_10) hml (lenOf pd_25 rfl) e3 rfl (Nat.le_refl _) (by decide)
  obtain ⟨rfl, N4q, e4⟩ := hQ4
  have N4 := Fr.app N0 N4q
  have f9 := (E_w_AND.ext E1)
  have f10 := (F_ordinal_w_AND.ext E1)
  have f11 := (E_w_EMPTY_LIST.ext E1)
  have f12 := (F_elements_w_EMPTY_LIST.ext E1)
  have f13 := (V_wel.ext E1)
  obtain ⟨_, _, ⟨T8, L8, j8, i8⟩, -, X8, ⟨Lc8, hQ8, l8, y8, z8⟩, st8⟩ := X4.specialBack hx (y := (⟨cS0, "<init>", cS12⟩ : MethodName)) rfl hown (mvT hZ (own_at hw 56 rfl)) (mvT hZ (own_at hw 57 rfl)) (mvT hZ (own_at hw 58 rfl)) (by decide) (backOf (W := 1) (rm9_0 l Z a0 hw [] b1 w_AND w_EMPTY_LIST wel kW .null .null .null .null (.int 0) h1 n0 (Nat.le_trans Z0 E1.1) A1 f9 f10 f11 f12 f13 F_kind_b1 g_b1 F_name_b1 F_role_b1 F_operands_b1 (Nat.ne_of_lt (Nat.lt_of_lt_of_le V_wel.lt (Nat.le_of_eq g1.symm))) F_hash_b1) hZ (own_at hw 58 rfl) (own_at hw 3 rfl) (by decide) (by decide)) (g := (mkF m 13 #[rv r0] [(.ref w_EMPTY_LIST), .null, .null, (.ref w_AND), (.ref b1), (.ref b1)])) rfl (by rw [hml]; rfl) (Steps.refl _) (a := b1) (argsL := [(.ref w_AND), .null, .null, (.ref w_EMPTY_LIST)]) (rest := [(.ref b1)]) (lenOf pd_13 rfl) rfl (Nat.le_refl _) (hb hby d22_13) (fun _ _ => ⟨rfl, e4, (by decide : 1 + 1 ≤ _), (by decide : 5 + 4 ≤ _)⟩)
  dsimp only [Pt.U, Pt.locs, Pt.cells, Pt.slots] at X8 l8 y8 z8 st8 hQ8
  subst l8 y8 z8
  obtain ⟨hv_8, rfl, N8q, K8, p8_0, p8_1, p8_2, p8_3, p8_4, p8_5⟩ := hQ8
  have pl8 := (allS (P := fun x => ∃ cell : Cell, h1[x]? = some cell ∧ cell.vm.isStatics = false) (own_ns A1) all0)
  have N8 := Fr.app N4 N8q
  refine own_out X8 Bd.notSynchronized Bd.returns (some (.ref b1)) nofun (by decide) (by decide) ?_ fun fs hr => k0 _ ?_
  · exact ⟨b1, hv_8, rfl, N8, (((Keep.refl h0 []).ext E1).trans K8 (allS (Or.inr sz_b1) all0)), sz_b1, p8_0, p8_1, p8_2, p8_3, p8_4, p8_5⟩
  · show OwnS p e below s₁ (mkF m 0 #[rv r0] []) _
    refine st1 _ ?_
    refine XS.dup X1.here hx rfl (hb hby d22_3) rfl rfl ?_
    refine st3 _ ?_
    refine XS.aconstNull X3.here hx rfl (hb hby d22_7) ?_
    refine XS.aconstNull X3.here hx rfl (hb hby d22_8) ?_
    refine oAn X3 hx hby d22_9 rfl rfl ?_
    refine st4 _ ?_
    refine st8.trans ?_
    jvm_step X8.here [X8.here.top, hx, (hb hby d22_16), X8.method', Bd.returns, Value.isRef, FieldType.isReference]
    first | (intro acts; rw [hr _ acts rfl rfl rfl]) | rw [hr _ _ rfl rfl rfl]
    exact Steps.refl _
def Q_22_1 (Z : State) (r0 w_AND w_EMPTY mir_Object_ ed : Addr) (kE : ClassId) (x0 : Addr) (u0 : Int32) (h0 : Heap) (n0 : Nat) (v : Option Value) (h : Heap) (L : List Loc) : Prop := ∃ ob : Addr, ∃ hv : Int32, ∃ ls : Addr, v = some (.ref ob) ∧ Fr n0 L ∧ Keep h0 h [] ∧ h0.size ≤ ob ∧ h0.size ≤ ls ∧ Exa Z h ob cS0 ∧ Fld Z h ob cS0 "kind" cS10 (.ref w_AND) ∧ Fld Z h ob cS0 "name" cS23 .null ∧ Fld Z h ob cS0 "role" cS15 .null ∧ Fld Z h ob cS0 "operands" cS18 (.ref ls) ∧ Fld Z h ob cS0 "hash" "I" (.int hv) ∧ Exa Z h ls cS5 ∧ Fld Z h ls cS5 "e0" cS13 (.ref x0) ∧ Fld Z h ls cS5 "e1" cS13 (.ref w_EMPTY)
theorem rm22_1 (l : Launch) (Z : State) (a0 : Array Value) (hw : own_HW a0 Z) (ws : List Jvm.Cond) (r0 w_AND w_EMPTY mir_Object_ ed : Addr) (kE : ClassId) (x0 : Addr) (u0 : Int32) (h0 : Heap) (n0 : Nat) (Z0 : n0 ≤ h0.size) (S_AND : Sta Z h0 cS2 "AND" cS10 (.ref w_AND)) (E_w_AND : Exa Z h0 w_AND cS2) (F_ordinal_w_AND : Fld Z h0 w_AND cS25 "ordinal" "I" (.int 4)) (M_mir_Object_ : own_Mir Z cS6 mir_Object_) (S_EMPTY : Sta Z h0 cS14 "EMPTY" cS13 (.ref w_EMPTY)) (E_r0 : Exa Z h0 r0 cS4) (F_elementData_r0 : Fld Z h0 r0 cS4 "elementData" cS6 (.ref ed)) (F_size_r0 : Fld Z h0 r0 cS4 "size" "I" (.int 1)) (E_ed : Exa Z h0 ed cS6) (V_ed : Arv Z h0 ed kE (.object cS3) (10 : Int32) [(.ref x0), .null, .null, .null, .null, .null, .null, .null, .null, .null] .null) (E_x0 : Exa Z h0 x0 cS0) (F_hash_x0 : Fld Z h0 x0 cS0 "hash" "I" (.int u0)) :
    own_M l Z (⟨cS0, "and", "(Ljava/util/List;)Lcom/example/tablox/tablox/concept/Concept;"⟩ : MethodName) prog_5_method_4_code 1 (some (.object cS0)) ws ({ frames := 8, cells := 4, slots := 12, locals := 105 } : Room) #[(.ref r0)] h0 (Q_22_1 Z r0 w_AND w_EMPTY mir_Object_ ed kE x0 u0 h0 n0) := by
  refine own_in cS0 rfl (plainFor_of_name pn_com_example_tablox_tablox_concept_Concept) ?_
  intro p e s m below meth c s₁ Bd hml hZ hh hx hby hown X0 e0
  have N0 := Fr.nil n0
  have k0 := own_k (p := p) (e := e) (below := below) (T := s₁) (ef_22 m r0)
  obtain ⟨T1, h1, X1, e1, E1, A1, D1, -, st1⟩ := newO X0 hx hZ hown (own_at hw 37 rfl) (own_at hw 38 rfl) (own_at hw 3 rfl) e0 (g := (mkF m 0 #[rv r0] [])) rfl (hb hby d22_0) (by decide) (by decide)
  obtain ⟨b1, g1⟩ : ∃ z, z = h0.size := ⟨_, rfl⟩
  rw [← g1] at A1 D1 st1
  have g_b1 : n0 ≤ b1 := Nat.le_trans Z0 (Nat.le_of_eq g1.symm)
  have sz_b1 : h0.size ≤ b1 := Nat.le_trans (Keep.refl h0 []).1 (Nat.le_of_eq g1.symm)
  have F_kind_b1 : Fld Z h1 b1 cS0 "kind" cS10 .null := D1 (Or.inr (own_at hw 61 rfl)) (ty := (.object cS2)) (by decide)
  have F_name_b1 : Fld Z h1 b1 cS0 "name" cS23 .null := D1 (Or.inr (own_at hw 63 rfl)) (ty := (.object cS8)) (by decide)
  have F_role_b1 : Fld Z h1 b1 cS0 "role" cS15 .null := D1 (Or.inr (own_at hw 65 rfl)) (ty := (.object cS9)) (by decide)
  have F_operands_b1 : Fld Z h1 b1 cS0 "operands" cS18 .null := D1 (Or.inr (own_at hw 67 rfl)) (ty := (.object cS11)) (by decide)
  have F_hash_b1 : Fld Z h1 b1 cS0 "hash" "I" (.int 0) := D1 (Or.inr (own_at hw 143 rfl)) (ty := .int) (by decide)
  have f2 := (S_AND.ext E1)
  obtain ⟨T3, X3, e3, st3⟩ := getS2 X1 hx hZ hown (host := "") (Or.inl (own_at hw 171 rfl)) Via.refl e1 f2 (g := (mkF m 4 #[rv r0] [(.ref b1), (.ref b1)])) rfl (hb hby d22_4)
  have f5 := (S_EMPTY.ext E1)
  have f6 := (E_r0.ext E1)
  have f7 := (F_elementData_r0.ext E1)
  have f8 := (F_size_r0.ext E1)
  have f9 := (E_ed.ext E1)
  have f10 := (V_ed.ext E1)
  have f11 := (E_x0.ext E1)
  obtain ⟨_, T4, L4, X4, hQ4, st4⟩ := own_cS 5 (rm23_1 l Z a0 hw [] r0 w_EMPTY mir_Object_ ed kE x0 h1 n0 (Nat.le_trans Z0 E1.1) f5 M_mir_Object_ f6 f7 f8 f9 f10 f11) X3 hx hZ hown hw 173 174 52 175 rfl rfl rfl rfl 10 #[rv r0] [(.ref r0)] [.null, .null, (.ref w_AND), (.ref b1), (.ref b1)] (hb hby d22_10) hml (lenOf pd_25 rfl) e3 rfl (Nat.le_refl _) (by decide)
  have f12 := (E_w_AND.ext E1)
  obtain ⟨ls_4, rfl, N4q, K4, p4_0, p4_1, p4_2, p4_3⟩ := hQ4
  have g_ls_4 : n0 ≤ ls_4 := Nat.le_trans (Nat.le_trans Z0 E1.1) p4_0
  have sz_ls_4 : h0.size ≤ ls_4 := Nat.le_trans ((Keep.refl h0 []).ext E1).1 p4_0
  have N4 := Fr.app N0 N4q
  have f14 := (own_sta_keep f5 K4 all0)
  have f15 := (A1.keep K4)
  have f16 := (f12.keep K4)
  have f17 := ((F_ordinal_w_AND.ext E1).keep K4 nin0)
  have f18 := (f11.keep K4)
  have f19 := ((F_hash_x0.ext E1).keep K4 nin0)
  have f20 := (F_kind_b1.keep K4 nin0)
  have f21 := (F_name_b1.keep K4 nin0)
  have f22 := (F_role_b1.keep K4 nin0)
  have f23 := (F_operands_b1.keep K4 nin0)
  have f24 := (F_hash_b1.keep K4 nin0)
  obtain ⟨_, _, ⟨T13, L13, j13, i13⟩, -, X13, ⟨Lc13, hQ13, l13, y13, z13⟩, st13⟩ := X4.specialBack hx (y := (⟨cS0, "<init>", cS12⟩ : MethodName)) rfl hown (mvT hZ (own_at hw 56 rfl)) (mvT hZ (own_at hw 57 rfl)) (mvT hZ (own_at hw 58 rfl)) (by decide) (backOf (W := 1) (rm9_1 l Z a0 hw [] b1 w_AND ls_4 w_EMPTY x0 u0 .null .null .null .null (.int 0) T4.heap n0 (Nat.le_trans (Nat.le_trans Z0 E1.1) K4.1) f14 f15 f16 f17 p4_1 p4_2 p4_3 f18 f19 f20 g_b1 f21 f22 f23 (Nat.ne_of_lt (Nat.lt_of_lt_of_le E_x0.lt (Nat.le_of_eq g1.symm))) f24) hZ (own_at hw 58 rfl) (own_at hw 3 rfl) (by decide) (by decide)) (g := (mkF m 13 #[rv r0] [(.ref ls_4), .null, .null, (.ref w_AND), (.ref b1), (.ref b1)])) rfl (by rw [hml]; rfl) (Steps.refl _) (a := b1) (argsL := [(.ref w_AND), .null, .null, (.ref ls_4)]) (rest := [(.ref b1)]) (lenOf pd_13 rfl) rfl (Nat.le_refl _) (hb hby d22_13) (fun _ _ => ⟨rfl, rfl, (by decide : 3 + 1 ≤ _), (by decide : 8 + 4 ≤ _)⟩)
  dsimp only [Pt.U, Pt.locs, Pt.cells, Pt.slots] at X13 l13 y13 z13 st13 hQ13
  subst l13 y13 z13
  have f25 := (f6.keep K4)
  have f26 := (f9.keep K4)
  obtain ⟨hv_13, rfl, N13q, K13, p13_0, p13_1, p13_2, p13_3, p13_4, p13_5⟩ := hQ13
  have pl13 := (allS (P := fun x => ∃ cell : Cell, T4.heap[x]? = some cell ∧ cell.vm.isStatics = false) (own_ns f15) all0)
  have N13 := Fr.app N4 N13q
  have f27 := (p4_1.keep K13)
  have f28 := (p4_2.keep K13 (ninS (Ne.symm (Nat.ne_of_lt (Nat.lt_of_lt_of_le A1.lt p4_0))) nin0))
  have f29 := (p4_3.keep K13 (ninS (Ne.symm (Nat.ne_of_lt (Nat.lt_of_lt_of_le A1.lt p4_0))) nin0))
  refine own_out X13 Bd.notSynchronized Bd.returns (some (.ref b1)) nofun (by decide) (by decide) ?_ fun fs hr => k0 _ ?_
  · exact ⟨b1, hv_13, ls_4, rfl, N13, ((((Keep.refl h0 []).ext E1).trans K4 all0).trans K13 (allS (Or.inr sz_b1) all0)), sz_b1, sz_ls_4, p13_0, p13_1, p13_2, p13_3, p13_4, p13_5, f27, f28, f29⟩
  · show OwnS p e below s₁ (mkF m 0 #[rv r0] []) _
    refine st1 _ ?_
    refine XS.dup X1.here hx rfl (hb hby d22_3) rfl rfl ?_
    refine st3 _ ?_
    refine XS.aconstNull X3.here hx rfl (hb hby d22_7) ?_
    refine XS.aconstNull X3.here hx rfl (hb hby d22_8) ?_
    refine oAn X3 hx hby d22_9 rfl rfl ?_
    refine st4 _ ?_
    refine st13.trans ?_
    jvm_step X13.here [X13.here.top, hx, (hb hby d22_16), X13.method', Bd.returns, Value.isRef, FieldType.isReference]
    first | (intro acts; rw [hr _ acts rfl rfl rfl]) | rw [hr _ _ rfl rfl rfl]
    exact Steps.refl _
def Q_22_2 (Z : State) (r0 w_AND w_EMPTY mir_Object_ ed : Addr) (kE : ClassId) (x0 x1 : Addr) (u0 u1 : Int32) (h0 : Heap) (n0 : Nat) (v : Option Value) (h : Heap) (L : List Loc) : Prop := ∃ ob : Addr, ∃ hv : Int32, ∃ ls : Addr, v = some (.ref ob) ∧ Fr n0 L ∧ Keep h0 h [] ∧ h0.size ≤ ob ∧ h0.size ≤ ls ∧ Exa Z h ob cS0 ∧ Fld Z h ob cS0 "kind" cS10 (.ref w_AND) ∧ Fld Z h ob cS0 "name" cS23 .null ∧ Fld Z h ob cS0 "role" cS15 .null ∧ Fld Z h ob cS0 "operands" cS18 (.ref ls) ∧ Fld Z h ob cS0 "hash" "I" (.int hv) ∧ Exa Z h ls cS5 ∧ Fld Z h ls cS5 "e0" cS13 (.ref x0) ∧ Fld Z h ls cS5 "e1" cS13 (.ref x1)
theorem rm22_2 (l : Launch) (Z : State) (a0 : Array Value) (hw : own_HW a0 Z) (ws : List Jvm.Cond) (r0 w_AND w_EMPTY mir_Object_ ed : Addr) (kE : ClassId) (x0 x1 : Addr) (u0 u1 : Int32) (h0 : Heap) (n0 : Nat) (Z0 : n0 ≤ h0.size) (S_AND : Sta Z h0 cS2 "AND" cS10 (.ref w_AND)) (E_w_AND : Exa Z h0 w_AND cS2) (F_ordinal_w_AND : Fld Z h0 w_AND cS25 "ordinal" "I" (.int 4)) (M_mir_Object_ : own_Mir Z cS6 mir_Object_) (S_EMPTY : Sta Z h0 cS14 "EMPTY" cS13 (.ref w_EMPTY)) (E_r0 : Exa Z h0 r0 cS4) (F_elementData_r0 : Fld Z h0 r0 cS4 "elementData" cS6 (.ref ed)) (F_size_r0 : Fld Z h0 r0 cS4 "size" "I" (.int 2)) (E_ed : Exa Z h0 ed cS6) (V_ed : Arv Z h0 ed kE (.object cS3) (10 : Int32) [(.ref x0), (.ref x1), .null, .null, .null, .null, .null, .null, .null, .null] .null) (E_x0 : Exa Z h0 x0 cS0) (F_hash_x0 : Fld Z h0 x0 cS0 "hash" "I" (.int u0)) (E_x1 : Exa Z h0 x1 cS0) (F_hash_x1 : Fld Z h0 x1 cS0 "hash" "I" (.int u1)) (hne : ¬ (x1 = w_EMPTY)) :
    own_M l Z (⟨cS0, "and", "(Ljava/util/List;)Lcom/example/tablox/tablox/concept/Concept;"⟩ : MethodName) prog_5_method_4_code 1 (some (.object cS0)) ws ({ frames := 8, cells := 4, slots := 13, locals := 106 } : Room) #[(.ref r0)] h0 (Q_22_2 Z r0 w_AND w_EMPTY mir_Object_ ed kE x0 x1 u0 u1 h0 n0) := by
  refine own_in cS0 rfl (plainFor_of_name pn_com_example_tablox_tablox_concept_Concept) ?_
  intro p e s m below meth c s₁ Bd hml hZ hh hx hby hown X0 e0
  have N0 := Fr.nil n0
  have k0 := own_k (p := p) (e := e) (below := below) (T := s₁) (ef_22 m r0)
  obtain ⟨T1, h1, X1, e1, E1, A1, D1, -, st1⟩ := newO X0 hx hZ hown (own_at hw 37 rfl) (own_at hw 38 rfl) (own_at hw 3 rfl) e0 (g := (mkF m 0 #[rv r0] [])) rfl (hb hby d22_0) (by decide) (by decide)
  obtain ⟨b1, g1⟩ : ∃ z, z = h0.size := ⟨_, rfl⟩
  rw [← g1] at A1 D1 st1
  have g_b1 : n0 ≤ b1 := Nat.le_trans Z0 (Nat.le_of_eq g1.symm)
  have sz_b1 : h0.size ≤ b1 := Nat.le_trans (Keep.refl h0 []).1 (Nat.le_of_eq g1.symm)
  have F_kind_b1 : Fld Z h1 b1 cS0 "kind" cS10 .null := D1 (Or.inr (own_at hw 61 rfl)) (ty := (.object cS2)) (by decide)
  have F_name_b1 : Fld Z h1 b1 cS0 "name" cS23 .null := D1 (Or.inr (own_at hw 63 rfl)) (ty := (.object cS8)) (by decide)
  have F_role_b1 : Fld Z h1 b1 cS0 "role" cS15 .null := D1 (Or.inr (own_at hw 65 rfl)) (ty := (.object cS9)) (by decide)
  have F_operands_b1 : Fld Z h1 b1 cS0 "operands" cS18 .null := D1 (Or.inr (own_at hw 67 rfl)) (ty := (.object cS11)) (by decide)
  have F_hash_b1 : Fld Z h1 b1 cS0 "hash" "I" (.int 0) := D1 (Or.inr (own_at hw 143 rfl)) (ty := .int) (by decide)
  have f2 := (S_AND.ext E1)
  obtain ⟨T3, X3, e3, st3⟩ := getS2 X1 hx hZ hown (host := "") (Or.inl (own_at hw 171 rfl)) Via.refl e1 f2 (g := (mkF m 4 #[rv r0] [(.ref b1), (.ref b1)])) rfl (hb hby d22_4)
  have f5 := (E_r0.ext E1)
  have f6 := (F_elementData_r0.ext E1)
  have f7 := (F_size_r0.ext E1)
  have f8 := (E_ed.ext E1)
  have f9 := (V_ed.ext E1)
  have f10 := (E_x0.ext E1)
  have f11 := (E_x1.ext E1)
  obtain ⟨_, T4, L4, X4, hQ4, st4⟩ := own_cS 5 (rm23_2 l Z a0 hw [] r0 w_EMPTY mir_Object_ ed kE x0 x1 h1 n0 (Nat.le_trans Z0 E1.1) M_mir_Object_ f5 f6 f7 f8 f9 f10 f11) X3 hx hZ hown hw 173 174 52 175 rfl rfl rfl rfl 10 #[rv r0] [(.ref r0)] [.null, .null, (.ref w_AND), (.ref b1), (.ref b1)] (hb hby d22_10) hml (lenOf pd_25 rfl) e3 rfl (Nat.le_refl _) (by decide)
  have f12 := (E_w_AND.ext E1)
  obtain ⟨ls_4, rfl, N4q, K4, p4_0, p4_1, p4_2, p4_3⟩ := hQ4
  have g_ls_4 : n0 ≤ ls_4 := Nat.le_trans (Nat.le_trans Z0 E1.1) p4_0
  have sz_ls_4 : h0.size ≤ ls_4 := Nat.le_trans ((Keep.refl h0 []).ext E1).1 p4_0
  have N4 := Fr.app N0 N4q
  have f14 := (own_sta_keep (S_EMPTY.ext E1) K4 all0)
  have f15 := (A1.keep K4)
  have f16 := (f12.keep K4)
  have f17 := ((F_ordinal_w_AND.ext E1).keep K4 nin0)
  have f18 := (f10.keep K4)
  have f19 := ((F_hash_x0.ext E1).keep K4 nin0)
  have f20 := (f11.keep K4)
  have f21 := ((F_hash_x1.ext E1).keep K4 nin0)
  have f22 := (F_kind_b1.keep K4 nin0)
  have f23 := (F_name_b1.keep K4 nin0)
  have f24 := (F_role_b1.keep K4 nin0)
  have f25 := (F_operands_b1.keep K4 nin0)
  have f26 := (F_hash_b1.keep K4 nin0)
  obtain ⟨_, _, ⟨T13, L13, j13, i13⟩, -, X13, ⟨Lc13, hQ13, l13, y13, z13⟩, st13⟩ := X4.specialBack hx (y := (⟨cS0, "<init>", cS12⟩ : MethodName)) rfl hown (mvT hZ (own_at hw 56 rfl)) (mvT hZ (own_at hw 57 rfl)) (mvT hZ (own_at hw 58 rfl)) (by decide) (backOf (W := 1) (rm9_2 l Z a0 hw [] b1 w_AND ls_4 w_EMPTY x0 x1 u0 u1 .null .null .null .null (.int 0) T4.heap n0 (Nat.le_trans (Nat.le_trans Z0 E1.1) K4.1) f14 hne f15 f16 f17 p4_1 p4_2 p4_3 f18 f19 f20 f21 f22 g_b1 f23 f24 f25 (Nat.ne_of_lt (Nat.lt_of_lt_of_le E_x0.lt (Nat.le_of_eq g1.symm))) (Nat.ne_of_lt (Nat.lt_of_lt_of_le E_x1.lt (Nat.le_of_eq g1.symm))) f26) hZ (own_at hw 58 rfl) (own_at hw 3 rfl) (by decide) (by decide)) (g := (mkF m 13 #[rv r0] [(.ref ls_4), .null, .null, (.ref w_AND), (.ref b1), (.ref b1)])) rfl (by rw [hml]; rfl) (Steps.refl _) (a := b1) (argsL := [(.ref w_AND), .null, .null, (.ref ls_4)]) (rest := [(.ref b1)]) (lenOf pd_13 rfl) rfl (Nat.le_refl _) (hb hby d22_13) (fun _ _ => ⟨rfl, rfl, (by decide : 3 + 1 ≤ _), (by decide : 9 + 4 ≤ _)⟩)
  dsimp only [Pt.U, Pt.locs, Pt.cells, Pt.slots] at X13 l13 y13 z13 st13 hQ13
  subst l13 y13 z13
  have f27 := (f5.keep K4)
  have f28 := (f8.keep K4)
  obtain ⟨hv_13, rfl, N13q, K13, p13_0, p13_1, p13_2, p13_3, p13_4, p13_5⟩ := hQ13
  have pl13 := (allS (P := fun x => ∃ cell : Cell, T4.heap[x]? = some cell ∧ cell.vm.isStatics = false) (own_ns f15) all0)
  have N13 := Fr.app N4 N13q
  have f29 := (p4_1.keep K13)
  have f30 := (p4_2.keep K13 (ninS (Ne.symm (Nat.ne_of_lt (Nat.lt_of_lt_of_le A1.lt p4_0))) nin0))
  have f31 := (p4_3.keep K13 (ninS (Ne.symm (Nat.ne_of_lt (Nat.lt_of_lt_of_le A1.lt p4_0))) nin0))
  refine own_out X13 Bd.notSynchronized Bd.returns (some (.ref b1)) nofun (by decide) (by decide) ?_ fun fs hr => k0 _ ?_
  · exact ⟨b1, hv_13, ls_4, rfl, N13, ((((Keep.refl h0 []).ext E1).trans K4 all0).trans K13 (allS (Or.inr sz_b1) all0)), sz_b1, sz_ls_4, p13_0, p13_1, p13_2, p13_3, p13_4, p13_5, f29, f30, f31⟩
  · show OwnS p e below s₁ (mkF m 0 #[rv r0] []) _
    refine st1 _ ?_
    refine XS.dup X1.here hx rfl (hb hby d22_3) rfl rfl ?_
    refine st3 _ ?_
    refine XS.aconstNull X3.here hx rfl (hb hby d22_7) ?_
    refine XS.aconstNull X3.here hx rfl (hb hby d22_8) ?_
    refine oAn X3 hx hby d22_9 rfl rfl ?_
    refine st4 _ ?_
    refine st13.trans ?_
    jvm_step X13.here [X13.here.top, hx, (hb hby d22_16), X13.method', Bd.returns, Value.isRef, FieldType.isReference]
    first | (intro acts; rw [hr _ acts rfl rfl rfl]) | rw [hr _ _ rfl rfl rfl]
    exact Steps.refl _
def Q_22_3 (Z : State) (r0 w_AND mir_Object_ ed : Addr) (kE : ClassId) (x0 x1 x2 : Addr) (u0 u1 u2 : Int32) (h0 : Heap) (n0 : Nat) (v : Option Value) (h : Heap) (L : List Loc) : Prop := ∃ ob : Addr, ∃ hv : Int32, ∃ ls : Addr, ∃ el : Addr, ∃ kE : ClassId, v = some (.ref ob) ∧ Fr n0 L ∧ Keep h0 h [] ∧ h0.size ≤ ob ∧ h0.size ≤ ls ∧ h0.size ≤ el ∧ Exa Z h ob cS0 ∧ Fld Z h ob cS0 "kind" cS10 (.ref w_AND) ∧ Fld Z h ob cS0 "name" cS23 .null ∧ Fld Z h ob cS0 "role" cS15 .null ∧ Fld Z h ob cS0 "operands" cS18 (.ref ls) ∧ Fld Z h ob cS0 "hash" "I" (.int hv) ∧ Exa Z h ls cS7 ∧ Fld Z h ls cS7 "elements" cS6 (.ref el) ∧ Arv Z h el kE (.object cS3) (3 : Int32) [(.ref x0), (.ref x1), (.ref x2)] .null
theorem rm22_3 (l : Launch) (Z : State) (a0 : Array Value) (hw : own_HW a0 Z) (ws : List Jvm.Cond) (r0 w_AND mir_Object_ ed : Addr) (kE : ClassId) (x0 x1 x2 : Addr) (u0 u1 u2 : Int32) (h0 : Heap) (n0 : Nat) (Z0 : n0 ≤ h0.size) (S_AND : Sta Z h0 cS2 "AND" cS10 (.ref w_AND)) (E_w_AND : Exa Z h0 w_AND cS2) (F_ordinal_w_AND : Fld Z h0 w_AND cS25 "ordinal" "I" (.int 4)) (M_mir_Object_ : own_Mir Z cS6 mir_Object_) (E_r0 : Exa Z h0 r0 cS4) (F_elementData_r0 : Fld Z h0 r0 cS4 "elementData" cS6 (.ref ed)) (F_size_r0 : Fld Z h0 r0 cS4 "size" "I" (.int 3)) (E_ed : Exa Z h0 ed cS6) (V_ed : Arv Z h0 ed kE (.object cS3) (10 : Int32) [(.ref x0), (.ref x1), (.ref x2), .null, .null, .null, .null, .null, .null, .null] .null) (E_x0 : Exa Z h0 x0 cS0) (F_hash_x0 : Fld Z h0 x0 cS0 "hash" "I" (.int u0)) (E_x1 : Exa Z h0 x1 cS0) (F_hash_x1 : Fld Z h0 x1 cS0 "hash" "I" (.int u1)) (E_x2 : Exa Z h0 x2 cS0) (F_hash_x2 : Fld Z h0 x2 cS0 "hash" "I" (.int u2)) :
    own_M l Z (⟨cS0, "and", "(Ljava/util/List;)Lcom/example/tablox/tablox/concept/Concept;"⟩ : MethodName) prog_5_method_4_code 1 (some (.object cS0)) ws ({ frames := 9, cells := 5, slots := 17, locals := 120 } : Room) #[(.ref r0)] h0 (Q_22_3 Z r0 w_AND mir_Object_ ed kE x0 x1 x2 u0 u1 u2 h0 n0) := by
  refine own_in cS0 rfl (plainFor_of_name pn_com_example_tablox_tablox_concept_Concept) ?_
  intro p e s m below meth c s₁ Bd hml hZ hh hx hby hown X0 e0
  have N0 := Fr.nil n0
  have k0 := own_k (p := p) (e := e) (below := below) (T := s₁) (ef_22 m r0)
  obtain ⟨T1, h1, X1, e1, E1, A1, D1, -, st1⟩ := newO X0 hx hZ hown (own_at hw 37 rfl) (own_at hw 38 rfl) (own_at hw 3 rfl) e0 (g := (mkF m 0 #[rv r0] [])) rfl (hb hby d22_0) (by decide) (by decide)
  obtain ⟨b1, g1⟩ : ∃ z, z = h0.size := ⟨_, rfl⟩
  rw [← g1] at A1 D1 st1
  have g_b1 : n0 ≤ b1 := Nat.le_trans Z0 (Nat.le_of_eq g1.symm)
  have sz_b1 : h0.size ≤ b1 := Nat.le_trans (Keep.refl h0 []).1 (Nat.le_of_eq g1.symm)
  have F_kind_b1 : Fld Z h1 b1 cS0 "kind" cS10 .null := D1 (Or.inr (own_at hw 61 rfl)) (ty := (.object cS2)) (by decide)
  have F_name_b1 : Fld Z h1 b1 cS0 "name" cS23 .null := D1 (Or.inr (own_at hw 63 rfl)) (ty := (.object cS8)) (by decide)
  have F_role_b1 : Fld Z h1 b1 cS0 "role" cS15 .null := D1 (Or.inr (own_at hw 65 rfl)) (ty := (.object cS9)) (by decide)
  have F_operands_b1 : Fld Z h1 b1 cS0 "operands" cS18 .null := D1 (Or.inr (own_at hw 67 rfl)) (ty := (.object cS11)) (by decide)
  have F_hash_b1 : Fld Z h1 b1 cS0 "hash" "I" (.int 0) := D1 (Or.inr (own_at hw 143 rfl)) (ty := .int) (by decide)
  have f2 := (S_AND.ext E1)
  obtain ⟨T3, X3, e3, st3⟩ := getS2 X1 hx hZ hown (host := "") (Or.inl (own_at hw 171 rfl)) Via.refl e1 f2 (g := (mkF m 4 #[rv r0] [(.ref b1), (.ref b1)])) rfl (hb hby d22_4)
  have f5 := (E_r0.ext E1)
  have f6 := (F_elementData_r0.ext E1)
  have f7 := (F_size_r0.ext E1)
  have f8 := (E_ed.ext E1)
  have f9 := (V_ed.ext E1)
  have f10 := (E_x0.ext E1)
  have f11 := (E_x1.ext E1)
  have f12 := (E_x2.ext E1)
  obtain ⟨_, T4, L4, X4, hQ4, st4⟩ := own_cS 5 (rm23_3 l Z a0 hw [] r0 mir_Object_ ed kE x0 x1 x2 h1 n0 (Nat.le_trans Z0 E1.1) M_mir_Object_ f5 f6 f7 f8 f9 f10 f11 f12) X3 hx hZ hown hw 173 174 52 175 rfl rfl rfl rfl 10 #[rv r0] [(.ref r0)] [.null, .null, (.ref w_AND), (.ref b1), (.ref b1)] (hb hby d22_10) hml (lenOf pd_25 rfl) e3 rfl (Nat.le_refl _) (by decide)
  have f13 := (E_w_AND.ext E1)
  obtain ⟨ls_4, el_4, kE_4, rfl, N4q, K4, p4_0, p4_1, p4_2, p4_3, p4_4⟩ := hQ4
  have g_ls_4 : n0 ≤ ls_4 := Nat.le_trans (Nat.le_trans Z0 E1.1) p4_0
  have sz_ls_4 : h0.size ≤ ls_4 := Nat.le_trans ((Keep.refl h0 []).ext E1).1 p4_0
  have g_el_4 : n0 ≤ el_4 := Nat.le_trans (Nat.le_trans Z0 E1.1) p4_1
  have sz_el_4 : h0.size ≤ el_4 := Nat.le_trans ((Keep.refl h0 []).ext E1).1 p4_1
  have N4 := Fr.app N0 N4q
  have f15 := (A1.keep K4)
  have f16 := (f13.keep K4)
  have f17 := ((F_ordinal_w_AND.ext E1).keep K4 nin0)
  have f18 := (f10.keep K4)
  have f19 := ((F_hash_x0.ext E1).keep K4 nin0)
  have f20 := (f11.keep K4)
  have f21 := ((F_hash_x1.ext E1).keep K4 nin0)
  have f22 := (f12.keep K4)
  have f23 := ((F_hash_x2.ext E1).keep K4 nin0)
  have f24 := (F_kind_b1.keep K4 nin0)
  have f25 := (F_name_b1.keep K4 nin0)
  have f26 := (F_role_b1.keep K4 nin0)
  have f27 := (F_operands_b1.keep K4 nin0)
  have f28 := (F_hash_b1.keep K4 nin0)
  obtain ⟨_, _, ⟨T14, L14, j14, i14⟩, -, X14, ⟨Lc14, hQ14, l14, y14, z14⟩, st14⟩ := X4.specialBack hx (y := (⟨cS0, "<init>", cS12⟩ : MethodName)) rfl hown (mvT hZ (own_at hw 56 rfl)) (mvT hZ (own_at hw 57 rfl)) (mvT hZ (own_at hw 58 rfl)) (by decide) (backOf (W := 1) (rm9_3 l Z a0 hw [] b1 w_AND ls_4 el_4 kE_4 x0 x1 x2 u0 u1 u2 .null .null .null .null (.int 0) T4.heap n0 (Nat.le_trans (Nat.le_trans Z0 E1.1) K4.1) f15 f16 f17 p4_2 p4_3 p4_4 f18 f19 f20 f21 f22 f23 f24 g_b1 f25 f26 f27 (Ne.symm (Nat.ne_of_lt (Nat.lt_of_lt_of_le A1.lt p4_1))) (Nat.ne_of_lt (Nat.lt_of_lt_of_le E_x0.lt (Nat.le_of_eq g1.symm))) (Nat.ne_of_lt (Nat.lt_of_lt_of_le E_x1.lt (Nat.le_of_eq g1.symm))) (Nat.ne_of_lt (Nat.lt_of_lt_of_le E_x2.lt (Nat.le_of_eq g1.symm))) f28) hZ (own_at hw 58 rfl) (own_at hw 3 rfl) (by decide) (by decide)) (g := (mkF m 13 #[rv r0] [(.ref ls_4), .null, .null, (.ref w_AND), (.ref b1), (.ref b1)])) rfl (by rw [hml]; rfl) (Steps.refl _) (a := b1) (argsL := [(.ref w_AND), .null, .null, (.ref ls_4)]) (rest := [(.ref b1)]) (lenOf pd_13 rfl) rfl (Nat.le_refl _) (hb hby d22_13) (fun _ _ => ⟨rfl, rfl, (by decide : 4 + 1 ≤ _), (by decide : 13 + 4 ≤ _)⟩)
  dsimp only [Pt.U, Pt.locs, Pt.cells, Pt.slots] at X14 l14 y14 z14 st14 hQ14
  subst l14 y14 z14
  have f29 := (f5.keep K4)
  have f30 := (f8.keep K4)
  obtain ⟨hv_14, rfl, N14q, K14, p14_0, p14_1, p14_2, p14_3, p14_4, p14_5⟩ := hQ14
  have pl14 := (allS (P := fun x => ∃ cell : Cell, T4.heap[x]? = some cell ∧ cell.vm.isStatics = false) (own_ns f15) all0)
  have N14 := Fr.app N4 N14q
  have f31 := (p4_2.keep K14)
  have f32 := (p4_3.keep K14 (ninS (Ne.symm (Nat.ne_of_lt (Nat.lt_of_lt_of_le A1.lt p4_0))) nin0))
  have f33 := (p4_4.keep K14 (ninS (Ne.symm (Nat.ne_of_lt (Nat.lt_of_lt_of_le A1.lt p4_1))) nin0))
  refine own_out X14 Bd.notSynchronized Bd.returns (some (.ref b1)) nofun (by decide) (by decide) ?_ fun fs hr => k0 _ ?_
  · exact ⟨b1, hv_14, ls_4, el_4, kE_4, rfl, N14, ((((Keep.refl h0 []).ext E1).trans K4 all0).trans K14 (allS (Or.inr sz_b1) all0)), sz_b1, sz_ls_4, sz_el_4, p14_0, p14_1, p14_2, p14_3, p14_4, p14_5, f31, f32, f33⟩
  · show OwnS p e below s₁ (mkF m 0 #[rv r0] []) _
    refine st1 _ ?_
    refine XS.dup X1.here hx rfl (hb hby d22_3) rfl rfl ?_
    refine st3 _ ?_
    refine XS.aconstNull X3.here hx rfl (hb hby d22_7) ?_
    refine XS.aconstNull X3.here hx rfl (hb hby d22_8) ?_
    refine oAn X3 hx hby d22_9 rfl rfl ?_
    refine st4 _ ?_
    refine st14.trans ?_
    jvm_step X14.here [X14.here.top, hx, (hb hby d22_16), X14.method', Bd.returns, Value.isRef, FieldType.isReference]
    first | (intro acts; rw [hr _ acts rfl rfl rfl]) | rw [hr _ _ rfl rfl rfl]
    exact Steps.refl _
theorem d31_0 : decode prog_5_method_11_code 0 = .ok (.aload_n 0, 1) := by decide +kernel
theorem d31_1 : decode prog_5_method_11_code 1 = .ok (.getfield 21, 3) := by decide +kernel
theorem d31_4 : decode prog_5_method_11_code 4 = .ok (.areturn, 1) := by decide +kernel
theorem ef_31 (m : MethodId) (x0 : Addr) : entryFrame m #[(.ref x0)] 1 = mkF m 0 #[.val (.ref x0)] [] := by first | (simp [entryFrame, mkF, argsToLocals, Value.category]; done) | rfl
def Q_31 (Z : State) (r0 u_operands_r0 : Addr) (h0 : Heap) (n0 : Nat) (v : Option Value) (h : Heap) (L : List Loc) : Prop := v = some (.ref u_operands_r0) ∧ Fr n0 L ∧ h = h0
theorem rm31 (l : Launch) (Z : State) (a0 : Array Value) (hw : own_HW a0 Z) (ws : List Jvm.Cond) (r0 u_operands_r0 : Addr) (h0 : Heap) (n0 : Nat) (Z0 : n0 ≤ h0.size) (F_operands_r0 : Fld Z h0 r0 cS0 "operands" cS18 (.ref u_operands_r0)) :
    own_M l Z (⟨cS0, "operands", "()Ljava/util/List;"⟩ : MethodName) prog_5_method_11_code 1 (some (.object cS11)) ws ({ frames := 0, cells := 0, slots := 0, locals := 0 } : Room) #[(.ref r0)] h0 (Q_31 Z r0 u_operands_r0 h0 n0) := by
  refine own_in cS0 rfl (plainFor_of_name pn_com_example_tablox_tablox_concept_Concept) ?_
  intro p e s m below meth c s₁ Bd hml hZ hh hx hby hown X0 e0
  have N0 := Fr.nil n0
  have k0 := own_k (p := p) (e := e) (below := below) (T := s₁) (ef_31 m r0)
  obtain ⟨T1, X1, e1, st1⟩ := getF X0 hx hZ hown (host := "") (Or.inl (own_at hw 66 rfl)) Via.refl e0 F_operands_r0 (g := (mkF m 1 #[rv r0] [(.ref r0)])) rfl rfl (hb hby d31_1)
  refine own_out X1 Bd.notSynchronized Bd.returns (some (.ref u_operands_r0)) nofun (by decide) (by decide) ?_ fun fs hr => k0 _ ?_
  · rw [e1]; exact ⟨rfl, N0, rfl⟩
  · show OwnS p e below s₁ (mkF m 0 #[rv r0] []) _
    refine oAn X0 hx hby d31_0 rfl rfl ?_
    refine st1 _ ?_
    jvm_step X1.here [X1.here.top, hx, (hb hby d31_4), X1.method', Bd.returns, Value.isRef, FieldType.isReference]
    first | (intro acts; rw [hr _ acts rfl rfl rfl]) | rw [hr _ _ rfl rfl rfl]
    exact Steps.refl _
theorem d32_0 : decode prog_5_method_8_code 0 = .ok (.aload_n 0, 1) := by decide +kernel
theorem d32_1 : decode prog_5_method_8_code 1 = .ok (.getfield 7, 3) := by decide +kernel
theorem d32_4 : decode prog_5_method_8_code 4 = .ok (.areturn, 1) := by decide +kernel
theorem ef_32 (m : MethodId) (x0 : Addr) : entryFrame m #[(.ref x0)] 1 = mkF m 0 #[.val (.ref x0)] [] := by first | (simp [entryFrame, mkF, argsToLocals, Value.category]; done) | rfl
def Q_32 (Z : State) (r0 u_kind_r0 : Addr) (h0 : Heap) (n0 : Nat) (v : Option Value) (h : Heap) (L : List Loc) : Prop := v = some (.ref u_kind_r0) ∧ Fr n0 L ∧ h = h0
theorem rm32 (l : Launch) (Z : State) (a0 : Array Value) (hw : own_HW a0 Z) (ws : List Jvm.Cond) (r0 u_kind_r0 : Addr) (h0 : Heap) (n0 : Nat) (Z0 : n0 ≤ h0.size) (F_kind_r0 : Fld Z h0 r0 cS0 "kind" cS10 (.ref u_kind_r0)) :
    own_M l Z (⟨cS0, "kind", "()Lcom/example/tablox/tablox/concept/Concept$Kind;"⟩ : MethodName) prog_5_method_8_code 1 (some (.object cS2)) ws ({ frames := 0, cells := 0, slots := 0, locals := 0 } : Room) #[(.ref r0)] h0 (Q_32 Z r0 u_kind_r0 h0 n0) := by
  refine own_in cS0 rfl (plainFor_of_name pn_com_example_tablox_tablox_concept_Concept) ?_
  intro p e s m below meth c s₁ Bd hml hZ hh hx hby hown X0 e0
  have N0 := Fr.nil n0
  have k0 := own_k (p := p) (e := e) (below := below) (T := s₁) (ef_32 m r0)
  obtain ⟨T1, X1, e1, st1⟩ := getF X0 hx hZ hown (host := "") (Or.inl (own_at hw 60 rfl)) Via.refl e0 F_kind_r0 (g := (mkF m 1 #[rv r0] [(.ref r0)])) rfl rfl (hb hby d32_1)
  refine own_out X1 Bd.notSynchronized Bd.returns (some (.ref u_kind_r0)) nofun (by decide) (by decide) ?_ fun fs hr => k0 _ ?_
  · rw [e1]; exact ⟨rfl, N0, rfl⟩
  · show OwnS p e below s₁ (mkF m 0 #[rv r0] []) _
    refine oAn X0 hx hby d32_0 rfl rfl ?_
    refine st1 _ ?_
    jvm_step X1.here [X1.here.top, hx, (hb hby d32_4), X1.method', Bd.returns, Value.isRef, FieldType.isReference]
    first | (intro acts; rw [hr _ acts rfl rfl rfl]) | rw [hr _ _ rfl rfl rfl]
    exact Steps.refl _
theorem d33_0 : decode prog_5_method_9_code 0 = .ok (.aload_n 0, 1) := by decide +kernel
theorem d33_1 : decode prog_5_method_9_code 1 = .ok (.getfield 13, 3) := by decide +kernel
theorem d33_4 : decode prog_5_method_9_code 4 = .ok (.areturn, 1) := by decide +kernel
theorem ef_33 (m : MethodId) (x0 : Addr) : entryFrame m #[(.ref x0)] 1 = mkF m 0 #[.val (.ref x0)] [] := by first | (simp [entryFrame, mkF, argsToLocals, Value.category]; done) | rfl
def Q_33 (Z : State) (r0 : Addr) (h0 : Heap) (n0 : Nat) (v : Option Value) (h : Heap) (L : List Loc) : Prop := v = some .null ∧ Fr n0 L ∧ h = h0
theorem rm33 (l : Launch) (Z : State) (a0 : Array Value) (hw : own_HW a0 Z) (ws : List Jvm.Cond) (r0 : Addr) (h0 : Heap) (n0 : Nat) (Z0 : n0 ≤ h0.size) (F_name_r0 : Fld Z h0 r0 cS0 "name" cS23 .null) :
    own_M l Z (⟨cS0, "name", "()Ljava/lang/String;"⟩ : MethodName) prog_5_method_9_code 1 (some (.object cS8)) ws ({ frames := 0, cells := 0, slots := 0, locals := 0 } : Room) #[(.ref r0)] h0 (Q_33 Z r0 h0 n0) := by
  refine own_in cS0 rfl (plainFor_of_name pn_com_example_tablox_tablox_concept_Concept) ?_
  intro p e s m below meth c s₁ Bd hml hZ hh hx hby hown X0 e0
  have N0 := Fr.nil n0
  have k0 := own_k (p := p) (e := e) (below := below) (T := s₁) (ef_33 m r0)
  obtain ⟨T1, X1, e1, st1⟩ := getF X0 hx hZ hown (host := "") (Or.inl (own_at hw 62 rfl)) Via.refl e0 F_name_r0 (g := (mkF m 1 #[rv r0] [(.ref r0)])) rfl rfl (hb hby d33_1)
  refine own_out X1 Bd.notSynchronized Bd.returns (some .null) nofun (by decide) (by decide) ?_ fun fs hr => k0 _ ?_
  · rw [e1]; exact ⟨rfl, N0, rfl⟩
  · show OwnS p e below s₁ (mkF m 0 #[rv r0] []) _
    refine oAn X0 hx hby d33_0 rfl rfl ?_
    refine st1 _ ?_
    jvm_step X1.here [X1.here.top, hx, (hb hby d33_4), X1.method', Bd.returns, Value.isRef, FieldType.isReference]
    first | (intro acts; rw [hr _ acts rfl rfl rfl]) | rw [hr _ _ rfl rfl rfl]
    exact Steps.refl _
theorem d34_0 : decode prog_5_method_10_code 0 = .ok (.aload_n 0, 1) := by decide +kernel
theorem d34_1 : decode prog_5_method_10_code 1 = .ok (.getfield 17, 3) := by decide +kernel
theorem d34_4 : decode prog_5_method_10_code 4 = .ok (.areturn, 1) := by decide +kernel
theorem ef_34 (m : MethodId) (x0 : Addr) : entryFrame m #[(.ref x0)] 1 = mkF m 0 #[.val (.ref x0)] [] := by first | (simp [entryFrame, mkF, argsToLocals, Value.category]; done) | rfl
def Q_34 (Z : State) (r0 : Addr) (h0 : Heap) (n0 : Nat) (v : Option Value) (h : Heap) (L : List Loc) : Prop := v = some .null ∧ Fr n0 L ∧ h = h0
theorem rm34 (l : Launch) (Z : State) (a0 : Array Value) (hw : own_HW a0 Z) (ws : List Jvm.Cond) (r0 : Addr) (h0 : Heap) (n0 : Nat) (Z0 : n0 ≤ h0.size) (F_role_r0 : Fld Z h0 r0 cS0 "role" cS15 .null) :
    own_M l Z (⟨cS0, "role", "()Lcom/example/tablox/tablox/concept/Role;"⟩ : MethodName) prog_5_method_10_code 1 (some (.object cS9)) ws ({ frames := 0, cells := 0, slots := 0, locals := 0 } : Room) #[(.ref r0)] h0 (Q_34 Z r0 h0 n0) := by
  refine own_in cS0 rfl (plainFor_of_name pn_com_example_tablox_tablox_concept_Concept) ?_
  intro p e s m below meth c s₁ Bd hml hZ hh hx hby hown X0 e0
  have N0 := Fr.nil n0
  have k0 := own_k (p := p) (e := e) (below := below) (T := s₁) (ef_34 m r0)
  obtain ⟨T1, X1, e1, st1⟩ := getF X0 hx hZ hown (host := "") (Or.inl (own_at hw 64 rfl)) Via.refl e0 F_role_r0 (g := (mkF m 1 #[rv r0] [(.ref r0)])) rfl rfl (hb hby d34_1)
  refine own_out X1 Bd.notSynchronized Bd.returns (some .null) nofun (by decide) (by decide) ?_ fun fs hr => k0 _ ?_
  · rw [e1]; exact ⟨rfl, N0, rfl⟩
  · show OwnS p e below s₁ (mkF m 0 #[rv r0] []) _
    refine oAn X0 hx hby d34_0 rfl rfl ?_
    refine st1 _ ?_
    jvm_step X1.here [X1.here.top, hx, (hb hby d34_4), X1.method', Bd.returns, Value.isRef, FieldType.isReference]
    first | (intro acts; rw [hr _ acts rfl rfl rfl]) | rw [hr _ _ rfl rfl rfl]
    exact Steps.refl _
theorem pd_27 : parseMethodDescriptor "(C)Ljava/lang/String;" = some ⟨[.char], some (.object cS8)⟩ := by decide +kernel
theorem pd_28 : parseMethodDescriptor "(Ljava/lang/String;)Lcom/example/tablox/tablox/concept/Concept;" = some ⟨[(.object cS8)], some (.object cS0)⟩ := by decide +kernel
theorem pd_29 : parseMethodDescriptor "(Ljava/util/List;)Lcom/example/tablox/tablox/concept/Concept;" = some ⟨[(.object cS11)], some (.object cS0)⟩ := by decide +kernel
theorem pd_30 : parseMethodDescriptor "(Ljava/lang/Object;)Z" = some ⟨[(.object cS3)], some .boolean⟩ := by decide +kernel
theorem pd_31 : parseMethodDescriptor "()Lcom/example/tablox/tablox/concept/Concept$Kind;" = some ⟨[], some (.object cS2)⟩ := by decide +kernel
theorem pd_32 : parseMethodDescriptor "()Ljava/lang/String;" = some ⟨[], some (.object cS8)⟩ := by decide +kernel
theorem pd_33 : parseMethodDescriptor "()Lcom/example/tablox/tablox/concept/Role;" = some ⟨[], some (.object cS9)⟩ := by decide +kernel
theorem pn_com_example_tablox_tablox_concept_ConceptAndPinLaw : plainName "com/example/tablox/tablox/concept/ConceptAndPinLaw" = true := by first | (simp [plainName, overriddenIn]; done) | decide +kernel
theorem ef_0 (m : MethodId) (x0 : Int32) (x1 : Int32) (x2 : Int32) (x3 : Int32) : entryFrame m #[(.int x0), (.int x1), (.int x2), (.int x3)] maxLocals = mkF m 0 #[.val (.int x0), .val (.int x1), .val (.int x2), .val (.int x3), .unset, .unset, .unset, .unset, .unset, .unset, .unset, .unset, .unset] [] := by first | (simp [entryFrame, mkF, argsToLocals, Value.category, maxLocals]; done) | rfl
def Q_0 (Z : State) (p0 p1 p2 p3 w_CS : Int32) (w_THING w_NOTHING w_NAME w_AND w_EMPTY w_EMPTY_LIST wel : Addr) (kW : ClassId) (w_DEFAULTCAPACITY_EMPTY_ELEMENTDATA : Addr) (kD : ClassId) (mir_Object_ : Addr) (h0 : Heap) (n0 : Nat) (v : Option Value) (h : Heap) (L : List Loc) : Prop := v = some (.int 1) ∧ Fr n0 L ∧ True
theorem rm0 (l : Launch) (Z : State) (a0 : Array Value) (hw : ∀ d ∈ tables_1, d.before a0 Z = true) (ws : List Jvm.Cond) (p0 p1 p2 p3 w_CS : Int32) (w_THING w_NOTHING w_NAME w_AND w_EMPTY w_EMPTY_LIST wel : Addr) (kW : ClassId) (w_DEFAULTCAPACITY_EMPTY_ELEMENTDATA : Addr) (kD : ClassId) (mir_Object_ : Addr) (h0 : Heap) (n0 : Nat) (Z0 : n0 ≤ h0.size) (S_CS : Sta Z h0 cS8 "COMPACT_STRINGS" "Z" (.int w_CS)) (hcs : ¬ (w_CS = (0 : Int32))) (S_THING : Sta Z h0 cS0 "THING" "Lcom/example/tablox/tablox/concept/Concept;" (.ref w_THING)) (E_w_THING : Exa Z h0 w_THING cS0) (F_hash_w_THING : Fld Z h0 w_THING cS0 "hash" "I" (.int 0)) (S_NOTHING : Sta Z h0 cS0 "NOTHING" "Lcom/example/tablox/tablox/concept/Concept;" (.ref w_NOTHING)) (E_w_NOTHING : Exa Z h0 w_NOTHING cS0) (F_hash_w_NOTHING : Fld Z h0 w_NOTHING cS0 "hash" "I" (.int 31)) (S_NAME : Sta Z h0 cS2 "NAME" cS10 (.ref w_NAME)) (E_w_NAME : Exa Z h0 w_NAME cS2) (F_ordinal_w_NAME : Fld Z h0 w_NAME cS25 "ordinal" "I" (.int 2)) (S_AND : Sta Z h0 cS2 "AND" cS10 (.ref w_AND)) (E_w_AND : Exa Z h0 w_AND cS2) (F_ordinal_w_AND : Fld Z h0 w_AND cS25 "ordinal" "I" (.int 4)) (S_EMPTY_LIST : Sta Z h0 cS14 "EMPTY_LIST" "Ljava/util/ImmutableCollections$ListN;" (.ref w_EMPTY_LIST)) (E_w_EMPTY_LIST : Exa Z h0 w_EMPTY_LIST cS7) (F_elements_w_EMPTY_LIST : Fld Z h0 w_EMPTY_LIST cS7 "elements" cS6 (.ref wel)) (V_wel : Arv Z h0 wel kW (.object cS3) (0 : Int32) [] .null) (S_EMPTY : Sta Z h0 cS14 "EMPTY" cS13 (.ref w_EMPTY)) (E_w_EMPTY : Exa Z h0 w_EMPTY cS3) (S_DEFAULTCAPACITY_EMPTY_ELEMENTDATA : Sta Z h0 cS4 "DEFAULTCAPACITY_EMPTY_ELEMENTDATA" cS6 (.ref w_DEFAULTCAPACITY_EMPTY_ELEMENTDATA)) (V_w_DEFAULTCAPACITY_EMPTY_ELEMENTDATA : Arv Z h0 w_DEFAULTCAPACITY_EMPTY_ELEMENTDATA kD (.object cS3) (0 : Int32) [] .null) (M_mir_Object_ : own_Mir Z cS6 mir_Object_) :
    MetFree l x (head1 (Jvm.Cond.code x code maxLocals ret :: ws) room_1) (fun a U => a = #[(.int p0), (.int p1), (.int p2), (.int p3)] ∧ Z.Warmed39 U.vm ∧ U.heap = h0 ∧ CHv Z own_EL U.vm h0) (fun _ _ _ _ _ => True) (fun _ U o U' => ∃ v L, o = .returned v ∧ Q_0 Z p0 p1 p2 p3 w_CS w_THING w_NOTHING w_NAME w_AND w_EMPTY w_EMPTY_LIST wel kW w_DEFAULTCAPACITY_EMPTY_ELEMENTDATA kD mir_Object_ h0 n0 v U'.heap L ∧ CHr Z own_EL U.vm U.heap U'.vm U'.heap ∧ ReturnedEndW U o U' L room_1.cells room_1.slots) := by
  refine MetFree.of_bodySF (plainFor_of_name pn_com_example_tablox_tablox_concept_ConceptAndPinLaw) hisR ?_
  intro p e s m args below meth c s₁ Bd hml0 hP hK
  obtain ⟨rfl, hZ, hh, H0c⟩ := hP
  have hx := Bd.exec
  have hby := Bd.bytes
  have hml : c.maxLocals = 13 := hml0
  have hown : (s.setVm s.vm).vm.findClass "com/example/tablox/tablox/concept/ConceptAndPinLaw" = some m.cls := findClass_of_methodNamed Bd.named
  have hnm := (name_of_methodNamed Bd.named Bd.method).1
  have X0 : Stand p l e room_1 (s.setVm s.vm) m #[(.int p0), (.int p1), (.int p2), (.int p3)] below meth c s₁ [] 0 0 := Stand.of_body Bd
  have e0 : s₁.heap = h0 := by rw [← hh, Bd.state]; rfl
  have N0 := Fr.nil n0
  have k0 : ∀ t, OwnS p e below s₁ (mkF m 0 #[iv p0, iv p1, iv p2, iv p3, .unset, .unset, .unset, .unset, .unset, .unset, .unset, .unset, .unset] []) t → OwnS p e below s₁ (entryFrame m #[(.int p0), (.int p1), (.int p2), (.int p3)] maxLocals) t := fun t k => castTop (ef_0 m p0 p1 p2 p3) k
  have hZ : Z.Warmed39 (s.setVm s.vm).vm := hZ
  have hS0 : s.Since s.vm h0.size := (State.WarmedH.refl s).since _
  have hk0 : h0.size ≤ h0.size := Nat.le_refl _
  have R0c := CHr.refl H0c
  obtain ⟨T1, h1, k1, X1, e1, E1, A1, EA1, O1, st1⟩ := newRE X0 hx hZ hown (own_at hw 0 rfl) (own_at hw 1 rfl) e0 (g := (mkF m 6 #[iv p0, iv p1, iv p2, iv p3, iv (p0 &&& (3 : Int32)), .unset, .unset, .unset, .unset, .unset, .unset, .unset, .unset] [(.int 4)])) rfl (hb hby at_6) rfl (by decide) (cap := 4) (by decide) (by decide) (by decide) (by decide) (ad := "[Lcom/example/tablox/tablox/concept/Concept;") (by decide)
  obtain ⟨b1, g1⟩ : ∃ z, z = h0.size := ⟨_, rfl⟩
  rw [← g1] at A1 EA1 st1
  have g_b1 : n0 ≤ b1 := Nat.le_trans Z0 (Nat.le_of_eq g1.symm)
  have sz_b1 : h0.size ≤ b1 := Nat.le_trans (Keep.refl h0 []).1 (Nat.le_of_eq g1.symm)
  have hk1 := Nat.le_trans hk0 E1.1
  have V_b1 : Arv Z h1 b1 k1 (.object cS0) (4 : Int32) [.null, .null, .null, .null] .null := (Arv.new A1 (by decide)).pad (pad_rep [] .null 4)
  have f2 := (S_THING.ext E1)
  obtain ⟨T3, X3, e3, st3⟩ := getS2 X1 hx hZ hown (host := "") (Or.inl (own_at hw 2 rfl)) Via.refl e1 f2 (g := (mkF m 14 #[iv p0, iv p1, iv p2, iv p3, iv (p0 &&& (3 : Int32)), rv b1, .unset, .unset, .unset, .unset, .unset, .unset, .unset] [(.int 0), (.ref b1)])) rfl (hb hby at_14)
  obtain ⟨cl_z4, Ar_z4, q_z4, S_z4, N_z4, H_z4, G_z4⟩ := id V_b1
  have hin5 : ¬ ((0 : Int32) < 0 ∨ cl_z4.slots.size ≤ ((0 : Int32)).toNatClampNeg) := inb_of S_z4 ⟨by decide, by decide⟩
  have f6 := (E_w_THING.ext E1)
  obtain ⟨T7, h7, X7, e7, W7, st7⟩ := stR X3 hx hZ e3 Ar_z4 (j := (0 : Int32)) hin5 rfl (Sto.ofV Ar_z4 q_z4 O1 (Ins.self f6)) (g := (mkF m 17 #[iv p0, iv p1, iv p2, iv p3, iv (p0 &&& (3 : Int32)), rv b1, .unset, .unset, .unset, .unset, .unset, .unset, .unset] [(.ref w_THING), (.int 0), (.ref b1)])) rfl rfl (hb hby at_17)
  have hk7 := Nat.le_trans hk1 (Keep.of_wr W7).1
  have V7 : Arv Z h7 b1 k1 (.object cS0) (4 : Int32) [(.ref w_THING), .null, .null, .null] .null := Arv.set Ar_z4 q_z4 S_z4 N_z4 H_z4 G_z4 rfl W7 0 rfl (Nat.le_of_ble_eq_true rfl)
  have N7 := Fr.snoc X7 N0 g_b1
  have f8 := ((S_NOTHING.ext E1).wr W7)
  obtain ⟨T9, X9, e9, st9⟩ := getS2 X7 hx hZ hown (host := "") (Or.inl (own_at hw 6 rfl)) Via.refl e7 f8 (g := (mkF m 21 #[iv p0, iv p1, iv p2, iv p3, iv (p0 &&& (3 : Int32)), rv b1, .unset, .unset, .unset, .unset, .unset, .unset, .unset] [(.int 1), (.ref b1)])) rfl (hb hby at_21)
  obtain ⟨cl_z10, Ar_z10, q_z10, S_z10, N_z10, H_z10, G_z10⟩ := id V7
  have hin11 : ¬ ((1 : Int32) < 0 ∨ cl_z10.slots.size ≤ ((1 : Int32)).toNatClampNeg) := inb_of S_z10 ⟨by decide, by decide⟩
  have f12 := ((E_w_NOTHING.ext E1).wr W7)
  obtain ⟨T13, h13, X13, e13, W13, st13⟩ := stR X9 hx hZ e9 Ar_z10 (j := (1 : Int32)) hin11 rfl (Sto.ofV Ar_z10 q_z10 O1 (Ins.self f12)) (g := (mkF m 24 #[iv p0, iv p1, iv p2, iv p3, iv (p0 &&& (3 : Int32)), rv b1, .unset, .unset, .unset, .unset, .unset, .unset, .unset] [(.ref w_NOTHING), (.int 1), (.ref b1)])) rfl rfl (hb hby at_24)
  have hk13 := Nat.le_trans hk7 (Keep.of_wr W13).1
  have V13 : Arv Z h13 b1 k1 (.object cS0) (4 : Int32) [(.ref w_THING), (.ref w_NOTHING), .null, .null] .null := Arv.set Ar_z10 q_z10 S_z10 N_z10 H_z10 G_z10 rfl W13 1 rfl (Nat.le_of_ble_eq_true rfl)
  have N13 := Fr.snoc X13 N7 g_b1
  have f15 := (((S_CS.ext E1).wr W7).wr W13)
  obtain ⟨_, T14, L14, X14, hQ14, st14⟩ := own_cS 2 (rm1 l Z a0 hw [] ((p2 &&& (255 : Int32)).toUInt32.toUInt16.toUInt32.toInt32) w_CS h13 n0 (Nat.le_trans (Nat.le_trans (Nat.le_trans Z0 E1.1) (Keep.of_wr W7).1) (Keep.of_wr W13).1) f15 hcs (own_le _)) X13 hx hZ hown hw 8 9 10 11 rfl rfl rfl rfl 34 #[iv p0, iv p1, iv p2, iv p3, iv (p0 &&& (3 : Int32)), rv b1, .unset, .unset, .unset, .unset, .unset, .unset, .unset] [(.int ((p2 &&& (255 : Int32)).toUInt32.toUInt16.toUInt32.toInt32))] [(.int 2), (.ref b1)] (hb hby at_34) hml (lenOf pd_27 rfl) e13 rfl (Nat.le_refl _) (by decide)
  have f16 := ((f6.wr W7).wr W13)
  have f17 := (f12.wr W13)
  have f18 := (((E_w_NAME.ext E1).wr W7).wr W13)
  have f19 := (((E_w_AND.ext E1).wr W7).wr W13)
  have f20 := (((E_w_EMPTY_LIST.ext E1).wr W7).wr W13)
  have f21 := (((V_wel.ext E1).other W7 (Nat.ne_of_lt (Nat.lt_of_lt_of_le V_wel.lt (Nat.le_of_eq g1.symm)))).other W13 (Nat.ne_of_lt (Nat.lt_of_lt_of_le V_wel.lt (Nat.le_of_eq g1.symm))))
  have f22 := (((E_w_EMPTY.ext E1).wr W7).wr W13)
  have f23 := (((V_w_DEFAULTCAPACITY_EMPTY_ELEMENTDATA.ext E1).other W7 (Nat.ne_of_lt (Nat.lt_of_lt_of_le V_w_DEFAULTCAPACITY_EMPTY_ELEMENTDATA.lt (Nat.le_of_eq g1.symm)))).other W13 (Nat.ne_of_lt (Nat.lt_of_lt_of_le V_w_DEFAULTCAPACITY_EMPTY_ELEMENTDATA.lt (Nat.le_of_eq g1.symm))))
  have f24 := ((EA1.wr W7).wr W13)
  obtain ⟨ob_14, ar_14, kk_14, rfl, N14q, K14, p14_0, p14_1, p14_2, p14_3, p14_4, p14_5, p14_6, p14_7, p14_8⟩ := hQ14
  have hk14 := Nat.le_trans hk13 K14.1
  have g_ob_14 : n0 ≤ ob_14 := Nat.le_trans (Nat.le_trans (Nat.le_trans (Nat.le_trans Z0 E1.1) (Keep.of_wr W7).1) (Keep.of_wr W13).1) p14_0
  have sz_ob_14 : h0.size ≤ ob_14 := Nat.le_trans ((((Keep.refl h0 []).ext E1).wr W7 (Or.inr sz_b1)).wr W13 (Or.inr sz_b1)).1 p14_0
  have g_ar_14 : n0 ≤ ar_14 := Nat.le_trans (Nat.le_trans (Nat.le_trans (Nat.le_trans Z0 E1.1) (Keep.of_wr W7).1) (Keep.of_wr W13).1) p14_1
  have sz_ar_14 : h0.size ≤ ar_14 := Nat.le_trans ((((Keep.refl h0 []).ext E1).wr W7 (Or.inr sz_b1)).wr W13 (Or.inr sz_b1)).1 p14_1
  have N14 := Fr.app N13 N14q
  have f26 := (own_sta_keep f15 K14 all0)
  have f27 := (own_sta_keep (((S_NAME.ext E1).wr W7).wr W13) K14 all0)
  have f28 := (f18.keep K14)
  have f29 := ((((F_ordinal_w_NAME.ext E1).other W7 (Or.inl (Nat.ne_of_lt (Nat.lt_of_lt_of_le E_w_NAME.lt (Nat.le_of_eq g1.symm))))).other W13 (Or.inl (Nat.ne_of_lt (Nat.lt_of_lt_of_le E_w_NAME.lt (Nat.le_of_eq g1.symm))))).keep K14 nin0)
  have f30 := (own_sta_keep (((S_EMPTY_LIST.ext E1).wr W7).wr W13) K14 all0)
  have f31 := (f20.keep K14)
  have f32 := ((((F_elements_w_EMPTY_LIST.ext E1).other W7 (Or.inl (Nat.ne_of_lt (Nat.lt_of_lt_of_le E_w_EMPTY_LIST.lt (Nat.le_of_eq g1.symm))))).other W13 (Or.inl (Nat.ne_of_lt (Nat.lt_of_lt_of_le E_w_EMPTY_LIST.lt (Nat.le_of_eq g1.symm))))).keep K14 nin0)
  have f33 := (f21.keep K14 nin0)
  have f34 := (f16.keep K14)
  have f35 := (f17.keep K14)
  have f36 := (f19.keep K14)
  have f37 := (f22.keep K14)
  have f38 := (f23.keep K14 nin0)
  have f39 := (f24.keep K14)
  obtain ⟨_, _, ⟨T25, L25, j25, i25⟩, -, X25, hSq25, hgq25, ⟨Lc25, hQ25, l25, y25, z25, CR25⟩, st25⟩ := Jvm.RoadKit.callSS X14 hx (y := (⟨cS0, "named", "(Ljava/lang/String;)Lcom/example/tablox/tablox/concept/Concept;"⟩ : MethodName)) hown (mvT hZ (own_at hw 34 rfl)) (mvT hZ (own_at hw 35 rfl)) (mvT hZ (own_at hw 3 rfl)) (mvT hZ (own_at hw 36 rfl)) (by decide) (backOfSH (W := 2) (rm6 l Z a0 hw [] ob_14 w_CS ar_14 kk_14 ((((p2 &&& (255 : Int32)).toUInt32.toUInt16.toUInt32.toInt32).toInt8.toInt32).toInt8.toInt32) w_NAME w_EMPTY_LIST wel kW T14.heap n0 (Nat.le_trans (Nat.le_trans (Nat.le_trans (Nat.le_trans Z0 E1.1) (Keep.of_wr W7).1) (Keep.of_wr W13).1) K14.1) f26 hcs p14_3 p14_4 p14_5 p14_6 p14_7 p14_8 f27 f28 f29 f30 f31 f32 f33 g_ob_14 (Nat.ne_of_lt (Nat.lt_of_lt_of_le f21.lt p14_0)) p14_2) hZ (own_at hw 36 rfl) (own_at hw 3 rfl) (by decide) (by decide) (own_ew hw) own_ch) (g := (mkF m 37 #[iv p0, iv p1, iv p2, iv p3, iv (p0 &&& (3 : Int32)), rv b1, .unset, .unset, .unset, .unset, .unset, .unset, .unset] [(.ref ob_14), (.int 2), (.ref b1)])) rfl (by rw [hml]; rfl) (argsL := [(.ref ob_14)]) (rest := [(.int 2), (.ref b1)]) (lenOf pd_28 rfl) rfl (Nat.le_refl _) (hb hby at_37) (fun _ _ => ⟨rfl, rfl, (by decide : 3 + 4 ≤ _), (by decide : 9 + 25 ≤ _)⟩)
  dsimp only [Pt.U, Pt.locs, Pt.cells, Pt.slots] at X25 l25 y25 z25 st25 hQ25 CR25 hSq25 hgq25
  subst l25 y25 z25
  obtain ⟨X25, hS25, hZ25, hown25⟩ := rebS hS0 hk14 X25 hSq25 hgq25 hZ hown
  have hk25 : T25.heap.size ≤ T25.heap.size := Nat.le_refl _
  obtain ⟨ob_25, hv_25, rfl, N25q, K25, p25_0, p25_1, p25_2⟩ := hQ25
  have pl25 := (allS (P := fun x => ∃ cell : Cell, T14.heap[x]? = some cell ∧ cell.vm.isStatics = false) (own_ns p14_3) all0)
  have g_ob_25 : n0 ≤ ob_25 := Nat.le_trans (Nat.le_trans (Nat.le_trans (Nat.le_trans (Nat.le_trans Z0 E1.1) (Keep.of_wr W7).1) (Keep.of_wr W13).1) K14.1) p25_0
  have sz_ob_25 : h0.size ≤ ob_25 := Nat.le_trans (((((Keep.refl h0 []).ext E1).wr W7 (Or.inr sz_b1)).wr W13 (Or.inr sz_b1)).trans K14 all0).1 p25_0
  have N25 := Fr.app N14 N25q
  have f40 := ((V13.keep K14 nin0).keep K25 (ninS (Nat.ne_of_lt (Nat.lt_of_lt_of_le f24.lt p14_0)) nin0))
  obtain ⟨cl_z41, Ar_z41, q_z41, S_z41, N_z41, H_z41, G_z41⟩ := id f40
  have hin42 : ¬ ((2 : Int32) < 0 ∨ cl_z41.slots.size ≤ ((2 : Int32)).toNatClampNeg) := inb_of S_z41 ⟨by decide, by decide⟩
  obtain ⟨T43, h43, X43, e43, W43, st43⟩ := stR X25 hx hZ25 rfl Ar_z41 (j := (2 : Int32)) hin42 rfl (Sto.ofV Ar_z41 q_z41 O1 (Ins.self p25_1)) (g := (mkF m 40 #[iv p0, iv p1, iv p2, iv p3, iv (p0 &&& (3 : Int32)), rv b1, .unset, .unset, .unset, .unset, .unset, .unset, .unset] [(.ref ob_25), (.int 2), (.ref b1)])) rfl rfl (hb hby at_40)
  have hk43 := Nat.le_trans hk25 (Keep.of_wr W43).1
  have V43 : Arv Z h43 b1 k1 (.object cS0) (4 : Int32) [(.ref w_THING), (.ref w_NOTHING), (.ref ob_25), .null] .null := Arv.set Ar_z41 q_z41 S_z41 N_z41 H_z41 G_z41 rfl W43 2 rfl (Nat.le_of_ble_eq_true rfl)
  have N43 := Fr.snoc X43 N25 g_b1
  have f45 := ((own_sta_keep f26 K25 pl25).wr W43)
  obtain ⟨_, T44, L44, X44, hQ44, st44⟩ := own_cS 2 (rm1 l Z a0 hw [] ((p3 &&& (255 : Int32)).toUInt32.toUInt16.toUInt32.toInt32) w_CS h43 n0 (Nat.le_trans (Nat.le_trans (Nat.le_trans (Nat.le_trans (Nat.le_trans (Nat.le_trans Z0 E1.1) (Keep.of_wr W7).1) (Keep.of_wr W13).1) K14.1) K25.1) (Keep.of_wr W43).1) f45 hcs (own_le _)) X43 hx hZ25 hown25 hw 8 9 10 11 rfl rfl rfl rfl 50 #[iv p0, iv p1, iv p2, iv p3, iv (p0 &&& (3 : Int32)), rv b1, .unset, .unset, .unset, .unset, .unset, .unset, .unset] [(.int ((p3 &&& (255 : Int32)).toUInt32.toUInt16.toUInt32.toInt32))] [(.int 3), (.ref b1)] (hb hby at_50) hml (lenOf pd_27 rfl) e43 rfl (Nat.le_refl _) (by decide)
  have f46 := ((f34.keep K25).wr W43)
  have f47 := ((f35.keep K25).wr W43)
  have f48 := ((f28.keep K25).wr W43)
  have f49 := ((f36.keep K25).wr W43)
  have f50 := ((f31.keep K25).wr W43)
  have f51 := ((f33.keep K25 (ninS (Nat.ne_of_lt (Nat.lt_of_lt_of_le f21.lt p14_0)) nin0)).other W43 (Nat.ne_of_lt (Nat.lt_of_lt_of_le V_wel.lt (Nat.le_of_eq g1.symm))))
  have f52 := ((f37.keep K25).wr W43)
  have f53 := ((f38.keep K25 (ninS (Nat.ne_of_lt (Nat.lt_of_lt_of_le f23.lt p14_0)) nin0)).other W43 (Nat.ne_of_lt (Nat.lt_of_lt_of_le V_w_DEFAULTCAPACITY_EMPTY_ELEMENTDATA.lt (Nat.le_of_eq g1.symm))))
  have f54 := ((f39.keep K25).wr W43)
  have f55 := ((p14_3.keep K25).wr W43)
  have f56 := ((p14_8.keep K25 (ninS p14_2 nin0)).other W43 (Ne.symm (Nat.ne_of_lt (Nat.lt_of_lt_of_le f24.lt p14_1))))
  have f57 := (p25_1.wr W43)
  obtain ⟨ob_44, ar_44, kk_44, rfl, N44q, K44, p44_0, p44_1, p44_2, p44_3, p44_4, p44_5, p44_6, p44_7, p44_8⟩ := hQ44
  have hk44 := Nat.le_trans hk43 K44.1
  have g_ob_44 : n0 ≤ ob_44 := Nat.le_trans (Nat.le_trans (Nat.le_trans (Nat.le_trans (Nat.le_trans (Nat.le_trans (Nat.le_trans Z0 E1.1) (Keep.of_wr W7).1) (Keep.of_wr W13).1) K14.1) K25.1) (Keep.of_wr W43).1) p44_0
  have sz_ob_44 : h0.size ≤ ob_44 := Nat.le_trans (((((((Keep.refl h0 []).ext E1).wr W7 (Or.inr sz_b1)).wr W13 (Or.inr sz_b1)).trans K14 all0).trans K25 (allS (Or.inr sz_ob_14) all0)).wr W43 (Or.inr sz_b1)).1 p44_0
  have g_ar_44 : n0 ≤ ar_44 := Nat.le_trans (Nat.le_trans (Nat.le_trans (Nat.le_trans (Nat.le_trans (Nat.le_trans (Nat.le_trans Z0 E1.1) (Keep.of_wr W7).1) (Keep.of_wr W13).1) K14.1) K25.1) (Keep.of_wr W43).1) p44_1
  have sz_ar_44 : h0.size ≤ ar_44 := Nat.le_trans (((((((Keep.refl h0 []).ext E1).wr W7 (Or.inr sz_b1)).wr W13 (Or.inr sz_b1)).trans K14 all0).trans K25 (allS (Or.inr sz_ob_14) all0)).wr W43 (Or.inr sz_b1)).1 p44_1
  have N44 := Fr.app N43 N44q
  have f59 := (own_sta_keep f45 K44 all0)
  have f60 := (own_sta_keep ((own_sta_keep f27 K25 pl25).wr W43) K44 all0)
  have f61 := (f48.keep K44)
  have f62 := (((f29.keep K25 (ninS (Nat.ne_of_lt (Nat.lt_of_lt_of_le f18.lt p14_0)) nin0)).other W43 (Or.inl (Nat.ne_of_lt (Nat.lt_of_lt_of_le E_w_NAME.lt (Nat.le_of_eq g1.symm))))).keep K44 nin0)
  have f63 := (own_sta_keep ((own_sta_keep f30 K25 pl25).wr W43) K44 all0)
  have f64 := (f50.keep K44)
  have f65 := (((f32.keep K25 (ninS (Nat.ne_of_lt (Nat.lt_of_lt_of_le f20.lt p14_0)) nin0)).other W43 (Or.inl (Nat.ne_of_lt (Nat.lt_of_lt_of_le E_w_EMPTY_LIST.lt (Nat.le_of_eq g1.symm))))).keep K44 nin0)
  have f66 := (f51.keep K44 nin0)
  have f67 := (f46.keep K44)
  have f68 := (f47.keep K44)
  have f69 := (f49.keep K44)
  have f70 := (f52.keep K44)
  have f71 := (f53.keep K44 nin0)
  have f72 := (f54.keep K44)
  have f73 := (f55.keep K44)
  have f74 := (f56.keep K44 nin0)
  have f75 := (f57.keep K44)
  obtain ⟨_, _, ⟨T58, L58, j58, i58⟩, -, X58, hSq58, hgq58, ⟨Lc58, hQ58, l58, y58, z58, CR58⟩, st58⟩ := Jvm.RoadKit.callSS X44 hx (y := (⟨cS0, "named", "(Ljava/lang/String;)Lcom/example/tablox/tablox/concept/Concept;"⟩ : MethodName)) hown25 (mvT hZ25 (own_at hw 34 rfl)) (mvT hZ25 (own_at hw 35 rfl)) (mvT hZ25 (own_at hw 3 rfl)) (mvT hZ25 (own_at hw 36 rfl)) (by decide) (backOfSH (W := 2) (rm6 l Z a0 hw [] ob_44 w_CS ar_44 kk_44 ((((p3 &&& (255 : Int32)).toUInt32.toUInt16.toUInt32.toInt32).toInt8.toInt32).toInt8.toInt32) w_NAME w_EMPTY_LIST wel kW T44.heap n0 (Nat.le_trans (Nat.le_trans (Nat.le_trans (Nat.le_trans (Nat.le_trans (Nat.le_trans (Nat.le_trans Z0 E1.1) (Keep.of_wr W7).1) (Keep.of_wr W13).1) K14.1) K25.1) (Keep.of_wr W43).1) K44.1) f59 hcs p44_3 p44_4 p44_5 p44_6 p44_7 p44_8 f60 f61 f62 f63 f64 f65 f66 g_ob_44 (Nat.ne_of_lt (Nat.lt_of_lt_of_le f51.lt p44_0)) p44_2) hZ25 (own_at hw 36 rfl) (own_at hw 3 rfl) (by decide) (by decide) (own_ew hw) own_ch) (g := (mkF m 53 #[iv p0, iv p1, iv p2, iv p3, iv (p0 &&& (3 : Int32)), rv b1, .unset, .unset, .unset, .unset, .unset, .unset, .unset] [(.ref ob_44), (.int 3), (.ref b1)])) rfl (by rw [hml]; rfl) (argsL := [(.ref ob_44)]) (rest := [(.int 3), (.ref b1)]) (lenOf pd_28 rfl) rfl (Nat.le_refl _) (hb hby at_53) (fun _ _ => ⟨rfl, rfl, (by decide : 9 + 4 ≤ _), (by decide : 39 + 25 ≤ _)⟩)
  dsimp only [Pt.U, Pt.locs, Pt.cells, Pt.slots] at X58 l58 y58 z58 st58 hQ58 CR58 hSq58 hgq58
  subst l58 y58 z58
  obtain ⟨X58, hS58, hZ58, hown58⟩ := rebS hS25 hk44 X58 hSq58 hgq58 hZ25 hown25
  have hk58 : T58.heap.size ≤ T58.heap.size := Nat.le_refl _
  obtain ⟨ob_58, hv_58, rfl, N58q, K58, p58_0, p58_1, p58_2⟩ := hQ58
  have pl58 := (allS (P := fun x => ∃ cell : Cell, T44.heap[x]? = some cell ∧ cell.vm.isStatics = false) (own_ns p44_3) all0)
  have g_ob_58 : n0 ≤ ob_58 := Nat.le_trans (Nat.le_trans (Nat.le_trans (Nat.le_trans (Nat.le_trans (Nat.le_trans (Nat.le_trans (Nat.le_trans Z0 E1.1) (Keep.of_wr W7).1) (Keep.of_wr W13).1) K14.1) K25.1) (Keep.of_wr W43).1) K44.1) p58_0
  have sz_ob_58 : h0.size ≤ ob_58 := Nat.le_trans ((((((((Keep.refl h0 []).ext E1).wr W7 (Or.inr sz_b1)).wr W13 (Or.inr sz_b1)).trans K14 all0).trans K25 (allS (Or.inr sz_ob_14) all0)).wr W43 (Or.inr sz_b1)).trans K44 all0).1 p58_0
  have N58 := Fr.app N44 N58q
  have f76 := ((V43.keep K44 nin0).keep K58 (ninS (Nat.ne_of_lt (Nat.lt_of_lt_of_le f54.lt p44_0)) nin0))
  obtain ⟨cl_z77, Ar_z77, q_z77, S_z77, N_z77, H_z77, G_z77⟩ := id f76
  have hin78 : ¬ ((3 : Int32) < 0 ∨ cl_z77.slots.size ≤ ((3 : Int32)).toNatClampNeg) := inb_of S_z77 ⟨by decide, by decide⟩
  obtain ⟨T79, h79, X79, e79, W79, st79⟩ := stR X58 hx hZ58 rfl Ar_z77 (j := (3 : Int32)) hin78 rfl (Sto.ofV Ar_z77 q_z77 O1 (Ins.self p58_1)) (g := (mkF m 56 #[iv p0, iv p1, iv p2, iv p3, iv (p0 &&& (3 : Int32)), rv b1, .unset, .unset, .unset, .unset, .unset, .unset, .unset] [(.ref ob_58), (.int 3), (.ref b1)])) rfl rfl (hb hby at_56)
  have hk79 := Nat.le_trans hk58 (Keep.of_wr W79).1
  have V79 : Arv Z h79 b1 k1 (.object cS0) (4 : Int32) [(.ref w_THING), (.ref w_NOTHING), (.ref ob_25), (.ref ob_58)] .null := Arv.set Ar_z77 q_z77 S_z77 N_z77 H_z77 G_z77 rfl W79 3 rfl (Nat.le_of_ble_eq_true rfl)
  have N79 := Fr.snoc X79 N58 g_b1
  obtain ⟨cl_z80, Ar_z80, q_z80, S_z80, N_z80, H_z80, G_z80⟩ := id V79
  have hin81 : ¬ ((0 : Int32) < 0 ∨ cl_z80.slots.size ≤ ((0 : Int32)).toNatClampNeg) := inb_of S_z80 ⟨by decide, by decide⟩
  have hin82 : ¬ ((1 : Int32) < 0 ∨ cl_z80.slots.size ≤ ((1 : Int32)).toNatClampNeg) := inb_of S_z80 ⟨by decide, by decide⟩
  have hin83 : ¬ ((2 : Int32) < 0 ∨ cl_z80.slots.size ≤ ((2 : Int32)).toNatClampNeg) := inb_of S_z80 ⟨by decide, by decide⟩
  have hin84 : ¬ ((3 : Int32) < 0 ∨ cl_z80.slots.size ≤ ((3 : Int32)).toNatClampNeg) := inb_of S_z80 ⟨by decide, by decide⟩
  have f85 := ((f67.keep K58).wr W79)
  have f86 := ((f68.keep K58).wr W79)
  have f87 := ((f75.keep K58).wr W79)
  have f88 := (p58_1.wr W79)
  have f89 := (((((((((F_hash_w_THING.ext E1).other W7 (Or.inl (Nat.ne_of_lt (Nat.lt_of_lt_of_le E_w_THING.lt (Nat.le_of_eq g1.symm))))).other W13 (Or.inl (Nat.ne_of_lt (Nat.lt_of_lt_of_le E_w_THING.lt (Nat.le_of_eq g1.symm))))).keep K14 nin0).keep K25 (ninS (Nat.ne_of_lt (Nat.lt_of_lt_of_le f16.lt p14_0)) nin0)).other W43 (Or.inl (Nat.ne_of_lt (Nat.lt_of_lt_of_le E_w_THING.lt (Nat.le_of_eq g1.symm))))).keep K44 nin0).keep K58 (ninS (Nat.ne_of_lt (Nat.lt_of_lt_of_le f46.lt p44_0)) nin0)).other W79 (Or.inl (Nat.ne_of_lt (Nat.lt_of_lt_of_le E_w_THING.lt (Nat.le_of_eq g1.symm)))))
  have f90 := (((((((((F_hash_w_NOTHING.ext E1).other W7 (Or.inl (Nat.ne_of_lt (Nat.lt_of_lt_of_le E_w_NOTHING.lt (Nat.le_of_eq g1.symm))))).other W13 (Or.inl (Nat.ne_of_lt (Nat.lt_of_lt_of_le E_w_NOTHING.lt (Nat.le_of_eq g1.symm))))).keep K14 nin0).keep K25 (ninS (Nat.ne_of_lt (Nat.lt_of_lt_of_le f17.lt p14_0)) nin0)).other W43 (Or.inl (Nat.ne_of_lt (Nat.lt_of_lt_of_le E_w_NOTHING.lt (Nat.le_of_eq g1.symm))))).keep K44 nin0).keep K58 (ninS (Nat.ne_of_lt (Nat.lt_of_lt_of_le f47.lt p44_0)) nin0)).other W79 (Or.inl (Nat.ne_of_lt (Nat.lt_of_lt_of_le E_w_NOTHING.lt (Nat.le_of_eq g1.symm)))))
  have f91 := ((((p25_2.other W43 (Or.inl (Ne.symm (Nat.ne_of_lt (Nat.lt_of_lt_of_le f39.lt p25_0))))).keep K44 nin0).keep K58 (ninS (Nat.ne_of_lt (Nat.lt_of_lt_of_le f57.lt p44_0)) nin0)).other W79 (Or.inl (Ne.symm (Nat.ne_of_lt (Nat.lt_of_lt_of_le f39.lt p25_0)))))
  have f92 := (p58_2.other W79 (Or.inl (Ne.symm (Nat.ne_of_lt (Nat.lt_of_lt_of_le f72.lt p58_0)))))
  have hp62 : ∃ (x : Addr) (u : Int32), Exa Z h79 x cS0 ∧ Fld Z h79 x cS0 "hash" "I" (.int u) ∧ ∀ t, OwnS p e below T79 (mkF m 63 #[iv p0, iv p1, iv p2, iv p3, iv (p0 &&& (3 : Int32)), rv b1, .unset, .unset, .unset, .unset, .unset, .unset, .unset] [(.ref x)]) t → OwnS p e below T79 (mkF m 62 #[iv p0, iv p1, iv p2, iv p3, iv (p0 &&& (3 : Int32)), rv b1, .unset, .unset, .unset, .unset, .unset, .unset, .unset] [(.int (p1 &&& (3 : Int32))), (.ref b1)]) t := by
   rcases own_m4 p1 with hk | hk | hk | hk
   · refine ⟨w_THING, _, f85, f89, fun t kk => ?_⟩
     rw [hk]
     exact X79.aaload hx (j := (0 : Int32)) (v := (.ref w_THING)) (by rw [e79]; exact Ar_z80.1) (State.isArrayOf_alike hZ58.alike Ar_z80.2.1) rfl Ar_z80.2.2 hin81 (Has.at H_z80 hin81 rfl) (g := (mkF m 62 #[iv p0, iv p1, iv p2, iv p3, iv (p0 &&& (3 : Int32)), rv b1, .unset, .unset, .unset, .unset, .unset, .unset, .unset] [(.int 0), (.ref b1)])) rfl rfl (hb hby at_62) _ kk
   · refine ⟨w_NOTHING, _, f86, f90, fun t kk => ?_⟩
     rw [hk]
     exact X79.aaload hx (j := (1 : Int32)) (v := (.ref w_NOTHING)) (by rw [e79]; exact Ar_z80.1) (State.isArrayOf_alike hZ58.alike Ar_z80.2.1) rfl Ar_z80.2.2 hin82 (Has.at H_z80 hin82 rfl) (g := (mkF m 62 #[iv p0, iv p1, iv p2, iv p3, iv (p0 &&& (3 : Int32)), rv b1, .unset, .unset, .unset, .unset, .unset, .unset, .unset] [(.int 1), (.ref b1)])) rfl rfl (hb hby at_62) _ kk
   · refine ⟨ob_25, _, f87, f91, fun t kk => ?_⟩
     rw [hk]
     exact X79.aaload hx (j := (2 : Int32)) (v := (.ref ob_25)) (by rw [e79]; exact Ar_z80.1) (State.isArrayOf_alike hZ58.alike Ar_z80.2.1) rfl Ar_z80.2.2 hin83 (Has.at H_z80 hin83 rfl) (g := (mkF m 62 #[iv p0, iv p1, iv p2, iv p3, iv (p0 &&& (3 : Int32)), rv b1, .unset, .unset, .unset, .unset, .unset, .unset, .unset] [(.int 2), (.ref b1)])) rfl rfl (hb hby at_62) _ kk
   · refine ⟨ob_58, _, f88, f92, fun t kk => ?_⟩
     rw [hk]
     exact X79.aaload hx (j := (3 : Int32)) (v := (.ref ob_58)) (by rw [e79]; exact Ar_z80.1) (State.isArrayOf_alike hZ58.alike Ar_z80.2.1) rfl Ar_z80.2.2 hin84 (Has.at H_z80 hin84 rfl) (g := (mkF m 62 #[iv p0, iv p1, iv p2, iv p3, iv (p0 &&& (3 : Int32)), rv b1, .unset, .unset, .unset, .unset, .unset, .unset, .unset] [(.int 3), (.ref b1)])) rfl rfl (hb hby at_62) _ kk
  obtain ⟨x62, u62, E_x62, F_x62, k_x62⟩ := hp62
  have hin93 : ¬ ((0 : Int32) < 0 ∨ cl_z80.slots.size ≤ ((0 : Int32)).toNatClampNeg) := inb_of S_z80 ⟨by decide, by decide⟩
  have hin94 : ¬ ((1 : Int32) < 0 ∨ cl_z80.slots.size ≤ ((1 : Int32)).toNatClampNeg) := inb_of S_z80 ⟨by decide, by decide⟩
  have hin95 : ¬ ((2 : Int32) < 0 ∨ cl_z80.slots.size ≤ ((2 : Int32)).toNatClampNeg) := inb_of S_z80 ⟨by decide, by decide⟩
  have hin96 : ¬ ((3 : Int32) < 0 ∨ cl_z80.slots.size ≤ ((3 : Int32)).toNatClampNeg) := inb_of S_z80 ⟨by decide, by decide⟩
  have hp72 : ∃ (x : Addr) (u : Int32), Exa Z h79 x cS0 ∧ Fld Z h79 x cS0 "hash" "I" (.int u) ∧ ∀ t, OwnS p e below T79 (mkF m 73 #[iv p0, iv p1, iv p2, iv p3, iv (p0 &&& (3 : Int32)), rv b1, rv x62, .unset, .unset, .unset, .unset, .unset, .unset] [(.ref x)]) t → OwnS p e below T79 (mkF m 72 #[iv p0, iv p1, iv p2, iv p3, iv (p0 &&& (3 : Int32)), rv b1, rv x62, .unset, .unset, .unset, .unset, .unset, .unset] [(.int (((p1.toUInt32 >>> ((2 : Int32) &&& 31).toUInt32).toInt32) &&& (3 : Int32))), (.ref b1)]) t := by
   rcases own_m4 ((p1.toUInt32 >>> ((2 : Int32) &&& 31).toUInt32).toInt32) with hk | hk | hk | hk
   · refine ⟨w_THING, _, f85, f89, fun t kk => ?_⟩
     rw [hk]
     exact X79.aaload hx (j := (0 : Int32)) (v := (.ref w_THING)) (by rw [e79]; exact Ar_z80.1) (State.isArrayOf_alike hZ58.alike Ar_z80.2.1) rfl Ar_z80.2.2 hin93 (Has.at H_z80 hin93 rfl) (g := (mkF m 72 #[iv p0, iv p1, iv p2, iv p3, iv (p0 &&& (3 : Int32)), rv b1, rv x62, .unset, .unset, .unset, .unset, .unset, .unset] [(.int 0), (.ref b1)])) rfl rfl (hb hby at_72) _ kk
   · refine ⟨w_NOTHING, _, f86, f90, fun t kk => ?_⟩
     rw [hk]
     exact X79.aaload hx (j := (1 : Int32)) (v := (.ref w_NOTHING)) (by rw [e79]; exact Ar_z80.1) (State.isArrayOf_alike hZ58.alike Ar_z80.2.1) rfl Ar_z80.2.2 hin94 (Has.at H_z80 hin94 rfl) (g := (mkF m 72 #[iv p0, iv p1, iv p2, iv p3, iv (p0 &&& (3 : Int32)), rv b1, rv x62, .unset, .unset, .unset, .unset, .unset, .unset] [(.int 1), (.ref b1)])) rfl rfl (hb hby at_72) _ kk
   · refine ⟨ob_25, _, f87, f91, fun t kk => ?_⟩
     rw [hk]
     exact X79.aaload hx (j := (2 : Int32)) (v := (.ref ob_25)) (by rw [e79]; exact Ar_z80.1) (State.isArrayOf_alike hZ58.alike Ar_z80.2.1) rfl Ar_z80.2.2 hin95 (Has.at H_z80 hin95 rfl) (g := (mkF m 72 #[iv p0, iv p1, iv p2, iv p3, iv (p0 &&& (3 : Int32)), rv b1, rv x62, .unset, .unset, .unset, .unset, .unset, .unset] [(.int 2), (.ref b1)])) rfl rfl (hb hby at_72) _ kk
   · refine ⟨ob_58, _, f88, f92, fun t kk => ?_⟩
     rw [hk]
     exact X79.aaload hx (j := (3 : Int32)) (v := (.ref ob_58)) (by rw [e79]; exact Ar_z80.1) (State.isArrayOf_alike hZ58.alike Ar_z80.2.1) rfl Ar_z80.2.2 hin96 (Has.at H_z80 hin96 rfl) (g := (mkF m 72 #[iv p0, iv p1, iv p2, iv p3, iv (p0 &&& (3 : Int32)), rv b1, rv x62, .unset, .unset, .unset, .unset, .unset, .unset] [(.int 3), (.ref b1)])) rfl rfl (hb hby at_72) _ kk
  obtain ⟨x72, u72, E_x72, F_x72, k_x72⟩ := hp72
  have hin97 : ¬ ((0 : Int32) < 0 ∨ cl_z80.slots.size ≤ ((0 : Int32)).toNatClampNeg) := inb_of S_z80 ⟨by decide, by decide⟩
  have hin98 : ¬ ((1 : Int32) < 0 ∨ cl_z80.slots.size ≤ ((1 : Int32)).toNatClampNeg) := inb_of S_z80 ⟨by decide, by decide⟩
  have hin99 : ¬ ((2 : Int32) < 0 ∨ cl_z80.slots.size ≤ ((2 : Int32)).toNatClampNeg) := inb_of S_z80 ⟨by decide, by decide⟩
  have hin100 : ¬ ((3 : Int32) < 0 ∨ cl_z80.slots.size ≤ ((3 : Int32)).toNatClampNeg) := inb_of S_z80 ⟨by decide, by decide⟩
  have hp82 : ∃ (x : Addr) (u : Int32), Exa Z h79 x cS0 ∧ Fld Z h79 x cS0 "hash" "I" (.int u) ∧ ∀ t, OwnS p e below T79 (mkF m 83 #[iv p0, iv p1, iv p2, iv p3, iv (p0 &&& (3 : Int32)), rv b1, rv x62, rv x72, .unset, .unset, .unset, .unset, .unset] [(.ref x)]) t → OwnS p e below T79 (mkF m 82 #[iv p0, iv p1, iv p2, iv p3, iv (p0 &&& (3 : Int32)), rv b1, rv x62, rv x72, .unset, .unset, .unset, .unset, .unset] [(.int (((p1.toUInt32 >>> ((4 : Int32) &&& 31).toUInt32).toInt32) &&& (3 : Int32))), (.ref b1)]) t := by
   rcases own_m4 ((p1.toUInt32 >>> ((4 : Int32) &&& 31).toUInt32).toInt32) with hk | hk | hk | hk
   · refine ⟨w_THING, _, f85, f89, fun t kk => ?_⟩
     rw [hk]
     exact X79.aaload hx (j := (0 : Int32)) (v := (.ref w_THING)) (by rw [e79]; exact Ar_z80.1) (State.isArrayOf_alike hZ58.alike Ar_z80.2.1) rfl Ar_z80.2.2 hin97 (Has.at H_z80 hin97 rfl) (g := (mkF m 82 #[iv p0, iv p1, iv p2, iv p3, iv (p0 &&& (3 : Int32)), rv b1, rv x62, rv x72, .unset, .unset, .unset, .unset, .unset] [(.int 0), (.ref b1)])) rfl rfl (hb hby at_82) _ kk
   · refine ⟨w_NOTHING, _, f86, f90, fun t kk => ?_⟩
     rw [hk]
     exact X79.aaload hx (j := (1 : Int32)) (v := (.ref w_NOTHING)) (by rw [e79]; exact Ar_z80.1) (State.isArrayOf_alike hZ58.alike Ar_z80.2.1) rfl Ar_z80.2.2 hin98 (Has.at H_z80 hin98 rfl) (g := (mkF m 82 #[iv p0, iv p1, iv p2, iv p3, iv (p0 &&& (3 : Int32)), rv b1, rv x62, rv x72, .unset, .unset, .unset, .unset, .unset] [(.int 1), (.ref b1)])) rfl rfl (hb hby at_82) _ kk
   · refine ⟨ob_25, _, f87, f91, fun t kk => ?_⟩
     rw [hk]
     exact X79.aaload hx (j := (2 : Int32)) (v := (.ref ob_25)) (by rw [e79]; exact Ar_z80.1) (State.isArrayOf_alike hZ58.alike Ar_z80.2.1) rfl Ar_z80.2.2 hin99 (Has.at H_z80 hin99 rfl) (g := (mkF m 82 #[iv p0, iv p1, iv p2, iv p3, iv (p0 &&& (3 : Int32)), rv b1, rv x62, rv x72, .unset, .unset, .unset, .unset, .unset] [(.int 2), (.ref b1)])) rfl rfl (hb hby at_82) _ kk
   · refine ⟨ob_58, _, f88, f92, fun t kk => ?_⟩
     rw [hk]
     exact X79.aaload hx (j := (3 : Int32)) (v := (.ref ob_58)) (by rw [e79]; exact Ar_z80.1) (State.isArrayOf_alike hZ58.alike Ar_z80.2.1) rfl Ar_z80.2.2 hin100 (Has.at H_z80 hin100 rfl) (g := (mkF m 82 #[iv p0, iv p1, iv p2, iv p3, iv (p0 &&& (3 : Int32)), rv b1, rv x62, rv x72, .unset, .unset, .unset, .unset, .unset] [(.int 3), (.ref b1)])) rfl rfl (hb hby at_82) _ kk
  obtain ⟨x82, u82, E_x82, F_x82, k_x82⟩ := hp82
  have f101 := ((f61.keep K58).wr W79)
  have f102 := ((f69.keep K58).wr W79)
  have f103 := ((f64.keep K58).wr W79)
  have f104 := ((f66.keep K58 (ninS (Nat.ne_of_lt (Nat.lt_of_lt_of_le f51.lt p44_0)) nin0)).other W79 (Nat.ne_of_lt (Nat.lt_of_lt_of_le V_wel.lt (Nat.le_of_eq g1.symm))))
  have f105 := ((f70.keep K58).wr W79)
  have f106 := ((f71.keep K58 (ninS (Nat.ne_of_lt (Nat.lt_of_lt_of_le f53.lt p44_0)) nin0)).other W79 (Nat.ne_of_lt (Nat.lt_of_lt_of_le V_w_DEFAULTCAPACITY_EMPTY_ELEMENTDATA.lt (Nat.le_of_eq g1.symm))))
  have f107 := ((f72.keep K58).wr W79)
  have f108 := ((f73.keep K58).wr W79)
  have f109 := ((f74.keep K58 (ninS (Nat.ne_of_lt (Nat.lt_of_lt_of_le f56.lt p44_0)) nin0)).other W79 (Ne.symm (Nat.ne_of_lt (Nat.lt_of_lt_of_le f24.lt p14_1))))
  have f110 := ((p44_3.keep K58).wr W79)
  have f111 := ((p44_8.keep K58 (ninS p44_2 nin0)).other W79 (Ne.symm (Nat.ne_of_lt (Nat.lt_of_lt_of_le f54.lt p44_1))))
  obtain ⟨T112, h112, X112, e112, E112, A112, D112, -, st112⟩ := newO X79 hx hZ58 hown58 (own_at hw 144 rfl) (own_at hw 145 rfl) (own_at hw 146 rfl) e79 (g := (mkF m 85 #[iv p0, iv p1, iv p2, iv p3, iv (p0 &&& (3 : Int32)), rv b1, rv x62, rv x72, rv x82, .unset, .unset, .unset, .unset] [])) rfl (hb hby at_85) (by decide) (by decide)
  obtain ⟨b112, g112⟩ : ∃ z, z = h79.size := ⟨_, rfl⟩
  rw [← g112] at A112 D112 st112
  have g_b112 : n0 ≤ b112 := Nat.le_trans (Nat.le_trans (Nat.le_trans (Nat.le_trans (Nat.le_trans (Nat.le_trans (Nat.le_trans (Nat.le_trans (Nat.le_trans (Nat.le_trans Z0 E1.1) (Keep.of_wr W7).1) (Keep.of_wr W13).1) K14.1) K25.1) (Keep.of_wr W43).1) K44.1) K58.1) (Keep.of_wr W79).1) (Nat.le_of_eq g112.symm)
  have sz_b112 : h0.size ≤ b112 := Nat.le_trans ((((((((((Keep.refl h0 []).ext E1).wr W7 (Or.inr sz_b1)).wr W13 (Or.inr sz_b1)).trans K14 all0).trans K25 (allS (Or.inr sz_ob_14) all0)).wr W43 (Or.inr sz_b1)).trans K44 all0).trans K58 (allS (Or.inr sz_ob_44) all0)).wr W79 (Or.inr sz_b1)).1 (Nat.le_of_eq g112.symm)
  have hk112 := Nat.le_trans hk79 E112.1
  have F_modCount_b112 : Fld Z h112 b112 cS16 "modCount" "I" (.int 0) := D112 (Or.inl (own_at hw 164 rfl)) (ty := .int) (by decide)
  have F_elementData_b112 : Fld Z h112 b112 cS4 "elementData" cS6 .null := D112 (Or.inl (own_at hw 167 rfl)) (ty := (.array (.object cS3))) (by decide)
  have F_size_b112 : Fld Z h112 b112 cS4 "size" "I" (.int 0) := D112 (Or.inl (own_at hw 195 rfl)) (ty := .int) (by decide)
  have f114 := (((own_sta_keep (own_sta_keep ((own_sta_keep (own_sta_keep (((S_DEFAULTCAPACITY_EMPTY_ELEMENTDATA.ext E1).wr W7).wr W13) K14 all0) K25 pl25).wr W43) K44 all0) K58 pl58).wr W79).ext E112)
  obtain ⟨_, _, ⟨T113, L113, j113, i113⟩, -, X113, ⟨Lc113, hQ113, l113, y113, z113⟩, st113⟩ := X112.specialBack hx (y := (⟨cS4, "<init>", "()V"⟩ : MethodName)) rfl hown58 (mvT hZ58 (own_at hw 147 rfl)) (mvT hZ58 (own_at hw 148 rfl)) (mvT hZ58 (own_at hw 149 rfl)) (by decide) (backOf (W := 1) (rm19 l Z a0 hw [] b112 w_DEFAULTCAPACITY_EMPTY_ELEMENTDATA h112 n0 (Nat.le_trans (Nat.le_trans (Nat.le_trans (Nat.le_trans (Nat.le_trans (Nat.le_trans (Nat.le_trans (Nat.le_trans (Nat.le_trans (Nat.le_trans Z0 E1.1) (Keep.of_wr W7).1) (Keep.of_wr W13).1) K14.1) K25.1) (Keep.of_wr W43).1) K44.1) K58.1) (Keep.of_wr W79).1) E112.1) f114 A112 F_modCount_b112 F_elementData_b112 F_size_b112 g_b112) hZ58 (own_at hw 149 rfl) (own_at hw 146 rfl) (by decide) (by decide)) (g := (mkF m 89 #[iv p0, iv p1, iv p2, iv p3, iv (p0 &&& (3 : Int32)), rv b1, rv x62, rv x72, rv x82, .unset, .unset, .unset, .unset] [(.ref b112), (.ref b112)])) rfl (by rw [hml]; rfl) (Steps.refl _) (a := b112) (argsL := []) (rest := [(.ref b112)]) (lenOf pd_14 rfl) rfl (Nat.le_refl _) (hb hby at_89) (fun _ _ => ⟨rfl, e112, (by decide : 14 + 0 ≤ _), (by decide : 67 + 0 ≤ _)⟩)
  dsimp only [Pt.U, Pt.locs, Pt.cells, Pt.slots] at X113 l113 y113 z113 st113 hQ113
  subst l113 y113 z113
  have f115 := (f85.ext E112)
  have f116 := (f86.ext E112)
  have f117 := (f101.ext E112)
  have f118 := (f102.ext E112)
  have f119 := (f103.ext E112)
  have f120 := (f104.ext E112)
  have f121 := (f105.ext E112)
  have f122 := (f106.ext E112)
  have f123 := (f107.ext E112)
  have f124 := (f108.ext E112)
  have f125 := (f109.ext E112)
  have f126 := (f87.ext E112)
  have f127 := (f110.ext E112)
  have f128 := (f111.ext E112)
  have f129 := (f88.ext E112)
  have f130 := (E_x62.ext E112)
  have f131 := (E_x72.ext E112)
  have f132 := (E_x82.ext E112)
  obtain ⟨rfl, N113q, K113, p113_0, p113_1, p113_2, p113_3⟩ := hQ113
  have pl113 := (allS (P := fun x => ∃ cell : Cell, h112[x]? = some cell ∧ cell.vm.isStatics = false) (own_ns A112) all0)
  have hk113 := Nat.le_trans hk112 K113.1
  have N113 := Fr.app N79 N113q
  have k133 : ∀ t, OwnS p e below T113 (mkF m 94 #[iv p0, iv p1, iv p2, iv p3, iv (p0 &&& (3 : Int32)), rv b1, rv x62, rv x72, rv x82, rv b112, .unset, .unset, .unset] []) t → OwnS p e below s₁ (entryFrame m #[(.int p0), (.int p1), (.int p2), (.int p3)] maxLocals) t := fun t q => by
   refine k0 t ?_
   show OwnS p e below s₁ (mkF m 0 #[iv p0, iv p1, iv p2, iv p3, .unset, .unset, .unset, .unset, .unset, .unset, .unset, .unset, .unset] []) _
   refine oIn X0 hx hby at_0 rfl (oIc X0 hx hby at_1 ?_)
   refine XS.iand X0.here hx rfl (hb hby at_2) rfl ?_
   refine XS.istore X0.here hx rfl (hb hby at_3) rfl (l' := #[iv p0, iv p1, iv p2, iv p3, iv (p0 &&& (3 : Int32)), .unset, .unset, .unset, .unset, .unset, .unset, .unset, .unset]) rfl ?_
   refine oIc X0 hx hby at_5 ?_
   refine st1 _ ?_
   refine XS.astore X1.here hx rfl (hb hby at_9) rfl rfl (l' := #[iv p0, iv p1, iv p2, iv p3, iv (p0 &&& (3 : Int32)), rv b1, .unset, .unset, .unset, .unset, .unset, .unset, .unset]) rfl ?_
   refine oAl X1 hx hby at_11 rfl rfl (oIc X1 hx hby at_13 ?_)
   refine st3 _ ?_
   refine st7 _ ?_
   refine oAl X7 hx hby at_18 rfl rfl (oIc X7 hx hby at_20 ?_)
   refine st9 _ ?_
   refine st13 _ ?_
   refine oAl X13 hx hby at_25 rfl rfl (oIc X13 hx hby at_27 (oIn X13 hx hby at_28 rfl ?_))
   refine XS.sipush X13.here hx rfl (hb hby at_29) ?_
   refine XS.iand X13.here hx rfl (hb hby at_32) rfl ?_
   refine XS.i2c X13.here hx rfl (hb hby at_33) rfl ?_
   refine st14 _ ?_
   refine st25.trans ?_
   refine st43 _ ?_
   refine oAl X43 hx hby at_41 rfl rfl (oIc X43 hx hby at_43 (oIn X43 hx hby at_44 rfl ?_))
   refine XS.sipush X43.here hx rfl (hb hby at_45) ?_
   refine XS.iand X43.here hx rfl (hb hby at_48) rfl ?_
   refine XS.i2c X43.here hx rfl (hb hby at_49) rfl ?_
   show OwnS p e below T43 (mkF m 50 #[iv p0, iv p1, iv p2, iv p3, iv (p0 &&& (3 : Int32)), rv b1, .unset, .unset, .unset, .unset, .unset, .unset, .unset] [(.int ((p3 &&& (255 : Int32)).toUInt32.toUInt16.toUInt32.toInt32)), (.int 3), (.ref b1)]) _
   refine st44 _ ?_
   refine st58.trans ?_
   refine st79 _ ?_
   refine oAl X79 hx hby at_57 rfl rfl (oIn X79 hx hby at_59 rfl (oIc X79 hx hby at_60 ?_))
   refine XS.iand X79.here hx rfl (hb hby at_61) rfl ?_
   refine k_x62 _ ?_
   refine XS.astore X79.here hx rfl (hb hby at_63) rfl rfl (l' := #[iv p0, iv p1, iv p2, iv p3, iv (p0 &&& (3 : Int32)), rv b1, rv x62, .unset, .unset, .unset, .unset, .unset, .unset]) rfl ?_
   refine oAl X79 hx hby at_65 rfl rfl (oIn X79 hx hby at_67 rfl (oIc X79 hx hby at_68 ?_))
   refine XS.iushr X79.here hx rfl (hb hby at_69) rfl ?_
   refine oIc X79 hx hby at_70 ?_
   refine XS.iand X79.here hx rfl (hb hby at_71) rfl ?_
   refine k_x72 _ ?_
   refine XS.astore X79.here hx rfl (hb hby at_73) rfl rfl (l' := #[iv p0, iv p1, iv p2, iv p3, iv (p0 &&& (3 : Int32)), rv b1, rv x62, rv x72, .unset, .unset, .unset, .unset, .unset]) rfl ?_
   refine oAl X79 hx hby at_75 rfl rfl (oIn X79 hx hby at_77 rfl (oIc X79 hx hby at_78 ?_))
   refine XS.iushr X79.here hx rfl (hb hby at_79) rfl ?_
   refine oIc X79 hx hby at_80 ?_
   refine XS.iand X79.here hx rfl (hb hby at_81) rfl ?_
   refine k_x82 _ ?_
   refine XS.astore X79.here hx rfl (hb hby at_83) rfl rfl (l' := #[iv p0, iv p1, iv p2, iv p3, iv (p0 &&& (3 : Int32)), rv b1, rv x62, rv x72, rv x82, .unset, .unset, .unset, .unset]) rfl ?_
   refine st112 _ ?_
   refine XS.dup X112.here hx rfl (hb hby at_88) rfl rfl ?_
   refine st113.trans ?_
   refine XS.astore X113.here hx rfl (hb hby at_92) rfl rfl (l' := #[iv p0, iv p1, iv p2, iv p3, iv (p0 &&& (3 : Int32)), rv b1, rv x62, rv x72, rv x82, rv b112, .unset, .unset, .unset]) rfl ?_
   exact q
  rcases own_m4 p0 with hk | hk | hk | hk
  · have f135 := (own_sta_keep (((own_sta_keep (own_sta_keep ((own_sta_keep (own_sta_keep (((S_AND.ext E1).wr W7).wr W13) K14 all0) K25 pl25).wr W43) K44 all0) K58 pl58).wr W79).ext E112) K113 pl113)
    have f136 := (f118.keep K113)
    have f137 := (((((((((((F_ordinal_w_AND.ext E1).other W7 (Or.inl (Nat.ne_of_lt (Nat.lt_of_lt_of_le E_w_AND.lt (Nat.le_of_eq g1.symm))))).other W13 (Or.inl (Nat.ne_of_lt (Nat.lt_of_lt_of_le E_w_AND.lt (Nat.le_of_eq g1.symm))))).keep K14 nin0).keep K25 (ninS (Nat.ne_of_lt (Nat.lt_of_lt_of_le f19.lt p14_0)) nin0)).other W43 (Or.inl (Nat.ne_of_lt (Nat.lt_of_lt_of_le E_w_AND.lt (Nat.le_of_eq g1.symm))))).keep K44 nin0).keep K58 (ninS (Nat.ne_of_lt (Nat.lt_of_lt_of_le f49.lt p44_0)) nin0)).other W79 (Or.inl (Nat.ne_of_lt (Nat.lt_of_lt_of_le E_w_AND.lt (Nat.le_of_eq g1.symm))))).ext E112).keep K113 (ninS (Nat.ne_of_lt (Nat.lt_of_lt_of_le f102.lt (Nat.le_of_eq g112.symm))) nin0))
    have f138 := (own_sta_keep (((own_sta_keep f63 K58 pl58).wr W79).ext E112) K113 pl113)
    have f139 := (f119.keep K113)
    have f140 := ((((f65.keep K58 (ninS (Nat.ne_of_lt (Nat.lt_of_lt_of_le f50.lt p44_0)) nin0)).other W79 (Or.inl (Nat.ne_of_lt (Nat.lt_of_lt_of_le E_w_EMPTY_LIST.lt (Nat.le_of_eq g1.symm))))).ext E112).keep K113 (ninS (Nat.ne_of_lt (Nat.lt_of_lt_of_le f103.lt (Nat.le_of_eq g112.symm))) nin0))
    have f141 := (f120.keep K113 (ninS (Nat.ne_of_lt (Nat.lt_of_lt_of_le f104.lt (Nat.le_of_eq g112.symm))) nin0))
    obtain ⟨_, T134, L134, X134, hQ134, st134⟩ := own_cS 0 (rm22_0 l Z a0 hw [] b112 w_AND w_EMPTY_LIST wel kW T113.heap n0 (Nat.le_trans (Nat.le_trans (Nat.le_trans (Nat.le_trans (Nat.le_trans (Nat.le_trans (Nat.le_trans (Nat.le_trans (Nat.le_trans (Nat.le_trans (Nat.le_trans Z0 E1.1) (Keep.of_wr W7).1) (Keep.of_wr W13).1) K14.1) K25.1) (Keep.of_wr W43).1) K44.1) K58.1) (Keep.of_wr W79).1) E112.1) K113.1) f135 f136 f137 f138 f139 f140 f141 p113_0 p113_3) X113 hx hZ58 hown58 hw 168 169 3 170 rfl rfl rfl rfl 138 #[iv p0, iv p1, iv p2, iv p3, iv 0, rv b1, rv x62, rv x72, rv x82, rv b112, .unset, .unset, .unset] [(.ref b112)] [] (hb hby at_138) hml (lenOf pd_29 rfl) rfl rfl (Nat.le_refl _) (by decide)
    have f142 := (f115.keep K113)
    have f143 := (f121.keep K113)
    have f144 := (f122.keep K113 (ninS (Nat.ne_of_lt (Nat.lt_of_lt_of_le f106.lt (Nat.le_of_eq g112.symm))) nin0))
    obtain ⟨ob_134, hv_134, rfl, N134q, K134, p134_0, p134_1, p134_2, p134_3, p134_4, p134_5, p134_6⟩ := hQ134
    have hk134 := Nat.le_trans hk113 K134.1
    have g_ob_134 : n0 ≤ ob_134 := Nat.le_trans (Nat.le_trans (Nat.le_trans (Nat.le_trans (Nat.le_trans (Nat.le_trans (Nat.le_trans (Nat.le_trans (Nat.le_trans (Nat.le_trans (Nat.le_trans (Nat.le_trans Z0 E1.1) (Keep.of_wr W7).1) (Keep.of_wr W13).1) K14.1) K25.1) (Keep.of_wr W43).1) K44.1) K58.1) (Keep.of_wr W79).1) E112.1) K113.1) p134_0
    have sz_ob_134 : h0.size ≤ ob_134 := Nat.le_trans ((((((((((((Keep.refl h0 []).ext E1).wr W7 (Or.inr sz_b1)).wr W13 (Or.inr sz_b1)).trans K14 all0).trans K25 (allS (Or.inr sz_ob_14) all0)).wr W43 (Or.inr sz_b1)).trans K44 all0).trans K58 (allS (Or.inr sz_ob_44) all0)).wr W79 (Or.inr sz_b1)).ext E112).trans K113 (allS (Or.inr sz_b112) all0)).1 p134_0
    have N134 := Fr.app N113 N134q
    have f145 := (own_sta_keep (own_sta_keep (((own_sta_keep (own_sta_keep ((own_sta_keep (own_sta_keep ((f2.wr W7).wr W13) K14 all0) K25 pl25).wr W43) K44 all0) K58 pl58).wr W79).ext E112) K113 pl113) K134 all0)
    obtain ⟨T146, X146, e146, st146⟩ := getS2 X134 hx hZ58 hown58 (host := "") (Or.inl (own_at hw 2 rfl)) Via.refl rfl f145 (g := (mkF m 145 #[iv p0, iv p1, iv p2, iv p3, iv 0, rv b1, rv x62, rv x72, rv x82, rv b112, rv ob_134, .unset, .unset] [(.ref b112)])) rfl (hb hby at_145)
    have f148 := (own_sta_keep (own_sta_keep f114 K113 pl113) K134 all0)
    have f149 := (f144.keep K134 nin0)
    have f150 := (p113_0.keep K134)
    have f151 := (p113_1.keep K134 nin0)
    have f152 := (p113_2.keep K134 nin0)
    have f153 := (p113_3.keep K134 nin0)
    have f154 := (f142.keep K134)
    obtain ⟨_, T147, L147, X147, hQ147, st147⟩ := own_cV 0 (rm26_0 l Z a0 hw [] b112 w_THING w_DEFAULTCAPACITY_EMPTY_ELEMENTDATA kD (0 : Int32) T134.heap n0 (Nat.le_trans (Nat.le_trans (Nat.le_trans (Nat.le_trans (Nat.le_trans (Nat.le_trans (Nat.le_trans (Nat.le_trans (Nat.le_trans (Nat.le_trans (Nat.le_trans (Nat.le_trans Z0 E1.1) (Keep.of_wr W7).1) (Keep.of_wr W13).1) K14.1) K25.1) (Keep.of_wr W43).1) K44.1) K58.1) (Keep.of_wr W79).1) E112.1) K113.1) K134.1) f148 f149 f150 f151 f152 f153 f154 g_b112 (Nat.ne_of_lt (Nat.lt_of_lt_of_le f106.lt (Nat.le_of_eq g112.symm)))) X146 hx hZ58 hown58 hw 197 198 200 199 146 201 rfl rfl rfl rfl rfl rfl b112 f150 148 #[iv p0, iv p1, iv p2, iv p3, iv 0, rv b1, rv x62, rv x72, rv x82, rv b112, rv ob_134, .unset, .unset] [(.ref w_THING)] [] (hb hby at_148) hml (lenOf pd_30 rfl) e146 rfl (Nat.le_refl _) (by decide)
    have f155 := (f136.keep K134)
    have f156 := (f139.keep K134)
    have f157 := (f141.keep K134 nin0)
    have f158 := (f143.keep K134)
    obtain ⟨ar_147, kk_147, rfl, N147q, K147, p147_0, p147_1, p147_2, p147_3, p147_4, p147_5, p147_6, p147_7⟩ := hQ147
    have pl147 := (allS (P := fun x => ∃ cell : Cell, T134.heap[x]? = some cell ∧ cell.vm.isStatics = false) (own_ns f150) all0)
    have hk147 := Nat.le_trans hk134 K147.1
    have g_ar_147 : n0 ≤ ar_147 := Nat.le_trans (Nat.le_trans (Nat.le_trans (Nat.le_trans (Nat.le_trans (Nat.le_trans (Nat.le_trans (Nat.le_trans (Nat.le_trans (Nat.le_trans (Nat.le_trans (Nat.le_trans (Nat.le_trans Z0 E1.1) (Keep.of_wr W7).1) (Keep.of_wr W13).1) K14.1) K25.1) (Keep.of_wr W43).1) K44.1) K58.1) (Keep.of_wr W79).1) E112.1) K113.1) K134.1) p147_0
    have sz_ar_147 : h0.size ≤ ar_147 := Nat.le_trans (((((((((((((Keep.refl h0 []).ext E1).wr W7 (Or.inr sz_b1)).wr W13 (Or.inr sz_b1)).trans K14 all0).trans K25 (allS (Or.inr sz_ob_14) all0)).wr W43 (Or.inr sz_b1)).trans K44 all0).trans K58 (allS (Or.inr sz_ob_44) all0)).wr W79 (Or.inr sz_b1)).ext E112).trans K113 (allS (Or.inr sz_b112) all0)).trans K134 all0).1 p147_0
    have N147 := Fr.app N134 N147q
    have f160 := (p134_5.keep K147 (ninS (Ne.symm (Nat.ne_of_lt (Nat.lt_of_lt_of_le p113_0.lt p134_0))) nin0))
    have f161 := (p134_1.keep K147)
    obtain ⟨_, T159, L159, X159, hQ159, st159⟩ := own_cV 0 (rm31 l Z a0 hw [] ob_134 w_EMPTY_LIST T147.heap n0 (Nat.le_trans (Nat.le_trans (Nat.le_trans (Nat.le_trans (Nat.le_trans (Nat.le_trans (Nat.le_trans (Nat.le_trans (Nat.le_trans (Nat.le_trans (Nat.le_trans (Nat.le_trans (Nat.le_trans Z0 E1.1) (Keep.of_wr W7).1) (Keep.of_wr W13).1) K14.1) K25.1) (Keep.of_wr W43).1) K44.1) K58.1) (Keep.of_wr W79).1) E112.1) K113.1) K134.1) K147.1) f160) X147 hx hZ58 hown58 hw 226 227 229 228 3 230 rfl rfl rfl rfl rfl rfl ob_134 f161 154 #[iv p0, iv p1, iv p2, iv p3, iv 0, rv b1, rv x62, rv x72, rv x82, rv b112, rv ob_134, .unset, .unset] [] [] (hb hby at_154) hml (lenOf pd_12 rfl) rfl rfl (Nat.le_refl _) (by decide)
    obtain ⟨rfl, N159q, e159⟩ := hQ159
    have N159 := Fr.app N147 N159q
    have f163 := (p134_2.keep K147 (ninS (Ne.symm (Nat.ne_of_lt (Nat.lt_of_lt_of_le p113_0.lt p134_0))) nin0))
    obtain ⟨_, T162, L162, X162, hQ162, st162⟩ := own_cV 0 (rm32 l Z a0 hw [] ob_134 w_AND T147.heap n0 (Nat.le_trans (Nat.le_trans (Nat.le_trans (Nat.le_trans (Nat.le_trans (Nat.le_trans (Nat.le_trans (Nat.le_trans (Nat.le_trans (Nat.le_trans (Nat.le_trans (Nat.le_trans (Nat.le_trans Z0 E1.1) (Keep.of_wr W7).1) (Keep.of_wr W13).1) K14.1) K25.1) (Keep.of_wr W43).1) K44.1) K58.1) (Keep.of_wr W79).1) E112.1) K113.1) K134.1) K147.1) f163) X159 hx hZ58 hown58 hw 231 232 234 233 3 235 rfl rfl rfl rfl rfl rfl ob_134 f161 161 #[iv p0, iv p1, iv p2, iv p3, iv 0, rv b1, rv x62, rv x72, rv x82, rv b112, rv ob_134, rv w_EMPTY_LIST, .unset] [] [] (hb hby at_161) hml (lenOf pd_31 rfl) e159 rfl (Nat.le_refl _) (by decide)
    obtain ⟨rfl, N162q, e162⟩ := hQ162
    have N162 := Fr.app N159 N162q
    have f164 := (own_sta_keep (own_sta_keep f135 K134 all0) K147 pl147)
    obtain ⟨T165, X165, e165, st165⟩ := getS2 X162 hx hZ58 hown58 (host := "") (Or.inl (own_at hw 236 rfl)) Via.refl e162 f164 (g := (mkF m 164 #[iv p0, iv p1, iv p2, iv p3, iv 0, rv b1, rv x62, rv x72, rv x82, rv b112, rv ob_134, rv w_EMPTY_LIST, .unset] [(.ref w_AND)])) rfl (hb hby at_164)
    have f167 := (p134_3.keep K147 (ninS (Ne.symm (Nat.ne_of_lt (Nat.lt_of_lt_of_le p113_0.lt p134_0))) nin0))
    obtain ⟨_, T166, L166, X166, hQ166, st166⟩ := own_cV 0 (rm33 l Z a0 hw [] ob_134 T147.heap n0 (Nat.le_trans (Nat.le_trans (Nat.le_trans (Nat.le_trans (Nat.le_trans (Nat.le_trans (Nat.le_trans (Nat.le_trans (Nat.le_trans (Nat.le_trans (Nat.le_trans (Nat.le_trans (Nat.le_trans Z0 E1.1) (Keep.of_wr W7).1) (Keep.of_wr W13).1) K14.1) K25.1) (Keep.of_wr W43).1) K44.1) K58.1) (Keep.of_wr W79).1) E112.1) K113.1) K134.1) K147.1) f167) X165 hx hZ58 hown58 hw 237 238 240 239 3 241 rfl rfl rfl rfl rfl rfl ob_134 f161 172 #[iv p0, iv p1, iv p2, iv p3, iv 0, rv b1, rv x62, rv x72, rv x82, rv b112, rv ob_134, rv w_EMPTY_LIST, .unset] [] [] (hb hby at_172) hml (lenOf pd_32 rfl) e165 rfl (Nat.le_refl _) (by decide)
    obtain ⟨rfl, N166q, e166⟩ := hQ166
    have N166 := Fr.app N162 N166q
    have f169 := (p134_4.keep K147 (ninS (Ne.symm (Nat.ne_of_lt (Nat.lt_of_lt_of_le p113_0.lt p134_0))) nin0))
    obtain ⟨_, T168, L168, X168, hQ168, st168⟩ := own_cV 0 (rm34 l Z a0 hw [] ob_134 T147.heap n0 (Nat.le_trans (Nat.le_trans (Nat.le_trans (Nat.le_trans (Nat.le_trans (Nat.le_trans (Nat.le_trans (Nat.le_trans (Nat.le_trans (Nat.le_trans (Nat.le_trans (Nat.le_trans (Nat.le_trans Z0 E1.1) (Keep.of_wr W7).1) (Keep.of_wr W13).1) K14.1) K25.1) (Keep.of_wr W43).1) K44.1) K58.1) (Keep.of_wr W79).1) E112.1) K113.1) K134.1) K147.1) f169) X166 hx hZ58 hown58 hw 242 243 245 244 3 246 rfl rfl rfl rfl rfl rfl ob_134 f161 180 #[iv p0, iv p1, iv p2, iv p3, iv 0, rv b1, rv x62, rv x72, rv x82, rv b112, rv ob_134, rv w_EMPTY_LIST, .unset] [] [] (hb hby at_180) hml (lenOf pd_33 rfl) e166 rfl (Nat.le_refl _) (by decide)
    obtain ⟨rfl, N168q, e168⟩ := hQ168
    have N168 := Fr.app N166 N168q
    have f171 := ((f140.keep K134 nin0).keep K147 (ninS (Nat.ne_of_lt (Nat.lt_of_lt_of_le f103.lt (Nat.le_of_eq g112.symm))) nin0))
    have f172 := (f157.keep K147 (ninS (Nat.ne_of_lt (Nat.lt_of_lt_of_le f104.lt (Nat.le_of_eq g112.symm))) nin0))
    have f173 := (f156.keep K147)
    obtain ⟨_, T170, L170, X170, hQ170, st170⟩ := own_cI 0 (rm16_0 l Z a0 hw [] w_EMPTY_LIST wel kW T147.heap n0 (Nat.le_trans (Nat.le_trans (Nat.le_trans (Nat.le_trans (Nat.le_trans (Nat.le_trans (Nat.le_trans (Nat.le_trans (Nat.le_trans (Nat.le_trans (Nat.le_trans (Nat.le_trans (Nat.le_trans Z0 E1.1) (Keep.of_wr W7).1) (Keep.of_wr W13).1) K14.1) K25.1) (Keep.of_wr W43).1) K44.1) K58.1) (Keep.of_wr W79).1) E112.1) K113.1) K134.1) K147.1) f171 f172) X168 hx hZ58 hown58 hw 247 248 249 250 115 251 252 105 117 116 rfl rfl rfl rfl rfl rfl rfl rfl rfl rfl w_EMPTY_LIST f173 188 #[iv p0, iv p1, iv p2, iv p3, iv 0, rv b1, rv x62, rv x72, rv x82, rv b112, rv ob_134, rv w_EMPTY_LIST, .unset] [] [] (hb hby at_188) hml (lenOf pd_5 rfl) e168 rfl (Nat.le_refl _) (by decide)
    obtain ⟨rfl, N170q, e170⟩ := hQ170
    have N170 := Fr.app N168 N170q
    obtain ⟨fs, hr, hrun, hended, hRW⟩ := X170.leaveW hS58 (by rw [e170]; exact hk147) (v := some (.int 1)) (fun h => by rw [Bd.returns] at h; cases h)
    have hCE : CHr Z own_EL s.vm s.heap T170.vm T170.heap := own_cr (by rw [hh, e170]; exact ((((((((((((((Keep.refl h0 []).ext E1).wr W7 (Or.inr sz_b1)).wr W13 (Or.inr sz_b1)).trans K14 all0).trans K25 (allS (Or.inr sz_ob_14) all0)).wr W43 (Or.inr sz_b1)).trans K44 all0).trans K58 (allS (Or.inr sz_ob_44) all0)).wr W79 (Or.inr sz_b1)).ext E112).trans K113 (allS (Or.inr sz_b112) all0)).trans K134 all0).trans K147 (allS (Or.inr sz_b112) all0)).1)
    refine ⟨_, _, k133 _ ?_, hrun, hended, _, _, rfl, ?_, hCE, hRW.1, hRW.2.1, hRW.2.2.1, hRW.2.2.2.mono (by decide) (by decide)⟩
    · rw [hk]
      refine oIl X113 hx hby at_94 rfl (oIc X113 hx hby at_96 ?_)
      refine XS.icmpYes X113.here hx rfl (pc0 := 97) (pc' := 108) rfl (hb hby at_97) rfl (tlt (by decide : (0 : Int32) < (1 : Int32))).1 (by decide) (by decide) ?_
      refine oIl X113 hx hby at_108 rfl (oIc X113 hx hby at_110 ?_)
      refine XS.icmpYes X113.here hx rfl (pc0 := 111) (pc' := 122) rfl (hb hby at_111) rfl (tlt (by decide : (0 : Int32) < (2 : Int32))).1 (by decide) (by decide) ?_
      refine oIl X113 hx hby at_122 rfl (oIc X113 hx hby at_124 ?_)
      refine XS.icmpYes X113.here hx rfl (pc0 := 125) (pc' := 136) rfl (hb hby at_125) rfl (tlt (by decide : (0 : Int32) < (3 : Int32))).1 (by decide) (by decide) ?_
      refine oAl X113 hx hby at_136 rfl rfl ?_
      refine st134 _ ?_
      refine XS.astore X134.here hx rfl (hb hby at_141) rfl rfl (l' := #[iv p0, iv p1, iv p2, iv p3, iv 0, rv b1, rv x62, rv x72, rv x82, rv b112, rv ob_134, .unset, .unset]) rfl ?_
      refine oAl X134 hx hby at_143 rfl rfl ?_
      refine st146 _ ?_
      refine st147 _ ?_
      refine XS.pop X147.here hx rfl (hb hby at_151) rfl rfl ?_
      refine oAl X147 hx hby at_152 rfl rfl ?_
      refine st159 _ ?_
      refine XS.astore X159.here hx rfl (hb hby at_157) rfl rfl (l' := #[iv p0, iv p1, iv p2, iv p3, iv 0, rv b1, rv x62, rv x72, rv x82, rv b112, rv ob_134, rv w_EMPTY_LIST, .unset]) rfl ?_
      refine oAl X159 hx hby at_159 rfl rfl ?_
      refine st162 _ ?_
      refine st165 _ ?_
      refine Jvm.RoadKit.acmp (g := (mkF m 167 #[iv p0, iv p1, iv p2, iv p3, iv 0, rv b1, rv x62, rv x72, rv x82, rv b112, rv ob_134, rv w_EMPTY_LIST, .unset] [(.ref w_AND), (.ref w_AND)])) X165 hx rfl rfl rfl (pc0 := 167) (pc' := 170) (same := true) rfl (hb hby at_167) rfl (decide_eq_true rfl) (by decide) (by decide) ?_
      refine oAl X165 hx hby at_170 rfl rfl ?_
      refine st166 _ ?_
      refine XS.ifnonnullNo X166.here hx rfl (hb hby at_175) rfl ?_
      refine oAl X166 hx hby at_178 rfl rfl ?_
      refine st168 _ ?_
      refine XS.ifnonnullNo X168.here hx rfl (hb hby at_183) rfl ?_
      show OwnS p e below T168 (mkF m 186 #[iv p0, iv p1, iv p2, iv p3, iv 0, rv b1, rv x62, rv x72, rv x82, rv b112, rv ob_134, rv w_EMPTY_LIST, .unset] []) _
      refine oAl X168 hx hby at_186 rfl rfl ?_
      refine st170 _ ?_
      refine oIl X170 hx hby at_193 rfl ?_
      refine XS.icmpNo X170.here hx rfl (hb hby at_195) rfl (teq (by decide : (0 : Int32) = (0 : Int32))).2 ?_
      refine oIc X170 hx hby at_198 (oGo X170 hx hby 199 203 at_199 (by decide) (by decide) ?_)
      refine XS.istore X170.here hx rfl (hb hby at_203) rfl (l' := #[iv p0, iv p1, iv p2, iv p3, iv 0, rv b1, rv x62, rv x72, rv x82, rv b112, rv ob_134, rv w_EMPTY_LIST, iv 1]) rfl ?_
      refine oIl X170 hx hby at_205 rfl ?_
      refine XS.ifNo X170.here hx rfl (hb hby at_207) rfl ((if0 _ _).trans (feq (by decide : ¬ ((1 : Int32) = (0 : Int32)))).1) ?_
      refine oIl X170 hx hby at_210 rfl (oIc X170 hx hby at_212 ?_)
      refine XS.icmpYes X170.here hx rfl (pc0 := 213) (pc' := 236) rfl (hb hby at_213) rfl (tlt (by decide : (0 : Int32) < (1 : Int32))).1 (by decide) (by decide) ?_
      refine oIl X170 hx hby at_236 rfl ?_
      refine XS.ifNo X170.here hx rfl (hb hby at_238) rfl ((if0 _ _).trans (feq (by decide : ¬ ((1 : Int32) = (0 : Int32)))).1) ?_
      refine oIl X170 hx hby at_241 rfl (oIc X170 hx hby at_243 ?_)
      refine XS.icmpYes X170.here hx rfl (pc0 := 244) (pc' := 267) rfl (hb hby at_244) rfl (tlt (by decide : (0 : Int32) < (2 : Int32))).1 (by decide) (by decide) ?_
      refine oIl X170 hx hby at_267 rfl ?_
      refine XS.ifNo X170.here hx rfl (hb hby at_269) rfl ((if0 _ _).trans (feq (by decide : ¬ ((1 : Int32) = (0 : Int32)))).1) ?_
      refine oIl X170 hx hby at_272 rfl (oIc X170 hx hby at_274 ?_)
      refine XS.icmpYes X170.here hx rfl (pc0 := 275) (pc' := 298) rfl (hb hby at_275) rfl (tlt (by decide : (0 : Int32) < (3 : Int32))).1 (by decide) (by decide) ?_
      refine oIl X170 hx hby at_298 rfl ?_
      exact retN X170 hx (t := .boolean) Bd.returns (by simp) (hb hby at_300) hr
    · show Q_0 Z _ _ _ _ _ _ _ _ _ _ _ _ _ _ _ _ h0 n0 _ T170.heap _
      rw [e170]
      exact ⟨rfl, N170, trivial⟩
  · have f175 := (own_sta_keep f114 K113 pl113)
    have f176 := (f122.keep K113 (ninS (Nat.ne_of_lt (Nat.lt_of_lt_of_le f106.lt (Nat.le_of_eq g112.symm))) nin0))
    have f177 := (f130.keep K113)
    obtain ⟨_, T174, L174, X174, hQ174, st174⟩ := own_cV 0 (rm26_0 l Z a0 hw [] b112 x62 w_DEFAULTCAPACITY_EMPTY_ELEMENTDATA kD (0 : Int32) T113.heap n0 (Nat.le_trans (Nat.le_trans (Nat.le_trans (Nat.le_trans (Nat.le_trans (Nat.le_trans (Nat.le_trans (Nat.le_trans (Nat.le_trans (Nat.le_trans (Nat.le_trans Z0 E1.1) (Keep.of_wr W7).1) (Keep.of_wr W13).1) K14.1) K25.1) (Keep.of_wr W43).1) K44.1) K58.1) (Keep.of_wr W79).1) E112.1) K113.1) f175 f176 p113_0 p113_1 p113_2 p113_3 f177 g_b112 (Nat.ne_of_lt (Nat.lt_of_lt_of_le f106.lt (Nat.le_of_eq g112.symm)))) X113 hx hZ58 hown58 hw 197 198 200 199 146 201 rfl rfl rfl rfl rfl rfl b112 p113_0 104 #[iv p0, iv p1, iv p2, iv p3, iv 1, rv b1, rv x62, rv x72, rv x82, rv b112, .unset, .unset, .unset] [(.ref x62)] [] (hb hby at_104) hml (lenOf pd_30 rfl) rfl rfl (Nat.le_refl _) (by decide)
    have f178 := (f115.keep K113)
    have f179 := (f118.keep K113)
    have f180 := (f119.keep K113)
    have f181 := (f120.keep K113 (ninS (Nat.ne_of_lt (Nat.lt_of_lt_of_le f104.lt (Nat.le_of_eq g112.symm))) nin0))
    have f182 := (f121.keep K113)
    obtain ⟨ar_174, kk_174, rfl, N174q, K174, p174_0, p174_1, p174_2, p174_3, p174_4, p174_5, p174_6, p174_7⟩ := hQ174
    have pl174 := (allS (P := fun x => ∃ cell : Cell, T113.heap[x]? = some cell ∧ cell.vm.isStatics = false) (own_ns p113_0) all0)
    have hk174 := Nat.le_trans hk113 K174.1
    have g_ar_174 : n0 ≤ ar_174 := Nat.le_trans (Nat.le_trans (Nat.le_trans (Nat.le_trans (Nat.le_trans (Nat.le_trans (Nat.le_trans (Nat.le_trans (Nat.le_trans (Nat.le_trans (Nat.le_trans (Nat.le_trans Z0 E1.1) (Keep.of_wr W7).1) (Keep.of_wr W13).1) K14.1) K25.1) (Keep.of_wr W43).1) K44.1) K58.1) (Keep.of_wr W79).1) E112.1) K113.1) p174_0
    have sz_ar_174 : h0.size ≤ ar_174 := Nat.le_trans ((((((((((((Keep.refl h0 []).ext E1).wr W7 (Or.inr sz_b1)).wr W13 (Or.inr sz_b1)).trans K14 all0).trans K25 (allS (Or.inr sz_ob_14) all0)).wr W43 (Or.inr sz_b1)).trans K44 all0).trans K58 (allS (Or.inr sz_ob_44) all0)).wr W79 (Or.inr sz_b1)).ext E112).trans K113 (allS (Or.inr sz_b112) all0)).1 p174_0
    have N174 := Fr.app N113 N174q
    have f184 := (own_sta_keep (own_sta_keep (((own_sta_keep (own_sta_keep ((own_sta_keep (own_sta_keep (((S_AND.ext E1).wr W7).wr W13) K14 all0) K25 pl25).wr W43) K44 all0) K58 pl58).wr W79).ext E112) K113 pl113) K174 pl174)
    have f185 := (f179.keep K174)
    have f186 := ((((((((((((F_ordinal_w_AND.ext E1).other W7 (Or.inl (Nat.ne_of_lt (Nat.lt_of_lt_of_le E_w_AND.lt (Nat.le_of_eq g1.symm))))).other W13 (Or.inl (Nat.ne_of_lt (Nat.lt_of_lt_of_le E_w_AND.lt (Nat.le_of_eq g1.symm))))).keep K14 nin0).keep K25 (ninS (Nat.ne_of_lt (Nat.lt_of_lt_of_le f19.lt p14_0)) nin0)).other W43 (Or.inl (Nat.ne_of_lt (Nat.lt_of_lt_of_le E_w_AND.lt (Nat.le_of_eq g1.symm))))).keep K44 nin0).keep K58 (ninS (Nat.ne_of_lt (Nat.lt_of_lt_of_le f49.lt p44_0)) nin0)).other W79 (Or.inl (Nat.ne_of_lt (Nat.lt_of_lt_of_le E_w_AND.lt (Nat.le_of_eq g1.symm))))).ext E112).keep K113 (ninS (Nat.ne_of_lt (Nat.lt_of_lt_of_le f102.lt (Nat.le_of_eq g112.symm))) nin0)).keep K174 (ninS (Nat.ne_of_lt (Nat.lt_of_lt_of_le f102.lt (Nat.le_of_eq g112.symm))) nin0))
    have f187 := (own_sta_keep (own_sta_keep (((own_sta_keep (own_sta_keep ((own_sta_keep (own_sta_keep (((S_EMPTY.ext E1).wr W7).wr W13) K14 all0) K25 pl25).wr W43) K44 all0) K58 pl58).wr W79).ext E112) K113 pl113) K174 pl174)
    have f188 := (f177.keep K174)
    have f189 := (((F_x62.ext E112).keep K113 (ninS (Nat.ne_of_lt (Nat.lt_of_lt_of_le E_x62.lt (Nat.le_of_eq g112.symm))) nin0)).keep K174 (ninS (Nat.ne_of_lt (Nat.lt_of_lt_of_le E_x62.lt (Nat.le_of_eq g112.symm))) nin0))
    obtain ⟨_, T183, L183, X183, hQ183, st183⟩ := own_cS 0 (rm22_1 l Z a0 hw [] b112 w_AND w_EMPTY mir_Object_ ar_174 kk_174 x62 u62 T174.heap n0 (Nat.le_trans (Nat.le_trans (Nat.le_trans (Nat.le_trans (Nat.le_trans (Nat.le_trans (Nat.le_trans (Nat.le_trans (Nat.le_trans (Nat.le_trans (Nat.le_trans (Nat.le_trans Z0 E1.1) (Keep.of_wr W7).1) (Keep.of_wr W13).1) K14.1) K25.1) (Keep.of_wr W43).1) K44.1) K58.1) (Keep.of_wr W79).1) E112.1) K113.1) K174.1) f184 f185 f186 M_mir_Object_ f187 p174_4 p174_6 p174_7 p174_2 p174_3 f188 f189) X174 hx hZ58 hown58 hw 168 169 3 170 rfl rfl rfl rfl 138 #[iv p0, iv p1, iv p2, iv p3, iv 1, rv b1, rv x62, rv x72, rv x82, rv b112, .unset, .unset, .unset] [(.ref b112)] [] (hb hby at_138) hml (lenOf pd_29 rfl) rfl rfl (Nat.le_refl _) (by decide)
    have f190 := (f178.keep K174)
    have f191 := (f180.keep K174)
    have f192 := (f181.keep K174 (ninS (Nat.ne_of_lt (Nat.lt_of_lt_of_le f104.lt (Nat.le_of_eq g112.symm))) nin0))
    have f193 := (f182.keep K174)
    have f194 := (f176.keep K174 (ninS (Nat.ne_of_lt (Nat.lt_of_lt_of_le f106.lt (Nat.le_of_eq g112.symm))) nin0))
    obtain ⟨ob_183, hv_183, ls_183, rfl, N183q, K183, p183_0, p183_1, p183_2, p183_3, p183_4, p183_5, p183_6, p183_7, p183_8, p183_9, p183_10⟩ := hQ183
    have hk183 := Nat.le_trans hk174 K183.1
    have g_ob_183 : n0 ≤ ob_183 := Nat.le_trans (Nat.le_trans (Nat.le_trans (Nat.le_trans (Nat.le_trans (Nat.le_trans (Nat.le_trans (Nat.le_trans (Nat.le_trans (Nat.le_trans (Nat.le_trans (Nat.le_trans (Nat.le_trans Z0 E1.1) (Keep.of_wr W7).1) (Keep.of_wr W13).1) K14.1) K25.1) (Keep.of_wr W43).1) K44.1) K58.1) (Keep.of_wr W79).1) E112.1) K113.1) K174.1) p183_0
    have sz_ob_183 : h0.size ≤ ob_183 := Nat.le_trans (((((((((((((Keep.refl h0 []).ext E1).wr W7 (Or.inr sz_b1)).wr W13 (Or.inr sz_b1)).trans K14 all0).trans K25 (allS (Or.inr sz_ob_14) all0)).wr W43 (Or.inr sz_b1)).trans K44 all0).trans K58 (allS (Or.inr sz_ob_44) all0)).wr W79 (Or.inr sz_b1)).ext E112).trans K113 (allS (Or.inr sz_b112) all0)).trans K174 (allS (Or.inr sz_b112) all0)).1 p183_0
    have g_ls_183 : n0 ≤ ls_183 := Nat.le_trans (Nat.le_trans (Nat.le_trans (Nat.le_trans (Nat.le_trans (Nat.le_trans (Nat.le_trans (Nat.le_trans (Nat.le_trans (Nat.le_trans (Nat.le_trans (Nat.le_trans (Nat.le_trans Z0 E1.1) (Keep.of_wr W7).1) (Keep.of_wr W13).1) K14.1) K25.1) (Keep.of_wr W43).1) K44.1) K58.1) (Keep.of_wr W79).1) E112.1) K113.1) K174.1) p183_1
    have sz_ls_183 : h0.size ≤ ls_183 := Nat.le_trans (((((((((((((Keep.refl h0 []).ext E1).wr W7 (Or.inr sz_b1)).wr W13 (Or.inr sz_b1)).trans K14 all0).trans K25 (allS (Or.inr sz_ob_14) all0)).wr W43 (Or.inr sz_b1)).trans K44 all0).trans K58 (allS (Or.inr sz_ob_44) all0)).wr W79 (Or.inr sz_b1)).ext E112).trans K113 (allS (Or.inr sz_b112) all0)).trans K174 (allS (Or.inr sz_b112) all0)).1 p183_1
    have N183 := Fr.app N174 N183q
    have f195 := (own_sta_keep (own_sta_keep (own_sta_keep (((own_sta_keep (own_sta_keep ((own_sta_keep (own_sta_keep ((f2.wr W7).wr W13) K14 all0) K25 pl25).wr W43) K44 all0) K58 pl58).wr W79).ext E112) K113 pl113) K174 pl174) K183 all0)
    obtain ⟨T196, X196, e196, st196⟩ := getS2 X183 hx hZ58 hown58 (host := "") (Or.inl (own_at hw 2 rfl)) Via.refl rfl f195 (g := (mkF m 145 #[iv p0, iv p1, iv p2, iv p3, iv 1, rv b1, rv x62, rv x72, rv x82, rv b112, rv ob_183, .unset, .unset] [(.ref b112)])) rfl (hb hby at_145)
    have f198 := (p174_4.keep K183)
    have f199 := (p174_5.keep K183 nin0)
    have f200 := (p174_6.keep K183 nin0)
    have f201 := (p174_7.keep K183 nin0)
    have f202 := (p174_2.keep K183)
    have f203 := (p174_3.keep K183 nin0)
    have f204 := (f190.keep K183)
    obtain ⟨_, T197, L197, X197, hQ197, st197⟩ := own_cV 0 (rm26_1 l Z a0 hw [] b112 w_THING ar_174 kk_174 ((0 : Int32) + (1 : Int32)) x62 T183.heap n0 (Nat.le_trans (Nat.le_trans (Nat.le_trans (Nat.le_trans (Nat.le_trans (Nat.le_trans (Nat.le_trans (Nat.le_trans (Nat.le_trans (Nat.le_trans (Nat.le_trans (Nat.le_trans (Nat.le_trans Z0 E1.1) (Keep.of_wr W7).1) (Keep.of_wr W13).1) K14.1) K25.1) (Keep.of_wr W43).1) K44.1) K58.1) (Keep.of_wr W79).1) E112.1) K113.1) K174.1) K183.1) f198 f199 f200 f201 f202 f203 f204 p174_1 g_b112 g_ar_174) X196 hx hZ58 hown58 hw 197 198 200 199 146 201 rfl rfl rfl rfl rfl rfl b112 f198 148 #[iv p0, iv p1, iv p2, iv p3, iv 1, rv b1, rv x62, rv x72, rv x82, rv b112, rv ob_183, .unset, .unset] [(.ref w_THING)] [] (hb hby at_148) hml (lenOf pd_30 rfl) e196 rfl (Nat.le_refl _) (by decide)
    have f205 := (f185.keep K183)
    have f206 := (f191.keep K183)
    have f207 := (f192.keep K183 nin0)
    have f208 := (f193.keep K183)
    have f209 := (f194.keep K183 nin0)
    have f210 := (f188.keep K183)
    obtain ⟨rfl, N197q, K197, p197_0, p197_1, p197_2, p197_3, p197_4, p197_5⟩ := hQ197
    have pl197 := (allS (P := fun x => ∃ cell : Cell, T183.heap[x]? = some cell ∧ cell.vm.isStatics = false) (own_ns f198) (allS (P := fun x => ∃ cell : Cell, T183.heap[x]? = some cell ∧ cell.vm.isStatics = false) (own_ns f202) all0))
    have hk197 := Nat.le_trans hk183 K197.1
    have N197 := Fr.app N183 N197q
    have f212 := (p183_6.keep K197 (ninS (Ne.symm (Nat.ne_of_lt (Nat.lt_of_lt_of_le p174_4.lt p183_0))) (ninS (Ne.symm (Nat.ne_of_lt (Nat.lt_of_lt_of_le p174_2.lt p183_0))) nin0)))
    have f213 := (p183_2.keep K197)
    obtain ⟨_, T211, L211, X211, hQ211, st211⟩ := own_cV 0 (rm31 l Z a0 hw [] ob_183 ls_183 T197.heap n0 (Nat.le_trans (Nat.le_trans (Nat.le_trans (Nat.le_trans (Nat.le_trans (Nat.le_trans (Nat.le_trans (Nat.le_trans (Nat.le_trans (Nat.le_trans (Nat.le_trans (Nat.le_trans (Nat.le_trans (Nat.le_trans Z0 E1.1) (Keep.of_wr W7).1) (Keep.of_wr W13).1) K14.1) K25.1) (Keep.of_wr W43).1) K44.1) K58.1) (Keep.of_wr W79).1) E112.1) K113.1) K174.1) K183.1) K197.1) f212) X197 hx hZ58 hown58 hw 226 227 229 228 3 230 rfl rfl rfl rfl rfl rfl ob_183 f213 154 #[iv p0, iv p1, iv p2, iv p3, iv 1, rv b1, rv x62, rv x72, rv x82, rv b112, rv ob_183, .unset, .unset] [] [] (hb hby at_154) hml (lenOf pd_12 rfl) rfl rfl (Nat.le_refl _) (by decide)
    obtain ⟨rfl, N211q, e211⟩ := hQ211
    have N211 := Fr.app N197 N211q
    have f215 := (p183_3.keep K197 (ninS (Ne.symm (Nat.ne_of_lt (Nat.lt_of_lt_of_le p174_4.lt p183_0))) (ninS (Ne.symm (Nat.ne_of_lt (Nat.lt_of_lt_of_le p174_2.lt p183_0))) nin0)))
    obtain ⟨_, T214, L214, X214, hQ214, st214⟩ := own_cV 0 (rm32 l Z a0 hw [] ob_183 w_AND T197.heap n0 (Nat.le_trans (Nat.le_trans (Nat.le_trans (Nat.le_trans (Nat.le_trans (Nat.le_trans (Nat.le_trans (Nat.le_trans (Nat.le_trans (Nat.le_trans (Nat.le_trans (Nat.le_trans (Nat.le_trans (Nat.le_trans Z0 E1.1) (Keep.of_wr W7).1) (Keep.of_wr W13).1) K14.1) K25.1) (Keep.of_wr W43).1) K44.1) K58.1) (Keep.of_wr W79).1) E112.1) K113.1) K174.1) K183.1) K197.1) f215) X211 hx hZ58 hown58 hw 231 232 234 233 3 235 rfl rfl rfl rfl rfl rfl ob_183 f213 161 #[iv p0, iv p1, iv p2, iv p3, iv 1, rv b1, rv x62, rv x72, rv x82, rv b112, rv ob_183, rv ls_183, .unset] [] [] (hb hby at_161) hml (lenOf pd_31 rfl) e211 rfl (Nat.le_refl _) (by decide)
    obtain ⟨rfl, N214q, e214⟩ := hQ214
    have N214 := Fr.app N211 N214q
    have f216 := (own_sta_keep (own_sta_keep f184 K183 all0) K197 pl197)
    obtain ⟨T217, X217, e217, st217⟩ := getS2 X214 hx hZ58 hown58 (host := "") (Or.inl (own_at hw 236 rfl)) Via.refl e214 f216 (g := (mkF m 164 #[iv p0, iv p1, iv p2, iv p3, iv 1, rv b1, rv x62, rv x72, rv x82, rv b112, rv ob_183, rv ls_183, .unset] [(.ref w_AND)])) rfl (hb hby at_164)
    have f219 := (p183_4.keep K197 (ninS (Ne.symm (Nat.ne_of_lt (Nat.lt_of_lt_of_le p174_4.lt p183_0))) (ninS (Ne.symm (Nat.ne_of_lt (Nat.lt_of_lt_of_le p174_2.lt p183_0))) nin0)))
    obtain ⟨_, T218, L218, X218, hQ218, st218⟩ := own_cV 0 (rm33 l Z a0 hw [] ob_183 T197.heap n0 (Nat.le_trans (Nat.le_trans (Nat.le_trans (Nat.le_trans (Nat.le_trans (Nat.le_trans (Nat.le_trans (Nat.le_trans (Nat.le_trans (Nat.le_trans (Nat.le_trans (Nat.le_trans (Nat.le_trans (Nat.le_trans Z0 E1.1) (Keep.of_wr W7).1) (Keep.of_wr W13).1) K14.1) K25.1) (Keep.of_wr W43).1) K44.1) K58.1) (Keep.of_wr W79).1) E112.1) K113.1) K174.1) K183.1) K197.1) f219) X217 hx hZ58 hown58 hw 237 238 240 239 3 241 rfl rfl rfl rfl rfl rfl ob_183 f213 172 #[iv p0, iv p1, iv p2, iv p3, iv 1, rv b1, rv x62, rv x72, rv x82, rv b112, rv ob_183, rv ls_183, .unset] [] [] (hb hby at_172) hml (lenOf pd_32 rfl) e217 rfl (Nat.le_refl _) (by decide)
    obtain ⟨rfl, N218q, e218⟩ := hQ218
    have N218 := Fr.app N214 N218q
    have f221 := (p183_5.keep K197 (ninS (Ne.symm (Nat.ne_of_lt (Nat.lt_of_lt_of_le p174_4.lt p183_0))) (ninS (Ne.symm (Nat.ne_of_lt (Nat.lt_of_lt_of_le p174_2.lt p183_0))) nin0)))
    obtain ⟨_, T220, L220, X220, hQ220, st220⟩ := own_cV 0 (rm34 l Z a0 hw [] ob_183 T197.heap n0 (Nat.le_trans (Nat.le_trans (Nat.le_trans (Nat.le_trans (Nat.le_trans (Nat.le_trans (Nat.le_trans (Nat.le_trans (Nat.le_trans (Nat.le_trans (Nat.le_trans (Nat.le_trans (Nat.le_trans (Nat.le_trans Z0 E1.1) (Keep.of_wr W7).1) (Keep.of_wr W13).1) K14.1) K25.1) (Keep.of_wr W43).1) K44.1) K58.1) (Keep.of_wr W79).1) E112.1) K113.1) K174.1) K183.1) K197.1) f221) X218 hx hZ58 hown58 hw 242 243 245 244 3 246 rfl rfl rfl rfl rfl rfl ob_183 f213 180 #[iv p0, iv p1, iv p2, iv p3, iv 1, rv b1, rv x62, rv x72, rv x82, rv b112, rv ob_183, rv ls_183, .unset] [] [] (hb hby at_180) hml (lenOf pd_33 rfl) e218 rfl (Nat.le_refl _) (by decide)
    obtain ⟨rfl, N220q, e220⟩ := hQ220
    have N220 := Fr.app N218 N220q
    have f223 := (own_sta_keep (own_sta_keep f187 K183 all0) K197 pl197)
    have f224 := (p183_10.keep K197 (ninS (Ne.symm (Nat.ne_of_lt (Nat.lt_of_lt_of_le p174_4.lt p183_1))) (ninS (Ne.symm (Nat.ne_of_lt (Nat.lt_of_lt_of_le p174_2.lt p183_1))) nin0)))
    have f225 := (p183_8.keep K197)
    obtain ⟨_, T222, L222, X222, hQ222, st222⟩ := own_cI 0 (rm48_1 l Z a0 hw [] ls_183 w_EMPTY T197.heap n0 (Nat.le_trans (Nat.le_trans (Nat.le_trans (Nat.le_trans (Nat.le_trans (Nat.le_trans (Nat.le_trans (Nat.le_trans (Nat.le_trans (Nat.le_trans (Nat.le_trans (Nat.le_trans (Nat.le_trans (Nat.le_trans Z0 E1.1) (Keep.of_wr W7).1) (Keep.of_wr W13).1) K14.1) K25.1) (Keep.of_wr W43).1) K44.1) K58.1) (Keep.of_wr W79).1) E112.1) K113.1) K174.1) K183.1) K197.1) f223 f224) X220 hx hZ58 hown58 hw 247 248 249 358 350 359 360 348 351 332 rfl rfl rfl rfl rfl rfl rfl rfl rfl rfl ls_183 f225 188 #[iv p0, iv p1, iv p2, iv p3, iv 1, rv b1, rv x62, rv x72, rv x82, rv b112, rv ob_183, rv ls_183, .unset] [] [] (hb hby at_188) hml (lenOf pd_5 rfl) e220 rfl (Nat.le_refl _) (by decide)
    obtain ⟨rfl, N222q, e222⟩ := hQ222
    have N222 := Fr.app N220 N222q
    have f227 := (p183_9.keep K197 (ninS (Ne.symm (Nat.ne_of_lt (Nat.lt_of_lt_of_le p174_4.lt p183_1))) (ninS (Ne.symm (Nat.ne_of_lt (Nat.lt_of_lt_of_le p174_2.lt p183_1))) nin0)))
    obtain ⟨_, T226, L226, X226, hQ226, st226⟩ := own_cI 0 (rm49_0 l Z a0 hw [] ls_183 x62 T197.heap n0 (Nat.le_trans (Nat.le_trans (Nat.le_trans (Nat.le_trans (Nat.le_trans (Nat.le_trans (Nat.le_trans (Nat.le_trans (Nat.le_trans (Nat.le_trans (Nat.le_trans (Nat.le_trans (Nat.le_trans (Nat.le_trans Z0 E1.1) (Keep.of_wr W7).1) (Keep.of_wr W13).1) K14.1) K25.1) (Keep.of_wr W43).1) K44.1) K58.1) (Keep.of_wr W79).1) E112.1) K113.1) K174.1) K183.1) K197.1) f227) X222 hx hZ58 hown58 hw 329 322 323 353 354 355 356 348 357 332 rfl rfl rfl rfl rfl rfl rfl rfl rfl rfl ls_183 f225 219 #[iv p0, iv p1, iv p2, iv p3, iv 1, rv b1, rv x62, rv x72, rv x82, rv b112, rv ob_183, rv ls_183, iv 1] [(.int 0)] [] (hb hby at_219) hml (lenOf pd_7 rfl) e222 rfl (Nat.le_refl _) (by decide)
    obtain ⟨rfl, N226q, e226⟩ := hQ226
    have N226 := Fr.app N222 N226q
    obtain ⟨fs, hr, hrun, hended, hRW⟩ := X226.leaveW hS58 (by rw [e226]; exact hk197) (v := some (.int 1)) (fun h => by rw [Bd.returns] at h; cases h)
    have hCE : CHr Z own_EL s.vm s.heap T226.vm T226.heap := own_cr (by rw [hh, e226]; exact (((((((((((((((Keep.refl h0 []).ext E1).wr W7 (Or.inr sz_b1)).wr W13 (Or.inr sz_b1)).trans K14 all0).trans K25 (allS (Or.inr sz_ob_14) all0)).wr W43 (Or.inr sz_b1)).trans K44 all0).trans K58 (allS (Or.inr sz_ob_44) all0)).wr W79 (Or.inr sz_b1)).ext E112).trans K113 (allS (Or.inr sz_b112) all0)).trans K174 (allS (Or.inr sz_b112) all0)).trans K183 all0).trans K197 (allS (Or.inr sz_b112) (allS (Or.inr sz_ar_174) all0))).1)
    refine ⟨_, _, k133 _ ?_, hrun, hended, _, _, rfl, ?_, hCE, hRW.1, hRW.2.1, hRW.2.2.1, hRW.2.2.2.mono (by decide) (by decide)⟩
    · rw [hk]
      refine oIl X113 hx hby at_94 rfl (oIc X113 hx hby at_96 ?_)
      refine XS.icmpNo X113.here hx rfl (hb hby at_97) rfl (flt (by decide : ¬ ((1 : Int32) < (1 : Int32)))).1 ?_
      refine oAl X113 hx hby at_100 rfl rfl (oAl X113 hx hby at_102 rfl rfl ?_)
      refine st174 _ ?_
      refine XS.pop X174.here hx rfl (hb hby at_107) rfl rfl ?_
      refine oIl X174 hx hby at_108 rfl (oIc X174 hx hby at_110 ?_)
      refine XS.icmpYes X174.here hx rfl (pc0 := 111) (pc' := 122) rfl (hb hby at_111) rfl (tlt (by decide : (1 : Int32) < (2 : Int32))).1 (by decide) (by decide) ?_
      refine oIl X174 hx hby at_122 rfl (oIc X174 hx hby at_124 ?_)
      refine XS.icmpYes X174.here hx rfl (pc0 := 125) (pc' := 136) rfl (hb hby at_125) rfl (tlt (by decide : (1 : Int32) < (3 : Int32))).1 (by decide) (by decide) ?_
      refine oAl X174 hx hby at_136 rfl rfl ?_
      refine st183 _ ?_
      refine XS.astore X183.here hx rfl (hb hby at_141) rfl rfl (l' := #[iv p0, iv p1, iv p2, iv p3, iv 1, rv b1, rv x62, rv x72, rv x82, rv b112, rv ob_183, .unset, .unset]) rfl ?_
      refine oAl X183 hx hby at_143 rfl rfl ?_
      refine st196 _ ?_
      refine st197 _ ?_
      refine XS.pop X197.here hx rfl (hb hby at_151) rfl rfl ?_
      refine oAl X197 hx hby at_152 rfl rfl ?_
      refine st211 _ ?_
      refine XS.astore X211.here hx rfl (hb hby at_157) rfl rfl (l' := #[iv p0, iv p1, iv p2, iv p3, iv 1, rv b1, rv x62, rv x72, rv x82, rv b112, rv ob_183, rv ls_183, .unset]) rfl ?_
      refine oAl X211 hx hby at_159 rfl rfl ?_
      refine st214 _ ?_
      refine st217 _ ?_
      refine Jvm.RoadKit.acmp (g := (mkF m 167 #[iv p0, iv p1, iv p2, iv p3, iv 1, rv b1, rv x62, rv x72, rv x82, rv b112, rv ob_183, rv ls_183, .unset] [(.ref w_AND), (.ref w_AND)])) X217 hx rfl rfl rfl (pc0 := 167) (pc' := 170) (same := true) rfl (hb hby at_167) rfl (decide_eq_true rfl) (by decide) (by decide) ?_
      refine oAl X217 hx hby at_170 rfl rfl ?_
      refine st218 _ ?_
      show OwnS p e below T218 (mkF m 175 #[iv p0, iv p1, iv p2, iv p3, iv 1, rv b1, rv x62, rv x72, rv x82, rv b112, rv ob_183, rv ls_183, .unset] [.null]) _
      refine XS.ifnonnullNo X218.here hx rfl (hb hby at_175) rfl ?_
      refine oAl X218 hx hby at_178 rfl rfl ?_
      refine st220 _ ?_
      refine XS.ifnonnullNo X220.here hx rfl (hb hby at_183) rfl ?_
      refine oAl X220 hx hby at_186 rfl rfl ?_
      refine st222 _ ?_
      refine oIl X222 hx hby at_193 rfl ?_
      refine XS.icmpNo X222.here hx rfl (hb hby at_195) rfl (teq (by decide : (1 : Int32) = (1 : Int32))).2 ?_
      refine oIc X222 hx hby at_198 (oGo X222 hx hby 199 203 at_199 (by decide) (by decide) ?_)
      refine XS.istore X222.here hx rfl (hb hby at_203) rfl (l' := #[iv p0, iv p1, iv p2, iv p3, iv 1, rv b1, rv x62, rv x72, rv x82, rv b112, rv ob_183, rv ls_183, iv 1]) rfl ?_
      refine oIl X222 hx hby at_205 rfl ?_
      refine XS.ifNo X222.here hx rfl (hb hby at_207) rfl ((if0 _ _).trans (feq (by decide : ¬ ((1 : Int32) = (0 : Int32)))).1) ?_
      refine oIl X222 hx hby at_210 rfl (oIc X222 hx hby at_212 ?_)
      refine XS.icmpNo X222.here hx rfl (hb hby at_213) rfl (flt (by decide : ¬ ((1 : Int32) < (1 : Int32)))).1 ?_
      refine oAl X222 hx hby at_216 rfl rfl (oIc X222 hx hby at_218 ?_)
      refine st226 _ ?_
      refine oAl X226 hx hby at_224 rfl rfl ?_
      refine Jvm.RoadKit.acmp (g := (mkF m 226 #[iv p0, iv p1, iv p2, iv p3, iv 1, rv b1, rv x62, rv x72, rv x82, rv b112, rv ob_183, rv ls_183, iv 1] [(.ref x62), (.ref x62)])) X226 hx rfl rfl rfl (pc0 := 226) (pc' := 229) (same := true) rfl (hb hby at_226) rfl (decide_eq_true rfl) (by decide) (by decide) ?_
      refine oIc X226 hx hby at_229 (oGo X226 hx hby 230 234 at_230 (by decide) (by decide) ?_)
      refine XS.istore X226.here hx rfl (hb hby at_234) rfl (l' := #[iv p0, iv p1, iv p2, iv p3, iv 1, rv b1, rv x62, rv x72, rv x82, rv b112, rv ob_183, rv ls_183, iv 1]) rfl ?_
      refine oIl X226 hx hby at_236 rfl ?_
      refine XS.ifNo X226.here hx rfl (hb hby at_238) rfl ((if0 _ _).trans (feq (by decide : ¬ ((1 : Int32) = (0 : Int32)))).1) ?_
      refine oIl X226 hx hby at_241 rfl (oIc X226 hx hby at_243 ?_)
      refine XS.icmpYes X226.here hx rfl (pc0 := 244) (pc' := 267) rfl (hb hby at_244) rfl (tlt (by decide : (1 : Int32) < (2 : Int32))).1 (by decide) (by decide) ?_
      refine oIl X226 hx hby at_267 rfl ?_
      show OwnS p e below T226 (mkF m 269 #[iv p0, iv p1, iv p2, iv p3, iv 1, rv b1, rv x62, rv x72, rv x82, rv b112, rv ob_183, rv ls_183, iv 1] [(.int 1)]) _
      refine XS.ifNo X226.here hx rfl (hb hby at_269) rfl ((if0 _ _).trans (feq (by decide : ¬ ((1 : Int32) = (0 : Int32)))).1) ?_
      refine oIl X226 hx hby at_272 rfl (oIc X226 hx hby at_274 ?_)
      refine XS.icmpYes X226.here hx rfl (pc0 := 275) (pc' := 298) rfl (hb hby at_275) rfl (tlt (by decide : (1 : Int32) < (3 : Int32))).1 (by decide) (by decide) ?_
      refine oIl X226 hx hby at_298 rfl ?_
      exact retN X226 hx (t := .boolean) Bd.returns (by simp) (hb hby at_300) hr
    · show Q_0 Z _ _ _ _ _ _ _ _ _ _ _ _ _ _ _ _ h0 n0 _ T226.heap _
      rw [e226]
      exact ⟨rfl, N226, trivial⟩
  · have f229 := (own_sta_keep f114 K113 pl113)
    have f230 := (f122.keep K113 (ninS (Nat.ne_of_lt (Nat.lt_of_lt_of_le f106.lt (Nat.le_of_eq g112.symm))) nin0))
    have f231 := (f130.keep K113)
    obtain ⟨_, T228, L228, X228, hQ228, st228⟩ := own_cV 0 (rm26_0 l Z a0 hw [] b112 x62 w_DEFAULTCAPACITY_EMPTY_ELEMENTDATA kD (0 : Int32) T113.heap n0 (Nat.le_trans (Nat.le_trans (Nat.le_trans (Nat.le_trans (Nat.le_trans (Nat.le_trans (Nat.le_trans (Nat.le_trans (Nat.le_trans (Nat.le_trans (Nat.le_trans Z0 E1.1) (Keep.of_wr W7).1) (Keep.of_wr W13).1) K14.1) K25.1) (Keep.of_wr W43).1) K44.1) K58.1) (Keep.of_wr W79).1) E112.1) K113.1) f229 f230 p113_0 p113_1 p113_2 p113_3 f231 g_b112 (Nat.ne_of_lt (Nat.lt_of_lt_of_le f106.lt (Nat.le_of_eq g112.symm)))) X113 hx hZ58 hown58 hw 197 198 200 199 146 201 rfl rfl rfl rfl rfl rfl b112 p113_0 104 #[iv p0, iv p1, iv p2, iv p3, iv 2, rv b1, rv x62, rv x72, rv x82, rv b112, .unset, .unset, .unset] [(.ref x62)] [] (hb hby at_104) hml (lenOf pd_30 rfl) rfl rfl (Nat.le_refl _) (by decide)
    have f232 := (f115.keep K113)
    have f233 := (f118.keep K113)
    have f234 := (f119.keep K113)
    have f235 := (f120.keep K113 (ninS (Nat.ne_of_lt (Nat.lt_of_lt_of_le f104.lt (Nat.le_of_eq g112.symm))) nin0))
    have f236 := (f121.keep K113)
    have f237 := (f131.keep K113)
    obtain ⟨ar_228, kk_228, rfl, N228q, K228, p228_0, p228_1, p228_2, p228_3, p228_4, p228_5, p228_6, p228_7⟩ := hQ228
    have pl228 := (allS (P := fun x => ∃ cell : Cell, T113.heap[x]? = some cell ∧ cell.vm.isStatics = false) (own_ns p113_0) all0)
    have hk228 := Nat.le_trans hk113 K228.1
    have g_ar_228 : n0 ≤ ar_228 := Nat.le_trans (Nat.le_trans (Nat.le_trans (Nat.le_trans (Nat.le_trans (Nat.le_trans (Nat.le_trans (Nat.le_trans (Nat.le_trans (Nat.le_trans (Nat.le_trans (Nat.le_trans Z0 E1.1) (Keep.of_wr W7).1) (Keep.of_wr W13).1) K14.1) K25.1) (Keep.of_wr W43).1) K44.1) K58.1) (Keep.of_wr W79).1) E112.1) K113.1) p228_0
    have sz_ar_228 : h0.size ≤ ar_228 := Nat.le_trans ((((((((((((Keep.refl h0 []).ext E1).wr W7 (Or.inr sz_b1)).wr W13 (Or.inr sz_b1)).trans K14 all0).trans K25 (allS (Or.inr sz_ob_14) all0)).wr W43 (Or.inr sz_b1)).trans K44 all0).trans K58 (allS (Or.inr sz_ob_44) all0)).wr W79 (Or.inr sz_b1)).ext E112).trans K113 (allS (Or.inr sz_b112) all0)).1 p228_0
    have N228 := Fr.app N113 N228q
    have f239 := (f237.keep K228)
    obtain ⟨_, T238, L238, X238, hQ238, st238⟩ := own_cV 0 (rm26_1 l Z a0 hw [] b112 x72 ar_228 kk_228 ((0 : Int32) + (1 : Int32)) x62 T228.heap n0 (Nat.le_trans (Nat.le_trans (Nat.le_trans (Nat.le_trans (Nat.le_trans (Nat.le_trans (Nat.le_trans (Nat.le_trans (Nat.le_trans (Nat.le_trans (Nat.le_trans (Nat.le_trans Z0 E1.1) (Keep.of_wr W7).1) (Keep.of_wr W13).1) K14.1) K25.1) (Keep.of_wr W43).1) K44.1) K58.1) (Keep.of_wr W79).1) E112.1) K113.1) K228.1) p228_4 p228_5 p228_6 p228_7 p228_2 p228_3 f239 p228_1 g_b112 g_ar_228) X228 hx hZ58 hown58 hw 197 198 200 199 146 201 rfl rfl rfl rfl rfl rfl b112 p228_4 118 #[iv p0, iv p1, iv p2, iv p3, iv 2, rv b1, rv x62, rv x72, rv x82, rv b112, .unset, .unset, .unset] [(.ref x72)] [] (hb hby at_118) hml (lenOf pd_30 rfl) rfl rfl (Nat.le_refl _) (by decide)
    have f240 := (f232.keep K228)
    have f241 := (f233.keep K228)
    have f242 := (f234.keep K228)
    have f243 := (f235.keep K228 (ninS (Nat.ne_of_lt (Nat.lt_of_lt_of_le f104.lt (Nat.le_of_eq g112.symm))) nin0))
    have f244 := (f236.keep K228)
    have f245 := (f230.keep K228 (ninS (Nat.ne_of_lt (Nat.lt_of_lt_of_le f106.lt (Nat.le_of_eq g112.symm))) nin0))
    have f246 := (f231.keep K228)
    obtain ⟨rfl, N238q, K238, p238_0, p238_1, p238_2, p238_3, p238_4, p238_5⟩ := hQ238
    have pl238 := (allS (P := fun x => ∃ cell : Cell, T228.heap[x]? = some cell ∧ cell.vm.isStatics = false) (own_ns p228_4) (allS (P := fun x => ∃ cell : Cell, T228.heap[x]? = some cell ∧ cell.vm.isStatics = false) (own_ns p228_2) all0))
    have hk238 := Nat.le_trans hk228 K238.1
    have N238 := Fr.app N228 N238q
    have f248 := (own_sta_keep (own_sta_keep (own_sta_keep (((own_sta_keep (own_sta_keep ((own_sta_keep (own_sta_keep (((S_AND.ext E1).wr W7).wr W13) K14 all0) K25 pl25).wr W43) K44 all0) K58 pl58).wr W79).ext E112) K113 pl113) K228 pl228) K238 pl238)
    have f249 := (f241.keep K238)
    have f250 := (((((((((((((F_ordinal_w_AND.ext E1).other W7 (Or.inl (Nat.ne_of_lt (Nat.lt_of_lt_of_le E_w_AND.lt (Nat.le_of_eq g1.symm))))).other W13 (Or.inl (Nat.ne_of_lt (Nat.lt_of_lt_of_le E_w_AND.lt (Nat.le_of_eq g1.symm))))).keep K14 nin0).keep K25 (ninS (Nat.ne_of_lt (Nat.lt_of_lt_of_le f19.lt p14_0)) nin0)).other W43 (Or.inl (Nat.ne_of_lt (Nat.lt_of_lt_of_le E_w_AND.lt (Nat.le_of_eq g1.symm))))).keep K44 nin0).keep K58 (ninS (Nat.ne_of_lt (Nat.lt_of_lt_of_le f49.lt p44_0)) nin0)).other W79 (Or.inl (Nat.ne_of_lt (Nat.lt_of_lt_of_le E_w_AND.lt (Nat.le_of_eq g1.symm))))).ext E112).keep K113 (ninS (Nat.ne_of_lt (Nat.lt_of_lt_of_le f102.lt (Nat.le_of_eq g112.symm))) nin0)).keep K228 (ninS (Nat.ne_of_lt (Nat.lt_of_lt_of_le f102.lt (Nat.le_of_eq g112.symm))) nin0)).keep K238 (ninS (Nat.ne_of_lt (Nat.lt_of_lt_of_le f102.lt (Nat.le_of_eq g112.symm))) (ninS (Nat.ne_of_lt (Nat.lt_of_lt_of_le f233.lt p228_0)) nin0)))
    have f251 := (own_sta_keep (own_sta_keep (own_sta_keep (((own_sta_keep (own_sta_keep ((own_sta_keep (own_sta_keep (((S_EMPTY.ext E1).wr W7).wr W13) K14 all0) K25 pl25).wr W43) K44 all0) K58 pl58).wr W79).ext E112) K113 pl113) K228 pl228) K238 pl238)
    have f252 := (f246.keep K238)
    have f253 := ((((F_x62.ext E112).keep K113 (ninS (Nat.ne_of_lt (Nat.lt_of_lt_of_le E_x62.lt (Nat.le_of_eq g112.symm))) nin0)).keep K228 (ninS (Nat.ne_of_lt (Nat.lt_of_lt_of_le E_x62.lt (Nat.le_of_eq g112.symm))) nin0)).keep K238 (ninS (Nat.ne_of_lt (Nat.lt_of_lt_of_le E_x62.lt (Nat.le_of_eq g112.symm))) (ninS (Nat.ne_of_lt (Nat.lt_of_lt_of_le f231.lt p228_0)) nin0)))
    have f254 := (f239.keep K238)
    have f255 := ((((F_x72.ext E112).keep K113 (ninS (Nat.ne_of_lt (Nat.lt_of_lt_of_le E_x72.lt (Nat.le_of_eq g112.symm))) nin0)).keep K228 (ninS (Nat.ne_of_lt (Nat.lt_of_lt_of_le E_x72.lt (Nat.le_of_eq g112.symm))) nin0)).keep K238 (ninS (Nat.ne_of_lt (Nat.lt_of_lt_of_le E_x72.lt (Nat.le_of_eq g112.symm))) (ninS (Nat.ne_of_lt (Nat.lt_of_lt_of_le f237.lt p228_0)) nin0)))
    have f256 := (f244.keep K238)
    obtain ⟨_, T247, L247, X247, hQ247, st247⟩ := own_cS 0 (rm22_2 l Z a0 hw [] b112 w_AND w_EMPTY mir_Object_ ar_228 kk_228 x62 x72 u62 u72 T238.heap n0 (Nat.le_trans (Nat.le_trans (Nat.le_trans (Nat.le_trans (Nat.le_trans (Nat.le_trans (Nat.le_trans (Nat.le_trans (Nat.le_trans (Nat.le_trans (Nat.le_trans (Nat.le_trans (Nat.le_trans Z0 E1.1) (Keep.of_wr W7).1) (Keep.of_wr W13).1) K14.1) K25.1) (Keep.of_wr W43).1) K44.1) K58.1) (Keep.of_wr W79).1) E112.1) K113.1) K228.1) K238.1) f248 f249 f250 M_mir_Object_ f251 p238_2 p238_4 p238_5 p238_0 p238_1 f252 f253 f254 f255 (ne_exa f254 f256 (by decide))) X238 hx hZ58 hown58 hw 168 169 3 170 rfl rfl rfl rfl 138 #[iv p0, iv p1, iv p2, iv p3, iv 2, rv b1, rv x62, rv x72, rv x82, rv b112, .unset, .unset, .unset] [(.ref b112)] [] (hb hby at_138) hml (lenOf pd_29 rfl) rfl rfl (Nat.le_refl _) (by decide)
    have f257 := (f240.keep K238)
    have f258 := (f242.keep K238)
    have f259 := (f243.keep K238 (ninS (Nat.ne_of_lt (Nat.lt_of_lt_of_le f104.lt (Nat.le_of_eq g112.symm))) (ninS (Nat.ne_of_lt (Nat.lt_of_lt_of_le f235.lt p228_0)) nin0)))
    have f260 := (f245.keep K238 (ninS (Nat.ne_of_lt (Nat.lt_of_lt_of_le f106.lt (Nat.le_of_eq g112.symm))) (ninS (Nat.ne_of_lt (Nat.lt_of_lt_of_le f230.lt p228_0)) nin0)))
    obtain ⟨ob_247, hv_247, ls_247, rfl, N247q, K247, p247_0, p247_1, p247_2, p247_3, p247_4, p247_5, p247_6, p247_7, p247_8, p247_9, p247_10⟩ := hQ247
    have hk247 := Nat.le_trans hk238 K247.1
    have g_ob_247 : n0 ≤ ob_247 := Nat.le_trans (Nat.le_trans (Nat.le_trans (Nat.le_trans (Nat.le_trans (Nat.le_trans (Nat.le_trans (Nat.le_trans (Nat.le_trans (Nat.le_trans (Nat.le_trans (Nat.le_trans (Nat.le_trans (Nat.le_trans Z0 E1.1) (Keep.of_wr W7).1) (Keep.of_wr W13).1) K14.1) K25.1) (Keep.of_wr W43).1) K44.1) K58.1) (Keep.of_wr W79).1) E112.1) K113.1) K228.1) K238.1) p247_0
    have sz_ob_247 : h0.size ≤ ob_247 := Nat.le_trans ((((((((((((((Keep.refl h0 []).ext E1).wr W7 (Or.inr sz_b1)).wr W13 (Or.inr sz_b1)).trans K14 all0).trans K25 (allS (Or.inr sz_ob_14) all0)).wr W43 (Or.inr sz_b1)).trans K44 all0).trans K58 (allS (Or.inr sz_ob_44) all0)).wr W79 (Or.inr sz_b1)).ext E112).trans K113 (allS (Or.inr sz_b112) all0)).trans K228 (allS (Or.inr sz_b112) all0)).trans K238 (allS (Or.inr sz_b112) (allS (Or.inr sz_ar_228) all0))).1 p247_0
    have g_ls_247 : n0 ≤ ls_247 := Nat.le_trans (Nat.le_trans (Nat.le_trans (Nat.le_trans (Nat.le_trans (Nat.le_trans (Nat.le_trans (Nat.le_trans (Nat.le_trans (Nat.le_trans (Nat.le_trans (Nat.le_trans (Nat.le_trans (Nat.le_trans Z0 E1.1) (Keep.of_wr W7).1) (Keep.of_wr W13).1) K14.1) K25.1) (Keep.of_wr W43).1) K44.1) K58.1) (Keep.of_wr W79).1) E112.1) K113.1) K228.1) K238.1) p247_1
    have sz_ls_247 : h0.size ≤ ls_247 := Nat.le_trans ((((((((((((((Keep.refl h0 []).ext E1).wr W7 (Or.inr sz_b1)).wr W13 (Or.inr sz_b1)).trans K14 all0).trans K25 (allS (Or.inr sz_ob_14) all0)).wr W43 (Or.inr sz_b1)).trans K44 all0).trans K58 (allS (Or.inr sz_ob_44) all0)).wr W79 (Or.inr sz_b1)).ext E112).trans K113 (allS (Or.inr sz_b112) all0)).trans K228 (allS (Or.inr sz_b112) all0)).trans K238 (allS (Or.inr sz_b112) (allS (Or.inr sz_ar_228) all0))).1 p247_1
    have N247 := Fr.app N238 N247q
    have f261 := (own_sta_keep (own_sta_keep (own_sta_keep (own_sta_keep (((own_sta_keep (own_sta_keep ((own_sta_keep (own_sta_keep ((f2.wr W7).wr W13) K14 all0) K25 pl25).wr W43) K44 all0) K58 pl58).wr W79).ext E112) K113 pl113) K228 pl228) K238 pl238) K247 all0)
    obtain ⟨T262, X262, e262, st262⟩ := getS2 X247 hx hZ58 hown58 (host := "") (Or.inl (own_at hw 2 rfl)) Via.refl rfl f261 (g := (mkF m 145 #[iv p0, iv p1, iv p2, iv p3, iv 2, rv b1, rv x62, rv x72, rv x82, rv b112, rv ob_247, .unset, .unset] [(.ref b112)])) rfl (hb hby at_145)
    have f264 := (p238_2.keep K247)
    have f265 := (p238_3.keep K247 nin0)
    have f266 := (p238_4.keep K247 nin0)
    have f267 := (p238_5.keep K247 nin0)
    have f268 := (p238_0.keep K247)
    have f269 := (p238_1.keep K247 nin0)
    have f270 := (f257.keep K247)
    obtain ⟨_, T263, L263, X263, hQ263, st263⟩ := own_cV 0 (rm26_2 l Z a0 hw [] b112 w_THING ar_228 kk_228 (((0 : Int32) + (1 : Int32)) + (1 : Int32)) x62 x72 T247.heap n0 (Nat.le_trans (Nat.le_trans (Nat.le_trans (Nat.le_trans (Nat.le_trans (Nat.le_trans (Nat.le_trans (Nat.le_trans (Nat.le_trans (Nat.le_trans (Nat.le_trans (Nat.le_trans (Nat.le_trans (Nat.le_trans Z0 E1.1) (Keep.of_wr W7).1) (Keep.of_wr W13).1) K14.1) K25.1) (Keep.of_wr W43).1) K44.1) K58.1) (Keep.of_wr W79).1) E112.1) K113.1) K228.1) K238.1) K247.1) f264 f265 f266 f267 f268 f269 f270 p228_1 g_b112 g_ar_228) X262 hx hZ58 hown58 hw 197 198 200 199 146 201 rfl rfl rfl rfl rfl rfl b112 f264 148 #[iv p0, iv p1, iv p2, iv p3, iv 2, rv b1, rv x62, rv x72, rv x82, rv b112, rv ob_247, .unset, .unset] [(.ref w_THING)] [] (hb hby at_148) hml (lenOf pd_30 rfl) e262 rfl (Nat.le_refl _) (by decide)
    have f271 := (f249.keep K247)
    have f272 := (f258.keep K247)
    have f273 := (f259.keep K247 nin0)
    have f274 := (f256.keep K247)
    have f275 := (f260.keep K247 nin0)
    have f276 := (f252.keep K247)
    have f277 := (f254.keep K247)
    obtain ⟨rfl, N263q, K263, p263_0, p263_1, p263_2, p263_3, p263_4, p263_5⟩ := hQ263
    have pl263 := (allS (P := fun x => ∃ cell : Cell, T247.heap[x]? = some cell ∧ cell.vm.isStatics = false) (own_ns f264) (allS (P := fun x => ∃ cell : Cell, T247.heap[x]? = some cell ∧ cell.vm.isStatics = false) (own_ns f268) all0))
    have hk263 := Nat.le_trans hk247 K263.1
    have N263 := Fr.app N247 N263q
    have f279 := (p247_6.keep K263 (ninS (Ne.symm (Nat.ne_of_lt (Nat.lt_of_lt_of_le p238_2.lt p247_0))) (ninS (Ne.symm (Nat.ne_of_lt (Nat.lt_of_lt_of_le p238_0.lt p247_0))) nin0)))
    have f280 := (p247_2.keep K263)
    obtain ⟨_, T278, L278, X278, hQ278, st278⟩ := own_cV 0 (rm31 l Z a0 hw [] ob_247 ls_247 T263.heap n0 (Nat.le_trans (Nat.le_trans (Nat.le_trans (Nat.le_trans (Nat.le_trans (Nat.le_trans (Nat.le_trans (Nat.le_trans (Nat.le_trans (Nat.le_trans (Nat.le_trans (Nat.le_trans (Nat.le_trans (Nat.le_trans (Nat.le_trans Z0 E1.1) (Keep.of_wr W7).1) (Keep.of_wr W13).1) K14.1) K25.1) (Keep.of_wr W43).1) K44.1) K58.1) (Keep.of_wr W79).1) E112.1) K113.1) K228.1) K238.1) K247.1) K263.1) f279) X263 hx hZ58 hown58 hw 226 227 229 228 3 230 rfl rfl rfl rfl rfl rfl ob_247 f280 154 #[iv p0, iv p1, iv p2, iv p3, iv 2, rv b1, rv x62, rv x72, rv x82, rv b112, rv ob_247, .unset, .unset] [] [] (hb hby at_154) hml (lenOf pd_12 rfl) rfl rfl (Nat.le_refl _) (by decide)
    obtain ⟨rfl, N278q, e278⟩ := hQ278
    have N278 := Fr.app N263 N278q
    have f282 := (p247_3.keep K263 (ninS (Ne.symm (Nat.ne_of_lt (Nat.lt_of_lt_of_le p238_2.lt p247_0))) (ninS (Ne.symm (Nat.ne_of_lt (Nat.lt_of_lt_of_le p238_0.lt p247_0))) nin0)))
    obtain ⟨_, T281, L281, X281, hQ281, st281⟩ := own_cV 0 (rm32 l Z a0 hw [] ob_247 w_AND T263.heap n0 (Nat.le_trans (Nat.le_trans (Nat.le_trans (Nat.le_trans (Nat.le_trans (Nat.le_trans (Nat.le_trans (Nat.le_trans (Nat.le_trans (Nat.le_trans (Nat.le_trans (Nat.le_trans (Nat.le_trans (Nat.le_trans (Nat.le_trans Z0 E1.1) (Keep.of_wr W7).1) (Keep.of_wr W13).1) K14.1) K25.1) (Keep.of_wr W43).1) K44.1) K58.1) (Keep.of_wr W79).1) E112.1) K113.1) K228.1) K238.1) K247.1) K263.1) f282) X278 hx hZ58 hown58 hw 231 232 234 233 3 235 rfl rfl rfl rfl rfl rfl ob_247 f280 161 #[iv p0, iv p1, iv p2, iv p3, iv 2, rv b1, rv x62, rv x72, rv x82, rv b112, rv ob_247, rv ls_247, .unset] [] [] (hb hby at_161) hml (lenOf pd_31 rfl) e278 rfl (Nat.le_refl _) (by decide)
    obtain ⟨rfl, N281q, e281⟩ := hQ281
    have N281 := Fr.app N278 N281q
    have f283 := (own_sta_keep (own_sta_keep f248 K247 all0) K263 pl263)
    obtain ⟨T284, X284, e284, st284⟩ := getS2 X281 hx hZ58 hown58 (host := "") (Or.inl (own_at hw 236 rfl)) Via.refl e281 f283 (g := (mkF m 164 #[iv p0, iv p1, iv p2, iv p3, iv 2, rv b1, rv x62, rv x72, rv x82, rv b112, rv ob_247, rv ls_247, .unset] [(.ref w_AND)])) rfl (hb hby at_164)
    have f286 := (p247_4.keep K263 (ninS (Ne.symm (Nat.ne_of_lt (Nat.lt_of_lt_of_le p238_2.lt p247_0))) (ninS (Ne.symm (Nat.ne_of_lt (Nat.lt_of_lt_of_le p238_0.lt p247_0))) nin0)))
    obtain ⟨_, T285, L285, X285, hQ285, st285⟩ := own_cV 0 (rm33 l Z a0 hw [] ob_247 T263.heap n0 (Nat.le_trans (Nat.le_trans (Nat.le_trans (Nat.le_trans (Nat.le_trans (Nat.le_trans (Nat.le_trans (Nat.le_trans (Nat.le_trans (Nat.le_trans (Nat.le_trans (Nat.le_trans (Nat.le_trans (Nat.le_trans (Nat.le_trans Z0 E1.1) (Keep.of_wr W7).1) (Keep.of_wr W13).1) K14.1) K25.1) (Keep.of_wr W43).1) K44.1) K58.1) (Keep.of_wr W79).1) E112.1) K113.1) K228.1) K238.1) K247.1) K263.1) f286) X284 hx hZ58 hown58 hw 237 238 240 239 3 241 rfl rfl rfl rfl rfl rfl ob_247 f280 172 #[iv p0, iv p1, iv p2, iv p3, iv 2, rv b1, rv x62, rv x72, rv x82, rv b112, rv ob_247, rv ls_247, .unset] [] [] (hb hby at_172) hml (lenOf pd_32 rfl) e284 rfl (Nat.le_refl _) (by decide)
    obtain ⟨rfl, N285q, e285⟩ := hQ285
    have N285 := Fr.app N281 N285q
    have f288 := (p247_5.keep K263 (ninS (Ne.symm (Nat.ne_of_lt (Nat.lt_of_lt_of_le p238_2.lt p247_0))) (ninS (Ne.symm (Nat.ne_of_lt (Nat.lt_of_lt_of_le p238_0.lt p247_0))) nin0)))
    obtain ⟨_, T287, L287, X287, hQ287, st287⟩ := own_cV 0 (rm34 l Z a0 hw [] ob_247 T263.heap n0 (Nat.le_trans (Nat.le_trans (Nat.le_trans (Nat.le_trans (Nat.le_trans (Nat.le_trans (Nat.le_trans (Nat.le_trans (Nat.le_trans (Nat.le_trans (Nat.le_trans (Nat.le_trans (Nat.le_trans (Nat.le_trans (Nat.le_trans Z0 E1.1) (Keep.of_wr W7).1) (Keep.of_wr W13).1) K14.1) K25.1) (Keep.of_wr W43).1) K44.1) K58.1) (Keep.of_wr W79).1) E112.1) K113.1) K228.1) K238.1) K247.1) K263.1) f288) X285 hx hZ58 hown58 hw 242 243 245 244 3 246 rfl rfl rfl rfl rfl rfl ob_247 f280 180 #[iv p0, iv p1, iv p2, iv p3, iv 2, rv b1, rv x62, rv x72, rv x82, rv b112, rv ob_247, rv ls_247, .unset] [] [] (hb hby at_180) hml (lenOf pd_33 rfl) e285 rfl (Nat.le_refl _) (by decide)
    obtain ⟨rfl, N287q, e287⟩ := hQ287
    have N287 := Fr.app N285 N287q
    have f290 := (own_sta_keep (own_sta_keep f251 K247 all0) K263 pl263)
    have f291 := (p247_10.keep K263 (ninS (Ne.symm (Nat.ne_of_lt (Nat.lt_of_lt_of_le p238_2.lt p247_1))) (ninS (Ne.symm (Nat.ne_of_lt (Nat.lt_of_lt_of_le p238_0.lt p247_1))) nin0)))
    have f292 := (f277.keep K263)
    have f293 := (f274.keep K263)
    have f294 := (p247_8.keep K263)
    obtain ⟨_, T289, L289, X289, hQ289, st289⟩ := own_cI 0 (rm48_2 l Z a0 hw [] ls_247 w_EMPTY x72 T263.heap n0 (Nat.le_trans (Nat.le_trans (Nat.le_trans (Nat.le_trans (Nat.le_trans (Nat.le_trans (Nat.le_trans (Nat.le_trans (Nat.le_trans (Nat.le_trans (Nat.le_trans (Nat.le_trans (Nat.le_trans (Nat.le_trans (Nat.le_trans Z0 E1.1) (Keep.of_wr W7).1) (Keep.of_wr W13).1) K14.1) K25.1) (Keep.of_wr W43).1) K44.1) K58.1) (Keep.of_wr W79).1) E112.1) K113.1) K228.1) K238.1) K247.1) K263.1) f290 f291 (ne_exa f292 f293 (by decide))) X287 hx hZ58 hown58 hw 247 248 249 358 350 359 360 348 351 332 rfl rfl rfl rfl rfl rfl rfl rfl rfl rfl ls_247 f294 188 #[iv p0, iv p1, iv p2, iv p3, iv 2, rv b1, rv x62, rv x72, rv x82, rv b112, rv ob_247, rv ls_247, .unset] [] [] (hb hby at_188) hml (lenOf pd_5 rfl) e287 rfl (Nat.le_refl _) (by decide)
    obtain ⟨rfl, N289q, e289⟩ := hQ289
    have N289 := Fr.app N287 N289q
    have f296 := (p247_9.keep K263 (ninS (Ne.symm (Nat.ne_of_lt (Nat.lt_of_lt_of_le p238_2.lt p247_1))) (ninS (Ne.symm (Nat.ne_of_lt (Nat.lt_of_lt_of_le p238_0.lt p247_1))) nin0)))
    obtain ⟨_, T295, L295, X295, hQ295, st295⟩ := own_cI 0 (rm49_0 l Z a0 hw [] ls_247 x62 T263.heap n0 (Nat.le_trans (Nat.le_trans (Nat.le_trans (Nat.le_trans (Nat.le_trans (Nat.le_trans (Nat.le_trans (Nat.le_trans (Nat.le_trans (Nat.le_trans (Nat.le_trans (Nat.le_trans (Nat.le_trans (Nat.le_trans (Nat.le_trans Z0 E1.1) (Keep.of_wr W7).1) (Keep.of_wr W13).1) K14.1) K25.1) (Keep.of_wr W43).1) K44.1) K58.1) (Keep.of_wr W79).1) E112.1) K113.1) K228.1) K238.1) K247.1) K263.1) f296) X289 hx hZ58 hown58 hw 329 322 323 353 354 355 356 348 357 332 rfl rfl rfl rfl rfl rfl rfl rfl rfl rfl ls_247 f294 219 #[iv p0, iv p1, iv p2, iv p3, iv 2, rv b1, rv x62, rv x72, rv x82, rv b112, rv ob_247, rv ls_247, iv 1] [(.int 0)] [] (hb hby at_219) hml (lenOf pd_7 rfl) e289 rfl (Nat.le_refl _) (by decide)
    obtain ⟨rfl, N295q, e295⟩ := hQ295
    have N295 := Fr.app N289 N295q
    obtain ⟨_, T297, L297, X297, hQ297, st297⟩ := own_cI 0 (rm49_1 l Z a0 hw [] ls_247 w_EMPTY x72 T263.heap n0 (Nat.le_trans (Nat.le_trans (Nat.le_trans (Nat.le_trans (Nat.le_trans (Nat.le_trans (Nat.le_trans (Nat.le_trans (Nat.le_trans (Nat.le_trans (Nat.le_trans (Nat.le_trans (Nat.le_trans (Nat.le_trans (Nat.le_trans Z0 E1.1) (Keep.of_wr W7).1) (Keep.of_wr W13).1) K14.1) K25.1) (Keep.of_wr W43).1) K44.1) K58.1) (Keep.of_wr W79).1) E112.1) K113.1) K228.1) K238.1) K247.1) K263.1) f290 f291 (ne_exa f292 f293 (by decide))) X295 hx hZ58 hown58 hw 329 322 323 353 354 355 356 348 357 332 rfl rfl rfl rfl rfl rfl rfl rfl rfl rfl ls_247 f294 250 #[iv p0, iv p1, iv p2, iv p3, iv 2, rv b1, rv x62, rv x72, rv x82, rv b112, rv ob_247, rv ls_247, iv 1] [(.int 1)] [] (hb hby at_250) hml (lenOf pd_7 rfl) e295 rfl (Nat.le_refl _) (by decide)
    obtain ⟨rfl, N297q, e297⟩ := hQ297
    have N297 := Fr.app N295 N297q
    obtain ⟨fs, hr, hrun, hended, hRW⟩ := X297.leaveW hS58 (by rw [e297]; exact hk263) (v := some (.int 1)) (fun h => by rw [Bd.returns] at h; cases h)
    have hCE : CHr Z own_EL s.vm s.heap T297.vm T297.heap := own_cr (by rw [hh, e297]; exact ((((((((((((((((Keep.refl h0 []).ext E1).wr W7 (Or.inr sz_b1)).wr W13 (Or.inr sz_b1)).trans K14 all0).trans K25 (allS (Or.inr sz_ob_14) all0)).wr W43 (Or.inr sz_b1)).trans K44 all0).trans K58 (allS (Or.inr sz_ob_44) all0)).wr W79 (Or.inr sz_b1)).ext E112).trans K113 (allS (Or.inr sz_b112) all0)).trans K228 (allS (Or.inr sz_b112) all0)).trans K238 (allS (Or.inr sz_b112) (allS (Or.inr sz_ar_228) all0))).trans K247 all0).trans K263 (allS (Or.inr sz_b112) (allS (Or.inr sz_ar_228) all0))).1)
    refine ⟨_, _, k133 _ ?_, hrun, hended, _, _, rfl, ?_, hCE, hRW.1, hRW.2.1, hRW.2.2.1, hRW.2.2.2.mono (by decide) (by decide)⟩
    · rw [hk]
      refine oIl X113 hx hby at_94 rfl (oIc X113 hx hby at_96 ?_)
      refine XS.icmpNo X113.here hx rfl (hb hby at_97) rfl (flt (by decide : ¬ ((2 : Int32) < (1 : Int32)))).1 ?_
      refine oAl X113 hx hby at_100 rfl rfl (oAl X113 hx hby at_102 rfl rfl ?_)
      refine st228 _ ?_
      refine XS.pop X228.here hx rfl (hb hby at_107) rfl rfl ?_
      refine oIl X228 hx hby at_108 rfl (oIc X228 hx hby at_110 ?_)
      refine XS.icmpNo X228.here hx rfl (hb hby at_111) rfl (flt (by decide : ¬ ((2 : Int32) < (2 : Int32)))).1 ?_
      refine oAl X228 hx hby at_114 rfl rfl (oAl X228 hx hby at_116 rfl rfl ?_)
      refine st238 _ ?_
      refine XS.pop X238.here hx rfl (hb hby at_121) rfl rfl ?_
      refine oIl X238 hx hby at_122 rfl (oIc X238 hx hby at_124 ?_)
      refine XS.icmpYes X238.here hx rfl (pc0 := 125) (pc' := 136) rfl (hb hby at_125) rfl (tlt (by decide : (2 : Int32) < (3 : Int32))).1 (by decide) (by decide) ?_
      refine oAl X238 hx hby at_136 rfl rfl ?_
      refine st247 _ ?_
      refine XS.astore X247.here hx rfl (hb hby at_141) rfl rfl (l' := #[iv p0, iv p1, iv p2, iv p3, iv 2, rv b1, rv x62, rv x72, rv x82, rv b112, rv ob_247, .unset, .unset]) rfl ?_
      refine oAl X247 hx hby at_143 rfl rfl ?_
      refine st262 _ ?_
      refine st263 _ ?_
      refine XS.pop X263.here hx rfl (hb hby at_151) rfl rfl ?_
      refine oAl X263 hx hby at_152 rfl rfl ?_
      refine st278 _ ?_
      refine XS.astore X278.here hx rfl (hb hby at_157) rfl rfl (l' := #[iv p0, iv p1, iv p2, iv p3, iv 2, rv b1, rv x62, rv x72, rv x82, rv b112, rv ob_247, rv ls_247, .unset]) rfl ?_
      refine oAl X278 hx hby at_159 rfl rfl ?_
      refine st281 _ ?_
      show OwnS p e below T281 (mkF m 164 #[iv p0, iv p1, iv p2, iv p3, iv 2, rv b1, rv x62, rv x72, rv x82, rv b112, rv ob_247, rv ls_247, .unset] [(.ref w_AND)]) _
      refine st284 _ ?_
      refine Jvm.RoadKit.acmp (g := (mkF m 167 #[iv p0, iv p1, iv p2, iv p3, iv 2, rv b1, rv x62, rv x72, rv x82, rv b112, rv ob_247, rv ls_247, .unset] [(.ref w_AND), (.ref w_AND)])) X284 hx rfl rfl rfl (pc0 := 167) (pc' := 170) (same := true) rfl (hb hby at_167) rfl (decide_eq_true rfl) (by decide) (by decide) ?_
      refine oAl X284 hx hby at_170 rfl rfl ?_
      refine st285 _ ?_
      refine XS.ifnonnullNo X285.here hx rfl (hb hby at_175) rfl ?_
      refine oAl X285 hx hby at_178 rfl rfl ?_
      refine st287 _ ?_
      refine XS.ifnonnullNo X287.here hx rfl (hb hby at_183) rfl ?_
      refine oAl X287 hx hby at_186 rfl rfl ?_
      refine st289 _ ?_
      refine oIl X289 hx hby at_193 rfl ?_
      refine XS.icmpNo X289.here hx rfl (hb hby at_195) rfl (teq (by decide : (2 : Int32) = (2 : Int32))).2 ?_
      refine oIc X289 hx hby at_198 (oGo X289 hx hby 199 203 at_199 (by decide) (by decide) ?_)
      refine XS.istore X289.here hx rfl (hb hby at_203) rfl (l' := #[iv p0, iv p1, iv p2, iv p3, iv 2, rv b1, rv x62, rv x72, rv x82, rv b112, rv ob_247, rv ls_247, iv 1]) rfl ?_
      refine oIl X289 hx hby at_205 rfl ?_
      refine XS.ifNo X289.here hx rfl (hb hby at_207) rfl ((if0 _ _).trans (feq (by decide : ¬ ((1 : Int32) = (0 : Int32)))).1) ?_
      refine oIl X289 hx hby at_210 rfl (oIc X289 hx hby at_212 ?_)
      refine XS.icmpNo X289.here hx rfl (hb hby at_213) rfl (flt (by decide : ¬ ((2 : Int32) < (1 : Int32)))).1 ?_
      refine oAl X289 hx hby at_216 rfl rfl (oIc X289 hx hby at_218 ?_)
      refine st295 _ ?_
      refine oAl X295 hx hby at_224 rfl rfl ?_
      refine Jvm.RoadKit.acmp (g := (mkF m 226 #[iv p0, iv p1, iv p2, iv p3, iv 2, rv b1, rv x62, rv x72, rv x82, rv b112, rv ob_247, rv ls_247, iv 1] [(.ref x62), (.ref x62)])) X295 hx rfl rfl rfl (pc0 := 226) (pc' := 229) (same := true) rfl (hb hby at_226) rfl (decide_eq_true rfl) (by decide) (by decide) ?_
      refine oIc X295 hx hby at_229 (oGo X295 hx hby 230 234 at_230 (by decide) (by decide) ?_)
      refine XS.istore X295.here hx rfl (hb hby at_234) rfl (l' := #[iv p0, iv p1, iv p2, iv p3, iv 2, rv b1, rv x62, rv x72, rv x82, rv b112, rv ob_247, rv ls_247, iv 1]) rfl ?_
      refine oIl X295 hx hby at_236 rfl ?_
      refine XS.ifNo X295.here hx rfl (hb hby at_238) rfl ((if0 _ _).trans (feq (by decide : ¬ ((1 : Int32) = (0 : Int32)))).1) ?_
      show OwnS p e below T295 (mkF m 241 #[iv p0, iv p1, iv p2, iv p3, iv 2, rv b1, rv x62, rv x72, rv x82, rv b112, rv ob_247, rv ls_247, iv 1] []) _
      refine oIl X295 hx hby at_241 rfl (oIc X295 hx hby at_243 ?_)
      refine XS.icmpNo X295.here hx rfl (hb hby at_244) rfl (flt (by decide : ¬ ((2 : Int32) < (2 : Int32)))).1 ?_
      refine oAl X295 hx hby at_247 rfl rfl (oIc X295 hx hby at_249 ?_)
      refine st297 _ ?_
      refine oAl X297 hx hby at_255 rfl rfl ?_
      refine Jvm.RoadKit.acmp (g := (mkF m 257 #[iv p0, iv p1, iv p2, iv p3, iv 2, rv b1, rv x62, rv x72, rv x82, rv b112, rv ob_247, rv ls_247, iv 1] [(.ref x72), (.ref x72)])) X297 hx rfl rfl rfl (pc0 := 257) (pc' := 260) (same := true) rfl (hb hby at_257) rfl (decide_eq_true rfl) (by decide) (by decide) ?_
      refine oIc X297 hx hby at_260 (oGo X297 hx hby 261 265 at_261 (by decide) (by decide) ?_)
      refine XS.istore X297.here hx rfl (hb hby at_265) rfl (l' := #[iv p0, iv p1, iv p2, iv p3, iv 2, rv b1, rv x62, rv x72, rv x82, rv b112, rv ob_247, rv ls_247, iv 1]) rfl ?_
      refine oIl X297 hx hby at_267 rfl ?_
      refine XS.ifNo X297.here hx rfl (hb hby at_269) rfl ((if0 _ _).trans (feq (by decide : ¬ ((1 : Int32) = (0 : Int32)))).1) ?_
      refine oIl X297 hx hby at_272 rfl (oIc X297 hx hby at_274 ?_)
      refine XS.icmpYes X297.here hx rfl (pc0 := 275) (pc' := 298) rfl (hb hby at_275) rfl (tlt (by decide : (2 : Int32) < (3 : Int32))).1 (by decide) (by decide) ?_
      refine oIl X297 hx hby at_298 rfl ?_
      exact retN X297 hx (t := .boolean) Bd.returns (by simp) (hb hby at_300) hr
    · show Q_0 Z _ _ _ _ _ _ _ _ _ _ _ _ _ _ _ _ h0 n0 _ T297.heap _
      rw [e297]
      exact ⟨rfl, N297, trivial⟩
  · have f299 := (own_sta_keep f114 K113 pl113)
    have f300 := (f122.keep K113 (ninS (Nat.ne_of_lt (Nat.lt_of_lt_of_le f106.lt (Nat.le_of_eq g112.symm))) nin0))
    have f301 := (f130.keep K113)
    obtain ⟨_, T298, L298, X298, hQ298, st298⟩ := own_cV 0 (rm26_0 l Z a0 hw [] b112 x62 w_DEFAULTCAPACITY_EMPTY_ELEMENTDATA kD (0 : Int32) T113.heap n0 (Nat.le_trans (Nat.le_trans (Nat.le_trans (Nat.le_trans (Nat.le_trans (Nat.le_trans (Nat.le_trans (Nat.le_trans (Nat.le_trans (Nat.le_trans (Nat.le_trans Z0 E1.1) (Keep.of_wr W7).1) (Keep.of_wr W13).1) K14.1) K25.1) (Keep.of_wr W43).1) K44.1) K58.1) (Keep.of_wr W79).1) E112.1) K113.1) f299 f300 p113_0 p113_1 p113_2 p113_3 f301 g_b112 (Nat.ne_of_lt (Nat.lt_of_lt_of_le f106.lt (Nat.le_of_eq g112.symm)))) X113 hx hZ58 hown58 hw 197 198 200 199 146 201 rfl rfl rfl rfl rfl rfl b112 p113_0 104 #[iv p0, iv p1, iv p2, iv p3, iv 3, rv b1, rv x62, rv x72, rv x82, rv b112, .unset, .unset, .unset] [(.ref x62)] [] (hb hby at_104) hml (lenOf pd_30 rfl) rfl rfl (Nat.le_refl _) (by decide)
    have f302 := (f115.keep K113)
    have f303 := (f118.keep K113)
    have f304 := (f119.keep K113)
    have f305 := (f120.keep K113 (ninS (Nat.ne_of_lt (Nat.lt_of_lt_of_le f104.lt (Nat.le_of_eq g112.symm))) nin0))
    have f306 := (f121.keep K113)
    have f307 := (f131.keep K113)
    have f308 := (f132.keep K113)
    obtain ⟨ar_298, kk_298, rfl, N298q, K298, p298_0, p298_1, p298_2, p298_3, p298_4, p298_5, p298_6, p298_7⟩ := hQ298
    have pl298 := (allS (P := fun x => ∃ cell : Cell, T113.heap[x]? = some cell ∧ cell.vm.isStatics = false) (own_ns p113_0) all0)
    have hk298 := Nat.le_trans hk113 K298.1
    have g_ar_298 : n0 ≤ ar_298 := Nat.le_trans (Nat.le_trans (Nat.le_trans (Nat.le_trans (Nat.le_trans (Nat.le_trans (Nat.le_trans (Nat.le_trans (Nat.le_trans (Nat.le_trans (Nat.le_trans (Nat.le_trans Z0 E1.1) (Keep.of_wr W7).1) (Keep.of_wr W13).1) K14.1) K25.1) (Keep.of_wr W43).1) K44.1) K58.1) (Keep.of_wr W79).1) E112.1) K113.1) p298_0
    have sz_ar_298 : h0.size ≤ ar_298 := Nat.le_trans ((((((((((((Keep.refl h0 []).ext E1).wr W7 (Or.inr sz_b1)).wr W13 (Or.inr sz_b1)).trans K14 all0).trans K25 (allS (Or.inr sz_ob_14) all0)).wr W43 (Or.inr sz_b1)).trans K44 all0).trans K58 (allS (Or.inr sz_ob_44) all0)).wr W79 (Or.inr sz_b1)).ext E112).trans K113 (allS (Or.inr sz_b112) all0)).1 p298_0
    have N298 := Fr.app N113 N298q
    have f310 := (f307.keep K298)
    obtain ⟨_, T309, L309, X309, hQ309, st309⟩ := own_cV 0 (rm26_1 l Z a0 hw [] b112 x72 ar_298 kk_298 ((0 : Int32) + (1 : Int32)) x62 T298.heap n0 (Nat.le_trans (Nat.le_trans (Nat.le_trans (Nat.le_trans (Nat.le_trans (Nat.le_trans (Nat.le_trans (Nat.le_trans (Nat.le_trans (Nat.le_trans (Nat.le_trans (Nat.le_trans Z0 E1.1) (Keep.of_wr W7).1) (Keep.of_wr W13).1) K14.1) K25.1) (Keep.of_wr W43).1) K44.1) K58.1) (Keep.of_wr W79).1) E112.1) K113.1) K298.1) p298_4 p298_5 p298_6 p298_7 p298_2 p298_3 f310 p298_1 g_b112 g_ar_298) X298 hx hZ58 hown58 hw 197 198 200 199 146 201 rfl rfl rfl rfl rfl rfl b112 p298_4 118 #[iv p0, iv p1, iv p2, iv p3, iv 3, rv b1, rv x62, rv x72, rv x82, rv b112, .unset, .unset, .unset] [(.ref x72)] [] (hb hby at_118) hml (lenOf pd_30 rfl) rfl rfl (Nat.le_refl _) (by decide)
    have f311 := (f302.keep K298)
    have f312 := (f303.keep K298)
    have f313 := (f304.keep K298)
    have f314 := (f305.keep K298 (ninS (Nat.ne_of_lt (Nat.lt_of_lt_of_le f104.lt (Nat.le_of_eq g112.symm))) nin0))
    have f315 := (f306.keep K298)
    have f316 := (f300.keep K298 (ninS (Nat.ne_of_lt (Nat.lt_of_lt_of_le f106.lt (Nat.le_of_eq g112.symm))) nin0))
    have f317 := (f301.keep K298)
    have f318 := (f308.keep K298)
    obtain ⟨rfl, N309q, K309, p309_0, p309_1, p309_2, p309_3, p309_4, p309_5⟩ := hQ309
    have pl309 := (allS (P := fun x => ∃ cell : Cell, T298.heap[x]? = some cell ∧ cell.vm.isStatics = false) (own_ns p298_4) (allS (P := fun x => ∃ cell : Cell, T298.heap[x]? = some cell ∧ cell.vm.isStatics = false) (own_ns p298_2) all0))
    have hk309 := Nat.le_trans hk298 K309.1
    have N309 := Fr.app N298 N309q
    have f320 := (f318.keep K309)
    obtain ⟨_, T319, L319, X319, hQ319, st319⟩ := own_cV 0 (rm26_2 l Z a0 hw [] b112 x82 ar_298 kk_298 (((0 : Int32) + (1 : Int32)) + (1 : Int32)) x62 x72 T309.heap n0 (Nat.le_trans (Nat.le_trans (Nat.le_trans (Nat.le_trans (Nat.le_trans (Nat.le_trans (Nat.le_trans (Nat.le_trans (Nat.le_trans (Nat.le_trans (Nat.le_trans (Nat.le_trans (Nat.le_trans Z0 E1.1) (Keep.of_wr W7).1) (Keep.of_wr W13).1) K14.1) K25.1) (Keep.of_wr W43).1) K44.1) K58.1) (Keep.of_wr W79).1) E112.1) K113.1) K298.1) K309.1) p309_2 p309_3 p309_4 p309_5 p309_0 p309_1 f320 p298_1 g_b112 g_ar_298) X309 hx hZ58 hown58 hw 197 198 200 199 146 201 rfl rfl rfl rfl rfl rfl b112 p309_2 132 #[iv p0, iv p1, iv p2, iv p3, iv 3, rv b1, rv x62, rv x72, rv x82, rv b112, .unset, .unset, .unset] [(.ref x82)] [] (hb hby at_132) hml (lenOf pd_30 rfl) rfl rfl (Nat.le_refl _) (by decide)
    have f321 := (f311.keep K309)
    have f322 := (f312.keep K309)
    have f323 := (f313.keep K309)
    have f324 := (f314.keep K309 (ninS (Nat.ne_of_lt (Nat.lt_of_lt_of_le f104.lt (Nat.le_of_eq g112.symm))) (ninS (Nat.ne_of_lt (Nat.lt_of_lt_of_le f305.lt p298_0)) nin0)))
    have f325 := (f315.keep K309)
    have f326 := (f316.keep K309 (ninS (Nat.ne_of_lt (Nat.lt_of_lt_of_le f106.lt (Nat.le_of_eq g112.symm))) (ninS (Nat.ne_of_lt (Nat.lt_of_lt_of_le f300.lt p298_0)) nin0)))
    have f327 := (f317.keep K309)
    have f328 := (f310.keep K309)
    obtain ⟨rfl, N319q, K319, p319_0, p319_1, p319_2, p319_3, p319_4, p319_5⟩ := hQ319
    have pl319 := (allS (P := fun x => ∃ cell : Cell, T309.heap[x]? = some cell ∧ cell.vm.isStatics = false) (own_ns p309_2) (allS (P := fun x => ∃ cell : Cell, T309.heap[x]? = some cell ∧ cell.vm.isStatics = false) (own_ns p309_0) all0))
    have hk319 := Nat.le_trans hk309 K319.1
    have N319 := Fr.app N309 N319q
    have f330 := (own_sta_keep (own_sta_keep (own_sta_keep (own_sta_keep (((own_sta_keep (own_sta_keep ((own_sta_keep (own_sta_keep (((S_AND.ext E1).wr W7).wr W13) K14 all0) K25 pl25).wr W43) K44 all0) K58 pl58).wr W79).ext E112) K113 pl113) K298 pl298) K309 pl309) K319 pl319)
    have f331 := (f322.keep K319)
    have f332 := ((((((((((((((F_ordinal_w_AND.ext E1).other W7 (Or.inl (Nat.ne_of_lt (Nat.lt_of_lt_of_le E_w_AND.lt (Nat.le_of_eq g1.symm))))).other W13 (Or.inl (Nat.ne_of_lt (Nat.lt_of_lt_of_le E_w_AND.lt (Nat.le_of_eq g1.symm))))).keep K14 nin0).keep K25 (ninS (Nat.ne_of_lt (Nat.lt_of_lt_of_le f19.lt p14_0)) nin0)).other W43 (Or.inl (Nat.ne_of_lt (Nat.lt_of_lt_of_le E_w_AND.lt (Nat.le_of_eq g1.symm))))).keep K44 nin0).keep K58 (ninS (Nat.ne_of_lt (Nat.lt_of_lt_of_le f49.lt p44_0)) nin0)).other W79 (Or.inl (Nat.ne_of_lt (Nat.lt_of_lt_of_le E_w_AND.lt (Nat.le_of_eq g1.symm))))).ext E112).keep K113 (ninS (Nat.ne_of_lt (Nat.lt_of_lt_of_le f102.lt (Nat.le_of_eq g112.symm))) nin0)).keep K298 (ninS (Nat.ne_of_lt (Nat.lt_of_lt_of_le f102.lt (Nat.le_of_eq g112.symm))) nin0)).keep K309 (ninS (Nat.ne_of_lt (Nat.lt_of_lt_of_le f102.lt (Nat.le_of_eq g112.symm))) (ninS (Nat.ne_of_lt (Nat.lt_of_lt_of_le f303.lt p298_0)) nin0))).keep K319 (ninS (Nat.ne_of_lt (Nat.lt_of_lt_of_le f102.lt (Nat.le_of_eq g112.symm))) (ninS (Nat.ne_of_lt (Nat.lt_of_lt_of_le f303.lt p298_0)) nin0)))
    have f333 := (f327.keep K319)
    have f334 := (((((F_x62.ext E112).keep K113 (ninS (Nat.ne_of_lt (Nat.lt_of_lt_of_le E_x62.lt (Nat.le_of_eq g112.symm))) nin0)).keep K298 (ninS (Nat.ne_of_lt (Nat.lt_of_lt_of_le E_x62.lt (Nat.le_of_eq g112.symm))) nin0)).keep K309 (ninS (Nat.ne_of_lt (Nat.lt_of_lt_of_le E_x62.lt (Nat.le_of_eq g112.symm))) (ninS (Nat.ne_of_lt (Nat.lt_of_lt_of_le f301.lt p298_0)) nin0))).keep K319 (ninS (Nat.ne_of_lt (Nat.lt_of_lt_of_le E_x62.lt (Nat.le_of_eq g112.symm))) (ninS (Nat.ne_of_lt (Nat.lt_of_lt_of_le f301.lt p298_0)) nin0)))
    have f335 := (f328.keep K319)
    have f336 := (((((F_x72.ext E112).keep K113 (ninS (Nat.ne_of_lt (Nat.lt_of_lt_of_le E_x72.lt (Nat.le_of_eq g112.symm))) nin0)).keep K298 (ninS (Nat.ne_of_lt (Nat.lt_of_lt_of_le E_x72.lt (Nat.le_of_eq g112.symm))) nin0)).keep K309 (ninS (Nat.ne_of_lt (Nat.lt_of_lt_of_le E_x72.lt (Nat.le_of_eq g112.symm))) (ninS (Nat.ne_of_lt (Nat.lt_of_lt_of_le f307.lt p298_0)) nin0))).keep K319 (ninS (Nat.ne_of_lt (Nat.lt_of_lt_of_le E_x72.lt (Nat.le_of_eq g112.symm))) (ninS (Nat.ne_of_lt (Nat.lt_of_lt_of_le f307.lt p298_0)) nin0)))
    have f337 := (f320.keep K319)
    have f338 := (((((F_x82.ext E112).keep K113 (ninS (Nat.ne_of_lt (Nat.lt_of_lt_of_le E_x82.lt (Nat.le_of_eq g112.symm))) nin0)).keep K298 (ninS (Nat.ne_of_lt (Nat.lt_of_lt_of_le E_x82.lt (Nat.le_of_eq g112.symm))) nin0)).keep K309 (ninS (Nat.ne_of_lt (Nat.lt_of_lt_of_le E_x82.lt (Nat.le_of_eq g112.symm))) (ninS (Nat.ne_of_lt (Nat.lt_of_lt_of_le f308.lt p298_0)) nin0))).keep K319 (ninS (Nat.ne_of_lt (Nat.lt_of_lt_of_le E_x82.lt (Nat.le_of_eq g112.symm))) (ninS (Nat.ne_of_lt (Nat.lt_of_lt_of_le f308.lt p298_0)) nin0)))
    obtain ⟨_, T329, L329, X329, hQ329, st329⟩ := own_cS 0 (rm22_3 l Z a0 hw [] b112 w_AND mir_Object_ ar_298 kk_298 x62 x72 x82 u62 u72 u82 T319.heap n0 (Nat.le_trans (Nat.le_trans (Nat.le_trans (Nat.le_trans (Nat.le_trans (Nat.le_trans (Nat.le_trans (Nat.le_trans (Nat.le_trans (Nat.le_trans (Nat.le_trans (Nat.le_trans (Nat.le_trans (Nat.le_trans Z0 E1.1) (Keep.of_wr W7).1) (Keep.of_wr W13).1) K14.1) K25.1) (Keep.of_wr W43).1) K44.1) K58.1) (Keep.of_wr W79).1) E112.1) K113.1) K298.1) K309.1) K319.1) f330 f331 f332 M_mir_Object_ p319_2 p319_4 p319_5 p319_0 p319_1 f333 f334 f335 f336 f337 f338) X319 hx hZ58 hown58 hw 168 169 3 170 rfl rfl rfl rfl 138 #[iv p0, iv p1, iv p2, iv p3, iv 3, rv b1, rv x62, rv x72, rv x82, rv b112, .unset, .unset, .unset] [(.ref b112)] [] (hb hby at_138) hml (lenOf pd_29 rfl) rfl rfl (Nat.le_refl _) (by decide)
    have f339 := (f321.keep K319)
    have f340 := (f323.keep K319)
    have f341 := (f324.keep K319 (ninS (Nat.ne_of_lt (Nat.lt_of_lt_of_le f104.lt (Nat.le_of_eq g112.symm))) (ninS (Nat.ne_of_lt (Nat.lt_of_lt_of_le f305.lt p298_0)) nin0)))
    have f342 := (f325.keep K319)
    have f343 := (f326.keep K319 (ninS (Nat.ne_of_lt (Nat.lt_of_lt_of_le f106.lt (Nat.le_of_eq g112.symm))) (ninS (Nat.ne_of_lt (Nat.lt_of_lt_of_le f300.lt p298_0)) nin0)))
    obtain ⟨ob_329, hv_329, ls_329, el_329, kE_329, rfl, N329q, K329, p329_0, p329_1, p329_2, p329_3, p329_4, p329_5, p329_6, p329_7, p329_8, p329_9, p329_10, p329_11⟩ := hQ329
    have hk329 := Nat.le_trans hk319 K329.1
    have g_ob_329 : n0 ≤ ob_329 := Nat.le_trans (Nat.le_trans (Nat.le_trans (Nat.le_trans (Nat.le_trans (Nat.le_trans (Nat.le_trans (Nat.le_trans (Nat.le_trans (Nat.le_trans (Nat.le_trans (Nat.le_trans (Nat.le_trans (Nat.le_trans (Nat.le_trans Z0 E1.1) (Keep.of_wr W7).1) (Keep.of_wr W13).1) K14.1) K25.1) (Keep.of_wr W43).1) K44.1) K58.1) (Keep.of_wr W79).1) E112.1) K113.1) K298.1) K309.1) K319.1) p329_0
    have sz_ob_329 : h0.size ≤ ob_329 := Nat.le_trans (((((((((((((((Keep.refl h0 []).ext E1).wr W7 (Or.inr sz_b1)).wr W13 (Or.inr sz_b1)).trans K14 all0).trans K25 (allS (Or.inr sz_ob_14) all0)).wr W43 (Or.inr sz_b1)).trans K44 all0).trans K58 (allS (Or.inr sz_ob_44) all0)).wr W79 (Or.inr sz_b1)).ext E112).trans K113 (allS (Or.inr sz_b112) all0)).trans K298 (allS (Or.inr sz_b112) all0)).trans K309 (allS (Or.inr sz_b112) (allS (Or.inr sz_ar_298) all0))).trans K319 (allS (Or.inr sz_b112) (allS (Or.inr sz_ar_298) all0))).1 p329_0
    have g_ls_329 : n0 ≤ ls_329 := Nat.le_trans (Nat.le_trans (Nat.le_trans (Nat.le_trans (Nat.le_trans (Nat.le_trans (Nat.le_trans (Nat.le_trans (Nat.le_trans (Nat.le_trans (Nat.le_trans (Nat.le_trans (Nat.le_trans (Nat.le_trans (Nat.le_trans Z0 E1.1) (Keep.of_wr W7).1) (Keep.of_wr W13).1) K14.1) K25.1) (Keep.of_wr W43).1) K44.1) K58.1) (Keep.of_wr W79).1) E112.1) K113.1) K298.1) K309.1) K319.1) p329_1
    have sz_ls_329 : h0.size ≤ ls_329 := Nat.le_trans (((((((((((((((Keep.refl h0 []).ext E1).wr W7 (Or.inr sz_b1)).wr W13 (Or.inr sz_b1)).trans K14 all0).trans K25 (allS (Or.inr sz_ob_14) all0)).wr W43 (Or.inr sz_b1)).trans K44 all0).trans K58 (allS (Or.inr sz_ob_44) all0)).wr W79 (Or.inr sz_b1)).ext E112).trans K113 (allS (Or.inr sz_b112) all0)).trans K298 (allS (Or.inr sz_b112) all0)).trans K309 (allS (Or.inr sz_b112) (allS (Or.inr sz_ar_298) all0))).trans K319 (allS (Or.inr sz_b112) (allS (Or.inr sz_ar_298) all0))).1 p329_1
    have g_el_329 : n0 ≤ el_329 := Nat.le_trans (Nat.le_trans (Nat.le_trans (Nat.le_trans (Nat.le_trans (Nat.le_trans (Nat.le_trans (Nat.le_trans (Nat.le_trans (Nat.le_trans (Nat.le_trans (Nat.le_trans (Nat.le_trans (Nat.le_trans (Nat.le_trans Z0 E1.1) (Keep.of_wr W7).1) (Keep.of_wr W13).1) K14.1) K25.1) (Keep.of_wr W43).1) K44.1) K58.1) (Keep.of_wr W79).1) E112.1) K113.1) K298.1) K309.1) K319.1) p329_2
    have sz_el_329 : h0.size ≤ el_329 := Nat.le_trans (((((((((((((((Keep.refl h0 []).ext E1).wr W7 (Or.inr sz_b1)).wr W13 (Or.inr sz_b1)).trans K14 all0).trans K25 (allS (Or.inr sz_ob_14) all0)).wr W43 (Or.inr sz_b1)).trans K44 all0).trans K58 (allS (Or.inr sz_ob_44) all0)).wr W79 (Or.inr sz_b1)).ext E112).trans K113 (allS (Or.inr sz_b112) all0)).trans K298 (allS (Or.inr sz_b112) all0)).trans K309 (allS (Or.inr sz_b112) (allS (Or.inr sz_ar_298) all0))).trans K319 (allS (Or.inr sz_b112) (allS (Or.inr sz_ar_298) all0))).1 p329_2
    have N329 := Fr.app N319 N329q
    have f344 := (own_sta_keep (own_sta_keep (own_sta_keep (own_sta_keep (own_sta_keep (((own_sta_keep (own_sta_keep ((own_sta_keep (own_sta_keep ((f2.wr W7).wr W13) K14 all0) K25 pl25).wr W43) K44 all0) K58 pl58).wr W79).ext E112) K113 pl113) K298 pl298) K309 pl309) K319 pl319) K329 all0)
    obtain ⟨T345, X345, e345, st345⟩ := getS2 X329 hx hZ58 hown58 (host := "") (Or.inl (own_at hw 2 rfl)) Via.refl rfl f344 (g := (mkF m 145 #[iv p0, iv p1, iv p2, iv p3, iv 3, rv b1, rv x62, rv x72, rv x82, rv b112, rv ob_329, .unset, .unset] [(.ref b112)])) rfl (hb hby at_145)
    have f347 := (p319_2.keep K329)
    have f348 := (p319_3.keep K329 nin0)
    have f349 := (p319_4.keep K329 nin0)
    have f350 := (p319_5.keep K329 nin0)
    have f351 := (p319_0.keep K329)
    have f352 := (p319_1.keep K329 nin0)
    have f353 := (f339.keep K329)
    obtain ⟨_, T346, L346, X346, hQ346, st346⟩ := own_cV 0 (rm26_3 l Z a0 hw [] b112 w_THING ar_298 kk_298 ((((0 : Int32) + (1 : Int32)) + (1 : Int32)) + (1 : Int32)) x62 x72 x82 T329.heap n0 (Nat.le_trans (Nat.le_trans (Nat.le_trans (Nat.le_trans (Nat.le_trans (Nat.le_trans (Nat.le_trans (Nat.le_trans (Nat.le_trans (Nat.le_trans (Nat.le_trans (Nat.le_trans (Nat.le_trans (Nat.le_trans (Nat.le_trans Z0 E1.1) (Keep.of_wr W7).1) (Keep.of_wr W13).1) K14.1) K25.1) (Keep.of_wr W43).1) K44.1) K58.1) (Keep.of_wr W79).1) E112.1) K113.1) K298.1) K309.1) K319.1) K329.1) f347 f348 f349 f350 f351 f352 f353 p298_1 g_b112 g_ar_298) X345 hx hZ58 hown58 hw 197 198 200 199 146 201 rfl rfl rfl rfl rfl rfl b112 f347 148 #[iv p0, iv p1, iv p2, iv p3, iv 3, rv b1, rv x62, rv x72, rv x82, rv b112, rv ob_329, .unset, .unset] [(.ref w_THING)] [] (hb hby at_148) hml (lenOf pd_30 rfl) e345 rfl (Nat.le_refl _) (by decide)
    have f354 := (f331.keep K329)
    have f355 := (f340.keep K329)
    have f356 := (f341.keep K329 nin0)
    have f357 := (f342.keep K329)
    have f358 := (f343.keep K329 nin0)
    have f359 := (f333.keep K329)
    have f360 := (f335.keep K329)
    have f361 := (f337.keep K329)
    obtain ⟨rfl, N346q, K346, p346_0, p346_1, p346_2, p346_3, p346_4, p346_5⟩ := hQ346
    have pl346 := (allS (P := fun x => ∃ cell : Cell, T329.heap[x]? = some cell ∧ cell.vm.isStatics = false) (own_ns f347) (allS (P := fun x => ∃ cell : Cell, T329.heap[x]? = some cell ∧ cell.vm.isStatics = false) (own_ns f351) all0))
    have hk346 := Nat.le_trans hk329 K346.1
    have N346 := Fr.app N329 N346q
    have f363 := (p329_7.keep K346 (ninS (Ne.symm (Nat.ne_of_lt (Nat.lt_of_lt_of_le p319_2.lt p329_0))) (ninS (Ne.symm (Nat.ne_of_lt (Nat.lt_of_lt_of_le p319_0.lt p329_0))) nin0)))
    have f364 := (p329_3.keep K346)
    obtain ⟨_, T362, L362, X362, hQ362, st362⟩ := own_cV 0 (rm31 l Z a0 hw [] ob_329 ls_329 T346.heap n0 (Nat.le_trans (Nat.le_trans (Nat.le_trans (Nat.le_trans (Nat.le_trans (Nat.le_trans (Nat.le_trans (Nat.le_trans (Nat.le_trans (Nat.le_trans (Nat.le_trans (Nat.le_trans (Nat.le_trans (Nat.le_trans (Nat.le_trans (Nat.le_trans Z0 E1.1) (Keep.of_wr W7).1) (Keep.of_wr W13).1) K14.1) K25.1) (Keep.of_wr W43).1) K44.1) K58.1) (Keep.of_wr W79).1) E112.1) K113.1) K298.1) K309.1) K319.1) K329.1) K346.1) f363) X346 hx hZ58 hown58 hw 226 227 229 228 3 230 rfl rfl rfl rfl rfl rfl ob_329 f364 154 #[iv p0, iv p1, iv p2, iv p3, iv 3, rv b1, rv x62, rv x72, rv x82, rv b112, rv ob_329, .unset, .unset] [] [] (hb hby at_154) hml (lenOf pd_12 rfl) rfl rfl (Nat.le_refl _) (by decide)
    obtain ⟨rfl, N362q, e362⟩ := hQ362
    have N362 := Fr.app N346 N362q
    have f366 := (p329_4.keep K346 (ninS (Ne.symm (Nat.ne_of_lt (Nat.lt_of_lt_of_le p319_2.lt p329_0))) (ninS (Ne.symm (Nat.ne_of_lt (Nat.lt_of_lt_of_le p319_0.lt p329_0))) nin0)))
    obtain ⟨_, T365, L365, X365, hQ365, st365⟩ := own_cV 0 (rm32 l Z a0 hw [] ob_329 w_AND T346.heap n0 (Nat.le_trans (Nat.le_trans (Nat.le_trans (Nat.le_trans (Nat.le_trans (Nat.le_trans (Nat.le_trans (Nat.le_trans (Nat.le_trans (Nat.le_trans (Nat.le_trans (Nat.le_trans (Nat.le_trans (Nat.le_trans (Nat.le_trans (Nat.le_trans Z0 E1.1) (Keep.of_wr W7).1) (Keep.of_wr W13).1) K14.1) K25.1) (Keep.of_wr W43).1) K44.1) K58.1) (Keep.of_wr W79).1) E112.1) K113.1) K298.1) K309.1) K319.1) K329.1) K346.1) f366) X362 hx hZ58 hown58 hw 231 232 234 233 3 235 rfl rfl rfl rfl rfl rfl ob_329 f364 161 #[iv p0, iv p1, iv p2, iv p3, iv 3, rv b1, rv x62, rv x72, rv x82, rv b112, rv ob_329, rv ls_329, .unset] [] [] (hb hby at_161) hml (lenOf pd_31 rfl) e362 rfl (Nat.le_refl _) (by decide)
    obtain ⟨rfl, N365q, e365⟩ := hQ365
    have N365 := Fr.app N362 N365q
    have f367 := (own_sta_keep (own_sta_keep f330 K329 all0) K346 pl346)
    obtain ⟨T368, X368, e368, st368⟩ := getS2 X365 hx hZ58 hown58 (host := "") (Or.inl (own_at hw 236 rfl)) Via.refl e365 f367 (g := (mkF m 164 #[iv p0, iv p1, iv p2, iv p3, iv 3, rv b1, rv x62, rv x72, rv x82, rv b112, rv ob_329, rv ls_329, .unset] [(.ref w_AND)])) rfl (hb hby at_164)
    have f370 := (p329_5.keep K346 (ninS (Ne.symm (Nat.ne_of_lt (Nat.lt_of_lt_of_le p319_2.lt p329_0))) (ninS (Ne.symm (Nat.ne_of_lt (Nat.lt_of_lt_of_le p319_0.lt p329_0))) nin0)))
    obtain ⟨_, T369, L369, X369, hQ369, st369⟩ := own_cV 0 (rm33 l Z a0 hw [] ob_329 T346.heap n0 (Nat.le_trans (Nat.le_trans (Nat.le_trans (Nat.le_trans (Nat.le_trans (Nat.le_trans (Nat.le_trans (Nat.le_trans (Nat.le_trans (Nat.le_trans (Nat.le_trans (Nat.le_trans (Nat.le_trans (Nat.le_trans (Nat.le_trans (Nat.le_trans Z0 E1.1) (Keep.of_wr W7).1) (Keep.of_wr W13).1) K14.1) K25.1) (Keep.of_wr W43).1) K44.1) K58.1) (Keep.of_wr W79).1) E112.1) K113.1) K298.1) K309.1) K319.1) K329.1) K346.1) f370) X368 hx hZ58 hown58 hw 237 238 240 239 3 241 rfl rfl rfl rfl rfl rfl ob_329 f364 172 #[iv p0, iv p1, iv p2, iv p3, iv 3, rv b1, rv x62, rv x72, rv x82, rv b112, rv ob_329, rv ls_329, .unset] [] [] (hb hby at_172) hml (lenOf pd_32 rfl) e368 rfl (Nat.le_refl _) (by decide)
    obtain ⟨rfl, N369q, e369⟩ := hQ369
    have N369 := Fr.app N365 N369q
    have f372 := (p329_6.keep K346 (ninS (Ne.symm (Nat.ne_of_lt (Nat.lt_of_lt_of_le p319_2.lt p329_0))) (ninS (Ne.symm (Nat.ne_of_lt (Nat.lt_of_lt_of_le p319_0.lt p329_0))) nin0)))
    obtain ⟨_, T371, L371, X371, hQ371, st371⟩ := own_cV 0 (rm34 l Z a0 hw [] ob_329 T346.heap n0 (Nat.le_trans (Nat.le_trans (Nat.le_trans (Nat.le_trans (Nat.le_trans (Nat.le_trans (Nat.le_trans (Nat.le_trans (Nat.le_trans (Nat.le_trans (Nat.le_trans (Nat.le_trans (Nat.le_trans (Nat.le_trans (Nat.le_trans (Nat.le_trans Z0 E1.1) (Keep.of_wr W7).1) (Keep.of_wr W13).1) K14.1) K25.1) (Keep.of_wr W43).1) K44.1) K58.1) (Keep.of_wr W79).1) E112.1) K113.1) K298.1) K309.1) K319.1) K329.1) K346.1) f372) X369 hx hZ58 hown58 hw 242 243 245 244 3 246 rfl rfl rfl rfl rfl rfl ob_329 f364 180 #[iv p0, iv p1, iv p2, iv p3, iv 3, rv b1, rv x62, rv x72, rv x82, rv b112, rv ob_329, rv ls_329, .unset] [] [] (hb hby at_180) hml (lenOf pd_33 rfl) e369 rfl (Nat.le_refl _) (by decide)
    obtain ⟨rfl, N371q, e371⟩ := hQ371
    have N371 := Fr.app N369 N371q
    have f374 := (p329_10.keep K346 (ninS (Ne.symm (Nat.ne_of_lt (Nat.lt_of_lt_of_le p319_2.lt p329_1))) (ninS (Ne.symm (Nat.ne_of_lt (Nat.lt_of_lt_of_le p319_0.lt p329_1))) nin0)))
    have f375 := (p329_11.keep K346 (ninS (Ne.symm (Nat.ne_of_lt (Nat.lt_of_lt_of_le p319_2.lt p329_2))) (ninS (Ne.symm (Nat.ne_of_lt (Nat.lt_of_lt_of_le p319_0.lt p329_2))) nin0)))
    have f376 := (p329_9.keep K346)
    obtain ⟨_, T373, L373, X373, hQ373, st373⟩ := own_cI 0 (rm16_3 l Z a0 hw [] ls_329 el_329 kE_329 x62 x72 x82 T346.heap n0 (Nat.le_trans (Nat.le_trans (Nat.le_trans (Nat.le_trans (Nat.le_trans (Nat.le_trans (Nat.le_trans (Nat.le_trans (Nat.le_trans (Nat.le_trans (Nat.le_trans (Nat.le_trans (Nat.le_trans (Nat.le_trans (Nat.le_trans (Nat.le_trans Z0 E1.1) (Keep.of_wr W7).1) (Keep.of_wr W13).1) K14.1) K25.1) (Keep.of_wr W43).1) K44.1) K58.1) (Keep.of_wr W79).1) E112.1) K113.1) K298.1) K309.1) K319.1) K329.1) K346.1) f374 f375) X371 hx hZ58 hown58 hw 247 248 249 250 115 251 252 105 117 116 rfl rfl rfl rfl rfl rfl rfl rfl rfl rfl ls_329 f376 188 #[iv p0, iv p1, iv p2, iv p3, iv 3, rv b1, rv x62, rv x72, rv x82, rv b112, rv ob_329, rv ls_329, .unset] [] [] (hb hby at_188) hml (lenOf pd_5 rfl) e371 rfl (Nat.le_refl _) (by decide)
    obtain ⟨rfl, N373q, e373⟩ := hQ373
    have N373 := Fr.app N371 N373q
    obtain ⟨_, T377, L377, X377, hQ377, st377⟩ := own_cI 0 (rm46_0 l Z a0 hw [] ls_329 el_329 kE_329 x62 x72 x82 T346.heap n0 (Nat.le_trans (Nat.le_trans (Nat.le_trans (Nat.le_trans (Nat.le_trans (Nat.le_trans (Nat.le_trans (Nat.le_trans (Nat.le_trans (Nat.le_trans (Nat.le_trans (Nat.le_trans (Nat.le_trans (Nat.le_trans (Nat.le_trans (Nat.le_trans Z0 E1.1) (Keep.of_wr W7).1) (Keep.of_wr W13).1) K14.1) K25.1) (Keep.of_wr W43).1) K44.1) K58.1) (Keep.of_wr W79).1) E112.1) K113.1) K298.1) K309.1) K319.1) K329.1) K346.1) f374 f375) X373 hx hZ58 hown58 hw 329 322 323 324 325 326 327 105 328 116 rfl rfl rfl rfl rfl rfl rfl rfl rfl rfl ls_329 f376 219 #[iv p0, iv p1, iv p2, iv p3, iv 3, rv b1, rv x62, rv x72, rv x82, rv b112, rv ob_329, rv ls_329, iv 1] [(.int 0)] [] (hb hby at_219) hml (lenOf pd_7 rfl) e373 rfl (Nat.le_refl _) (by decide)
    obtain ⟨rfl, N377q, e377⟩ := hQ377
    have N377 := Fr.app N373 N377q
    obtain ⟨_, T378, L378, X378, hQ378, st378⟩ := own_cI 0 (rm46_1 l Z a0 hw [] ls_329 el_329 kE_329 x62 x72 x82 T346.heap n0 (Nat.le_trans (Nat.le_trans (Nat.le_trans (Nat.le_trans (Nat.le_trans (Nat.le_trans (Nat.le_trans (Nat.le_trans (Nat.le_trans (Nat.le_trans (Nat.le_trans (Nat.le_trans (Nat.le_trans (Nat.le_trans (Nat.le_trans (Nat.le_trans Z0 E1.1) (Keep.of_wr W7).1) (Keep.of_wr W13).1) K14.1) K25.1) (Keep.of_wr W43).1) K44.1) K58.1) (Keep.of_wr W79).1) E112.1) K113.1) K298.1) K309.1) K319.1) K329.1) K346.1) f374 f375) X377 hx hZ58 hown58 hw 329 322 323 324 325 326 327 105 328 116 rfl rfl rfl rfl rfl rfl rfl rfl rfl rfl ls_329 f376 250 #[iv p0, iv p1, iv p2, iv p3, iv 3, rv b1, rv x62, rv x72, rv x82, rv b112, rv ob_329, rv ls_329, iv 1] [(.int 1)] [] (hb hby at_250) hml (lenOf pd_7 rfl) e377 rfl (Nat.le_refl _) (by decide)
    obtain ⟨rfl, N378q, e378⟩ := hQ378
    have N378 := Fr.app N377 N378q
    obtain ⟨_, T379, L379, X379, hQ379, st379⟩ := own_cI 0 (rm46_2 l Z a0 hw [] ls_329 el_329 kE_329 x62 x72 x82 T346.heap n0 (Nat.le_trans (Nat.le_trans (Nat.le_trans (Nat.le_trans (Nat.le_trans (Nat.le_trans (Nat.le_trans (Nat.le_trans (Nat.le_trans (Nat.le_trans (Nat.le_trans (Nat.le_trans (Nat.le_trans (Nat.le_trans (Nat.le_trans (Nat.le_trans Z0 E1.1) (Keep.of_wr W7).1) (Keep.of_wr W13).1) K14.1) K25.1) (Keep.of_wr W43).1) K44.1) K58.1) (Keep.of_wr W79).1) E112.1) K113.1) K298.1) K309.1) K319.1) K329.1) K346.1) f374 f375) X378 hx hZ58 hown58 hw 329 322 323 324 325 326 327 105 328 116 rfl rfl rfl rfl rfl rfl rfl rfl rfl rfl ls_329 f376 281 #[iv p0, iv p1, iv p2, iv p3, iv 3, rv b1, rv x62, rv x72, rv x82, rv b112, rv ob_329, rv ls_329, iv 1] [(.int 2)] [] (hb hby at_281) hml (lenOf pd_7 rfl) e378 rfl (Nat.le_refl _) (by decide)
    obtain ⟨rfl, N379q, e379⟩ := hQ379
    have N379 := Fr.app N378 N379q
    obtain ⟨fs, hr, hrun, hended, hRW⟩ := X379.leaveW hS58 (by rw [e379]; exact hk346) (v := some (.int 1)) (fun h => by rw [Bd.returns] at h; cases h)
    have hCE : CHr Z own_EL s.vm s.heap T379.vm T379.heap := own_cr (by rw [hh, e379]; exact (((((((((((((((((Keep.refl h0 []).ext E1).wr W7 (Or.inr sz_b1)).wr W13 (Or.inr sz_b1)).trans K14 all0).trans K25 (allS (Or.inr sz_ob_14) all0)).wr W43 (Or.inr sz_b1)).trans K44 all0).trans K58 (allS (Or.inr sz_ob_44) all0)).wr W79 (Or.inr sz_b1)).ext E112).trans K113 (allS (Or.inr sz_b112) all0)).trans K298 (allS (Or.inr sz_b112) all0)).trans K309 (allS (Or.inr sz_b112) (allS (Or.inr sz_ar_298) all0))).trans K319 (allS (Or.inr sz_b112) (allS (Or.inr sz_ar_298) all0))).trans K329 all0).trans K346 (allS (Or.inr sz_b112) (allS (Or.inr sz_ar_298) all0))).1)
    refine ⟨_, _, k133 _ ?_, hrun, hended, _, _, rfl, ?_, hCE, hRW.1, hRW.2.1, hRW.2.2.1, hRW.2.2.2.mono (by decide) (by decide)⟩
    · rw [hk]
      refine oIl X113 hx hby at_94 rfl (oIc X113 hx hby at_96 ?_)
      refine XS.icmpNo X113.here hx rfl (hb hby at_97) rfl (flt (by decide : ¬ ((3 : Int32) < (1 : Int32)))).1 ?_
      refine oAl X113 hx hby at_100 rfl rfl (oAl X113 hx hby at_102 rfl rfl ?_)
      refine st298 _ ?_
      refine XS.pop X298.here hx rfl (hb hby at_107) rfl rfl ?_
      refine oIl X298 hx hby at_108 rfl (oIc X298 hx hby at_110 ?_)
      refine XS.icmpNo X298.here hx rfl (hb hby at_111) rfl (flt (by decide : ¬ ((3 : Int32) < (2 : Int32)))).1 ?_
      refine oAl X298 hx hby at_114 rfl rfl (oAl X298 hx hby at_116 rfl rfl ?_)
      refine st309 _ ?_
      refine XS.pop X309.here hx rfl (hb hby at_121) rfl rfl ?_
      refine oIl X309 hx hby at_122 rfl (oIc X309 hx hby at_124 ?_)
      refine XS.icmpNo X309.here hx rfl (hb hby at_125) rfl (flt (by decide : ¬ ((3 : Int32) < (3 : Int32)))).1 ?_
      refine oAl X309 hx hby at_128 rfl rfl (oAl X309 hx hby at_130 rfl rfl ?_)
      refine st319 _ ?_
      refine XS.pop X319.here hx rfl (hb hby at_135) rfl rfl ?_
      refine oAl X319 hx hby at_136 rfl rfl ?_
      refine st329 _ ?_
      refine XS.astore X329.here hx rfl (hb hby at_141) rfl rfl (l' := #[iv p0, iv p1, iv p2, iv p3, iv 3, rv b1, rv x62, rv x72, rv x82, rv b112, rv ob_329, .unset, .unset]) rfl ?_
      refine oAl X329 hx hby at_143 rfl rfl ?_
      refine st345 _ ?_
      refine st346 _ ?_
      refine XS.pop X346.here hx rfl (hb hby at_151) rfl rfl ?_
      refine oAl X346 hx hby at_152 rfl rfl ?_
      show OwnS p e below T346 (mkF m 154 #[iv p0, iv p1, iv p2, iv p3, iv 3, rv b1, rv x62, rv x72, rv x82, rv b112, rv ob_329, .unset, .unset] [(.ref ob_329)]) _
      refine st362 _ ?_
      refine XS.astore X362.here hx rfl (hb hby at_157) rfl rfl (l' := #[iv p0, iv p1, iv p2, iv p3, iv 3, rv b1, rv x62, rv x72, rv x82, rv b112, rv ob_329, rv ls_329, .unset]) rfl ?_
      refine oAl X362 hx hby at_159 rfl rfl ?_
      refine st365 _ ?_
      refine st368 _ ?_
      refine Jvm.RoadKit.acmp (g := (mkF m 167 #[iv p0, iv p1, iv p2, iv p3, iv 3, rv b1, rv x62, rv x72, rv x82, rv b112, rv ob_329, rv ls_329, .unset] [(.ref w_AND), (.ref w_AND)])) X368 hx rfl rfl rfl (pc0 := 167) (pc' := 170) (same := true) rfl (hb hby at_167) rfl (decide_eq_true rfl) (by decide) (by decide) ?_
      refine oAl X368 hx hby at_170 rfl rfl ?_
      refine st369 _ ?_
      refine XS.ifnonnullNo X369.here hx rfl (hb hby at_175) rfl ?_
      refine oAl X369 hx hby at_178 rfl rfl ?_
      refine st371 _ ?_
      refine XS.ifnonnullNo X371.here hx rfl (hb hby at_183) rfl ?_
      refine oAl X371 hx hby at_186 rfl rfl ?_
      refine st373 _ ?_
      refine oIl X373 hx hby at_193 rfl ?_
      refine XS.icmpNo X373.here hx rfl (hb hby at_195) rfl (teq (by decide : (3 : Int32) = (3 : Int32))).2 ?_
      refine oIc X373 hx hby at_198 (oGo X373 hx hby 199 203 at_199 (by decide) (by decide) ?_)
      refine XS.istore X373.here hx rfl (hb hby at_203) rfl (l' := #[iv p0, iv p1, iv p2, iv p3, iv 3, rv b1, rv x62, rv x72, rv x82, rv b112, rv ob_329, rv ls_329, iv 1]) rfl ?_
      refine oIl X373 hx hby at_205 rfl ?_
      refine XS.ifNo X373.here hx rfl (hb hby at_207) rfl ((if0 _ _).trans (feq (by decide : ¬ ((1 : Int32) = (0 : Int32)))).1) ?_
      refine oIl X373 hx hby at_210 rfl (oIc X373 hx hby at_212 ?_)
      refine XS.icmpNo X373.here hx rfl (hb hby at_213) rfl (flt (by decide : ¬ ((3 : Int32) < (1 : Int32)))).1 ?_
      refine oAl X373 hx hby at_216 rfl rfl (oIc X373 hx hby at_218 ?_)
      refine st377 _ ?_
      refine oAl X377 hx hby at_224 rfl rfl ?_
      refine Jvm.RoadKit.acmp (g := (mkF m 226 #[iv p0, iv p1, iv p2, iv p3, iv 3, rv b1, rv x62, rv x72, rv x82, rv b112, rv ob_329, rv ls_329, iv 1] [(.ref x62), (.ref x62)])) X377 hx rfl rfl rfl (pc0 := 226) (pc' := 229) (same := true) rfl (hb hby at_226) rfl (decide_eq_true rfl) (by decide) (by decide) ?_
      refine oIc X377 hx hby at_229 ?_
      show OwnS p e below T377 (mkF m 230 #[iv p0, iv p1, iv p2, iv p3, iv 3, rv b1, rv x62, rv x72, rv x82, rv b112, rv ob_329, rv ls_329, iv 1] [(.int 1)]) _
      refine oGo X377 hx hby 230 234 at_230 (by decide) (by decide) ?_
      refine XS.istore X377.here hx rfl (hb hby at_234) rfl (l' := #[iv p0, iv p1, iv p2, iv p3, iv 3, rv b1, rv x62, rv x72, rv x82, rv b112, rv ob_329, rv ls_329, iv 1]) rfl ?_
      refine oIl X377 hx hby at_236 rfl ?_
      refine XS.ifNo X377.here hx rfl (hb hby at_238) rfl ((if0 _ _).trans (feq (by decide : ¬ ((1 : Int32) = (0 : Int32)))).1) ?_
      refine oIl X377 hx hby at_241 rfl (oIc X377 hx hby at_243 ?_)
      refine XS.icmpNo X377.here hx rfl (hb hby at_244) rfl (flt (by decide : ¬ ((3 : Int32) < (2 : Int32)))).1 ?_
      refine oAl X377 hx hby at_247 rfl rfl (oIc X377 hx hby at_249 ?_)
      refine st378 _ ?_
      refine oAl X378 hx hby at_255 rfl rfl ?_
      refine Jvm.RoadKit.acmp (g := (mkF m 257 #[iv p0, iv p1, iv p2, iv p3, iv 3, rv b1, rv x62, rv x72, rv x82, rv b112, rv ob_329, rv ls_329, iv 1] [(.ref x72), (.ref x72)])) X378 hx rfl rfl rfl (pc0 := 257) (pc' := 260) (same := true) rfl (hb hby at_257) rfl (decide_eq_true rfl) (by decide) (by decide) ?_
      refine oIc X378 hx hby at_260 (oGo X378 hx hby 261 265 at_261 (by decide) (by decide) ?_)
      refine XS.istore X378.here hx rfl (hb hby at_265) rfl (l' := #[iv p0, iv p1, iv p2, iv p3, iv 3, rv b1, rv x62, rv x72, rv x82, rv b112, rv ob_329, rv ls_329, iv 1]) rfl ?_
      refine oIl X378 hx hby at_267 rfl ?_
      refine XS.ifNo X378.here hx rfl (hb hby at_269) rfl ((if0 _ _).trans (feq (by decide : ¬ ((1 : Int32) = (0 : Int32)))).1) ?_
      refine oIl X378 hx hby at_272 rfl (oIc X378 hx hby at_274 ?_)
      refine XS.icmpNo X378.here hx rfl (hb hby at_275) rfl (flt (by decide : ¬ ((3 : Int32) < (3 : Int32)))).1 ?_
      refine oAl X378 hx hby at_278 rfl rfl (oIc X378 hx hby at_280 ?_)
      refine st379 _ ?_
      refine oAl X379 hx hby at_286 rfl rfl ?_
      refine Jvm.RoadKit.acmp (g := (mkF m 288 #[iv p0, iv p1, iv p2, iv p3, iv 3, rv b1, rv x62, rv x72, rv x82, rv b112, rv ob_329, rv ls_329, iv 1] [(.ref x82), (.ref x82)])) X379 hx rfl rfl rfl (pc0 := 288) (pc' := 291) (same := true) rfl (hb hby at_288) rfl (decide_eq_true rfl) (by decide) (by decide) ?_
      refine oIc X379 hx hby at_291 (oGo X379 hx hby 292 296 at_292 (by decide) (by decide) ?_)
      refine XS.istore X379.here hx rfl (hb hby at_296) rfl (l' := #[iv p0, iv p1, iv p2, iv p3, iv 3, rv b1, rv x62, rv x72, rv x82, rv b112, rv ob_329, rv ls_329, iv 1]) rfl ?_
      refine oIl X379 hx hby at_298 rfl ?_
      exact retN X379 hx (t := .boolean) Bd.returns (by simp) (hb hby at_300) hr
    · show Q_0 Z _ _ _ _ _ _ _ _ _ _ _ _ _ _ _ _ h0 n0 _ T379.heap _
      rw [e379]
      exact ⟨rfl, N379, trivial⟩
set_option maxRecDepth 65536 in
set_option maxHeartbeats 40000000 in
theorem comes_1 {Post : Tables → Env → Array Value → State → Outcome → State → Prop} (hpost : ∀ tb e args s v u, (limb_1_1.after args s (.returned v) u = true ∧ limb_1_2.after args s (.returned v) u = true ∧ True) → ReturnedEndW s (.returned v) u (Jvm.fieldLocs frame_1_writes args s ++ Jvm.arrayLocs frame_1_arrays args s ++ Jvm.staticLocs frame_1_statics s) 48 1216 → Post tb e args s (.returned v) u) :
    ArmFor flags0 classFile x code maxLocals ret World_1 tables_1 room_1 Calls_1 rest_1 Pre_1 Post := by
  intro l hfl _ _ p e ha hc hk s m args below hf hA hF happ hP
  obtain ⟨hcalls, hrest, hpre⟩ := hP
  obtain ⟨-, -, -, hnamed, -, -, -, hat⟩ := (Spec.applies_iff hf).mp happ
  obtain ⟨hg, hn⟩ := and_e (Cond.before_iff.mp (show (Jvm.Cond.and given_1 narrow_1).before args s = true from hpre))
  have hw := fun d (hd : d ∈ tables_1) => atoms_spec (ws := Jvm.Cond.code x code maxLocals ret :: tables_1) hat d (List.mem_cons_of_mem _ hd)
  have hfit : Fit s := fun {y c} hc i hi => by
    obtain ⟨ha, rfl⟩ := Array.getElem?_eq_some_iff.mp hc
    have q := List.all_eq_true.mp ((Array.all_eq_true_iff_forall_mem.mp hF) _ (Array.getElem_mem ha)) i (List.mem_range.mpr hi)
    simpa [Array.getElem?_eq_getElem hi] using q
  obtain ⟨hsets, hown0⟩ := atoms_of _ (rest_1_c_eq ▸ (show rest_1_c.before _ s = true from hrest))
  have hr0 := Cond.before_iff.mp hown0
  obtain ⟨cj1, cj2⟩ := and_e hg
  obtain ⟨cj3, cj4⟩ := and_e cj2
  obtain ⟨cj5, cj6⟩ := and_e cj4
  obtain ⟨cj7, cj8⟩ := and_e cj6
  obtain ⟨cj9, cj10⟩ := and_e hn
  obtain ⟨cj11, cj12⟩ := and_e cj10
  obtain ⟨cj13, cj14⟩ := and_e cj12
  obtain ⟨cj15, cj16⟩ := and_e cj14
  obtain ⟨cj17, cj18⟩ := and_e cj16
  obtain ⟨cj19, cj20⟩ := and_e cj18
  obtain ⟨cj21, cj22⟩ := and_e cj20
  obtain ⟨w0, w1, w2, w3, rfl⟩ : ∃ w0 w1 w2 w3 : Value, args = #[w0, w1, w2, w3] := by
    have hs : args.size = 4 := by simpa [Cond.value, given_1] using cj1
    obtain ⟨L⟩ := args
    match L, hs with
    | [w0, w1, w2, w3], _ => exact ⟨w0, w1, w2, w3, rfl⟩
  obtain ⟨i0, ei0⟩ := is_v cj3
  obtain rfl : w0 = (.int i0) := Option.some.inj ei0
  obtain ⟨i1, ei1⟩ := is_v cj5
  obtain rfl : w1 = (.int i1) := Option.some.inj ei1
  obtain ⟨i2, ei2⟩ := is_v cj7
  obtain rfl : w2 = (.int i2) := Option.some.inj ei2
  obtain ⟨i3, ei3⟩ := is_v cj8
  obtain rfl : w3 = (.int i3) := Option.some.inj ei3
  obtain ⟨w_THING, ev_THING⟩ := exa_v cj9
  have S_THING : Sta s s.heap cS0 "THING" "Lcom/example/tablox/tablox/concept/Concept;" (.ref w_THING) := Sta.start ev_THING (Or.inr ⟨(own_at hw 3 rfl), (own_at hw 4 rfl)⟩)
  have E_w_THING : Exa s s.heap w_THING cS0 := Exa.start ev_THING cj9
  obtain ⟨w_NOTHING, ev_NOTHING⟩ := exa_v cj11
  have S_NOTHING : Sta s s.heap cS0 "NOTHING" "Lcom/example/tablox/tablox/concept/Concept;" (.ref w_NOTHING) := Sta.start ev_NOTHING (Or.inr ⟨(own_at hw 3 rfl), (own_at hw 7 rfl)⟩)
  have E_w_NOTHING : Exa s s.heap w_NOTHING cS0 := Exa.start ev_NOTHING cj11
  obtain ⟨w_NAME, ev_NAME⟩ := exa_v cj13
  have S_NAME : Sta s s.heap cS2 "NAME" cS10 (.ref w_NAME) := Sta.start ev_NAME (Or.inr ⟨(own_at hw 40 rfl), (own_at hw 41 rfl)⟩)
  have E_w_NAME : Exa s s.heap w_NAME cS2 := Exa.start ev_NAME cj13
  obtain ⟨w_AND, ev_AND⟩ := exa_v cj17
  have S_AND : Sta s s.heap cS2 "AND" cS10 (.ref w_AND) := Sta.start ev_AND (Or.inr ⟨(own_at hw 40 rfl), (own_at hw 172 rfl)⟩)
  have E_w_AND : Exa s s.heap w_AND cS2 := Exa.start ev_AND cj17
  have F_ordinal_w_NAME : Fld s s.heap w_NAME cS25 "ordinal" "I" (.int (2 : Int32)) := Fld.start ((fld_at ev_NAME).symm.trans (own_eq_int cj15))
  have F_ordinal_w_AND : Fld s s.heap w_AND cS25 "ordinal" "I" (.int (4 : Int32)) := Fld.start ((fld_at ev_AND).symm.trans (own_eq_int cj19))
  have F_hash_w_NOTHING : Fld s s.heap w_NOTHING cS0 "hash" "I" (.int (31 : Int32)) := Fld.start ((fld_at ev_NOTHING).symm.trans (own_eq_int cj21))
  have F_hash_w_THING : Fld s s.heap w_THING cS0 "hash" "I" (.int (0 : Int32)) := Fld.start ((fld_at ev_THING).symm.trans (own_eq_int cj22))
  have hcw : Jvm.Lit.compactW.before _ s = true := (hsets _ (List.mem_of_getElem? (i := 2) rfl))
  obtain ⟨w_CS, ev_CS⟩ := is_v (Cond.before_iff.mp (hsets _ (List.mem_of_getElem? (i := 1) rfl)))
  have S_CS : Sta s s.heap cS8 "COMPACT_STRINGS" "Z" (.int w_CS) := Sta.start ev_CS (Or.inl (hsets _ (List.mem_of_getElem? (i := 0) rfl)))
  have hcs : ¬ (w_CS = (0 : Int32)) := own_ncs ev_CS hcw
  obtain ⟨w_EMPTY_LIST, ev_EL⟩ := exa_v (Cond.before_iff.mp (hsets _ (List.mem_of_getElem? (i := 11) rfl)))
  have S_EMPTY_LIST : Sta s s.heap cS14 "EMPTY_LIST" "Ljava/util/ImmutableCollections$ListN;" (.ref w_EMPTY_LIST) := Sta.start ev_EL (Or.inl (hsets _ (List.mem_of_getElem? (i := 10) rfl)))
  have E_w_EMPTY_LIST : Exa s s.heap w_EMPTY_LIST cS7 := Exa.start ev_EL (Cond.before_iff.mp (hsets _ (List.mem_of_getElem? (i := 11) rfl)))
  obtain ⟨wel, ev_wel⟩ := arr_v (Cond.before_iff.mp (hsets _ (List.mem_of_getElem? (i := 12) rfl)))
  have F_elements_w_EMPTY_LIST : Fld s s.heap w_EMPTY_LIST cS7 "elements" cS6 (.ref wel) := Fld.start ((fld_at ev_EL).symm.trans ev_wel)
  obtain ⟨cl_wel, Ar_wel⟩ := Arr.start ev_wel (Cond.before_iff.mp (hsets _ (List.mem_of_getElem? (i := 12) rfl)))
  obtain ⟨sz_wel, le_wel⟩ := own_len (own_eq_int (Cond.before_iff.mp (hsets _ (List.mem_of_getElem? (i := 14) rfl)))) ev_wel (Arr.fin (Vm.Alike.refl _) Ar_wel)
  obtain ⟨kW, hk_kW⟩ : ∃ z, z = cl_wel.cls := ⟨_, rfl⟩
  have V_wel : Arv s s.heap wel kW (.object cS3) (0 : Int32) [] .null := by rw [hk_kW]; exact Arv.start hfit Ar_wel sz_wel le_wel (by decide) rfl trivial
  obtain ⟨w_DEFAULTCAPACITY_EMPTY_ELEMENTDATA, ev_DEF⟩ := arr_v (Cond.before_iff.mp (hsets _ (List.mem_of_getElem? (i := 22) rfl)))
  have S_DEF : Sta s s.heap cS4 "DEFAULTCAPACITY_EMPTY_ELEMENTDATA" cS6 (.ref w_DEFAULTCAPACITY_EMPTY_ELEMENTDATA) := Sta.start ev_DEF (Or.inr ⟨(own_at hw 146 rfl), (hsets _ (List.mem_of_getElem? (i := 18) rfl))⟩)
  obtain ⟨cl_w_DEFAULTCAPACITY_EMPTY_ELEMENTDATA, Ar_w_DEFAULTCAPACITY_EMPTY_ELEMENTDATA⟩ := Arr.start ev_DEF (Cond.before_iff.mp (hsets _ (List.mem_of_getElem? (i := 22) rfl)))
  obtain ⟨sz_w_DEFAULTCAPACITY_EMPTY_ELEMENTDATA, le_w_DEFAULTCAPACITY_EMPTY_ELEMENTDATA⟩ := own_len (own_eq_int (Cond.before_iff.mp (hsets _ (List.mem_of_getElem? (i := 24) rfl)))) ev_DEF (Arr.fin (Vm.Alike.refl _) Ar_w_DEFAULTCAPACITY_EMPTY_ELEMENTDATA)
  obtain ⟨kD, hk_kD⟩ : ∃ z, z = cl_w_DEFAULTCAPACITY_EMPTY_ELEMENTDATA.cls := ⟨_, rfl⟩
  have V_w_DEFAULTCAPACITY_EMPTY_ELEMENTDATA : Arv s s.heap w_DEFAULTCAPACITY_EMPTY_ELEMENTDATA kD (.object cS3) (0 : Int32) [] .null := by rw [hk_kD]; exact Arv.start hfit Ar_w_DEFAULTCAPACITY_EMPTY_ELEMENTDATA sz_w_DEFAULTCAPACITY_EMPTY_ELEMENTDATA le_w_DEFAULTCAPACITY_EMPTY_ELEMENTDATA (by decide) rfl trivial
  obtain ⟨w_EMPTY, ev_EMP⟩ := exa_v (Cond.before_iff.mp (hsets _ (List.mem_of_getElem? (i := 27) rfl)))
  have S_EMPTY : Sta s s.heap cS14 "EMPTY" cS13 (.ref w_EMPTY) := Sta.start ev_EMP (Or.inl (hsets _ (List.mem_of_getElem? (i := 26) rfl)))
  have E_w_EMPTY : Exa s s.heap w_EMPTY cS3 := Exa.start ev_EMP (Cond.before_iff.mp (hsets _ (List.mem_of_getElem? (i := 27) rfl)))
  obtain ⟨cM, kM, mir_Object_, hM⟩ := hcalls.1
  have M_mir_Object_ : own_Mir s cS6 mir_Object_ := ⟨cM, kM, hM.1, hM.2.1, hM.2.2.1⟩
  have hCH : CHv s own_EL s.vm s.heap := own_ch
  obtain ⟨n, o, h1, h2, h3, _, L, rfl, ⟨rfl, N, -⟩, -, hq⟩ := rm0 l s _ hw tables_1 i0 i1 i2 i3 w_CS w_THING w_NOTHING w_NAME w_AND w_EMPTY w_EMPTY_LIST wel kW w_DEFAULTCAPACITY_EMPTY_ELEMENTDATA kD mir_Object_ s.heap s.heap.size (Nat.le_refl _) S_CS hcs S_THING E_w_THING F_hash_w_THING S_NOTHING E_w_NOTHING F_hash_w_NOTHING S_NAME E_w_NAME F_ordinal_w_NAME S_AND E_w_AND F_ordinal_w_AND S_EMPTY_LIST E_w_EMPTY_LIST F_elements_w_EMPTY_LIST V_wel S_EMPTY E_w_EMPTY S_DEF V_w_DEFAULTCAPACITY_EMPTY_ELEMENTDATA M_mir_Object_ p e ha hc hk s m _ below hf ((Spec.applies_iff_loose hf).mp happ).1 ⟨rfl, State.Warmed39.refl s, rfl, hCH⟩ trivial
  refine ⟨n, _, h1, h2, h3, hpost _ _ _ _ _ _ ⟨Cond.after_iff.mpr rfl, Cond.after_iff.mpr (eq_i res_at (Term.int_eval (1)) rfl), trivial⟩ ⟨hq.1, hq.2.1, hq.2.2.1, (hq.2.2.2.sift fun y hy => Or.inr (N y hy)).mono (by decide) (by decide)⟩⟩
theorem main_1_1 : Claimed_1_1 := comes_1 fun _ _ _ _ _ _ h hF => ⟨h.1, hF⟩
theorem main_1_2 : Claimed_1_2 := comes_1 fun _ _ _ _ _ _ h hF => ⟨h.2.1, hF⟩
end Jvm.Pilot.@@N@@
namespace Jvm.Pilot.@@N@@
open Jvm Jvm.ClassFile Sem Op Lib Jvm.Free Jvm.Stand Jvm.Pilot.@@N@@.Jvm.D
/-! MADE BY PROGRAM (witnessworld.py) out of the Statement's table words and the real class files: 41 classes; the members and pool entries that the words name. The judged class is class 1, her method 1. -/
namespace start1
open Jvm.ClassFile
def u (s : String) : CpInfo := .utf8 (stringToUtf16 s)
/-- a pool by its gaps: so many unusable entries, then the entry; so many at the end -/
def gap : Nat → List CpInfo → List CpInfo
  | 0, r => r
  | n + 1, r => .unusable :: gap n r
def poolList (es : List (Nat × CpInfo)) (last : Nat) : List CpInfo := es.foldr (fun e r => gap e.1 (e.2 :: r)) (gap last [])
def pool (es : List (Nat × CpInfo)) (last : Nat) : Array CpInfo := ⟨poolList es last⟩
def fileOf (pool : Array CpInfo) (this : Nat) (attrs : Array Attribute := #[]) (ms : Array MethodInfo := #[]) (fl : Nat := 33) (sup : Nat := 0) (ifs : Array Nat := #[]) (fds : Array FieldInfo := #[]) : ClassFile where
  minorVersion := 0
  majorVersion := 65
  constantPool := pool
  accessFlags := fl
  thisClass := this
  superClass := sup
  interfaces := ifs
  fields := fds
  methods := ms
  attributes := attrs
def plain (name : String) (sup : Option ClassId) : Class where
  name := name
  kind := .ordinary
  loader := none
  accessFlags := 33
  super := sup
  interfaces := #[]
  cf := none
  fields := #[]
  methods := #[]
  instanceTypes := #[]
  staticTypes := #[]
  resolved := #[]
  callSites := []
  init := .initialized
  statics := none
  mirror := none

def pool0 : Array CpInfo := pool [(5, u "<init>"), (0, u "()V"), (1, .class_ 10), (1, u "java/lang/Object"), (0, u "getClass"), (0, u "()Ljava/lang/Class;"), (14, u "hashCode"), (0, u "()I")] 95

def k0c0 : Code := { maxStack := 0, maxLocals := 1, code := object_method_1_code, exceptionTable := #[], attributes := #[] }
def k0m0 : Method := { name := "<init>", desc := "()V", sig := { parameters := [], returnType := none }, accessFlags := 1, code := some k0c0 }
def k0m1 : Method := { name := "getClass", desc := "()Ljava/lang/Class;", sig := { parameters := [], returnType := some (.object "java/lang/Class") }, accessFlags := 273, code := none }
def k0m2 : Method := { name := "hashCode", desc := "()I", sig := { parameters := [], returnType := some .int }, accessFlags := 257, code := none }
/-- java/lang/Object -/
def k0 : Class := { plain "java/lang/Object" none with
  accessFlags := 33
  interfaces := #[]
  cf := some (fileOf pool0 8 #[] #[{ accessFlags := 1, nameIndex := 5, descriptorIndex := 6, attributes := #[] }, { accessFlags := 273, nameIndex := 11, descriptorIndex := 12, attributes := #[] }, { accessFlags := 257, nameIndex := 27, descriptorIndex := 28, attributes := #[] }] 33 0 #[] #[])
  fields := #[]
  methods := #[k0m0, k0m1, k0m2]
  instanceTypes := #[]
  staticTypes := #[]
  resolved := Array.replicate 124 none
  statics := none }

def pool1 : Array CpInfo := pool [(2, .class_ 4), (0, .nameAndType 5 6), (0, u "java/lang/Object"), (0, u "<init>"), (0, u "()V"), (0, .class_ 8), (0, u "com/example/tablox/tablox/concept/Concept"), (0, .fieldref 7 10), (0, .nameAndType 11 12), (0, u "THING"), (0, u "Lcom/example/tablox/tablox/concept/Concept;"), (0, .fieldref 7 14), (0, .nameAndType 15 12), (0, u "NOTHING"), (0, .methodref 17 18), (0, .class_ 19), (0, .nameAndType 20 21), (0, u "java/lang/String"), (0, u "valueOf"), (0, u "(C)Ljava/lang/String;"), (0, .methodref 7 23), (0, .nameAndType 24 25), (0, u "named"), (0, u "(Ljava/lang/String;)Lcom/example/tablox/tablox/concept/Concept;"), (0, .class_ 27), (0, u "java/util/ArrayList"), (0, .methodref 26 3), (0, .methodref 26 30), (0, .nameAndType 31 32), (0, u "add"), (0, u "(Ljava/lang/Object;)Z"), (0, .methodref 7 34), (0, .nameAndType 35 36), (0, u "and"), (0, u "(Ljava/util/List;)Lcom/example/tablox/tablox/concept/Concept;"), (0, .methodref 7 38), (0, .nameAndType 39 40), (0, u "operands"), (0, u "()Ljava/util/List;"), (0, .methodref 7 42), (0, .nameAndType 43 44), (0, u "kind"), (0, u "()Lcom/example/tablox/tablox/concept/Concept$Kind;"), (0, .fieldref 46 47), (0, .class_ 48), (0, .nameAndType 49 50), (0, u "com/example/tablox/tablox/concept/Concept$Kind"), (0, u "AND"), (0, u "Lcom/example/tablox/tablox/concept/Concept$Kind;"), (0, .methodref 7 52), (0, .nameAndType 53 54), (0, u "name"), (0, u "()Ljava/lang/String;"), (0, .methodref 7 56), (0, .nameAndType 57 58), (0, u "role"), (0, u "()Lcom/example/tablox/tablox/concept/Role;"), (0, .interfaceMethodref 60 61), (0, .class_ 62), (0, .nameAndType 63 64), (0, u "java/util/List"), (0, u "size"), (0, u "()I"), (0, .interfaceMethodref 60 66), (0, .nameAndType 67 68), (0, u "get"), (0, u "(I)Ljava/lang/Object;"), (0, .class_ 70), (0, u "com/example/tablox/tablox/concept/ConceptAndPinLaw"), (2, u "law"), (0, u "(IIII)Z")] 7

def k1m0 : Method := { name := "<init>", desc := "()V", sig := { parameters := [], returnType := none }, accessFlags := 1, code := none }
def k1c1 : Code := { maxStack := 4, maxLocals := 13, code := code, exceptionTable := #[], attributes := #[] }
def k1m1 : Method := { name := "law", desc := "(IIII)Z", sig := { parameters := [.int, .int, .int, .int], returnType := some .boolean }, accessFlags := 9, code := some k1c1 }
/-- com/example/tablox/tablox/concept/ConceptAndPinLaw -/
def k1 : Class := { plain "com/example/tablox/tablox/concept/ConceptAndPinLaw" (some 0) with
  accessFlags := 49
  interfaces := #[]
  cf := some (fileOf pool1 69 #[] #[{ accessFlags := 1, nameIndex := 5, descriptorIndex := 6, attributes := #[] }, { accessFlags := 9, nameIndex := 73, descriptorIndex := 74, attributes := #[] }] 49 2 #[] #[])
  fields := #[]
  methods := #[k1m0, k1m1]
  instanceTypes := #[]
  staticTypes := #[]
  resolved := Array.replicate 82 none
  statics := none }

def pool2 : Array CpInfo := pool [(1, .methodref 2 3), (0, .class_ 4), (0, .nameAndType 5 6), (0, u "java/lang/Object"), (0, u "<init>"), (0, u "()V"), (0, .fieldref 8 9), (0, .class_ 10), (0, .nameAndType 11 12), (0, u "com/example/tablox/tablox/concept/Concept"), (0, u "kind"), (0, u "Lcom/example/tablox/tablox/concept/Concept$Kind;"), (0, .fieldref 8 14), (0, .nameAndType 15 16), (0, u "name"), (0, u "Ljava/lang/String;"), (0, .fieldref 8 18), (0, .nameAndType 19 20), (0, u "role"), (0, u "Lcom/example/tablox/tablox/concept/Role;"), (0, .fieldref 8 22), (0, .nameAndType 23 24), (0, u "operands"), (0, u "Ljava/util/List;"), (0, .methodref 26 27), (0, .class_ 28), (0, .nameAndType 29 30), (0, u "com/example/tablox/tablox/concept/Concept$Kind"), (0, u "ordinal"), (0, u "()I"), (0, .methodref 32 33), (0, .class_ 34), (0, .nameAndType 35 36), (0, u "java/util/Objects"), (0, u "hashCode"), (0, u "(Ljava/lang/Object;)I"), (0, .interfaceMethodref 38 39), (0, .class_ 40), (0, .nameAndType 41 42), (0, u "java/util/List"), (0, u "iterator"), (0, u "()Ljava/util/Iterator;"), (0, .interfaceMethodref 44 45), (0, .class_ 46), (0, .nameAndType 47 48), (0, u "java/util/Iterator"), (0, u "hasNext"), (0, u "()Z"), (0, .interfaceMethodref 44 50), (0, .nameAndType 51 52), (0, u "next"), (0, u "()Ljava/lang/Object;"), (0, .fieldref 8 54), (0, .nameAndType 55 56), (0, u "hash"), (0, u "I"), (0, .fieldref 26 58), (0, .nameAndType 59 12), (0, u "NAME"), (0, .string 61), (0, u "iri"), (0, .methodref 32 63), (0, .nameAndType 64 65), (0, u "requireNonNull"), (0, u "(Ljava/lang/Object;Ljava/lang/String;)Ljava/lang/Object;"), (0, .class_ 67), (0, u "java/lang/String"), (0, .interfaceMethodref 38 69), (0, .nameAndType 70 71), (0, u "of"), (0, u "()Ljava/util/List;"), (0, .methodref 8 73), (0, .nameAndType 5 74), (0, u "(Lcom/example/tablox/tablox/concept/Concept$Kind;Ljava/lang/String;Lcom/example/tablox/tablox/concept/Role;Ljava/util/List;)V"), (6, .fieldref 26 82), (0, .nameAndType 83 12), (0, u "AND"), (0, .interfaceMethodref 38 85), (0, .nameAndType 86 87), (0, u "copyOf"), (0, u "(Ljava/util/Collection;)Ljava/util/List;"), (27, .class_ 116), (0, u "com/example/tablox/tablox/concept/Concept$Rewrite"), (13, u "Lcom/example/tablox/tablox/concept/Concept;"), (17, u "NOTHING"), (2, u "THING"), (29, u "named"), (0, u "(Ljava/lang/String;)Lcom/example/tablox/tablox/concept/Concept;"), (0, u "and"), (0, u "(Ljava/util/List;)Lcom/example/tablox/tablox/concept/Concept;"), (5, u "()Lcom/example/tablox/tablox/concept/Concept$Kind;"), (0, u "()Ljava/lang/String;"), (0, u "()Lcom/example/tablox/tablox/concept/Role;")] 10

def k2c0 : Code := { maxStack := 2, maxLocals := 8, code := prog_5_method_1_code, exceptionTable := #[], attributes := #[] }
def k2m0 : Method := { name := "<init>", desc := "(Lcom/example/tablox/tablox/concept/Concept$Kind;Ljava/lang/String;Lcom/example/tablox/tablox/concept/Role;Ljava/util/List;)V", sig := { parameters := [(.object "com/example/tablox/tablox/concept/Concept$Kind"), (.object "java/lang/String"), (.object "com/example/tablox/tablox/concept/Role"), (.object "java/util/List")], returnType := none }, accessFlags := 2, code := some k2c0 }
def k2c1 : Code := { maxStack := 6, maxLocals := 1, code := prog_5_method_2_code, exceptionTable := #[], attributes := #[] }
def k2m1 : Method := { name := "named", desc := "(Ljava/lang/String;)Lcom/example/tablox/tablox/concept/Concept;", sig := { parameters := [(.object "java/lang/String")], returnType := some (.object "com/example/tablox/tablox/concept/Concept") }, accessFlags := 9, code := some k2c1 }
def k2c2 : Code := { maxStack := 6, maxLocals := 1, code := prog_5_method_4_code, exceptionTable := #[], attributes := #[] }
def k2m2 : Method := { name := "and", desc := "(Ljava/util/List;)Lcom/example/tablox/tablox/concept/Concept;", sig := { parameters := [(.object "java/util/List")], returnType := some (.object "com/example/tablox/tablox/concept/Concept") }, accessFlags := 9, code := some k2c2 }
def k2c3 : Code := { maxStack := 1, maxLocals := 1, code := prog_5_method_8_code, exceptionTable := #[], attributes := #[] }
def k2m3 : Method := { name := "kind", desc := "()Lcom/example/tablox/tablox/concept/Concept$Kind;", sig := { parameters := [], returnType := some (.object "com/example/tablox/tablox/concept/Concept$Kind") }, accessFlags := 1, code := some k2c3 }
def k2c4 : Code := { maxStack := 1, maxLocals := 1, code := prog_5_method_9_code, exceptionTable := #[], attributes := #[] }
def k2m4 : Method := { name := "name", desc := "()Ljava/lang/String;", sig := { parameters := [], returnType := some (.object "java/lang/String") }, accessFlags := 1, code := some k2c4 }
def k2c5 : Code := { maxStack := 1, maxLocals := 1, code := prog_5_method_10_code, exceptionTable := #[], attributes := #[] }
def k2m5 : Method := { name := "role", desc := "()Lcom/example/tablox/tablox/concept/Role;", sig := { parameters := [], returnType := some (.object "com/example/tablox/tablox/concept/Role") }, accessFlags := 1, code := some k2c5 }
def k2c6 : Code := { maxStack := 1, maxLocals := 1, code := prog_5_method_11_code, exceptionTable := #[], attributes := #[] }
def k2m6 : Method := { name := "operands", desc := "()Ljava/util/List;", sig := { parameters := [], returnType := some (.object "java/util/List") }, accessFlags := 1, code := some k2c6 }
/-- com/example/tablox/tablox/concept/Concept -/
def k2 : Class := { plain "com/example/tablox/tablox/concept/Concept" (some 0) with
  accessFlags := 49
  interfaces := #[]
  cf := some (fileOf pool2 8 #[.nestMembers #[115, 26]] #[{ accessFlags := 2, nameIndex := 5, descriptorIndex := 74, attributes := #[] }, { accessFlags := 9, nameIndex := 181, descriptorIndex := 182, attributes := #[] }, { accessFlags := 9, nameIndex := 183, descriptorIndex := 184, attributes := #[] }, { accessFlags := 1, nameIndex := 11, descriptorIndex := 190, attributes := #[] }, { accessFlags := 1, nameIndex := 15, descriptorIndex := 191, attributes := #[] }, { accessFlags := 1, nameIndex := 19, descriptorIndex := 192, attributes := #[] }, { accessFlags := 1, nameIndex := 23, descriptorIndex := 71, attributes := #[] }] 49 2 #[] #[{ accessFlags := 25, nameIndex := 151, descriptorIndex := 130, attributes := #[] }, { accessFlags := 25, nameIndex := 148, descriptorIndex := 130, attributes := #[] }, { accessFlags := 18, nameIndex := 11, descriptorIndex := 12, attributes := #[] }, { accessFlags := 18, nameIndex := 15, descriptorIndex := 16, attributes := #[] }, { accessFlags := 18, nameIndex := 19, descriptorIndex := 20, attributes := #[] }, { accessFlags := 18, nameIndex := 23, descriptorIndex := 24, attributes := #[] }, { accessFlags := 18, nameIndex := 55, descriptorIndex := 56, attributes := #[] }])
  fields := #[{ name := "THING", type := (.object "com/example/tablox/tablox/concept/Concept"), accessFlags := 25, slot := 0, constantValue := 0 }, { name := "NOTHING", type := (.object "com/example/tablox/tablox/concept/Concept"), accessFlags := 25, slot := 1, constantValue := 0 }, { name := "kind", type := (.object "com/example/tablox/tablox/concept/Concept$Kind"), accessFlags := 18, slot := 0, constantValue := 0 }, { name := "name", type := (.object "java/lang/String"), accessFlags := 18, slot := 1, constantValue := 0 }, { name := "role", type := (.object "com/example/tablox/tablox/concept/Role"), accessFlags := 18, slot := 2, constantValue := 0 }, { name := "operands", type := (.object "java/util/List"), accessFlags := 18, slot := 3, constantValue := 0 }, { name := "hash", type := .int, accessFlags := 18, slot := 4, constantValue := 0 }]
  methods := #[k2m0, k2m1, k2m2, k2m3, k2m4, k2m5, k2m6]
  instanceTypes := #[(.object "com/example/tablox/tablox/concept/Concept$Kind"), (.object "java/lang/String"), (.object "com/example/tablox/tablox/concept/Role"), (.object "java/util/List"), .int]
  staticTypes := #[(.object "com/example/tablox/tablox/concept/Concept"), (.object "com/example/tablox/tablox/concept/Concept")]
  resolved := Array.replicate 203 none
  statics := some 0 }

def pool3 : Array CpInfo := pool [(1, .class_ 2), (0, u "java/io/Serializable"), (0, .class_ 4), (0, u "java/lang/Object")] 2

/-- java/io/Serializable -/
def k3 : Class := { plain "java/io/Serializable" (some 0) with
  accessFlags := 1537
  interfaces := #[]
  cf := some (fileOf pool3 1 #[] #[] 1537 3 #[] #[])
  fields := #[]
  methods := #[]
  instanceTypes := #[]
  staticTypes := #[]
  resolved := Array.replicate 7 none
  statics := none }

def pool4 : Array CpInfo := pool [(1, .class_ 2), (0, u "java/lang/Comparable"), (0, .class_ 4), (0, u "java/lang/Object")] 7

/-- java/lang/Comparable -/
def k4 : Class := { plain "java/lang/Comparable" (some 0) with
  accessFlags := 1537
  interfaces := #[]
  cf := some (fileOf pool4 1 #[] #[] 1537 3 #[] #[])
  fields := #[]
  methods := #[]
  instanceTypes := #[]
  staticTypes := #[]
  resolved := Array.replicate 12 none
  statics := none }

def pool5 : Array CpInfo := pool [(2, .class_ 4), (1, u "java/lang/CharSequence"), (42, .class_ 48), (0, u "java/lang/CharSequence$1CodePointIterator"), (10, .class_ 60), (0, u "java/lang/CharSequence$1CharIterator"), (5, .class_ 67), (0, u "java/lang/Object")] 63

/-- java/lang/CharSequence -/
def k5 : Class := { plain "java/lang/CharSequence" (some 0) with
  accessFlags := 1537
  interfaces := #[]
  cf := some (fileOf pool5 2 #[.nestMembers #[47, 59]] #[] 1537 66 #[] #[])
  fields := #[]
  methods := #[]
  instanceTypes := #[]
  staticTypes := #[]
  resolved := Array.replicate 131 none
  statics := none }

def pool6 : Array CpInfo := pool [(1, .class_ 2), (0, u "java/lang/constant/Constable"), (0, .class_ 4), (0, u "java/lang/Object")] 6

/-- java/lang/constant/Constable -/
def k6 : Class := { plain "java/lang/constant/Constable" (some 0) with
  accessFlags := 1537
  interfaces := #[]
  cf := some (fileOf pool6 1 #[] #[] 1537 3 #[] #[])
  fields := #[]
  methods := #[]
  instanceTypes := #[]
  staticTypes := #[]
  resolved := Array.replicate 11 none
  statics := none }

def pool7 : Array CpInfo := pool [(1, .class_ 2), (0, u "java/lang/constant/ConstantDesc"), (0, .class_ 4), (0, u "java/lang/Object")] 32

/-- java/lang/constant/ConstantDesc -/
def k7 : Class := { plain "java/lang/constant/ConstantDesc" (some 0) with
  accessFlags := 1537
  interfaces := #[]
  cf := some (fileOf pool7 1 #[] #[] 1537 3 #[] #[])
  fields := #[]
  methods := #[]
  instanceTypes := #[]
  staticTypes := #[]
  resolved := Array.replicate 37 none
  statics := none }

def pool8 : Array CpInfo := pool [(1, .methodref 2 3), (0, .class_ 4), (0, .nameAndType 5 6), (0, u "java/lang/Object"), (0, u "<init>"), (0, u "()V"), (2, .fieldref 10 11), (0, .class_ 12), (0, .nameAndType 13 14), (0, u "java/lang/String"), (0, u "value"), (0, u "[B"), (0, .fieldref 10 16), (0, .nameAndType 17 18), (0, u "coder"), (0, u "B"), (0, .fieldref 10 20), (0, .nameAndType 21 22), (0, u "hash"), (0, u "I"), (0, .fieldref 10 24), (0, .nameAndType 25 26), (0, u "hashIsZero"), (0, u "Z"), (11, .fieldref 10 39), (0, .nameAndType 40 26), (0, u "COMPACT_STRINGS"), (12, u "toBytes"), (53, .class_ 109), (1, u "java/lang/StringLatin1"), (32, u "()Z"), (66, .methodref 10 210), (0, .nameAndType 5 211), (0, u "([BB)V"), (122, u "()I"), (34, u "(C)Z"), (122, .methodref 10 493), (0, .nameAndType 494 142), (0, u "isLatin1"), (80, .class_ 576), (0, u "java/lang/CharSequence"), (22, u "CASE_INSENSITIVE_ORDER"), (0, u "Ljava/util/Comparator;"), (27, .methodref 107 629), (0, .nameAndType 630 631), (0, u "hashCode"), (0, u "([B)I"), (150, u "valueOf"), (0, u "(C)Ljava/lang/String;"), (231, .methodref 107 1016), (0, .nameAndType 1017 369), (0, u "canEncode"), (0, .methodref 107 1019), (0, .nameAndType 53 1020), (0, u "(C)[B"), (80, u "serialPersistentFields"), (0, u "[Ljava/io/ObjectStreamField;"), (0, .class_ 1104), (0, u "java/lang/String$CaseInsensitiveComparator"), (1, .class_ 1107), (0, u "java/io/Serializable"), (0, .class_ 1109), (0, u "java/lang/Comparable"), (0, .class_ 1111), (0, u "java/lang/constant/Constable"), (0, .class_ 1113), (0, u "java/lang/constant/ConstantDesc"), (2, u "serialVersionUID"), (0, u "J"), (3, u "REPL"), (0, u "C"), (2, u "LATIN1"), (1, u "UTF16")] 323

def k8m0 : Method := { name := "<init>", desc := "()V", sig := { parameters := [], returnType := none }, accessFlags := 1, code := none }
def k8c1 : Code := { maxStack := 2, maxLocals := 2, code := jdk_42_method_78_code, exceptionTable := #[], attributes := #[] }
def k8m1 : Method := { name := "hashCode", desc := "()I", sig := { parameters := [], returnType := some .int }, accessFlags := 1, code := some k8c1 }
def k8c2 : Code := { maxStack := 4, maxLocals := 1, code := jdk_42_method_139_code, exceptionTable := #[], attributes := #[] }
def k8m2 : Method := { name := "valueOf", desc := "(C)Ljava/lang/String;", sig := { parameters := [.char], returnType := some (.object "java/lang/String") }, accessFlags := 9, code := some k8c2 }
def k8c3 : Code := { maxStack := 2, maxLocals := 3, code := jdk_42_method_151_code, exceptionTable := #[], attributes := #[] }
def k8m3 : Method := { name := "<init>", desc := "([BB)V", sig := { parameters := [(.array .byte), .byte], returnType := none }, accessFlags := 0, code := some k8c3 }
def k8c4 : Code := { maxStack := 1, maxLocals := 1, code := jdk_42_method_154_code, exceptionTable := #[], attributes := #[] }
def k8m4 : Method := { name := "isLatin1", desc := "()Z", sig := { parameters := [], returnType := some .boolean }, accessFlags := 0, code := some k8c4 }
/-- java/lang/String -/
def k8 : Class := { plain "java/lang/String" (some 0) with
  accessFlags := 49
  interfaces := #[3, 4, 5, 6, 7]
  cf := some (fileOf pool8 10 #[.nestMembers #[1103]] #[{ accessFlags := 1, nameIndex := 5, descriptorIndex := 6, attributes := #[] }, { accessFlags := 1, nameIndex := 630, descriptorIndex := 334, attributes := #[] }, { accessFlags := 9, nameIndex := 782, descriptorIndex := 783, attributes := #[] }, { accessFlags := 0, nameIndex := 5, descriptorIndex := 211, attributes := #[] }, { accessFlags := 0, nameIndex := 494, descriptorIndex := 142, attributes := #[] }] 49 2 #[1106, 1108, 575, 1110, 1112] #[{ accessFlags := 18, nameIndex := 13, descriptorIndex := 14, attributes := #[] }, { accessFlags := 18, nameIndex := 17, descriptorIndex := 18, attributes := #[] }, { accessFlags := 2, nameIndex := 21, descriptorIndex := 22, attributes := #[] }, { accessFlags := 2, nameIndex := 25, descriptorIndex := 26, attributes := #[] }, { accessFlags := 26, nameIndex := 1116, descriptorIndex := 1117, attributes := #[] }, { accessFlags := 24, nameIndex := 40, descriptorIndex := 26, attributes := #[] }, { accessFlags := 26, nameIndex := 1101, descriptorIndex := 1102, attributes := #[] }, { accessFlags := 26, nameIndex := 1121, descriptorIndex := 1122, attributes := #[] }, { accessFlags := 25, nameIndex := 599, descriptorIndex := 600, attributes := #[] }, { accessFlags := 24, nameIndex := 1125, descriptorIndex := 18, attributes := #[] }, { accessFlags := 24, nameIndex := 1127, descriptorIndex := 18, attributes := #[] }])
  fields := #[{ name := "value", type := (.array .byte), accessFlags := 18, slot := 0, constantValue := 0 }, { name := "coder", type := .byte, accessFlags := 18, slot := 1, constantValue := 0 }, { name := "hash", type := .int, accessFlags := 2, slot := 2, constantValue := 0 }, { name := "hashIsZero", type := .boolean, accessFlags := 2, slot := 3, constantValue := 0 }, { name := "serialVersionUID", type := .long, accessFlags := 26, slot := 0, constantValue := 0 }, { name := "COMPACT_STRINGS", type := .boolean, accessFlags := 24, slot := 1, constantValue := 0 }, { name := "serialPersistentFields", type := (.array (.object "java/io/ObjectStreamField")), accessFlags := 26, slot := 2, constantValue := 0 }, { name := "REPL", type := .char, accessFlags := 26, slot := 3, constantValue := 0 }, { name := "CASE_INSENSITIVE_ORDER", type := (.object "java/util/Comparator"), accessFlags := 25, slot := 4, constantValue := 0 }, { name := "LATIN1", type := .byte, accessFlags := 24, slot := 5, constantValue := 0 }, { name := "UTF16", type := .byte, accessFlags := 24, slot := 6, constantValue := 0 }]
  methods := #[k8m0, k8m1, k8m2, k8m3, k8m4]
  instanceTypes := #[(.array .byte), .byte, .int, .boolean]
  staticTypes := #[.long, .boolean, (.array (.object "java/io/ObjectStreamField")), .char, (.object "java/util/Comparator"), .byte, .byte]
  resolved := Array.replicate 1451 none
  statics := some 1 }

def pool9 : Array CpInfo := pool [(4, .class_ 6), (1, u "java/lang/Object"), (0, u "<init>"), (0, u "()V"), (5, .class_ 16), (1, u "java/lang/StringLatin1"), (40, u "([B)I"), (32, u "canEncode"), (14, u "(C)Z"), (15, u "$assertionsDisabled"), (0, u "Z"), (98, .class_ 223), (1, u "java/lang/StringLatin1$LinesSpliterator"), (74, u "hashCode"), (81, u "toBytes"), (1, u "(C)[B"), (7, .class_ 391), (0, u "java/lang/StringLatin1$CharsSpliterator")] 3

def k9m0 : Method := { name := "<init>", desc := "()V", sig := { parameters := [], returnType := none }, accessFlags := 0, code := none }
def k9c1 : Code := { maxStack := 2, maxLocals := 1, code := jdk_43_method_3_code, exceptionTable := #[], attributes := #[] }
def k9m1 : Method := { name := "canEncode", desc := "(C)Z", sig := { parameters := [.char], returnType := some .boolean }, accessFlags := 9, code := some k9c1 }
def k9c2 : Code := { maxStack := 5, maxLocals := 1, code := jdk_43_method_21_code, exceptionTable := #[], attributes := #[] }
def k9m2 : Method := { name := "hashCode", desc := "([B)I", sig := { parameters := [(.array .byte)], returnType := some .int }, accessFlags := 9, code := some k9c2 }
def k9c3 : Code := { maxStack := 4, maxLocals := 1, code := jdk_43_method_46_code, exceptionTable := #[], attributes := #[] }
def k9m3 : Method := { name := "toBytes", desc := "(C)[B", sig := { parameters := [.char], returnType := some (.array .byte) }, accessFlags := 9, code := some k9c3 }
/-- java/lang/StringLatin1 -/
def k9 : Class := { plain "java/lang/StringLatin1" (some 0) with
  accessFlags := 48
  interfaces := #[]
  cf := some (fileOf pool9 14 #[.nestMembers #[390, 221]] #[{ accessFlags := 0, nameIndex := 7, descriptorIndex := 8, attributes := #[] }, { accessFlags := 9, nameIndex := 90, descriptorIndex := 105, attributes := #[] }, { accessFlags := 9, nameIndex := 298, descriptorIndex := 57, attributes := #[] }, { accessFlags := 9, nameIndex := 380, descriptorIndex := 382, attributes := #[] }] 48 4 #[] #[{ accessFlags := 4120, nameIndex := 121, descriptorIndex := 122, attributes := #[] }])
  fields := #[{ name := "$assertionsDisabled", type := .boolean, accessFlags := 4120, slot := 0, constantValue := 0 }]
  methods := #[k9m0, k9m1, k9m2, k9m3]
  instanceTypes := #[]
  staticTypes := #[.boolean]
  resolved := Array.replicate 395 none
  statics := none }

def pool10 : Array CpInfo := pool [(2, .class_ 4), (1, u "java/lang/Enum"), (0, u "name"), (0, u "Ljava/lang/String;"), (0, .fieldref 2 8), (0, .nameAndType 9 10), (0, u "ordinal"), (0, u "I"), (1, .class_ 14), (1, u "java/lang/Object"), (4, u "hash"), (86, .class_ 108), (1, u "java/lang/Enum$EnumDesc"), (2, .class_ 112), (0, u "java/lang/constant/Constable"), (0, .class_ 114), (0, u "java/lang/Comparable"), (0, .class_ 116), (0, u "java/io/Serializable"), (9, u "()I")] 77

def k10c0 : Code := { maxStack := 1, maxLocals := 1, code := jdk_37_method_2_code, exceptionTable := #[], attributes := #[] }
def k10m0 : Method := { name := "ordinal", desc := "()I", sig := { parameters := [], returnType := some .int }, accessFlags := 17, code := some k10c0 }
/-- java/lang/Enum -/
def k10 : Class := { plain "java/lang/Enum" (some 0) with
  accessFlags := 1057
  interfaces := #[6, 4, 3]
  cf := some (fileOf pool10 2 #[.nestMembers #[106]] #[{ accessFlags := 17, nameIndex := 9, descriptorIndex := 126, attributes := #[] }] 1057 12 #[111, 113, 115] #[{ accessFlags := 18, nameIndex := 5, descriptorIndex := 6, attributes := #[] }, { accessFlags := 18, nameIndex := 9, descriptorIndex := 10, attributes := #[] }, { accessFlags := 2, nameIndex := 19, descriptorIndex := 10, attributes := #[] }])
  fields := #[{ name := "name", type := (.object "java/lang/String"), accessFlags := 18, slot := 0, constantValue := 0 }, { name := "ordinal", type := .int, accessFlags := 18, slot := 1, constantValue := 0 }, { name := "hash", type := .int, accessFlags := 2, slot := 2, constantValue := 0 }]
  methods := #[k10m0]
  instanceTypes := #[(.object "java/lang/String"), .int, .int]
  staticTypes := #[]
  resolved := Array.replicate 204 none
  statics := none }

def pool11 : Array CpInfo := pool [(1, .class_ 2), (0, u "com/example/tablox/tablox/concept/Concept$Kind"), (2, u "THING"), (0, u "Lcom/example/tablox/tablox/concept/Concept$Kind;"), (2, u "NOTHING"), (2, u "NAME"), (2, u "NOT"), (2, u "AND"), (2, u "OR"), (2, u "SOME"), (2, u "ALL"), (2, u "$VALUES"), (0, u "[Lcom/example/tablox/tablox/concept/Concept$Kind;"), (6, .class_ 40), (1, u "java/lang/Enum"), (31, .class_ 73), (0, u "com/example/tablox/tablox/concept/Concept")] 2

/-- com/example/tablox/tablox/concept/Concept$Kind -/
def k11 : Class := { plain "com/example/tablox/tablox/concept/Concept$Kind" (some 10) with
  accessFlags := 16433
  interfaces := #[]
  cf := some (fileOf pool11 1 #[.nestHost 72] #[] 16433 38 #[] #[{ accessFlags := 16409, nameIndex := 5, descriptorIndex := 6, attributes := #[] }, { accessFlags := 16409, nameIndex := 9, descriptorIndex := 6, attributes := #[] }, { accessFlags := 16409, nameIndex := 12, descriptorIndex := 6, attributes := #[] }, { accessFlags := 16409, nameIndex := 15, descriptorIndex := 6, attributes := #[] }, { accessFlags := 16409, nameIndex := 18, descriptorIndex := 6, attributes := #[] }, { accessFlags := 16409, nameIndex := 21, descriptorIndex := 6, attributes := #[] }, { accessFlags := 16409, nameIndex := 24, descriptorIndex := 6, attributes := #[] }, { accessFlags := 16409, nameIndex := 27, descriptorIndex := 6, attributes := #[] }, { accessFlags := 4122, nameIndex := 30, descriptorIndex := 31, attributes := #[] }])
  fields := #[{ name := "THING", type := (.object "com/example/tablox/tablox/concept/Concept$Kind"), accessFlags := 16409, slot := 0, constantValue := 0 }, { name := "NOTHING", type := (.object "com/example/tablox/tablox/concept/Concept$Kind"), accessFlags := 16409, slot := 1, constantValue := 0 }, { name := "NAME", type := (.object "com/example/tablox/tablox/concept/Concept$Kind"), accessFlags := 16409, slot := 2, constantValue := 0 }, { name := "NOT", type := (.object "com/example/tablox/tablox/concept/Concept$Kind"), accessFlags := 16409, slot := 3, constantValue := 0 }, { name := "AND", type := (.object "com/example/tablox/tablox/concept/Concept$Kind"), accessFlags := 16409, slot := 4, constantValue := 0 }, { name := "OR", type := (.object "com/example/tablox/tablox/concept/Concept$Kind"), accessFlags := 16409, slot := 5, constantValue := 0 }, { name := "SOME", type := (.object "com/example/tablox/tablox/concept/Concept$Kind"), accessFlags := 16409, slot := 6, constantValue := 0 }, { name := "ALL", type := (.object "com/example/tablox/tablox/concept/Concept$Kind"), accessFlags := 16409, slot := 7, constantValue := 0 }, { name := "$VALUES", type := (.array (.object "com/example/tablox/tablox/concept/Concept$Kind")), accessFlags := 4122, slot := 8, constantValue := 0 }]
  methods := #[]
  instanceTypes := #[(.object "java/lang/String"), .int, .int]
  staticTypes := #[(.object "com/example/tablox/tablox/concept/Concept$Kind"), (.object "com/example/tablox/tablox/concept/Concept$Kind"), (.object "com/example/tablox/tablox/concept/Concept$Kind"), (.object "com/example/tablox/tablox/concept/Concept$Kind"), (.object "com/example/tablox/tablox/concept/Concept$Kind"), (.object "com/example/tablox/tablox/concept/Concept$Kind"), (.object "com/example/tablox/tablox/concept/Concept$Kind"), (.object "com/example/tablox/tablox/concept/Concept$Kind"), (.array (.object "com/example/tablox/tablox/concept/Concept$Kind"))]
  resolved := Array.replicate 76 none
  statics := some 2 }

def pool12 : Array CpInfo := pool [(2, .class_ 4), (1, u "java/lang/Object"), (0, u "<init>"), (0, u "()V"), (17, .methodref 2 25), (0, .nameAndType 26 27), (0, u "hashCode"), (0, u "()I"), (14, .class_ 44), (1, u "java/util/Objects"), (0, u "requireNonNull"), (0, u "(Ljava/lang/Object;)Ljava/lang/Object;"), (23, u "(Ljava/lang/Object;)I"), (23, u "(Ljava/lang/Object;Ljava/lang/String;)Ljava/lang/Object;")] 89

def k12m0 : Method := { name := "<init>", desc := "()V", sig := { parameters := [], returnType := none }, accessFlags := 2, code := none }
def k12c1 : Code := { maxStack := 1, maxLocals := 1, code := jdk_31_method_4_code, exceptionTable := #[], attributes := #[] }
def k12m1 : Method := { name := "hashCode", desc := "(Ljava/lang/Object;)I", sig := { parameters := [(.object "java/lang/Object")], returnType := some .int }, accessFlags := 9, code := some k12c1 }
def k12c2 : Code := { maxStack := 2, maxLocals := 1, code := jdk_31_method_10_code, exceptionTable := #[], attributes := #[] }
def k12m2 : Method := { name := "requireNonNull", desc := "(Ljava/lang/Object;)Ljava/lang/Object;", sig := { parameters := [(.object "java/lang/Object")], returnType := some (.object "java/lang/Object") }, accessFlags := 9, code := some k12c2 }
def k12c3 : Code := { maxStack := 3, maxLocals := 2, code := jdk_31_method_11_code, exceptionTable := #[], attributes := #[] }
def k12m3 : Method := { name := "requireNonNull", desc := "(Ljava/lang/Object;Ljava/lang/String;)Ljava/lang/Object;", sig := { parameters := [(.object "java/lang/Object"), (.object "java/lang/String")], returnType := some (.object "java/lang/Object") }, accessFlags := 9, code := some k12c3 }
/-- java/util/Objects -/
def k12 : Class := { plain "java/util/Objects" (some 0) with
  accessFlags := 49
  interfaces := #[]
  cf := some (fileOf pool12 42 #[] #[{ accessFlags := 2, nameIndex := 5, descriptorIndex := 6, attributes := #[] }, { accessFlags := 9, nameIndex := 26, descriptorIndex := 70, attributes := #[] }, { accessFlags := 9, nameIndex := 45, descriptorIndex := 46, attributes := #[] }, { accessFlags := 9, nameIndex := 45, descriptorIndex := 94, attributes := #[] }] 49 2 #[] #[])
  fields := #[]
  methods := #[k12m0, k12m1, k12m2, k12m3]
  instanceTypes := #[]
  staticTypes := #[]
  resolved := Array.replicate 184 none
  statics := none }

def pool13 : Array CpInfo := pool [(8, .class_ 10), (1, u "java/lang/Iterable"), (24, .class_ 36), (0, u "java/lang/Object")] 25

/-- java/lang/Iterable -/
def k13 : Class := { plain "java/lang/Iterable" (some 0) with
  accessFlags := 1537
  interfaces := #[]
  cf := some (fileOf pool13 8 #[] #[] 1537 35 #[] #[])
  fields := #[]
  methods := #[]
  instanceTypes := #[]
  staticTypes := #[]
  resolved := Array.replicate 62 none
  statics := none }

def pool14 : Array CpInfo := pool [(10, .class_ 12), (1, u "java/util/Collection"), (0, u "toArray"), (16, u "()Z"), (29, .class_ 61), (0, u "java/lang/Object"), (0, .class_ 63), (0, u "java/lang/Iterable"), (2, u "isEmpty"), (3, u "()[Ljava/lang/Object;")] 44

def k14m0 : Method := { name := "isEmpty", desc := "()Z", sig := { parameters := [], returnType := some .boolean }, accessFlags := 1025, code := none }
def k14m1 : Method := { name := "toArray", desc := "()[Ljava/lang/Object;", sig := { parameters := [], returnType := some (.array (.object "java/lang/Object")) }, accessFlags := 1025, code := none }
/-- java/util/Collection -/
def k14 : Class := { plain "java/util/Collection" (some 0) with
  accessFlags := 1537
  interfaces := #[13]
  cf := some (fileOf pool14 10 #[] #[{ accessFlags := 1025, nameIndex := 66, descriptorIndex := 30, attributes := #[] }, { accessFlags := 1025, nameIndex := 13, descriptorIndex := 70, attributes := #[] }] 1537 60 #[62] #[])
  fields := #[]
  methods := #[k14m0, k14m1]
  instanceTypes := #[]
  staticTypes := #[]
  resolved := Array.replicate 115 none
  statics := none }

def pool15 : Array CpInfo := pool [(8, .class_ 10), (1, u "java/util/SequencedCollection"), (15, .class_ 27), (0, u "java/lang/Object"), (0, .class_ 29), (0, u "java/util/Collection")] 27

/-- java/util/SequencedCollection -/
def k15 : Class := { plain "java/util/SequencedCollection" (some 0) with
  accessFlags := 1537
  interfaces := #[14]
  cf := some (fileOf pool15 8 #[] #[] 1537 26 #[28] #[])
  fields := #[]
  methods := #[]
  instanceTypes := #[]
  staticTypes := #[]
  resolved := Array.replicate 57 none
  statics := none }

def pool16 : Array CpInfo := pool [(8, .class_ 10), (1, u "java/util/List"), (20, u "(Ljava/lang/Object;)V"), (16, u "<init>"), (26, u "get"), (0, u "(I)Ljava/lang/Object;"), (2, u "size"), (0, u "()I"), (7, u "of"), (1, .fieldref 91 92), (0, .class_ 93), (0, .nameAndType 94 95), (0, u "java/util/ImmutableCollections"), (0, u "EMPTY_LIST"), (0, u "Ljava/util/ImmutableCollections$ListN;"), (0, .class_ 97), (0, u "java/util/ImmutableCollections$List12"), (0, .methodref 96 99), (0, .nameAndType 48 31), (0, .methodref 96 101), (0, .nameAndType 48 102), (0, u "(Ljava/lang/Object;Ljava/lang/Object;)V"), (0, .class_ 104), (0, u "java/lang/Object"), (3, u "([Ljava/lang/Object;)Ljava/util/List;"), (0, .methodref 91 110), (0, .nameAndType 111 108), (0, u "listFromArray"), (0, .methodref 91 113), (0, .nameAndType 114 115), (0, u "listCopy"), (0, u "(Ljava/util/Collection;)Ljava/util/List;"), (3, u "()Ljava/util/List;"), (0, .class_ 121), (0, u "java/util/SequencedCollection"), (1, u "iterator"), (0, u "()Ljava/util/Iterator;"), (109, u "copyOf")] 16

def k16m0 : Method := { name := "size", desc := "()I", sig := { parameters := [], returnType := some .int }, accessFlags := 1025, code := none }
def k16m1 : Method := { name := "iterator", desc := "()Ljava/util/Iterator;", sig := { parameters := [], returnType := some (.object "java/util/Iterator") }, accessFlags := 1025, code := none }
def k16m2 : Method := { name := "get", desc := "(I)Ljava/lang/Object;", sig := { parameters := [.int], returnType := some (.object "java/lang/Object") }, accessFlags := 1025, code := none }
def k16c3 : Code := { maxStack := 1, maxLocals := 0, code := jdk_40_method_36_code, exceptionTable := #[], attributes := #[] }
def k16m3 : Method := { name := "of", desc := "()Ljava/util/List;", sig := { parameters := [], returnType := some (.object "java/util/List") }, accessFlags := 9, code := some k16c3 }
def k16c4 : Code := { maxStack := 5, maxLocals := 2, code := jdk_40_method_47_code, exceptionTable := #[], attributes := #[] }
def k16m4 : Method := { name := "of", desc := "([Ljava/lang/Object;)Ljava/util/List;", sig := { parameters := [(.array (.object "java/lang/Object"))], returnType := some (.object "java/util/List") }, accessFlags := 137, code := some k16c4 }
def k16c5 : Code := { maxStack := 1, maxLocals := 1, code := jdk_40_method_48_code, exceptionTable := #[], attributes := #[] }
def k16m5 : Method := { name := "copyOf", desc := "(Ljava/util/Collection;)Ljava/util/List;", sig := { parameters := [(.object "java/util/Collection")], returnType := some (.object "java/util/List") }, accessFlags := 9, code := some k16c5 }
/-- java/util/List -/
def k16 : Class := { plain "java/util/List" (some 0) with
  accessFlags := 1537
  interfaces := #[15]
  cf := some (fileOf pool16 8 #[] #[{ accessFlags := 1025, nameIndex := 79, descriptorIndex := 80, attributes := #[] }, { accessFlags := 1025, nameIndex := 123, descriptorIndex := 124, attributes := #[] }, { accessFlags := 1025, nameIndex := 75, descriptorIndex := 76, attributes := #[] }, { accessFlags := 9, nameIndex := 88, descriptorIndex := 119, attributes := #[] }, { accessFlags := 137, nameIndex := 88, descriptorIndex := 108, attributes := #[] }, { accessFlags := 9, nameIndex := 234, descriptorIndex := 115, attributes := #[] }] 1537 103 #[120] #[])
  fields := #[]
  methods := #[k16m0, k16m1, k16m2, k16m3, k16m4, k16m5]
  instanceTypes := #[]
  staticTypes := #[]
  resolved := Array.replicate 251 none
  statics := none }

def pool17 : Array CpInfo := pool [(2, .class_ 4), (1, u "java/lang/Object"), (0, u "<init>"), (0, u "()V"), (3, .class_ 11), (0, u "java/util/ImmutableCollections$List12"), (0, .class_ 13), (0, u "java/util/ImmutableCollections$ListN"), (3, u "Z"), (0, .class_ 19), (0, u "java/util/List"), (0, .interfaceMethodref 21 22), (0, .class_ 23), (0, .nameAndType 24 25), (0, u "java/util/Collection"), (0, u "isEmpty"), (0, u "()Z"), (0, .interfaceMethodref 18 27), (0, .nameAndType 28 29), (0, u "of"), (0, u "()Ljava/util/List;"), (0, .interfaceMethodref 21 31), (0, .nameAndType 32 33), (0, u "toArray"), (0, u "()[Ljava/lang/Object;"), (0, .interfaceMethodref 18 35), (0, .nameAndType 28 36), (0, u "([Ljava/lang/Object;)Ljava/util/List;"), (0, .methodref 38 39), (0, .class_ 40), (0, .nameAndType 41 42), (0, u "java/util/Objects"), (0, u "requireNonNull"), (0, u "(Ljava/lang/Object;)Ljava/lang/Object;"), (0, .methodref 12 44), (0, .nameAndType 5 45), (0, u "([Ljava/lang/Object;Z)V"), (1, .class_ 49), (1, u "java/util/ImmutableCollections"), (0, u "$assertionsDisabled"), (5, u "[Ljava/lang/Object;"), (5, u "EMPTY_LIST"), (0, u "Ljava/util/ImmutableCollections$ListN;"), (8, u "EMPTY_LIST_NULLS"), (22, u "SALT32L"), (0, u "J"), (2, u "REVERSE"), (6, u "archivedObjects"), (2, u "EMPTY"), (0, u "Ljava/lang/Object;"), (0, .class_ 112), (0, u "java/util/ImmutableCollections$SetN"), (5, u "EMPTY_SET"), (0, u "Ljava/util/ImmutableCollections$SetN;"), (0, .class_ 121), (0, u "java/util/ImmutableCollections$MapN"), (3, u "EMPTY_MAP"), (0, u "Ljava/util/ImmutableCollections$MapN;"), (4, u "EXPAND_FACTOR"), (0, u "I"), (9, u "listCopy"), (0, u "(Ljava/util/Collection;)Ljava/util/List;"), (7, u "listFromArray"), (17, .class_ 170), (0, u "java/util/ImmutableCollections$MapN$MapNIterator"), (0, .class_ 172), (0, u "java/util/ImmutableCollections$MapN$1"), (0, .class_ 174), (0, u "java/util/ImmutableCollections$Map1"), (0, .class_ 176), (0, u "java/util/ImmutableCollections$AbstractImmutableMap"), (0, .class_ 178), (0, u "java/util/ImmutableCollections$SetN$SetNIterator"), (0, .class_ 180), (0, u "java/util/ImmutableCollections$Set12"), (0, .class_ 182), (0, u "java/util/ImmutableCollections$Set12$1"), (0, .class_ 184), (0, u "java/util/ImmutableCollections$AbstractImmutableSet"), (0, .class_ 186), (0, u "java/util/ImmutableCollections$SubList"), (0, .class_ 188), (0, u "java/util/ImmutableCollections$ListItr"), (0, .class_ 190), (0, u "java/util/ImmutableCollections$AbstractImmutableList"), (0, .class_ 192), (0, u "java/util/ImmutableCollections$AbstractImmutableCollection"), (0, .class_ 194), (0, u "java/util/ImmutableCollections$Access"), (0, .class_ 196), (0, u "java/util/ImmutableCollections$Access$1")] 16

def k17m0 : Method := { name := "<init>", desc := "()V", sig := { parameters := [], returnType := none }, accessFlags := 2, code := none }
def k17c1 : Code := { maxStack := 1, maxLocals := 2, code := jdk_56_method_3_code, exceptionTable := #[], attributes := #[] }
def k17m1 : Method := { name := "listCopy", desc := "(Ljava/util/Collection;)Ljava/util/List;", sig := { parameters := [(.object "java/util/Collection")], returnType := some (.object "java/util/List") }, accessFlags := 8, code := some k17c1 }
def k17c2 : Code := { maxStack := 4, maxLocals := 3, code := jdk_56_method_4_code, exceptionTable := #[], attributes := #[] }
def k17m2 : Method := { name := "listFromArray", desc := "([Ljava/lang/Object;)Ljava/util/List;", sig := { parameters := [(.array (.object "java/lang/Object"))], returnType := some (.object "java/util/List") }, accessFlags := 136, code := some k17c2 }
/-- java/util/ImmutableCollections -/
def k17 : Class := { plain "java/util/ImmutableCollections" (some 0) with
  accessFlags := 32
  interfaces := #[]
  cf := some (fileOf pool17 47 #[.nestMembers #[120, 169, 171, 173, 175, 111, 177, 179, 181, 183, 12, 10, 185, 187, 189, 191, 193, 195]] #[{ accessFlags := 2, nameIndex := 5, descriptorIndex := 6, attributes := #[] }, { accessFlags := 8, nameIndex := 142, descriptorIndex := 143, attributes := #[] }, { accessFlags := 136, nameIndex := 151, descriptorIndex := 36, attributes := #[] }] 32 2 #[] #[{ accessFlags := 26, nameIndex := 95, descriptorIndex := 96, attributes := #[] }, { accessFlags := 26, nameIndex := 99, descriptorIndex := 17, attributes := #[] }, { accessFlags := 10, nameIndex := 106, descriptorIndex := 56, attributes := #[] }, { accessFlags := 26, nameIndex := 109, descriptorIndex := 110, attributes := #[] }, { accessFlags := 24, nameIndex := 62, descriptorIndex := 63, attributes := #[] }, { accessFlags := 24, nameIndex := 72, descriptorIndex := 63, attributes := #[] }, { accessFlags := 24, nameIndex := 118, descriptorIndex := 119, attributes := #[] }, { accessFlags := 24, nameIndex := 125, descriptorIndex := 126, attributes := #[] }, { accessFlags := 24, nameIndex := 131, descriptorIndex := 132, attributes := #[] }, { accessFlags := 4120, nameIndex := 50, descriptorIndex := 17, attributes := #[] }])
  fields := #[{ name := "SALT32L", type := .long, accessFlags := 26, slot := 0, constantValue := 0 }, { name := "REVERSE", type := .boolean, accessFlags := 26, slot := 1, constantValue := 0 }, { name := "archivedObjects", type := (.array (.object "java/lang/Object")), accessFlags := 10, slot := 2, constantValue := 0 }, { name := "EMPTY", type := (.object "java/lang/Object"), accessFlags := 26, slot := 3, constantValue := 0 }, { name := "EMPTY_LIST", type := (.object "java/util/ImmutableCollections$ListN"), accessFlags := 24, slot := 4, constantValue := 0 }, { name := "EMPTY_LIST_NULLS", type := (.object "java/util/ImmutableCollections$ListN"), accessFlags := 24, slot := 5, constantValue := 0 }, { name := "EMPTY_SET", type := (.object "java/util/ImmutableCollections$SetN"), accessFlags := 24, slot := 6, constantValue := 0 }, { name := "EMPTY_MAP", type := (.object "java/util/ImmutableCollections$MapN"), accessFlags := 24, slot := 7, constantValue := 0 }, { name := "EXPAND_FACTOR", type := .int, accessFlags := 24, slot := 8, constantValue := 0 }, { name := "$assertionsDisabled", type := .boolean, accessFlags := 4120, slot := 9, constantValue := 0 }]
  methods := #[k17m0, k17m1, k17m2]
  instanceTypes := #[]
  staticTypes := #[.long, .boolean, (.array (.object "java/lang/Object")), (.object "java/lang/Object"), (.object "java/util/ImmutableCollections$ListN"), (.object "java/util/ImmutableCollections$ListN"), (.object "java/util/ImmutableCollections$SetN"), (.object "java/util/ImmutableCollections$MapN"), .int, .boolean]
  resolved := Array.replicate 213 none
  statics := some 3 }

def pool18 : Array CpInfo := pool [(1, .methodref 2 3), (0, .class_ 4), (0, .nameAndType 5 6), (0, u "java/lang/Object"), (0, u "<init>"), (0, u "()V"), (1, .class_ 10), (1, u "java/util/AbstractCollection"), (0, u "size"), (0, u "()I"), (64, .class_ 78), (0, u "java/util/Collection")] 81

def k18c0 : Code := { maxStack := 1, maxLocals := 1, code := jdk_22_method_1_code, exceptionTable := #[], attributes := #[] }
def k18m0 : Method := { name := "<init>", desc := "()V", sig := { parameters := [], returnType := none }, accessFlags := 4, code := some k18c0 }
def k18m1 : Method := { name := "size", desc := "()I", sig := { parameters := [], returnType := some .int }, accessFlags := 1025, code := none }
/-- java/util/AbstractCollection -/
def k18 : Class := { plain "java/util/AbstractCollection" (some 0) with
  accessFlags := 1057
  interfaces := #[14]
  cf := some (fileOf pool18 8 #[] #[{ accessFlags := 4, nameIndex := 5, descriptorIndex := 6, attributes := #[] }, { accessFlags := 1025, nameIndex := 11, descriptorIndex := 12, attributes := #[] }] 1057 2 #[77] #[])
  fields := #[]
  methods := #[k18m0, k18m1]
  instanceTypes := #[]
  staticTypes := #[]
  resolved := Array.replicate 160 none
  statics := none }

def pool19 : Array CpInfo := pool [(1, .methodref 2 3), (0, .class_ 4), (0, .nameAndType 5 6), (0, u "java/util/AbstractCollection"), (0, u "<init>"), (0, u "()V"), (1, .class_ 10), (1, u "java/util/ImmutableCollections"), (2, .class_ 14), (0, u "java/util/ImmutableCollections$AbstractImmutableCollection")] 41

def k19c0 : Code := { maxStack := 1, maxLocals := 1, code := jdk_47_method_1_code, exceptionTable := #[], attributes := #[] }
def k19m0 : Method := { name := "<init>", desc := "()V", sig := { parameters := [], returnType := none }, accessFlags := 0, code := some k19c0 }
/-- java/util/ImmutableCollections$AbstractImmutableCollection -/
def k19 : Class := { plain "java/util/ImmutableCollections$AbstractImmutableCollection" (some 18) with
  accessFlags := 1056
  interfaces := #[]
  cf := some (fileOf pool19 13 #[.nestHost 8] #[{ accessFlags := 0, nameIndex := 5, descriptorIndex := 6, attributes := #[] }] 1056 2 #[] #[])
  fields := #[]
  methods := #[k19m0]
  instanceTypes := #[]
  staticTypes := #[]
  resolved := Array.replicate 56 none
  statics := none }

def pool20 : Array CpInfo := pool [(1, .class_ 2), (0, u "java/util/RandomAccess"), (0, .class_ 4), (0, u "java/lang/Object")] 2

/-- java/util/RandomAccess -/
def k20 : Class := { plain "java/util/RandomAccess" (some 0) with
  accessFlags := 1537
  interfaces := #[]
  cf := some (fileOf pool20 1 #[] #[] 1537 3 #[] #[])
  fields := #[]
  methods := #[]
  instanceTypes := #[]
  staticTypes := #[]
  resolved := Array.replicate 7 none
  statics := none }

def pool21 : Array CpInfo := pool [(1, .methodref 2 3), (0, .class_ 4), (0, .nameAndType 5 6), (0, u "java/util/ImmutableCollections$AbstractImmutableCollection"), (0, u "<init>"), (0, u "()V"), (1, .class_ 10), (1, u "java/util/ImmutableCollections"), (2, .methodref 14 15), (0, .class_ 16), (0, .nameAndType 17 18), (0, u "java/util/ImmutableCollections$AbstractImmutableList"), (0, u "size"), (0, u "()I"), (42, .class_ 62), (0, u "java/util/ImmutableCollections$ListItr"), (0, .methodref 61 64), (0, .nameAndType 5 65), (0, u "(Ljava/util/List;I)V"), (11, .class_ 78), (0, u "java/util/List"), (2, u "iterator"), (0, u "()Ljava/util/Iterator;"), (41, .class_ 125), (0, u "java/util/RandomAccess")] 70

def k21c0 : Code := { maxStack := 1, maxLocals := 1, code := jdk_46_method_1_code, exceptionTable := #[], attributes := #[] }
def k21m0 : Method := { name := "<init>", desc := "()V", sig := { parameters := [], returnType := none }, accessFlags := 0, code := some k21c0 }
def k21c1 : Code := { maxStack := 4, maxLocals := 1, code := jdk_46_method_10_code, exceptionTable := #[], attributes := #[] }
def k21m1 : Method := { name := "iterator", desc := "()Ljava/util/Iterator;", sig := { parameters := [], returnType := some (.object "java/util/Iterator") }, accessFlags := 1, code := some k21c1 }
/-- java/util/ImmutableCollections$AbstractImmutableList -/
def k21 : Class := { plain "java/util/ImmutableCollections$AbstractImmutableList" (some 19) with
  accessFlags := 1056
  interfaces := #[16, 20]
  cf := some (fileOf pool21 14 #[.nestHost 8] #[{ accessFlags := 0, nameIndex := 5, descriptorIndex := 6, attributes := #[] }, { accessFlags := 1, nameIndex := 81, descriptorIndex := 82, attributes := #[] }] 1056 2 #[77, 124] #[])
  fields := #[]
  methods := #[k21m0, k21m1]
  instanceTypes := #[]
  staticTypes := #[]
  resolved := Array.replicate 196 none
  statics := none }

def pool22 : Array CpInfo := pool [(1, .methodref 2 3), (0, .class_ 4), (0, .nameAndType 5 6), (0, u "java/util/ImmutableCollections$AbstractImmutableList"), (0, u "<init>"), (0, u "()V"), (0, .fieldref 8 9), (0, .class_ 10), (0, .nameAndType 11 12), (0, u "java/util/ImmutableCollections$ListN"), (0, u "elements"), (0, u "[Ljava/lang/Object;"), (0, .fieldref 8 14), (0, .nameAndType 15 16), (0, u "allowNulls"), (0, u "Z"), (42, .class_ 60), (0, u "java/io/Serializable"), (4, u "([Ljava/lang/Object;Z)V"), (11, u "size"), (0, u "()I"), (0, u "get"), (0, u "(I)Ljava/lang/Object;"), (33, .class_ 115), (0, u "java/util/ImmutableCollections")] 3

def k22c0 : Code := { maxStack := 2, maxLocals := 3, code := jdk_45_method_1_code, exceptionTable := #[], attributes := #[] }
def k22m0 : Method := { name := "<init>", desc := "([Ljava/lang/Object;Z)V", sig := { parameters := [(.array (.object "java/lang/Object")), .boolean], returnType := none }, accessFlags := 2, code := some k22c0 }
def k22c1 : Code := { maxStack := 1, maxLocals := 1, code := jdk_45_method_3_code, exceptionTable := #[], attributes := #[] }
def k22m1 : Method := { name := "size", desc := "()I", sig := { parameters := [], returnType := some .int }, accessFlags := 1, code := some k22c1 }
def k22c2 : Code := { maxStack := 2, maxLocals := 2, code := jdk_45_method_4_code, exceptionTable := #[], attributes := #[] }
def k22m2 : Method := { name := "get", desc := "(I)Ljava/lang/Object;", sig := { parameters := [.int], returnType := some (.object "java/lang/Object") }, accessFlags := 1, code := some k22c2 }
/-- java/util/ImmutableCollections$ListN -/
def k22 : Class := { plain "java/util/ImmutableCollections$ListN" (some 21) with
  accessFlags := 48
  interfaces := #[3]
  cf := some (fileOf pool22 8 #[.nestHost 114] #[{ accessFlags := 2, nameIndex := 5, descriptorIndex := 65, attributes := #[] }, { accessFlags := 1, nameIndex := 77, descriptorIndex := 78, attributes := #[] }, { accessFlags := 1, nameIndex := 79, descriptorIndex := 80, attributes := #[] }] 48 2 #[59] #[{ accessFlags := 18, nameIndex := 11, descriptorIndex := 12, attributes := #[] }, { accessFlags := 18, nameIndex := 15, descriptorIndex := 16, attributes := #[] }])
  fields := #[{ name := "elements", type := (.array (.object "java/lang/Object")), accessFlags := 18, slot := 0, constantValue := 0 }, { name := "allowNulls", type := .boolean, accessFlags := 18, slot := 1, constantValue := 0 }]
  methods := #[k22m0, k22m1, k22m2]
  instanceTypes := #[(.array (.object "java/lang/Object")), .boolean]
  staticTypes := #[]
  resolved := Array.replicate 119 none
  statics := none }

def pool23 : Array CpInfo := pool [(16, .class_ 18), (1, u "java/util/Iterator"), (0, u "hasNext"), (0, u "()Z"), (2, u "next"), (0, u "()Ljava/lang/Object;"), (6, .class_ 32), (0, u "java/lang/Object")] 20

def k23m0 : Method := { name := "hasNext", desc := "()Z", sig := { parameters := [], returnType := some .boolean }, accessFlags := 1025, code := none }
def k23m1 : Method := { name := "next", desc := "()Ljava/lang/Object;", sig := { parameters := [], returnType := some (.object "java/lang/Object") }, accessFlags := 1025, code := none }
/-- java/util/Iterator -/
def k23 : Class := { plain "java/util/Iterator" (some 0) with
  accessFlags := 1537
  interfaces := #[]
  cf := some (fileOf pool23 16 #[] #[{ accessFlags := 1025, nameIndex := 19, descriptorIndex := 20, attributes := #[] }, { accessFlags := 1025, nameIndex := 23, descriptorIndex := 24, attributes := #[] }] 1537 31 #[] #[])
  fields := #[]
  methods := #[k23m0, k23m1]
  instanceTypes := #[]
  staticTypes := #[]
  resolved := Array.replicate 53 none
  statics := none }

def pool24 : Array CpInfo := pool [(1, .class_ 2), (0, u "java/util/ListIterator"), (0, .class_ 4), (0, u "java/lang/Object"), (0, .class_ 6), (0, u "java/util/Iterator")] 20

/-- java/util/ListIterator -/
def k24 : Class := { plain "java/util/ListIterator" (some 0) with
  accessFlags := 1537
  interfaces := #[23]
  cf := some (fileOf pool24 1 #[] #[] 1537 3 #[5] #[])
  fields := #[]
  methods := #[]
  instanceTypes := #[]
  staticTypes := #[]
  resolved := Array.replicate 27 none
  statics := none }

def pool25 : Array CpInfo := pool [(1, .methodref 2 3), (0, .class_ 4), (0, .nameAndType 5 6), (0, u "java/lang/Object"), (0, u "<init>"), (0, u "()V"), (0, .fieldref 8 9), (0, .class_ 10), (0, .nameAndType 11 12), (0, u "java/util/ImmutableCollections$ListItr"), (0, u "list"), (0, u "Ljava/util/List;"), (0, .fieldref 8 14), (0, .nameAndType 15 16), (0, u "size"), (0, u "I"), (0, .fieldref 8 18), (0, .nameAndType 19 16), (0, u "cursor"), (0, .fieldref 8 21), (0, .nameAndType 22 23), (0, u "isListIterator"), (0, u "Z"), (0, .interfaceMethodref 25 26), (0, .class_ 27), (0, .nameAndType 28 29), (0, u "java/util/List"), (0, u "get"), (0, u "(I)Ljava/lang/Object;"), (6, .class_ 38), (1, u "java/util/ImmutableCollections"), (2, .class_ 42), (0, u "java/util/ListIterator"), (4, u "(Ljava/util/List;I)V"), (11, u "hasNext"), (0, u "()Z"), (1, u "next"), (0, u "()Ljava/lang/Object;")] 22

def k25c0 : Code := { maxStack := 2, maxLocals := 3, code := jdk_53_method_1_code, exceptionTable := #[], attributes := #[] }
def k25m0 : Method := { name := "<init>", desc := "(Ljava/util/List;I)V", sig := { parameters := [(.object "java/util/List"), .int], returnType := none }, accessFlags := 0, code := some k25c0 }
def k25c1 : Code := { maxStack := 2, maxLocals := 1, code := jdk_53_method_3_code, exceptionTable := #[], attributes := #[] }
def k25m1 : Method := { name := "hasNext", desc := "()Z", sig := { parameters := [], returnType := some .boolean }, accessFlags := 1, code := some k25c1 }
def k25c2 : Code := { maxStack := 3, maxLocals := 3, code := jdk_53_method_4_code, exceptionTable := #[{ startPc := 0, endPc := 24, handlerPc := 25, catchType := 30 }], attributes := #[] }
def k25m2 : Method := { name := "next", desc := "()Ljava/lang/Object;", sig := { parameters := [], returnType := some (.object "java/lang/Object") }, accessFlags := 1, code := some k25c2 }
/-- java/util/ImmutableCollections$ListItr -/
def k25 : Class := { plain "java/util/ImmutableCollections$ListItr" (some 0) with
  accessFlags := 48
  interfaces := #[24]
  cf := some (fileOf pool25 8 #[.nestHost 36] #[{ accessFlags := 0, nameIndex := 5, descriptorIndex := 47, attributes := #[] }, { accessFlags := 1, nameIndex := 59, descriptorIndex := 60, attributes := #[] }, { accessFlags := 1, nameIndex := 62, descriptorIndex := 63, attributes := #[] }] 48 2 #[41] #[{ accessFlags := 18, nameIndex := 11, descriptorIndex := 12, attributes := #[] }, { accessFlags := 18, nameIndex := 15, descriptorIndex := 16, attributes := #[] }, { accessFlags := 18, nameIndex := 22, descriptorIndex := 23, attributes := #[] }, { accessFlags := 2, nameIndex := 19, descriptorIndex := 16, attributes := #[] }])
  fields := #[{ name := "list", type := (.object "java/util/List"), accessFlags := 18, slot := 0, constantValue := 0 }, { name := "size", type := .int, accessFlags := 18, slot := 1, constantValue := 0 }, { name := "isListIterator", type := .boolean, accessFlags := 18, slot := 2, constantValue := 0 }, { name := "cursor", type := .int, accessFlags := 2, slot := 3, constantValue := 0 }]
  methods := #[k25m0, k25m1, k25m2]
  instanceTypes := #[(.object "java/util/List"), .int, .boolean, .int]
  staticTypes := #[]
  resolved := Array.replicate 86 none
  statics := none }

def pool26 : Array CpInfo := pool [(1, .methodref 2 3), (0, .class_ 4), (0, .nameAndType 5 6), (0, u "java/util/AbstractCollection"), (0, u "<init>"), (0, u "()V"), (0, .fieldref 8 9), (0, .class_ 10), (0, .nameAndType 11 12), (0, u "java/util/AbstractList"), (0, u "modCount"), (0, u "I"), (64, .class_ 78), (0, u "java/util/AbstractList$Itr"), (3, .class_ 83), (0, u "java/util/AbstractList$ListItr"), (9, .class_ 94), (0, u "java/util/AbstractList$RandomAccessSubList"), (3, .class_ 99), (0, u "java/util/AbstractList$SubList"), (33, .class_ 134), (0, u "java/util/List"), (73, .class_ 209), (0, u "java/util/AbstractList$SubList$1"), (0, .class_ 211), (0, u "java/util/AbstractList$RandomAccessSpliterator")] 6

def k26c0 : Code := { maxStack := 2, maxLocals := 1, code := jdk_39_method_1_code, exceptionTable := #[], attributes := #[] }
def k26m0 : Method := { name := "<init>", desc := "()V", sig := { parameters := [], returnType := none }, accessFlags := 4, code := some k26c0 }
/-- java/util/AbstractList -/
def k26 : Class := { plain "java/util/AbstractList" (some 18) with
  accessFlags := 1057
  interfaces := #[16]
  cf := some (fileOf pool26 8 #[.nestMembers #[93, 98, 208, 210, 82, 77]] #[{ accessFlags := 4, nameIndex := 5, descriptorIndex := 6, attributes := #[] }] 1057 2 #[133] #[{ accessFlags := 132, nameIndex := 11, descriptorIndex := 12, attributes := #[] }])
  fields := #[{ name := "modCount", type := .int, accessFlags := 132, slot := 0, constantValue := 0 }]
  methods := #[k26m0]
  instanceTypes := #[.int]
  staticTypes := #[]
  resolved := Array.replicate 218 none
  statics := none }

def pool27 : Array CpInfo := pool [(1, .class_ 2), (0, u "java/lang/Cloneable"), (0, .class_ 4), (0, u "java/lang/Object")] 2

/-- java/lang/Cloneable -/
def k27 : Class := { plain "java/lang/Cloneable" (some 0) with
  accessFlags := 1537
  interfaces := #[]
  cf := some (fileOf pool27 1 #[] #[] 1537 3 #[] #[])
  fields := #[]
  methods := #[]
  instanceTypes := #[]
  staticTypes := #[]
  resolved := Array.replicate 7 none
  statics := none }

def pool28 : Array CpInfo := pool [(1, .methodref 2 3), (0, .class_ 4), (0, .nameAndType 5 6), (0, u "java/util/AbstractList"), (0, u "<init>"), (0, u "()V"), (0, .class_ 8), (0, u "java/lang/Object"), (0, .fieldref 10 11), (0, .class_ 12), (0, .nameAndType 13 14), (0, u "java/util/ArrayList"), (0, u "elementData"), (0, u "[Ljava/lang/Object;"), (2, u "EMPTY_ELEMENTDATA"), (21, .fieldref 10 40), (0, .nameAndType 41 14), (0, u "DEFAULTCAPACITY_EMPTY_ELEMENTDATA"), (4, u "toArray"), (0, u "()[Ljava/lang/Object;"), (0, .fieldref 10 49), (0, .nameAndType 50 51), (0, u "size"), (0, u "I"), (6, .class_ 60), (1, u "java/util/Arrays"), (0, u "copyOf"), (1, .fieldref 10 64), (0, .nameAndType 65 51), (0, u "modCount"), (0, .methodref 58 67), (0, .nameAndType 61 68), (0, u "([Ljava/lang/Object;I)[Ljava/lang/Object;"), (0, .methodref 10 70), (0, .nameAndType 71 72), (0, u "grow"), (0, u "(I)[Ljava/lang/Object;"), (6, .methodref 80 81), (0, .class_ 82), (0, .nameAndType 83 84), (0, u "java/lang/Math"), (0, u "max"), (0, u "(II)I"), (11, u "(Ljava/lang/Object;)Z"), (32, .methodref 10 130), (0, .nameAndType 71 47), (0, .methodref 10 132), (0, .nameAndType 133 134), (0, u "add"), (0, u "(Ljava/lang/Object;[Ljava/lang/Object;I)V"), (13, .class_ 149), (0, u "java/util/List"), (23, u "()Z"), (88, .class_ 263), (0, u "java/util/ArrayList$ListItr"), (3, .class_ 268), (0, u "java/util/ArrayList$Itr"), (7, .class_ 277), (0, u "java/util/ArrayList$SubList"), (12, .class_ 291), (0, u "java/util/ArrayList$ArrayListSpliterator"), (37, .class_ 330), (0, u "java/util/RandomAccess"), (0, .class_ 332), (0, u "java/lang/Cloneable"), (0, .class_ 334), (0, u "java/io/Serializable"), (0, u "serialVersionUID"), (0, u "J"), (3, u "DEFAULT_CAPACITY"), (22, u "isEmpty"), (136, .class_ 501), (0, u "java/util/ArrayList$SubList$2"), (0, .class_ 503), (0, u "java/util/ArrayList$SubList$1")] 5

def k28c0 : Code := { maxStack := 2, maxLocals := 1, code := jdk_38_method_2_code, exceptionTable := #[], attributes := #[] }
def k28m0 : Method := { name := "<init>", desc := "()V", sig := { parameters := [], returnType := none }, accessFlags := 1, code := some k28c0 }
def k28c1 : Code := { maxStack := 4, maxLocals := 4, code := jdk_38_method_6_code, exceptionTable := #[], attributes := #[] }
def k28m1 : Method := { name := "grow", desc := "(I)[Ljava/lang/Object;", sig := { parameters := [.int], returnType := some (.array (.object "java/lang/Object")) }, accessFlags := 2, code := some k28c1 }
def k28c2 : Code := { maxStack := 3, maxLocals := 1, code := jdk_38_method_7_code, exceptionTable := #[], attributes := #[] }
def k28m2 : Method := { name := "grow", desc := "()[Ljava/lang/Object;", sig := { parameters := [], returnType := some (.array (.object "java/lang/Object")) }, accessFlags := 2, code := some k28c2 }
def k28c3 : Code := { maxStack := 1, maxLocals := 1, code := jdk_38_method_9_code, exceptionTable := #[], attributes := #[] }
def k28m3 : Method := { name := "isEmpty", desc := "()Z", sig := { parameters := [], returnType := some .boolean }, accessFlags := 1, code := some k28c3 }
def k28c4 : Code := { maxStack := 2, maxLocals := 1, code := jdk_38_method_16_code, exceptionTable := #[], attributes := #[] }
def k28m4 : Method := { name := "toArray", desc := "()[Ljava/lang/Object;", sig := { parameters := [], returnType := some (.array (.object "java/lang/Object")) }, accessFlags := 1, code := some k28c4 }
def k28c5 : Code := { maxStack := 3, maxLocals := 4, code := jdk_38_method_24_code, exceptionTable := #[], attributes := #[] }
def k28m5 : Method := { name := "add", desc := "(Ljava/lang/Object;[Ljava/lang/Object;I)V", sig := { parameters := [(.object "java/lang/Object"), (.array (.object "java/lang/Object")), .int], returnType := none }, accessFlags := 2, code := some k28c5 }
def k28c6 : Code := { maxStack := 4, maxLocals := 2, code := jdk_38_method_25_code, exceptionTable := #[], attributes := #[] }
def k28m6 : Method := { name := "add", desc := "(Ljava/lang/Object;)Z", sig := { parameters := [(.object "java/lang/Object")], returnType := some .boolean }, accessFlags := 1, code := some k28c6 }
/-- java/util/ArrayList -/
def k28 : Class := { plain "java/util/ArrayList" (some 26) with
  accessFlags := 33
  interfaces := #[16, 20, 27, 3]
  cf := some (fileOf pool28 10 #[.nestMembers #[290, 276, 500, 502, 262, 267]] #[{ accessFlags := 1, nameIndex := 5, descriptorIndex := 6, attributes := #[] }, { accessFlags := 2, nameIndex := 71, descriptorIndex := 72, attributes := #[] }, { accessFlags := 2, nameIndex := 71, descriptorIndex := 47, attributes := #[] }, { accessFlags := 1, nameIndex := 363, descriptorIndex := 173, attributes := #[] }, { accessFlags := 1, nameIndex := 46, descriptorIndex := 47, attributes := #[] }, { accessFlags := 2, nameIndex := 133, descriptorIndex := 134, attributes := #[] }, { accessFlags := 1, nameIndex := 133, descriptorIndex := 96, attributes := #[] }] 33 2 #[148, 329, 331, 333] #[{ accessFlags := 26, nameIndex := 335, descriptorIndex := 336, attributes := #[] }, { accessFlags := 26, nameIndex := 340, descriptorIndex := 51, attributes := #[] }, { accessFlags := 26, nameIndex := 17, descriptorIndex := 14, attributes := #[] }, { accessFlags := 26, nameIndex := 41, descriptorIndex := 14, attributes := #[] }, { accessFlags := 128, nameIndex := 13, descriptorIndex := 14, attributes := #[] }, { accessFlags := 2, nameIndex := 50, descriptorIndex := 51, attributes := #[] }])
  fields := #[{ name := "serialVersionUID", type := .long, accessFlags := 26, slot := 0, constantValue := 0 }, { name := "DEFAULT_CAPACITY", type := .int, accessFlags := 26, slot := 1, constantValue := 0 }, { name := "EMPTY_ELEMENTDATA", type := (.array (.object "java/lang/Object")), accessFlags := 26, slot := 2, constantValue := 0 }, { name := "DEFAULTCAPACITY_EMPTY_ELEMENTDATA", type := (.array (.object "java/lang/Object")), accessFlags := 26, slot := 3, constantValue := 0 }, { name := "elementData", type := (.array (.object "java/lang/Object")), accessFlags := 128, slot := 1, constantValue := 0 }, { name := "size", type := .int, accessFlags := 2, slot := 2, constantValue := 0 }]
  methods := #[k28m0, k28m1, k28m2, k28m3, k28m4, k28m5, k28m6]
  instanceTypes := #[.int, (.array (.object "java/lang/Object")), .int]
  staticTypes := #[.long, .int, (.array (.object "java/lang/Object")), (.array (.object "java/lang/Object"))]
  resolved := Array.replicate 509 none
  statics := some 4 }

def pool29 : Array CpInfo := pool [(1, .methodref 2 3), (0, .class_ 4), (0, .nameAndType 5 6), (0, u "java/util/ImmutableCollections$AbstractImmutableList"), (0, u "<init>"), (0, u "()V"), (0, .methodref 8 9), (0, .class_ 10), (0, .nameAndType 11 12), (0, u "java/util/Objects"), (0, u "requireNonNull"), (0, u "(Ljava/lang/Object;)Ljava/lang/Object;"), (0, .fieldref 14 15), (0, .class_ 16), (0, .nameAndType 17 18), (0, u "java/util/ImmutableCollections$List12"), (0, u "e0"), (0, u "Ljava/lang/Object;"), (0, .fieldref 20 21), (0, .class_ 22), (0, .nameAndType 23 18), (0, u "java/util/ImmutableCollections"), (0, u "EMPTY"), (0, .fieldref 14 25), (0, .nameAndType 26 18), (0, u "e1"), (24, u "size"), (0, u "()I"), (17, .class_ 71), (0, u "java/io/Serializable"), (4, u "(Ljava/lang/Object;)V"), (8, u "(Ljava/lang/Object;Ljava/lang/Object;)V"), (4, u "get"), (0, u "(I)Ljava/lang/Object;")] 33

def k29c0 : Code := { maxStack := 2, maxLocals := 2, code := jdk_44_method_1_code, exceptionTable := #[], attributes := #[] }
def k29m0 : Method := { name := "<init>", desc := "(Ljava/lang/Object;)V", sig := { parameters := [(.object "java/lang/Object")], returnType := none }, accessFlags := 0, code := some k29c0 }
def k29c1 : Code := { maxStack := 2, maxLocals := 3, code := jdk_44_method_2_code, exceptionTable := #[], attributes := #[] }
def k29m1 : Method := { name := "<init>", desc := "(Ljava/lang/Object;Ljava/lang/Object;)V", sig := { parameters := [(.object "java/lang/Object"), (.object "java/lang/Object")], returnType := none }, accessFlags := 0, code := some k29c1 }
def k29c2 : Code := { maxStack := 2, maxLocals := 1, code := jdk_44_method_3_code, exceptionTable := #[], attributes := #[] }
def k29m2 : Method := { name := "size", desc := "()I", sig := { parameters := [], returnType := some .int }, accessFlags := 1, code := some k29c2 }
def k29c3 : Code := { maxStack := 2, maxLocals := 2, code := jdk_44_method_5_code, exceptionTable := #[], attributes := #[] }
def k29m3 : Method := { name := "get", desc := "(I)Ljava/lang/Object;", sig := { parameters := [.int], returnType := some (.object "java/lang/Object") }, accessFlags := 1, code := some k29c3 }
/-- java/util/ImmutableCollections$List12 -/
def k29 : Class := { plain "java/util/ImmutableCollections$List12" (some 21) with
  accessFlags := 48
  interfaces := #[3]
  cf := some (fileOf pool29 14 #[.nestHost 20] #[{ accessFlags := 0, nameIndex := 5, descriptorIndex := 76, attributes := #[] }, { accessFlags := 0, nameIndex := 5, descriptorIndex := 85, attributes := #[] }, { accessFlags := 1, nameIndex := 51, descriptorIndex := 52, attributes := #[] }, { accessFlags := 1, nameIndex := 90, descriptorIndex := 91, attributes := #[] }] 48 2 #[70] #[{ accessFlags := 18, nameIndex := 17, descriptorIndex := 18, attributes := #[] }, { accessFlags := 18, nameIndex := 26, descriptorIndex := 18, attributes := #[] }])
  fields := #[{ name := "e0", type := (.object "java/lang/Object"), accessFlags := 18, slot := 0, constantValue := 0 }, { name := "e1", type := (.object "java/lang/Object"), accessFlags := 18, slot := 1, constantValue := 0 }]
  methods := #[k29m0, k29m1, k29m2, k29m3]
  instanceTypes := #[(.object "java/lang/Object"), (.object "java/lang/Object")]
  staticTypes := #[]
  resolved := Array.replicate 125 none
  statics := none }

def pool30 : Array CpInfo := pool [(1, .class_ 2), (0, u "java/lang/Math"), (1, .class_ 6), (1, u "java/lang/Object"), (0, u "<init>"), (0, u "()V"), (89, .class_ 100), (1, u "java/lang/Math$RandomNumberGeneratorHolder"), (71, u "negativeZeroFloatBits"), (0, u "J"), (2, u "negativeZeroDoubleBits"), (21, u "max"), (2, u "min"), (43, u "$assertionsDisabled"), (0, u "Z"), (88, u "(II)I"), (2, u "twoToTheDoubleScaleDown"), (0, u "D"), (4, u "twoToTheDoubleScaleUp"), (9, u "E"), (3, u "PI"), (2, u "TAU"), (2, u "DEGREES_TO_RADIANS"), (0, u "RADIANS_TO_DEGREES")] 94

def k30m0 : Method := { name := "<init>", desc := "()V", sig := { parameters := [], returnType := none }, accessFlags := 2, code := none }
def k30c1 : Code := { maxStack := 2, maxLocals := 2, code := jdk_29_method_65_code, exceptionTable := #[], attributes := #[] }
def k30m1 : Method := { name := "max", desc := "(II)I", sig := { parameters := [.int, .int], returnType := some .int }, accessFlags := 9, code := some k30c1 }
def k30c2 : Code := { maxStack := 2, maxLocals := 2, code := jdk_29_method_69_code, exceptionTable := #[], attributes := #[] }
def k30m2 : Method := { name := "min", desc := "(II)I", sig := { parameters := [.int, .int], returnType := some .int }, accessFlags := 9, code := some k30c2 }
/-- java/lang/Math -/
def k30 : Class := { plain "java/lang/Math" (some 0) with
  accessFlags := 49
  interfaces := #[]
  cf := some (fileOf pool30 1 #[.nestMembers #[98]] #[{ accessFlags := 2, nameIndex := 7, descriptorIndex := 8, attributes := #[] }, { accessFlags := 9, nameIndex := 198, descriptorIndex := 335, attributes := #[] }, { accessFlags := 9, nameIndex := 201, descriptorIndex := 335, attributes := #[] }] 49 4 #[] #[{ accessFlags := 25, nameIndex := 354, descriptorIndex := 339, attributes := #[] }, { accessFlags := 25, nameIndex := 358, descriptorIndex := 339, attributes := #[] }, { accessFlags := 25, nameIndex := 361, descriptorIndex := 339, attributes := #[] }, { accessFlags := 26, nameIndex := 364, descriptorIndex := 339, attributes := #[] }, { accessFlags := 26, nameIndex := 365, descriptorIndex := 339, attributes := #[] }, { accessFlags := 26, nameIndex := 172, descriptorIndex := 173, attributes := #[] }, { accessFlags := 26, nameIndex := 176, descriptorIndex := 173, attributes := #[] }, { accessFlags := 8, nameIndex := 344, descriptorIndex := 339, attributes := #[] }, { accessFlags := 8, nameIndex := 338, descriptorIndex := 339, attributes := #[] }, { accessFlags := 4120, nameIndex := 245, descriptorIndex := 246, attributes := #[] }])
  fields := #[{ name := "E", type := .double, accessFlags := 25, slot := 0, constantValue := 0 }, { name := "PI", type := .double, accessFlags := 25, slot := 1, constantValue := 0 }, { name := "TAU", type := .double, accessFlags := 25, slot := 2, constantValue := 0 }, { name := "DEGREES_TO_RADIANS", type := .double, accessFlags := 26, slot := 3, constantValue := 0 }, { name := "RADIANS_TO_DEGREES", type := .double, accessFlags := 26, slot := 4, constantValue := 0 }, { name := "negativeZeroFloatBits", type := .long, accessFlags := 26, slot := 5, constantValue := 0 }, { name := "negativeZeroDoubleBits", type := .long, accessFlags := 26, slot := 6, constantValue := 0 }, { name := "twoToTheDoubleScaleUp", type := .double, accessFlags := 8, slot := 7, constantValue := 0 }, { name := "twoToTheDoubleScaleDown", type := .double, accessFlags := 8, slot := 8, constantValue := 0 }, { name := "$assertionsDisabled", type := .boolean, accessFlags := 4120, slot := 9, constantValue := 0 }]
  methods := #[k30m0, k30m1, k30m2]
  instanceTypes := #[]
  staticTypes := #[.double, .double, .double, .double, .double, .long, .long, .double, .double, .boolean]
  resolved := Array.replicate 460 none
  statics := none }

def pool31 : Array CpInfo := pool [(2, .class_ 4), (1, u "java/lang/Object"), (0, u "<init>"), (0, u "()V"), (7, .class_ 16), (1, u "java/util/Arrays"), (57, .class_ 76), (1, u "java/util/Arrays$NaturalOrder"), (9, .methodref 2 87), (0, .nameAndType 88 89), (0, u "getClass"), (0, u "()Ljava/lang/Class;"), (20, .class_ 111), (0, u "[Ljava/lang/Object;"), (1, .class_ 115), (1, u "java/util/Arrays$LegacyMergeSort"), (1, u "Z"), (32, .methodref 151 152), (0, .class_ 153), (0, .nameAndType 154 155), (0, u "java/lang/System"), (0, u "arraycopy"), (0, u "(Ljava/lang/Object;ILjava/lang/Object;II)V"), (144, .methodref 14 301), (0, .nameAndType 302 303), (0, u "copyOf"), (0, u "([Ljava/lang/Object;ILjava/lang/Class;)[Ljava/lang/Object;"), (0, .methodref 305 306), (0, .class_ 307), (0, .nameAndType 308 309), (0, u "java/lang/Math"), (0, u "min"), (0, u "(II)I"), (65, .class_ 376), (0, u "java/util/Arrays$ArrayList"), (68, u "$assertionsDisabled"), (269, u "MIN_ARRAY_SORT_GRAN"), (0, u "I"), (2, u "INSERTIONSORT_THRESHOLD"), (140, u "([Ljava/lang/Object;I)[Ljava/lang/Object;"), (114, .class_ 976), (0, u "java/util/Arrays$ArrayItr")] 52

def k31m0 : Method := { name := "<init>", desc := "()V", sig := { parameters := [], returnType := none }, accessFlags := 2, code := none }
def k31c1 : Code := { maxStack := 3, maxLocals := 2, code := jdk_65_method_119_code, exceptionTable := #[], attributes := #[] }
def k31m1 : Method := { name := "copyOf", desc := "([Ljava/lang/Object;I)[Ljava/lang/Object;", sig := { parameters := [(.array (.object "java/lang/Object")), .int], returnType := some (.array (.object "java/lang/Object")) }, accessFlags := 9, code := some k31c1 }
def k31c2 : Code := { maxStack := 6, maxLocals := 4, code := jdk_65_method_120_code, exceptionTable := #[], attributes := #[] }
def k31m2 : Method := { name := "copyOf", desc := "([Ljava/lang/Object;ILjava/lang/Class;)[Ljava/lang/Object;", sig := { parameters := [(.array (.object "java/lang/Object")), .int, (.object "java/lang/Class")], returnType := some (.array (.object "java/lang/Object")) }, accessFlags := 9, code := some k31c2 }
/-- java/util/Arrays -/
def k31 : Class := { plain "java/util/Arrays" (some 0) with
  accessFlags := 49
  interfaces := #[]
  cf := some (fileOf pool31 14 #[.nestMembers #[975, 375, 113, 74]] #[{ accessFlags := 2, nameIndex := 5, descriptorIndex := 6, attributes := #[] }, { accessFlags := 9, nameIndex := 302, descriptorIndex := 860, attributes := #[] }, { accessFlags := 9, nameIndex := 302, descriptorIndex := 303, attributes := #[] }] 49 2 #[] #[{ accessFlags := 26, nameIndex := 715, descriptorIndex := 716, attributes := #[] }, { accessFlags := 26, nameIndex := 719, descriptorIndex := 716, attributes := #[] }, { accessFlags := 4120, nameIndex := 445, descriptorIndex := 117, attributes := #[] }])
  fields := #[{ name := "MIN_ARRAY_SORT_GRAN", type := .int, accessFlags := 26, slot := 0, constantValue := 0 }, { name := "INSERTIONSORT_THRESHOLD", type := .int, accessFlags := 26, slot := 1, constantValue := 0 }, { name := "$assertionsDisabled", type := .boolean, accessFlags := 4120, slot := 2, constantValue := 0 }]
  methods := #[k31m0, k31m1, k31m2]
  instanceTypes := #[]
  staticTypes := #[.int, .int, .boolean]
  resolved := Array.replicate 1029 none
  statics := none }

def pool32 : Array CpInfo := pool [(2, .class_ 4), (1, u "java/lang/Object"), (0, u "<init>"), (0, u "()V"), (1, .class_ 10), (1, u "java/lang/System"), (0, u "allowSecurityManager"), (0, u "I"), (16, u "cons"), (0, u "Ljava/io/Console;"), (77, .class_ 110), (1, u "java/lang/System$CallersHolder"), (43, u "initialErrStream"), (0, u "Ljava/io/PrintStream;"), (19, u "security"), (0, u "Ljava/lang/SecurityManager;"), (31, .class_ 209), (0, u "java/lang/System$1"), (7, u "props"), (0, u "Ljava/util/Properties;"), (2, u "lineSeparator"), (0, u "Ljava/lang/String;"), (96, .class_ 321), (1, u "java/lang/System$LoggerFinder"), (5, .class_ 328), (0, u "java/lang/System$Logger"), (67, u "err"), (2, u "out"), (91, u "notSupportedJnuEncoding"), (15, u "in"), (17, u "initialIn"), (0, u "Ljava/io/InputStream;"), (35, u "bootLayer"), (0, u "Ljava/lang/ModuleLayer;"), (99, .class_ 664), (0, u "java/lang/System$2"), (9, u "NEVER"), (2, u "MAYBE"), (49, u "arraycopy"), (0, u "(Ljava/lang/Object;ILjava/lang/Object;II)V"), (72, .class_ 802), (0, u "java/lang/System$Logger$Level")] 31

def k32m0 : Method := { name := "<init>", desc := "()V", sig := { parameters := [], returnType := none }, accessFlags := 2, code := none }
def k32m1 : Method := { name := "arraycopy", desc := "(Ljava/lang/Object;ILjava/lang/Object;II)V", sig := { parameters := [(.object "java/lang/Object"), .int, (.object "java/lang/Object"), .int, .int], returnType := none }, accessFlags := 265, code := none }
/-- java/lang/System -/
def k32 : Class := { plain "java/lang/System" (some 0) with
  accessFlags := 49
  interfaces := #[]
  cf := some (fileOf pool32 8 #[.nestMembers #[319, 327, 801, 108, 663, 208]] #[{ accessFlags := 2, nameIndex := 5, descriptorIndex := 6, attributes := #[] }, { accessFlags := 265, nameIndex := 727, descriptorIndex := 728, attributes := #[] }] 49 2 #[] #[{ accessFlags := 25, nameIndex := 507, descriptorIndex := 526, attributes := #[] }, { accessFlags := 25, nameIndex := 399, descriptorIndex := 155, attributes := #[] }, { accessFlags := 25, nameIndex := 396, descriptorIndex := 155, attributes := #[] }, { accessFlags := 10, nameIndex := 525, descriptorIndex := 526, attributes := #[] }, { accessFlags := 26, nameIndex := 674, descriptorIndex := 12, attributes := #[] }, { accessFlags := 26, nameIndex := 677, descriptorIndex := 12, attributes := #[] }, { accessFlags := 10, nameIndex := 11, descriptorIndex := 12, attributes := #[] }, { accessFlags := 74, nameIndex := 175, descriptorIndex := 176, attributes := #[] }, { accessFlags := 10, nameIndex := 491, descriptorIndex := 222, attributes := #[] }, { accessFlags := 74, nameIndex := 29, descriptorIndex := 30, attributes := #[] }, { accessFlags := 74, nameIndex := 154, descriptorIndex := 155, attributes := #[] }, { accessFlags := 10, nameIndex := 217, descriptorIndex := 218, attributes := #[] }, { accessFlags := 10, nameIndex := 221, descriptorIndex := 222, attributes := #[] }, { accessFlags := 8, nameIndex := 562, descriptorIndex := 563, attributes := #[] }])
  fields := #[{ name := "in", type := (.object "java/io/InputStream"), accessFlags := 25, slot := 0, constantValue := 0 }, { name := "out", type := (.object "java/io/PrintStream"), accessFlags := 25, slot := 1, constantValue := 0 }, { name := "err", type := (.object "java/io/PrintStream"), accessFlags := 25, slot := 2, constantValue := 0 }, { name := "initialIn", type := (.object "java/io/InputStream"), accessFlags := 10, slot := 3, constantValue := 0 }, { name := "NEVER", type := .int, accessFlags := 26, slot := 4, constantValue := 0 }, { name := "MAYBE", type := .int, accessFlags := 26, slot := 5, constantValue := 0 }, { name := "allowSecurityManager", type := .int, accessFlags := 10, slot := 6, constantValue := 0 }, { name := "security", type := (.object "java/lang/SecurityManager"), accessFlags := 74, slot := 7, constantValue := 0 }, { name := "notSupportedJnuEncoding", type := (.object "java/lang/String"), accessFlags := 10, slot := 8, constantValue := 0 }, { name := "cons", type := (.object "java/io/Console"), accessFlags := 74, slot := 9, constantValue := 0 }, { name := "initialErrStream", type := (.object "java/io/PrintStream"), accessFlags := 74, slot := 10, constantValue := 0 }, { name := "props", type := (.object "java/util/Properties"), accessFlags := 10, slot := 11, constantValue := 0 }, { name := "lineSeparator", type := (.object "java/lang/String"), accessFlags := 10, slot := 12, constantValue := 0 }, { name := "bootLayer", type := (.object "java/lang/ModuleLayer"), accessFlags := 8, slot := 13, constantValue := 0 }]
  methods := #[k32m0, k32m1]
  instanceTypes := #[]
  staticTypes := #[(.object "java/io/InputStream"), (.object "java/io/PrintStream"), (.object "java/io/PrintStream"), (.object "java/io/InputStream"), .int, .int, .int, (.object "java/lang/SecurityManager"), (.object "java/lang/String"), (.object "java/io/Console"), (.object "java/io/PrintStream"), (.object "java/util/Properties"), (.object "java/lang/String"), (.object "java/lang/ModuleLayer")]
  resolved := Array.replicate 834 none
  statics := none }

def pool33 : Array CpInfo := pool [(2, .class_ 4), (1, u "java/lang/Object"), (0, u "<init>"), (0, u "()V"), (17, .class_ 26), (1, u "jdk/internal/util/Preconditions"), (28, .class_ 56), (0, u "jdk/internal/util/Preconditions$4"), (57, .class_ 115), (0, u "jdk/internal/util/Preconditions$1"), (7, u "SIOOBE_FORMATTER"), (0, u "Ljava/util/function/BiFunction;"), (0, .class_ 126), (0, u "jdk/internal/util/Preconditions$2"), (3, u "AIOOBE_FORMATTER"), (0, .class_ 132), (0, u "jdk/internal/util/Preconditions$3"), (3, u "IOOBE_FORMATTER")] 57

def k33m0 : Method := { name := "<init>", desc := "()V", sig := { parameters := [], returnType := none }, accessFlags := 1, code := none }
/-- jdk/internal/util/Preconditions -/
def k33 : Class := { plain "jdk/internal/util/Preconditions" (some 0) with
  accessFlags := 33
  interfaces := #[]
  cf := some (fileOf pool33 24 #[.nestMembers #[55, 131, 125, 114]] #[{ accessFlags := 1, nameIndex := 5, descriptorIndex := 6, attributes := #[] }] 33 2 #[] #[{ accessFlags := 25, nameIndex := 123, descriptorIndex := 124, attributes := #[] }, { accessFlags := 25, nameIndex := 130, descriptorIndex := 124, attributes := #[] }, { accessFlags := 25, nameIndex := 136, descriptorIndex := 124, attributes := #[] }])
  fields := #[{ name := "SIOOBE_FORMATTER", type := (.object "java/util/function/BiFunction"), accessFlags := 25, slot := 0, constantValue := 0 }, { name := "AIOOBE_FORMATTER", type := (.object "java/util/function/BiFunction"), accessFlags := 25, slot := 1, constantValue := 0 }, { name := "IOOBE_FORMATTER", type := (.object "java/util/function/BiFunction"), accessFlags := 25, slot := 2, constantValue := 0 }]
  methods := #[k33m0]
  instanceTypes := #[]
  staticTypes := #[(.object "java/util/function/BiFunction"), (.object "java/util/function/BiFunction"), (.object "java/util/function/BiFunction")]
  resolved := Array.replicate 194 none
  statics := some 5 }

def pool34 : Array CpInfo := pool [(9, u "<init>"), (6, .class_ 18), (1, u "java/lang/Object"), (0, u "()V"), (1, .class_ 23), (1, u "jdk/internal/util/ArraysSupport"), (0, u "LOG2_ARRAY_LONG_INDEX_SCALE"), (0, u "I"), (2, u "U"), (0, u "Ljdk/internal/misc/Unsafe;"), (8, u "BIG_ENDIAN"), (0, u "Z"), (8, u "LOG2_BYTE_BIT_SIZE"), (4, u "LOG2_ARRAY_INT_INDEX_SCALE"), (54, u "JLA"), (0, u "Ljdk/internal/access/JavaLangAccess;"), (11, u "LOG2_ARRAY_BOOLEAN_INDEX_SCALE"), (9, u "LOG2_ARRAY_BYTE_INDEX_SCALE"), (5, u "LOG2_ARRAY_CHAR_INDEX_SCALE"), (5, u "LOG2_ARRAY_SHORT_INDEX_SCALE"), (18, u "LOG2_ARRAY_FLOAT_INDEX_SCALE"), (24, u "LOG2_ARRAY_DOUBLE_INDEX_SCALE"), (89, u "T_BOOLEAN"), (2, u "T_CHAR"), (1, u "T_FLOAT"), (1, u "T_DOUBLE"), (1, u "T_BYTE"), (1, u "T_SHORT"), (1, u "T_INT"), (1, u "T_LONG"), (1, u "SOFT_MAX_ARRAY_LENGTH")] 83

def k34m0 : Method := { name := "<init>", desc := "()V", sig := { parameters := [], returnType := none }, accessFlags := 2, code := none }
/-- jdk/internal/util/ArraysSupport -/
def k34 : Class := { plain "jdk/internal/util/ArraysSupport" (some 0) with
  accessFlags := 33
  interfaces := #[]
  cf := some (fileOf pool34 21 #[] #[{ accessFlags := 2, nameIndex := 9, descriptorIndex := 19, attributes := #[] }] 33 16 #[] #[{ accessFlags := 24, nameIndex := 28, descriptorIndex := 29, attributes := #[] }, { accessFlags := 26, nameIndex := 38, descriptorIndex := 39, attributes := #[] }, { accessFlags := 25, nameIndex := 121, descriptorIndex := 25, attributes := #[] }, { accessFlags := 25, nameIndex := 131, descriptorIndex := 25, attributes := #[] }, { accessFlags := 25, nameIndex := 137, descriptorIndex := 25, attributes := #[] }, { accessFlags := 25, nameIndex := 143, descriptorIndex := 25, attributes := #[] }, { accessFlags := 25, nameIndex := 53, descriptorIndex := 25, attributes := #[] }, { accessFlags := 25, nameIndex := 24, descriptorIndex := 25, attributes := #[] }, { accessFlags := 25, nameIndex := 162, descriptorIndex := 25, attributes := #[] }, { accessFlags := 25, nameIndex := 187, descriptorIndex := 25, attributes := #[] }, { accessFlags := 26, nameIndex := 48, descriptorIndex := 25, attributes := #[] }, { accessFlags := 25, nameIndex := 277, descriptorIndex := 25, attributes := #[] }, { accessFlags := 25, nameIndex := 280, descriptorIndex := 25, attributes := #[] }, { accessFlags := 25, nameIndex := 282, descriptorIndex := 25, attributes := #[] }, { accessFlags := 25, nameIndex := 284, descriptorIndex := 25, attributes := #[] }, { accessFlags := 25, nameIndex := 286, descriptorIndex := 25, attributes := #[] }, { accessFlags := 25, nameIndex := 288, descriptorIndex := 25, attributes := #[] }, { accessFlags := 25, nameIndex := 290, descriptorIndex := 25, attributes := #[] }, { accessFlags := 25, nameIndex := 292, descriptorIndex := 25, attributes := #[] }, { accessFlags := 26, nameIndex := 108, descriptorIndex := 109, attributes := #[] }, { accessFlags := 25, nameIndex := 294, descriptorIndex := 25, attributes := #[] }])
  fields := #[{ name := "U", type := (.object "jdk/internal/misc/Unsafe"), accessFlags := 24, slot := 0, constantValue := 0 }, { name := "BIG_ENDIAN", type := .boolean, accessFlags := 26, slot := 1, constantValue := 0 }, { name := "LOG2_ARRAY_BOOLEAN_INDEX_SCALE", type := .int, accessFlags := 25, slot := 2, constantValue := 0 }, { name := "LOG2_ARRAY_BYTE_INDEX_SCALE", type := .int, accessFlags := 25, slot := 3, constantValue := 0 }, { name := "LOG2_ARRAY_CHAR_INDEX_SCALE", type := .int, accessFlags := 25, slot := 4, constantValue := 0 }, { name := "LOG2_ARRAY_SHORT_INDEX_SCALE", type := .int, accessFlags := 25, slot := 5, constantValue := 0 }, { name := "LOG2_ARRAY_INT_INDEX_SCALE", type := .int, accessFlags := 25, slot := 6, constantValue := 0 }, { name := "LOG2_ARRAY_LONG_INDEX_SCALE", type := .int, accessFlags := 25, slot := 7, constantValue := 0 }, { name := "LOG2_ARRAY_FLOAT_INDEX_SCALE", type := .int, accessFlags := 25, slot := 8, constantValue := 0 }, { name := "LOG2_ARRAY_DOUBLE_INDEX_SCALE", type := .int, accessFlags := 25, slot := 9, constantValue := 0 }, { name := "LOG2_BYTE_BIT_SIZE", type := .int, accessFlags := 26, slot := 10, constantValue := 0 }, { name := "T_BOOLEAN", type := .int, accessFlags := 25, slot := 11, constantValue := 0 }, { name := "T_CHAR", type := .int, accessFlags := 25, slot := 12, constantValue := 0 }, { name := "T_FLOAT", type := .int, accessFlags := 25, slot := 13, constantValue := 0 }, { name := "T_DOUBLE", type := .int, accessFlags := 25, slot := 14, constantValue := 0 }, { name := "T_BYTE", type := .int, accessFlags := 25, slot := 15, constantValue := 0 }, { name := "T_SHORT", type := .int, accessFlags := 25, slot := 16, constantValue := 0 }, { name := "T_INT", type := .int, accessFlags := 25, slot := 17, constantValue := 0 }, { name := "T_LONG", type := .int, accessFlags := 25, slot := 18, constantValue := 0 }, { name := "JLA", type := (.object "jdk/internal/access/JavaLangAccess"), accessFlags := 26, slot := 19, constantValue := 0 }, { name := "SOFT_MAX_ARRAY_LENGTH", type := .int, accessFlags := 25, slot := 20, constantValue := 0 }]
  methods := #[k34m0]
  instanceTypes := #[]
  staticTypes := #[(.object "jdk/internal/misc/Unsafe"), .boolean, .int, .int, .int, .int, .int, .int, .int, .int, .int, .int, .int, .int, .int, .int, .int, .int, .int, (.object "jdk/internal/access/JavaLangAccess"), .int]
  resolved := Array.replicate 378 none
  statics := none }

/-- the primitive byte -/
def k35 : Class := { plain "byte" none with kind := .primitive 'B', accessFlags := 0x411 }
/-- [B -/
def k36 : Class := { plain "[B" (some 0) with kind := .array 35 .byte, interfaces := #[27, 3], accessFlags := 1041 }

/-- the primitive int -/
def k37 : Class := { plain "int" none with kind := .primitive 'I', accessFlags := 0x411 }
/-- [I -/
def k38 : Class := { plain "[I" (some 0) with kind := .array 37 .int, interfaces := #[27, 3], accessFlags := 1041 }

/-- [Lcom/example/tablox/tablox/concept/Concept; -/
def k39 : Class := { plain "[Lcom/example/tablox/tablox/concept/Concept;" (some 0) with kind := .array 2 (.object "com/example/tablox/tablox/concept/Concept"), interfaces := #[27, 3], accessFlags := 1041 }

/-- [Ljava/lang/Object; -/
def k40 : Class := { plain "[Ljava/lang/Object;" (some 0) with kind := .array 0 (.object "java/lang/Object"), interfaces := #[27, 3], accessFlags := 1041, mirror := some 15 }

def heap : Heap := #[{ cls := 2, slots := #[.ref 8, .ref 9], vm := .statics 2 },
  { cls := 8, slots := #[.long 0, .int 1, .null, .int 0, .null, .int 0, .int 0], vm := .statics 8 },
  { cls := 11, slots := #[.null, .null, .ref 10, .null, .ref 11, .null, .null, .null, .null], vm := .statics 11 },
  { cls := 17, slots := #[.long 0, .int 0, .null, .ref 14, .ref 7, .null, .null, .null, .int 0, .int 1], vm := .statics 17 },
  { cls := 28, slots := #[.long 0, .int 0, .ref 12, .ref 13], vm := .statics 28 },
  { cls := 33, slots := #[.null, .null, .null], vm := .statics 33 },
  { cls := 40, slots := #[], vm := .none },
  { cls := 22, slots := #[.ref 6, .int 0], vm := .none },
  { cls := 2, slots := #[.null, .null, .null, .null, .int 0], vm := .none },
  { cls := 2, slots := #[.null, .null, .null, .null, .int 31], vm := .none },
  { cls := 11, slots := #[.null, .int 2, .int 0], vm := .none },
  { cls := 11, slots := #[.null, .int 4, .int 0], vm := .none },
  { cls := 40, slots := #[], vm := .none },
  { cls := 40, slots := #[], vm := .none },
  { cls := 0, slots := #[], vm := .none },
  { cls := 0, slots := #[], vm := .mirror 40 }]
def classes : Array Class := #[k0, k1, k2, k3, k4, k5, k6, k7, k8, k9, k10, k11, k12, k13, k14, k15, k16, k17, k18, k19, k20, k21, k22, k23, k24, k25, k26, k27, k28, k29, k30, k31, k32, k33, k34, k35, k36, k37, k38, k39, k40]
def interned : List (Array UInt16 × Addr) := []
def slotsUsed : Nat := 53
def theMethod : MethodId := ⟨1, 1⟩
def args0 : Array Value := #[.int 3, .int 27, .int 65, .int 66]
def aboutOver (below : List Frame) : State where
  vm := { classes := classes, interned := interned.toArray }
  heap := heap
  slotsUsed := slotsUsed
  threads := #[{ frames := .invoking theMethod args0 :: below }]
def below0 : List Frame := [.native { method := ⟨0, 0⟩, args := #[] }]
def about1 : State := aboutOver below0
def p0 : Program := .bare "" "" ""
def e0 : Env := launch0.env 0 0 0
theorem w_frames : about1.frames = Frame.invoking theMethod args0 :: below0 := rfl
set_option maxRecDepth 65536 in
theorem w_args : argsFit about1.vm theMethod args0 = true := by decide +kernel
set_option maxRecDepth 65536 in
theorem w_heap : heapFits about1 = true := by decide +kernel
set_option maxRecDepth 65536 in
theorem w_runnable : about1.curStatus? = some .runnable := by decide +kernel
set_option maxRecDepth 65536 in
theorem w_alone : about1.alone = true := by decide +kernel
set_option maxRecDepth 65536 in
theorem w_named : about1.methodNamed? x = some theMethod := by decide +kernel
set_option maxRecDepth 65536 in
theorem w_hears : about1.hears theMethod below0 = true := by decide +kernel
set_option maxRecDepth 65536 in
theorem w_ripe : about1.ripe theMethod args0 below0 = true := by decide +kernel
theorem w_running : about1.status = .running := rfl
set_option maxRecDepth 65536 in
theorem w_room : about1.hasRoom e0.platform room_1 = true :=
  launch0.hasRoom_least _ room_1 (by decide +kernel) (by decide +kernel) (by decide +kernel) (by decide +kernel) (by decide +kernel) (by decide +kernel)
theorem allAtoms_all (ts : List Jvm.Cond) (a : Array Jvm.Value) (st : Jvm.State) : (allAtoms ts).before a st = ts.all (fun c => c.before a st) := by
  induction ts with
  | nil => rfl
  | cons c t ih =>
    show (Jvm.Cond.and c (allAtoms t)).before a st = _
    rw [Jvm.Cond.before_and, ih, List.all_cons]
def words1 : List Jvm.Cond := Jvm.Cond.code x code maxLocals ret :: tables_1
/-- a 'code' word, met by the world's own term for the bytes: nothing is compared byte by byte -/
theorem code_word {y : MethodName} {bytes : ByteArray} {mx : Nat} {rt : Option FieldType} {a : Array Value} {s : State} {m : MethodId} {meth : Method} {c : Code} (h1 : s.methodNamed? y = some m) (h2 : s.vm.method? m = some meth) (h3 : meth.code = some c) (h4 : c.code = bytes)
    (h5 : (c.maxLocals == mx && c.exceptionTable.isEmpty && decide (c.maxStack ≤ mostOperands) && decide (meth.sig.returnType = rt) && !meth.locks && decide (parseMethodDescriptor y.desc = some meth.sig)) = true) : (Jvm.Cond.code y bytes mx rt).before a s = true := by
  simp only [Bool.and_eq_true, beq_iff_eq, Bool.not_eq_true', decide_eq_true_eq] at h5
  obtain ⟨⟨⟨⟨⟨g1, g2⟩, g3⟩, g4⟩, g5⟩, g6⟩ := h5
  simp [Cond.before, Cond.holds, Cond.value, h1, h2, h3, h4, g1, g2, g3, g4, g5, g6]
def isCode : Jvm.Cond → Bool
  | .code _ _ _ _ => true
  | _ => false
theorem all_split {L : List Jvm.Cond} {P : Jvm.Cond → Bool} (h1 : L.all (fun c => isCode c || P c) = true) (h2 : ∀ c ∈ L.filter isCode, P c = true) : L.all P = true := by
  refine List.all_eq_true.mpr fun c hc => ?_
  have h := List.all_eq_true.mp h1 c hc
  rcases Bool.eq_false_or_eq_true (isCode c) with hi | hi
  · exact h2 c (List.mem_filter.mpr ⟨hc, hi⟩)
  · simpa [hi] using h
set_option maxRecDepth 65536 in
theorem w_c0 : (Jvm.Cond.code x code maxLocals ret).before args0 about1 = true := code_word (m := ⟨1, 1⟩) (meth := k1m1) (c := k1c1) (by decide +kernel) rfl rfl rfl (by decide +kernel)
set_option maxRecDepth 65536 in
theorem w_c1 : (Jvm.Cond.code ({ cls := "java/lang/String", name := "valueOf", desc := "(C)Ljava/lang/String;" } : Jvm.MethodName) jdk_42_method_139_code (1 : Nat) (Option.some (Jvm.ClassFile.FieldType.object "java/lang/String"))).before args0 about1 = true := code_word (m := ⟨8, 2⟩) (meth := k8m2) (c := k8c2) (by decide +kernel) rfl rfl rfl (by decide +kernel)
set_option maxRecDepth 65536 in
theorem w_c2 : (Jvm.Cond.code ({ cls := "java/lang/StringLatin1", name := "canEncode", desc := "(C)Z" } : Jvm.MethodName) jdk_43_method_3_code (1 : Nat) (Option.some Jvm.ClassFile.FieldType.boolean)).before args0 about1 = true := code_word (m := ⟨9, 1⟩) (meth := k9m1) (c := k9c1) (by decide +kernel) rfl rfl rfl (by decide +kernel)
set_option maxRecDepth 65536 in
theorem w_c3 : (Jvm.Cond.code ({ cls := "java/lang/StringLatin1", name := "toBytes", desc := "(C)[B" } : Jvm.MethodName) jdk_43_method_46_code (1 : Nat) (Option.some (Jvm.ClassFile.FieldType.array Jvm.ClassFile.FieldType.byte))).before args0 about1 = true := code_word (m := ⟨9, 3⟩) (meth := k9m3) (c := k9c3) (by decide +kernel) rfl rfl rfl (by decide +kernel)
set_option maxRecDepth 65536 in
theorem w_c4 : (Jvm.Cond.code ({ cls := "java/lang/String", name := "<init>", desc := "([BB)V" } : Jvm.MethodName) jdk_42_method_151_code (3 : Nat) (Option.none : Option Jvm.ClassFile.FieldType)).before args0 about1 = true := code_word (m := ⟨8, 3⟩) (meth := k8m3) (c := k8c3) (by decide +kernel) rfl rfl rfl (by decide +kernel)
set_option maxRecDepth 65536 in
theorem w_c5 : (Jvm.Cond.code ({ cls := "java/lang/Object", name := "<init>", desc := "()V" } : Jvm.MethodName) object_method_1_code (1 : Nat) (Option.none : Option Jvm.ClassFile.FieldType)).before args0 about1 = true := code_word (m := ⟨0, 0⟩) (meth := k0m0) (c := k0c0) (by decide +kernel) rfl rfl rfl (by decide +kernel)
set_option maxRecDepth 65536 in
theorem w_c6 : (Jvm.Cond.code ({ cls := "com/example/tablox/tablox/concept/Concept", name := "named", desc := "(Ljava/lang/String;)Lcom/example/tablox/tablox/concept/Concept;" } : Jvm.MethodName) prog_5_method_2_code (1 : Nat) (Option.some (Jvm.ClassFile.FieldType.object "com/example/tablox/tablox/concept/Concept"))).before args0 about1 = true := code_word (m := ⟨2, 1⟩) (meth := k2m1) (c := k2c1) (by decide +kernel) rfl rfl rfl (by decide +kernel)
set_option maxRecDepth 65536 in
theorem w_c7 : (Jvm.Cond.code ({ cls := "java/util/Objects", name := "requireNonNull", desc := "(Ljava/lang/Object;Ljava/lang/String;)Ljava/lang/Object;" } : Jvm.MethodName) jdk_31_method_11_code (2 : Nat) (Option.some (Jvm.ClassFile.FieldType.object "java/lang/Object"))).before args0 about1 = true := code_word (m := ⟨12, 3⟩) (meth := k12m3) (c := k12c3) (by decide +kernel) rfl rfl rfl (by decide +kernel)
set_option maxRecDepth 65536 in
theorem w_c8 : (Jvm.Cond.code ({ cls := "java/util/List", name := "of", desc := "()Ljava/util/List;" } : Jvm.MethodName) jdk_40_method_36_code (0 : Nat) (Option.some (Jvm.ClassFile.FieldType.object "java/util/List"))).before args0 about1 = true := code_word (m := ⟨16, 3⟩) (meth := k16m3) (c := k16c3) (by decide +kernel) rfl rfl rfl (by decide +kernel)
set_option maxRecDepth 65536 in
theorem w_c9 : (Jvm.Cond.code ({ cls := "com/example/tablox/tablox/concept/Concept", name := "<init>", desc := "(Lcom/example/tablox/tablox/concept/Concept$Kind;Ljava/lang/String;Lcom/example/tablox/tablox/concept/Role;Ljava/util/List;)V" } : Jvm.MethodName) prog_5_method_1_code (8 : Nat) (Option.none : Option Jvm.ClassFile.FieldType)).before args0 about1 = true := code_word (m := ⟨2, 0⟩) (meth := k2m0) (c := k2c0) (by decide +kernel) rfl rfl rfl (by decide +kernel)
set_option maxRecDepth 65536 in
theorem w_c10 : (Jvm.Cond.code ({ cls := "java/lang/Enum", name := "ordinal", desc := "()I" } : Jvm.MethodName) jdk_37_method_2_code (1 : Nat) (Option.some Jvm.ClassFile.FieldType.int)).before args0 about1 = true := code_word (m := ⟨10, 0⟩) (meth := k10m0) (c := k10c0) (by decide +kernel) rfl rfl rfl (by decide +kernel)
set_option maxRecDepth 65536 in
theorem w_c11 : (Jvm.Cond.code ({ cls := "java/util/Objects", name := "hashCode", desc := "(Ljava/lang/Object;)I" } : Jvm.MethodName) jdk_31_method_4_code (1 : Nat) (Option.some Jvm.ClassFile.FieldType.int)).before args0 about1 = true := code_word (m := ⟨12, 1⟩) (meth := k12m1) (c := k12c1) (by decide +kernel) rfl rfl rfl (by decide +kernel)
set_option maxRecDepth 65536 in
theorem w_c12 : (Jvm.Cond.code ({ cls := "java/lang/String", name := "hashCode", desc := "()I" } : Jvm.MethodName) jdk_42_method_78_code (2 : Nat) (Option.some Jvm.ClassFile.FieldType.int)).before args0 about1 = true := code_word (m := ⟨8, 1⟩) (meth := k8m1) (c := k8c1) (by decide +kernel) rfl rfl rfl (by decide +kernel)
set_option maxRecDepth 65536 in
theorem w_c13 : (Jvm.Cond.code ({ cls := "java/lang/String", name := "isLatin1", desc := "()Z" } : Jvm.MethodName) jdk_42_method_154_code (1 : Nat) (Option.some Jvm.ClassFile.FieldType.boolean)).before args0 about1 = true := code_word (m := ⟨8, 4⟩) (meth := k8m4) (c := k8c4) (by decide +kernel) rfl rfl rfl (by decide +kernel)
set_option maxRecDepth 65536 in
theorem w_c14 : (Jvm.Cond.code ({ cls := "java/lang/StringLatin1", name := "hashCode", desc := "([B)I" } : Jvm.MethodName) jdk_43_method_21_code (1 : Nat) (Option.some Jvm.ClassFile.FieldType.int)).before args0 about1 = true := code_word (m := ⟨9, 2⟩) (meth := k9m2) (c := k9c2) (by decide +kernel) rfl rfl rfl (by decide +kernel)
set_option maxRecDepth 65536 in
theorem w_c15 : (Jvm.Cond.code ({ cls := "java/util/ImmutableCollections$AbstractImmutableList", name := "iterator", desc := "()Ljava/util/Iterator;" } : Jvm.MethodName) jdk_46_method_10_code (1 : Nat) (Option.some (Jvm.ClassFile.FieldType.object "java/util/Iterator"))).before args0 about1 = true := code_word (m := ⟨21, 1⟩) (meth := k21m1) (c := k21c1) (by decide +kernel) rfl rfl rfl (by decide +kernel)
set_option maxRecDepth 65536 in
theorem w_c16 : (Jvm.Cond.code ({ cls := "java/util/ImmutableCollections$ListN", name := "size", desc := "()I" } : Jvm.MethodName) jdk_45_method_3_code (1 : Nat) (Option.some Jvm.ClassFile.FieldType.int)).before args0 about1 = true := code_word (m := ⟨22, 1⟩) (meth := k22m1) (c := k22c1) (by decide +kernel) rfl rfl rfl (by decide +kernel)
set_option maxRecDepth 65536 in
theorem w_c17 : (Jvm.Cond.code ({ cls := "java/util/ImmutableCollections$ListItr", name := "<init>", desc := "(Ljava/util/List;I)V" } : Jvm.MethodName) jdk_53_method_1_code (3 : Nat) (Option.none : Option Jvm.ClassFile.FieldType)).before args0 about1 = true := code_word (m := ⟨25, 0⟩) (meth := k25m0) (c := k25c0) (by decide +kernel) rfl rfl rfl (by decide +kernel)
set_option maxRecDepth 65536 in
theorem w_c18 : (Jvm.Cond.code ({ cls := "java/util/ImmutableCollections$ListItr", name := "hasNext", desc := "()Z" } : Jvm.MethodName) jdk_53_method_3_code (1 : Nat) (Option.some Jvm.ClassFile.FieldType.boolean)).before args0 about1 = true := code_word (m := ⟨25, 1⟩) (meth := k25m1) (c := k25c1) (by decide +kernel) rfl rfl rfl (by decide +kernel)
set_option maxRecDepth 65536 in
theorem w_c19 : (Jvm.Cond.code ({ cls := "java/util/ArrayList", name := "<init>", desc := "()V" } : Jvm.MethodName) jdk_38_method_2_code (1 : Nat) (Option.none : Option Jvm.ClassFile.FieldType)).before args0 about1 = true := code_word (m := ⟨28, 0⟩) (meth := k28m0) (c := k28c0) (by decide +kernel) rfl rfl rfl (by decide +kernel)
set_option maxRecDepth 65536 in
theorem w_c20 : (Jvm.Cond.code ({ cls := "java/util/AbstractList", name := "<init>", desc := "()V" } : Jvm.MethodName) jdk_39_method_1_code (1 : Nat) (Option.none : Option Jvm.ClassFile.FieldType)).before args0 about1 = true := code_word (m := ⟨26, 0⟩) (meth := k26m0) (c := k26c0) (by decide +kernel) rfl rfl rfl (by decide +kernel)
set_option maxRecDepth 65536 in
theorem w_c21 : (Jvm.Cond.code ({ cls := "java/util/AbstractCollection", name := "<init>", desc := "()V" } : Jvm.MethodName) jdk_22_method_1_code (1 : Nat) (Option.none : Option Jvm.ClassFile.FieldType)).before args0 about1 = true := code_word (m := ⟨18, 0⟩) (meth := k18m0) (c := k18c0) (by decide +kernel) rfl rfl rfl (by decide +kernel)
set_option maxRecDepth 65536 in
theorem w_c22 : (Jvm.Cond.code ({ cls := "com/example/tablox/tablox/concept/Concept", name := "and", desc := "(Ljava/util/List;)Lcom/example/tablox/tablox/concept/Concept;" } : Jvm.MethodName) prog_5_method_4_code (1 : Nat) (Option.some (Jvm.ClassFile.FieldType.object "com/example/tablox/tablox/concept/Concept"))).before args0 about1 = true := code_word (m := ⟨2, 2⟩) (meth := k2m2) (c := k2c2) (by decide +kernel) rfl rfl rfl (by decide +kernel)
set_option maxRecDepth 65536 in
theorem w_c23 : (Jvm.Cond.code ({ cls := "java/util/List", name := "copyOf", desc := "(Ljava/util/Collection;)Ljava/util/List;" } : Jvm.MethodName) jdk_40_method_48_code (1 : Nat) (Option.some (Jvm.ClassFile.FieldType.object "java/util/List"))).before args0 about1 = true := code_word (m := ⟨16, 5⟩) (meth := k16m5) (c := k16c5) (by decide +kernel) rfl rfl rfl (by decide +kernel)
set_option maxRecDepth 65536 in
theorem w_c24 : (Jvm.Cond.code ({ cls := "java/util/ImmutableCollections", name := "listCopy", desc := "(Ljava/util/Collection;)Ljava/util/List;" } : Jvm.MethodName) jdk_56_method_3_code (2 : Nat) (Option.some (Jvm.ClassFile.FieldType.object "java/util/List"))).before args0 about1 = true := code_word (m := ⟨17, 1⟩) (meth := k17m1) (c := k17c1) (by decide +kernel) rfl rfl rfl (by decide +kernel)
set_option maxRecDepth 65536 in
theorem w_c25 : (Jvm.Cond.code ({ cls := "java/util/ArrayList", name := "isEmpty", desc := "()Z" } : Jvm.MethodName) jdk_38_method_9_code (1 : Nat) (Option.some Jvm.ClassFile.FieldType.boolean)).before args0 about1 = true := code_word (m := ⟨28, 3⟩) (meth := k28m3) (c := k28c3) (by decide +kernel) rfl rfl rfl (by decide +kernel)
set_option maxRecDepth 65536 in
theorem w_c26 : (Jvm.Cond.code ({ cls := "java/util/ArrayList", name := "add", desc := "(Ljava/lang/Object;)Z" } : Jvm.MethodName) jdk_38_method_25_code (2 : Nat) (Option.some Jvm.ClassFile.FieldType.boolean)).before args0 about1 = true := code_word (m := ⟨28, 6⟩) (meth := k28m6) (c := k28c6) (by decide +kernel) rfl rfl rfl (by decide +kernel)
set_option maxRecDepth 65536 in
theorem w_c27 : (Jvm.Cond.code ({ cls := "java/util/ArrayList", name := "add", desc := "(Ljava/lang/Object;[Ljava/lang/Object;I)V" } : Jvm.MethodName) jdk_38_method_24_code (4 : Nat) (Option.none : Option Jvm.ClassFile.FieldType)).before args0 about1 = true := code_word (m := ⟨28, 5⟩) (meth := k28m5) (c := k28c5) (by decide +kernel) rfl rfl rfl (by decide +kernel)
set_option maxRecDepth 65536 in
theorem w_c28 : (Jvm.Cond.code ({ cls := "java/util/ArrayList", name := "grow", desc := "()[Ljava/lang/Object;" } : Jvm.MethodName) jdk_38_method_7_code (1 : Nat) (Option.some (Jvm.ClassFile.FieldType.array (Jvm.ClassFile.FieldType.object "java/lang/Object")))).before args0 about1 = true := code_word (m := ⟨28, 2⟩) (meth := k28m2) (c := k28c2) (by decide +kernel) rfl rfl rfl (by decide +kernel)
set_option maxRecDepth 65536 in
theorem w_c29 : (Jvm.Cond.code ({ cls := "java/util/ArrayList", name := "grow", desc := "(I)[Ljava/lang/Object;" } : Jvm.MethodName) jdk_38_method_6_code (4 : Nat) (Option.some (Jvm.ClassFile.FieldType.array (Jvm.ClassFile.FieldType.object "java/lang/Object")))).before args0 about1 = true := code_word (m := ⟨28, 1⟩) (meth := k28m1) (c := k28c1) (by decide +kernel) rfl rfl rfl (by decide +kernel)
set_option maxRecDepth 65536 in
theorem w_c30 : (Jvm.Cond.code ({ cls := "java/lang/Math", name := "max", desc := "(II)I" } : Jvm.MethodName) jdk_29_method_65_code (2 : Nat) (Option.some Jvm.ClassFile.FieldType.int)).before args0 about1 = true := code_word (m := ⟨30, 1⟩) (meth := k30m1) (c := k30c1) (by decide +kernel) rfl rfl rfl (by decide +kernel)
set_option maxRecDepth 65536 in
theorem w_c31 : (Jvm.Cond.code ({ cls := "com/example/tablox/tablox/concept/Concept", name := "operands", desc := "()Ljava/util/List;" } : Jvm.MethodName) prog_5_method_11_code (1 : Nat) (Option.some (Jvm.ClassFile.FieldType.object "java/util/List"))).before args0 about1 = true := code_word (m := ⟨2, 6⟩) (meth := k2m6) (c := k2c6) (by decide +kernel) rfl rfl rfl (by decide +kernel)
set_option maxRecDepth 65536 in
theorem w_c32 : (Jvm.Cond.code ({ cls := "com/example/tablox/tablox/concept/Concept", name := "kind", desc := "()Lcom/example/tablox/tablox/concept/Concept$Kind;" } : Jvm.MethodName) prog_5_method_8_code (1 : Nat) (Option.some (Jvm.ClassFile.FieldType.object "com/example/tablox/tablox/concept/Concept$Kind"))).before args0 about1 = true := code_word (m := ⟨2, 3⟩) (meth := k2m3) (c := k2c3) (by decide +kernel) rfl rfl rfl (by decide +kernel)
set_option maxRecDepth 65536 in
theorem w_c33 : (Jvm.Cond.code ({ cls := "com/example/tablox/tablox/concept/Concept", name := "name", desc := "()Ljava/lang/String;" } : Jvm.MethodName) prog_5_method_9_code (1 : Nat) (Option.some (Jvm.ClassFile.FieldType.object "java/lang/String"))).before args0 about1 = true := code_word (m := ⟨2, 4⟩) (meth := k2m4) (c := k2c4) (by decide +kernel) rfl rfl rfl (by decide +kernel)
set_option maxRecDepth 65536 in
theorem w_c34 : (Jvm.Cond.code ({ cls := "com/example/tablox/tablox/concept/Concept", name := "role", desc := "()Lcom/example/tablox/tablox/concept/Role;" } : Jvm.MethodName) prog_5_method_10_code (1 : Nat) (Option.some (Jvm.ClassFile.FieldType.object "com/example/tablox/tablox/concept/Role"))).before args0 about1 = true := code_word (m := ⟨2, 5⟩) (meth := k2m5) (c := k2c5) (by decide +kernel) rfl rfl rfl (by decide +kernel)
set_option maxRecDepth 65536 in
theorem w_c35 : (Jvm.Cond.code ({ cls := "java/util/ArrayList", name := "toArray", desc := "()[Ljava/lang/Object;" } : Jvm.MethodName) jdk_38_method_16_code (1 : Nat) (Option.some (Jvm.ClassFile.FieldType.array (Jvm.ClassFile.FieldType.object "java/lang/Object")))).before args0 about1 = true := code_word (m := ⟨28, 4⟩) (meth := k28m4) (c := k28c4) (by decide +kernel) rfl rfl rfl (by decide +kernel)
set_option maxRecDepth 65536 in
theorem w_c36 : (Jvm.Cond.code ({ cls := "java/util/Arrays", name := "copyOf", desc := "([Ljava/lang/Object;I)[Ljava/lang/Object;" } : Jvm.MethodName) jdk_65_method_119_code (2 : Nat) (Option.some (Jvm.ClassFile.FieldType.array (Jvm.ClassFile.FieldType.object "java/lang/Object")))).before args0 about1 = true := code_word (m := ⟨31, 1⟩) (meth := k31m1) (c := k31c1) (by decide +kernel) rfl rfl rfl (by decide +kernel)
set_option maxRecDepth 65536 in
theorem w_c37 : (Jvm.Cond.code ({ cls := "java/util/Arrays", name := "copyOf", desc := "([Ljava/lang/Object;ILjava/lang/Class;)[Ljava/lang/Object;" } : Jvm.MethodName) jdk_65_method_120_code (4 : Nat) (Option.some (Jvm.ClassFile.FieldType.array (Jvm.ClassFile.FieldType.object "java/lang/Object")))).before args0 about1 = true := code_word (m := ⟨31, 2⟩) (meth := k31m2) (c := k31c2) (by decide +kernel) rfl rfl rfl (by decide +kernel)
set_option maxRecDepth 65536 in
theorem w_c38 : (Jvm.Cond.code ({ cls := "java/lang/Math", name := "min", desc := "(II)I" } : Jvm.MethodName) jdk_29_method_69_code (2 : Nat) (Option.some Jvm.ClassFile.FieldType.int)).before args0 about1 = true := code_word (m := ⟨30, 2⟩) (meth := k30m2) (c := k30c2) (by decide +kernel) rfl rfl rfl (by decide +kernel)
set_option maxRecDepth 65536 in
theorem w_c39 : (Jvm.Cond.code ({ cls := "java/util/List", name := "of", desc := "([Ljava/lang/Object;)Ljava/util/List;" } : Jvm.MethodName) jdk_40_method_47_code (2 : Nat) (Option.some (Jvm.ClassFile.FieldType.object "java/util/List"))).before args0 about1 = true := code_word (m := ⟨16, 4⟩) (meth := k16m4) (c := k16c4) (by decide +kernel) rfl rfl rfl (by decide +kernel)
set_option maxRecDepth 65536 in
theorem w_c40 : (Jvm.Cond.code ({ cls := "java/util/ImmutableCollections", name := "listFromArray", desc := "([Ljava/lang/Object;)Ljava/util/List;" } : Jvm.MethodName) jdk_56_method_4_code (3 : Nat) (Option.some (Jvm.ClassFile.FieldType.object "java/util/List"))).before args0 about1 = true := code_word (m := ⟨17, 2⟩) (meth := k17m2) (c := k17c2) (by decide +kernel) rfl rfl rfl (by decide +kernel)
set_option maxRecDepth 65536 in
theorem w_c41 : (Jvm.Cond.code ({ cls := "java/util/Objects", name := "requireNonNull", desc := "(Ljava/lang/Object;)Ljava/lang/Object;" } : Jvm.MethodName) jdk_31_method_10_code (1 : Nat) (Option.some (Jvm.ClassFile.FieldType.object "java/lang/Object"))).before args0 about1 = true := code_word (m := ⟨12, 2⟩) (meth := k12m2) (c := k12c2) (by decide +kernel) rfl rfl rfl (by decide +kernel)
set_option maxRecDepth 65536 in
theorem w_c42 : (Jvm.Cond.code ({ cls := "java/util/ImmutableCollections$ListN", name := "<init>", desc := "([Ljava/lang/Object;Z)V" } : Jvm.MethodName) jdk_45_method_1_code (3 : Nat) (Option.none : Option Jvm.ClassFile.FieldType)).before args0 about1 = true := code_word (m := ⟨22, 0⟩) (meth := k22m0) (c := k22c0) (by decide +kernel) rfl rfl rfl (by decide +kernel)
set_option maxRecDepth 65536 in
theorem w_c43 : (Jvm.Cond.code ({ cls := "java/util/ImmutableCollections$AbstractImmutableList", name := "<init>", desc := "()V" } : Jvm.MethodName) jdk_46_method_1_code (1 : Nat) (Option.none : Option Jvm.ClassFile.FieldType)).before args0 about1 = true := code_word (m := ⟨21, 0⟩) (meth := k21m0) (c := k21c0) (by decide +kernel) rfl rfl rfl (by decide +kernel)
set_option maxRecDepth 65536 in
theorem w_c44 : (Jvm.Cond.code ({ cls := "java/util/ImmutableCollections$AbstractImmutableCollection", name := "<init>", desc := "()V" } : Jvm.MethodName) jdk_47_method_1_code (1 : Nat) (Option.none : Option Jvm.ClassFile.FieldType)).before args0 about1 = true := code_word (m := ⟨19, 0⟩) (meth := k19m0) (c := k19c0) (by decide +kernel) rfl rfl rfl (by decide +kernel)
set_option maxRecDepth 65536 in
theorem w_c45 : (Jvm.Cond.code ({ cls := "java/util/ImmutableCollections$ListN", name := "get", desc := "(I)Ljava/lang/Object;" } : Jvm.MethodName) jdk_45_method_4_code (2 : Nat) (Option.some (Jvm.ClassFile.FieldType.object "java/lang/Object"))).before args0 about1 = true := code_word (m := ⟨22, 2⟩) (meth := k22m2) (c := k22c2) (by decide +kernel) rfl rfl rfl (by decide +kernel)
set_option maxRecDepth 65536 in
theorem w_c46 : (Jvm.Cond.code ({ cls := "java/util/ImmutableCollections$List12", name := "<init>", desc := "(Ljava/lang/Object;Ljava/lang/Object;)V" } : Jvm.MethodName) jdk_44_method_2_code (3 : Nat) (Option.none : Option Jvm.ClassFile.FieldType)).before args0 about1 = true := code_word (m := ⟨29, 1⟩) (meth := k29m1) (c := k29c1) (by decide +kernel) rfl rfl rfl (by decide +kernel)
set_option maxRecDepth 65536 in
theorem w_c47 : (Jvm.Cond.code ({ cls := "java/util/ImmutableCollections$List12", name := "size", desc := "()I" } : Jvm.MethodName) jdk_44_method_3_code (1 : Nat) (Option.some Jvm.ClassFile.FieldType.int)).before args0 about1 = true := code_word (m := ⟨29, 2⟩) (meth := k29m2) (c := k29c2) (by decide +kernel) rfl rfl rfl (by decide +kernel)
set_option maxRecDepth 65536 in
theorem w_c48 : (Jvm.Cond.code ({ cls := "java/util/ImmutableCollections$List12", name := "get", desc := "(I)Ljava/lang/Object;" } : Jvm.MethodName) jdk_44_method_5_code (2 : Nat) (Option.some (Jvm.ClassFile.FieldType.object "java/lang/Object"))).before args0 about1 = true := code_word (m := ⟨29, 3⟩) (meth := k29m3) (c := k29c3) (by decide +kernel) rfl rfl rfl (by decide +kernel)
set_option maxRecDepth 65536 in
theorem w_c49 : (Jvm.Cond.code ({ cls := "java/util/ImmutableCollections$List12", name := "<init>", desc := "(Ljava/lang/Object;)V" } : Jvm.MethodName) jdk_44_method_1_code (2 : Nat) (Option.none : Option Jvm.ClassFile.FieldType)).before args0 about1 = true := code_word (m := ⟨29, 0⟩) (meth := k29m0) (c := k29c0) (by decide +kernel) rfl rfl rfl (by decide +kernel)
def codes1 : List Jvm.Cond := [Jvm.Cond.code x code maxLocals ret, Jvm.Cond.code ({ cls := "java/lang/String", name := "valueOf", desc := "(C)Ljava/lang/String;" } : Jvm.MethodName) jdk_42_method_139_code (1 : Nat) (Option.some (Jvm.ClassFile.FieldType.object "java/lang/String")), Jvm.Cond.code ({ cls := "java/lang/StringLatin1", name := "canEncode", desc := "(C)Z" } : Jvm.MethodName) jdk_43_method_3_code (1 : Nat) (Option.some Jvm.ClassFile.FieldType.boolean), Jvm.Cond.code ({ cls := "java/lang/StringLatin1", name := "toBytes", desc := "(C)[B" } : Jvm.MethodName) jdk_43_method_46_code (1 : Nat) (Option.some (Jvm.ClassFile.FieldType.array Jvm.ClassFile.FieldType.byte)), Jvm.Cond.code ({ cls := "java/lang/String", name := "<init>", desc := "([BB)V" } : Jvm.MethodName) jdk_42_method_151_code (3 : Nat) (Option.none : Option Jvm.ClassFile.FieldType), Jvm.Cond.code ({ cls := "java/lang/Object", name := "<init>", desc := "()V" } : Jvm.MethodName) object_method_1_code (1 : Nat) (Option.none : Option Jvm.ClassFile.FieldType), Jvm.Cond.code ({ cls := "com/example/tablox/tablox/concept/Concept", name := "named", desc := "(Ljava/lang/String;)Lcom/example/tablox/tablox/concept/Concept;" } : Jvm.MethodName) prog_5_method_2_code (1 : Nat) (Option.some (Jvm.ClassFile.FieldType.object "com/example/tablox/tablox/concept/Concept")), Jvm.Cond.code ({ cls := "java/util/Objects", name := "requireNonNull", desc := "(Ljava/lang/Object;Ljava/lang/String;)Ljava/lang/Object;" } : Jvm.MethodName) jdk_31_method_11_code (2 : Nat) (Option.some (Jvm.ClassFile.FieldType.object "java/lang/Object")), Jvm.Cond.code ({ cls := "java/util/List", name := "of", desc := "()Ljava/util/List;" } : Jvm.MethodName) jdk_40_method_36_code (0 : Nat) (Option.some (Jvm.ClassFile.FieldType.object "java/util/List")), Jvm.Cond.code ({ cls := "com/example/tablox/tablox/concept/Concept", name := "<init>", desc := "(Lcom/example/tablox/tablox/concept/Concept$Kind;Ljava/lang/String;Lcom/example/tablox/tablox/concept/Role;Ljava/util/List;)V" } : Jvm.MethodName) prog_5_method_1_code (8 : Nat) (Option.none : Option Jvm.ClassFile.FieldType), Jvm.Cond.code ({ cls := "java/lang/Enum", name := "ordinal", desc := "()I" } : Jvm.MethodName) jdk_37_method_2_code (1 : Nat) (Option.some Jvm.ClassFile.FieldType.int), Jvm.Cond.code ({ cls := "java/util/Objects", name := "hashCode", desc := "(Ljava/lang/Object;)I" } : Jvm.MethodName) jdk_31_method_4_code (1 : Nat) (Option.some Jvm.ClassFile.FieldType.int), Jvm.Cond.code ({ cls := "java/lang/String", name := "hashCode", desc := "()I" } : Jvm.MethodName) jdk_42_method_78_code (2 : Nat) (Option.some Jvm.ClassFile.FieldType.int), Jvm.Cond.code ({ cls := "java/lang/String", name := "isLatin1", desc := "()Z" } : Jvm.MethodName) jdk_42_method_154_code (1 : Nat) (Option.some Jvm.ClassFile.FieldType.boolean), Jvm.Cond.code ({ cls := "java/lang/StringLatin1", name := "hashCode", desc := "([B)I" } : Jvm.MethodName) jdk_43_method_21_code (1 : Nat) (Option.some Jvm.ClassFile.FieldType.int), Jvm.Cond.code ({ cls := "java/util/ImmutableCollections$AbstractImmutableList", name := "iterator", desc := "()Ljava/util/Iterator;" } : Jvm.MethodName) jdk_46_method_10_code (1 : Nat) (Option.some (Jvm.ClassFile.FieldType.object "java/util/Iterator")), Jvm.Cond.code ({ cls := "java/util/ImmutableCollections$ListN", name := "size", desc := "()I" } : Jvm.MethodName) jdk_45_method_3_code (1 : Nat) (Option.some Jvm.ClassFile.FieldType.int), Jvm.Cond.code ({ cls := "java/util/ImmutableCollections$ListItr", name := "<init>", desc := "(Ljava/util/List;I)V" } : Jvm.MethodName) jdk_53_method_1_code (3 : Nat) (Option.none : Option Jvm.ClassFile.FieldType), Jvm.Cond.code ({ cls := "java/util/ImmutableCollections$ListItr", name := "hasNext", desc := "()Z" } : Jvm.MethodName) jdk_53_method_3_code (1 : Nat) (Option.some Jvm.ClassFile.FieldType.boolean), Jvm.Cond.code ({ cls := "java/util/ArrayList", name := "<init>", desc := "()V" } : Jvm.MethodName) jdk_38_method_2_code (1 : Nat) (Option.none : Option Jvm.ClassFile.FieldType), Jvm.Cond.code ({ cls := "java/util/AbstractList", name := "<init>", desc := "()V" } : Jvm.MethodName) jdk_39_method_1_code (1 : Nat) (Option.none : Option Jvm.ClassFile.FieldType), Jvm.Cond.code ({ cls := "java/util/AbstractCollection", name := "<init>", desc := "()V" } : Jvm.MethodName) jdk_22_method_1_code (1 : Nat) (Option.none : Option Jvm.ClassFile.FieldType), Jvm.Cond.code ({ cls := "com/example/tablox/tablox/concept/Concept", name := "and", desc := "(Ljava/util/List;)Lcom/example/tablox/tablox/concept/Concept;" } : Jvm.MethodName) prog_5_method_4_code (1 : Nat) (Option.some (Jvm.ClassFile.FieldType.object "com/example/tablox/tablox/concept/Concept")), Jvm.Cond.code ({ cls := "java/util/List", name := "copyOf", desc := "(Ljava/util/Collection;)Ljava/util/List;" } : Jvm.MethodName) jdk_40_method_48_code (1 : Nat) (Option.some (Jvm.ClassFile.FieldType.object "java/util/List")), Jvm.Cond.code ({ cls := "java/util/ImmutableCollections", name := "listCopy", desc := "(Ljava/util/Collection;)Ljava/util/List;" } : Jvm.MethodName) jdk_56_method_3_code (2 : Nat) (Option.some (Jvm.ClassFile.FieldType.object "java/util/List")), Jvm.Cond.code ({ cls := "java/util/ArrayList", name := "isEmpty", desc := "()Z" } : Jvm.MethodName) jdk_38_method_9_code (1 : Nat) (Option.some Jvm.ClassFile.FieldType.boolean), Jvm.Cond.code ({ cls := "java/util/ArrayList", name := "add", desc := "(Ljava/lang/Object;)Z" } : Jvm.MethodName) jdk_38_method_25_code (2 : Nat) (Option.some Jvm.ClassFile.FieldType.boolean), Jvm.Cond.code ({ cls := "java/util/ArrayList", name := "add", desc := "(Ljava/lang/Object;[Ljava/lang/Object;I)V" } : Jvm.MethodName) jdk_38_method_24_code (4 : Nat) (Option.none : Option Jvm.ClassFile.FieldType), Jvm.Cond.code ({ cls := "java/util/ArrayList", name := "grow", desc := "()[Ljava/lang/Object;" } : Jvm.MethodName) jdk_38_method_7_code (1 : Nat) (Option.some (Jvm.ClassFile.FieldType.array (Jvm.ClassFile.FieldType.object "java/lang/Object"))), Jvm.Cond.code ({ cls := "java/util/ArrayList", name := "grow", desc := "(I)[Ljava/lang/Object;" } : Jvm.MethodName) jdk_38_method_6_code (4 : Nat) (Option.some (Jvm.ClassFile.FieldType.array (Jvm.ClassFile.FieldType.object "java/lang/Object"))), Jvm.Cond.code ({ cls := "java/lang/Math", name := "max", desc := "(II)I" } : Jvm.MethodName) jdk_29_method_65_code (2 : Nat) (Option.some Jvm.ClassFile.FieldType.int), Jvm.Cond.code ({ cls := "com/example/tablox/tablox/concept/Concept", name := "operands", desc := "()Ljava/util/List;" } : Jvm.MethodName) prog_5_method_11_code (1 : Nat) (Option.some (Jvm.ClassFile.FieldType.object "java/util/List")), Jvm.Cond.code ({ cls := "com/example/tablox/tablox/concept/Concept", name := "kind", desc := "()Lcom/example/tablox/tablox/concept/Concept$Kind;" } : Jvm.MethodName) prog_5_method_8_code (1 : Nat) (Option.some (Jvm.ClassFile.FieldType.object "com/example/tablox/tablox/concept/Concept$Kind")), Jvm.Cond.code ({ cls := "com/example/tablox/tablox/concept/Concept", name := "name", desc := "()Ljava/lang/String;" } : Jvm.MethodName) prog_5_method_9_code (1 : Nat) (Option.some (Jvm.ClassFile.FieldType.object "java/lang/String")), Jvm.Cond.code ({ cls := "com/example/tablox/tablox/concept/Concept", name := "role", desc := "()Lcom/example/tablox/tablox/concept/Role;" } : Jvm.MethodName) prog_5_method_10_code (1 : Nat) (Option.some (Jvm.ClassFile.FieldType.object "com/example/tablox/tablox/concept/Role")), Jvm.Cond.code ({ cls := "java/util/ArrayList", name := "toArray", desc := "()[Ljava/lang/Object;" } : Jvm.MethodName) jdk_38_method_16_code (1 : Nat) (Option.some (Jvm.ClassFile.FieldType.array (Jvm.ClassFile.FieldType.object "java/lang/Object"))), Jvm.Cond.code ({ cls := "java/util/Arrays", name := "copyOf", desc := "([Ljava/lang/Object;I)[Ljava/lang/Object;" } : Jvm.MethodName) jdk_65_method_119_code (2 : Nat) (Option.some (Jvm.ClassFile.FieldType.array (Jvm.ClassFile.FieldType.object "java/lang/Object"))), Jvm.Cond.code ({ cls := "java/util/Arrays", name := "copyOf", desc := "([Ljava/lang/Object;ILjava/lang/Class;)[Ljava/lang/Object;" } : Jvm.MethodName) jdk_65_method_120_code (4 : Nat) (Option.some (Jvm.ClassFile.FieldType.array (Jvm.ClassFile.FieldType.object "java/lang/Object"))), Jvm.Cond.code ({ cls := "java/lang/Math", name := "min", desc := "(II)I" } : Jvm.MethodName) jdk_29_method_69_code (2 : Nat) (Option.some Jvm.ClassFile.FieldType.int), Jvm.Cond.code ({ cls := "java/util/List", name := "of", desc := "([Ljava/lang/Object;)Ljava/util/List;" } : Jvm.MethodName) jdk_40_method_47_code (2 : Nat) (Option.some (Jvm.ClassFile.FieldType.object "java/util/List")), Jvm.Cond.code ({ cls := "java/util/ImmutableCollections", name := "listFromArray", desc := "([Ljava/lang/Object;)Ljava/util/List;" } : Jvm.MethodName) jdk_56_method_4_code (3 : Nat) (Option.some (Jvm.ClassFile.FieldType.object "java/util/List")), Jvm.Cond.code ({ cls := "java/util/Objects", name := "requireNonNull", desc := "(Ljava/lang/Object;)Ljava/lang/Object;" } : Jvm.MethodName) jdk_31_method_10_code (1 : Nat) (Option.some (Jvm.ClassFile.FieldType.object "java/lang/Object")), Jvm.Cond.code ({ cls := "java/util/ImmutableCollections$ListN", name := "<init>", desc := "([Ljava/lang/Object;Z)V" } : Jvm.MethodName) jdk_45_method_1_code (3 : Nat) (Option.none : Option Jvm.ClassFile.FieldType), Jvm.Cond.code ({ cls := "java/util/ImmutableCollections$AbstractImmutableList", name := "<init>", desc := "()V" } : Jvm.MethodName) jdk_46_method_1_code (1 : Nat) (Option.none : Option Jvm.ClassFile.FieldType), Jvm.Cond.code ({ cls := "java/util/ImmutableCollections$AbstractImmutableCollection", name := "<init>", desc := "()V" } : Jvm.MethodName) jdk_47_method_1_code (1 : Nat) (Option.none : Option Jvm.ClassFile.FieldType), Jvm.Cond.code ({ cls := "java/util/ImmutableCollections$ListN", name := "get", desc := "(I)Ljava/lang/Object;" } : Jvm.MethodName) jdk_45_method_4_code (2 : Nat) (Option.some (Jvm.ClassFile.FieldType.object "java/lang/Object")), Jvm.Cond.code ({ cls := "java/util/ImmutableCollections$List12", name := "<init>", desc := "(Ljava/lang/Object;Ljava/lang/Object;)V" } : Jvm.MethodName) jdk_44_method_2_code (3 : Nat) (Option.none : Option Jvm.ClassFile.FieldType), Jvm.Cond.code ({ cls := "java/util/ImmutableCollections$List12", name := "size", desc := "()I" } : Jvm.MethodName) jdk_44_method_3_code (1 : Nat) (Option.some Jvm.ClassFile.FieldType.int), Jvm.Cond.code ({ cls := "java/util/ImmutableCollections$List12", name := "get", desc := "(I)Ljava/lang/Object;" } : Jvm.MethodName) jdk_44_method_5_code (2 : Nat) (Option.some (Jvm.ClassFile.FieldType.object "java/lang/Object")), Jvm.Cond.code ({ cls := "java/util/ImmutableCollections$List12", name := "<init>", desc := "(Ljava/lang/Object;)V" } : Jvm.MethodName) jdk_44_method_1_code (2 : Nat) (Option.none : Option Jvm.ClassFile.FieldType)]
set_option maxRecDepth 65536 in
theorem codes_eq : words1.filter isCode = codes1 := rfl
theorem w_codes : ∀ c ∈ words1.filter isCode, c.before args0 about1 = true := by
  rw [codes_eq]
  intro c hc
  simp only [codes1, List.mem_cons, List.not_mem_nil, or_false] at hc
  rcases hc with rfl | rfl | rfl | rfl | rfl | rfl | rfl | rfl | rfl | rfl | rfl | rfl | rfl | rfl | rfl | rfl | rfl | rfl | rfl | rfl | rfl | rfl | rfl | rfl | rfl | rfl | rfl | rfl | rfl | rfl | rfl | rfl | rfl | rfl | rfl | rfl | rfl | rfl | rfl | rfl | rfl | rfl | rfl | rfl | rfl | rfl | rfl | rfl | rfl | rfl
  · exact w_c0
  · exact w_c1
  · exact w_c2
  · exact w_c3
  · exact w_c4
  · exact w_c5
  · exact w_c6
  · exact w_c7
  · exact w_c8
  · exact w_c9
  · exact w_c10
  · exact w_c11
  · exact w_c12
  · exact w_c13
  · exact w_c14
  · exact w_c15
  · exact w_c16
  · exact w_c17
  · exact w_c18
  · exact w_c19
  · exact w_c20
  · exact w_c21
  · exact w_c22
  · exact w_c23
  · exact w_c24
  · exact w_c25
  · exact w_c26
  · exact w_c27
  · exact w_c28
  · exact w_c29
  · exact w_c30
  · exact w_c31
  · exact w_c32
  · exact w_c33
  · exact w_c34
  · exact w_c35
  · exact w_c36
  · exact w_c37
  · exact w_c38
  · exact w_c39
  · exact w_c40
  · exact w_c41
  · exact w_c42
  · exact w_c43
  · exact w_c44
  · exact w_c45
  · exact w_c46
  · exact w_c47
  · exact w_c48
  · exact w_c49
set_option maxRecDepth 65536 in
theorem w_t1 : (words1.take 24).all (fun c => isCode c || c.before args0 about1) = true := by decide +kernel
set_option maxRecDepth 65536 in
theorem w_t2 : ((words1.drop 24).take 24).all (fun c => isCode c || c.before args0 about1) = true := by decide +kernel
set_option maxRecDepth 65536 in
theorem w_t3 : (((words1.drop 24).drop 24).take 24).all (fun c => isCode c || c.before args0 about1) = true := by decide +kernel
set_option maxRecDepth 65536 in
theorem w_t4 : ((((words1.drop 24).drop 24).drop 24).take 24).all (fun c => isCode c || c.before args0 about1) = true := by decide +kernel
set_option maxRecDepth 65536 in
theorem w_t5 : (((((words1.drop 24).drop 24).drop 24).drop 24).take 24).all (fun c => isCode c || c.before args0 about1) = true := by decide +kernel
set_option maxRecDepth 65536 in
theorem w_t6 : ((((((words1.drop 24).drop 24).drop 24).drop 24).drop 24).take 24).all (fun c => isCode c || c.before args0 about1) = true := by decide +kernel
set_option maxRecDepth 65536 in
theorem w_t7 : (((((((words1.drop 24).drop 24).drop 24).drop 24).drop 24).drop 24).take 24).all (fun c => isCode c || c.before args0 about1) = true := by decide +kernel
set_option maxRecDepth 65536 in
theorem w_t8 : ((((((((words1.drop 24).drop 24).drop 24).drop 24).drop 24).drop 24).drop 24).take 24).all (fun c => isCode c || c.before args0 about1) = true := by decide +kernel
set_option maxRecDepth 65536 in
theorem w_t9 : (((((((((words1.drop 24).drop 24).drop 24).drop 24).drop 24).drop 24).drop 24).drop 24).take 24).all (fun c => isCode c || c.before args0 about1) = true := by decide +kernel
set_option maxRecDepth 65536 in
theorem w_t10 : ((((((((((words1.drop 24).drop 24).drop 24).drop 24).drop 24).drop 24).drop 24).drop 24).drop 24).take 24).all (fun c => isCode c || c.before args0 about1) = true := by decide +kernel
set_option maxRecDepth 65536 in
theorem w_t11 : (((((((((((words1.drop 24).drop 24).drop 24).drop 24).drop 24).drop 24).drop 24).drop 24).drop 24).drop 24).take 24).all (fun c => isCode c || c.before args0 about1) = true := by decide +kernel
set_option maxRecDepth 65536 in
theorem w_t12 : ((((((((((((words1.drop 24).drop 24).drop 24).drop 24).drop 24).drop 24).drop 24).drop 24).drop 24).drop 24).drop 24).take 24).all (fun c => isCode c || c.before args0 about1) = true := by decide +kernel
set_option maxRecDepth 65536 in
theorem w_t13 : (((((((((((((words1.drop 24).drop 24).drop 24).drop 24).drop 24).drop 24).drop 24).drop 24).drop 24).drop 24).drop 24).drop 24).take 24).all (fun c => isCode c || c.before args0 about1) = true := by decide +kernel
set_option maxRecDepth 65536 in
theorem w_t14 : ((((((((((((((words1.drop 24).drop 24).drop 24).drop 24).drop 24).drop 24).drop 24).drop 24).drop 24).drop 24).drop 24).drop 24).drop 24).take 24).all (fun c => isCode c || c.before args0 about1) = true := by decide +kernel
set_option maxRecDepth 65536 in
theorem w_t15 : (((((((((((((((words1.drop 24).drop 24).drop 24).drop 24).drop 24).drop 24).drop 24).drop 24).drop 24).drop 24).drop 24).drop 24).drop 24).drop 24).take 24).all (fun c => isCode c || c.before args0 about1) = true := by decide +kernel
set_option maxRecDepth 65536 in
theorem w_t16 : (((((((((((((((words1.drop 24).drop 24).drop 24).drop 24).drop 24).drop 24).drop 24).drop 24).drop 24).drop 24).drop 24).drop 24).drop 24).drop 24).drop 24).all (fun c => isCode c || c.before args0 about1) = true := by decide +kernel
theorem w_tables : (allAtoms (Jvm.Cond.code x code maxLocals ret :: tables_1)).before args0 about1 = true := by
  rw [allAtoms_all]
  show words1.all (fun c => c.before args0 about1) = true
  refine all_split ?_ w_codes
  rw [← List.take_append_drop 24 words1, List.all_append, w_t1, ← List.take_append_drop 24 (words1.drop 24), List.all_append, w_t2, ← List.take_append_drop 24 ((words1.drop 24).drop 24), List.all_append, w_t3, ← List.take_append_drop 24 (((words1.drop 24).drop 24).drop 24), List.all_append, w_t4, ← List.take_append_drop 24 ((((words1.drop 24).drop 24).drop 24).drop 24), List.all_append, w_t5, ← List.take_append_drop 24 (((((words1.drop 24).drop 24).drop 24).drop 24).drop 24), List.all_append, w_t6, ← List.take_append_drop 24 ((((((words1.drop 24).drop 24).drop 24).drop 24).drop 24).drop 24), List.all_append, w_t7, ← List.take_append_drop 24 (((((((words1.drop 24).drop 24).drop 24).drop 24).drop 24).drop 24).drop 24), List.all_append, w_t8, ← List.take_append_drop 24 ((((((((words1.drop 24).drop 24).drop 24).drop 24).drop 24).drop 24).drop 24).drop 24), List.all_append, w_t9, ← List.take_append_drop 24 (((((((((words1.drop 24).drop 24).drop 24).drop 24).drop 24).drop 24).drop 24).drop 24).drop 24), List.all_append, w_t10, ← List.take_append_drop 24 ((((((((((words1.drop 24).drop 24).drop 24).drop 24).drop 24).drop 24).drop 24).drop 24).drop 24).drop 24), List.all_append, w_t11, ← List.take_append_drop 24 (((((((((((words1.drop 24).drop 24).drop 24).drop 24).drop 24).drop 24).drop 24).drop 24).drop 24).drop 24).drop 24), List.all_append, w_t12, ← List.take_append_drop 24 ((((((((((((words1.drop 24).drop 24).drop 24).drop 24).drop 24).drop 24).drop 24).drop 24).drop 24).drop 24).drop 24).drop 24), List.all_append, w_t13, ← List.take_append_drop 24 (((((((((((((words1.drop 24).drop 24).drop 24).drop 24).drop 24).drop 24).drop 24).drop 24).drop 24).drop 24).drop 24).drop 24).drop 24), List.all_append, w_t14, ← List.take_append_drop 24 ((((((((((((((words1.drop 24).drop 24).drop 24).drop 24).drop 24).drop 24).drop 24).drop 24).drop 24).drop 24).drop 24).drop 24).drop 24).drop 24), List.all_append, w_t15, w_t16]
  rfl
set_option maxRecDepth 65536 in
theorem w_rest : rest_1_c.before args0 about1 = true := by decide +kernel
set_option maxRecDepth 65536 in
theorem w_case : (Jvm.Cond.and given_1 narrow_1).before args0 about1 = true := by decide +kernel
theorem w_applies : (headSpec (Jvm.Cond.code x code maxLocals ret :: tables_1) room_1).applies x e0.platform about1 = true :=
  (Spec.applies_iff w_frames).mpr ⟨w_running, w_runnable, w_alone, w_named, w_hears, w_ripe, w_room, w_tables⟩
theorem atStart : AtStart classFile x code maxLocals ret World_1 tables_1 room_1 Calls_1 rest_1 Pre_1 launch0 p0 e0 about1 theMethod args0 below0 :=
  ⟨lists_1, trivial, launch0.admits_env _ _ _, launch0.least_env, fairChoices_fair.cas, fairChoices_fair.clock, w_frames, w_args, w_heap, w_applies, ⟨⟨40, k40, 15, by decide +kernel, rfl, rfl, _, rfl, rfl⟩, trivial⟩, w_rest, w_case⟩
end start1
theorem witness_1 : WitnessClaimed_1 := ⟨start1.p0, start1.e0, start1.about1, start1.theMethod, start1.args0, start1.below0, start1.atStart⟩
end Jvm.Pilot.@@N@@
