import JvmDerived
import JvmDerived.Pilot.@@N@@Statement
import JvmDerived.Pilot.@@N@@Code
set_option linter.unusedVariables false
set_option linter.unusedSimpArgs false
set_option maxRecDepth 65536
set_option maxHeartbeats 40000000
namespace Jvm.RoadKit
open Sem ClassFile Op Lib Jvm.Stand Jvm.Free Jvm.LawKit
section New
variable {p : Program} {l : Launch} {e : Env} {R : Room} {s : State} {m : MethodId} {args : Array Value} {below : List Frame} {meth : Method} {c : Code} {T : State} {locs : List Loc} {cells slots : Nat}
theorem retI (X : Stand p l e R s m args below meth c T locs cells slots) (hx : p.tables.exec = Jvm.exec) {pc : Nat} {Ls : Array Slot} {z : Int32} {rest : List Value} (hret : meth.sig.returnType = some .int) (hd : decode c.code pc = .ok (.ireturn, 1)) {fs : List Frame}
    (hl : ∀ (f : JFrame) (acts : List Action), f.method = m → f.locked = none → f.entered = [] → (doReturn e (T.setTop f) acts (some (.int z))).1 = T.setFrames fs) : Steps p.tables e below (T.setTop (mkF m pc Ls (.int z :: rest))) (T.setFrames fs) := by
  have hm' : T.vm.method? m = some meth := X.method'
  have hn : narrow .int (.int z) = .int z := rfl
  show Steps p.tables e below (T.setTop { method := m, pc := pc, locals := Ls, stack := _ :: rest, locked := none }) _
  jvm_step X.here [X.here.top, hx, hd, hm', hret, hn]
  first | (intro acts; rw [hl _ acts rfl rfl rfl]) | rw [hl _ _ rfl rfl rfl]
  exact Steps.refl _
theorem retD (X : Stand p l e R s m args below meth c T locs cells slots) (hx : p.tables.exec = Jvm.exec) {pc : Nat} {Ls : Array Slot} {z : UInt64} {rest : List Value} (hret : meth.sig.returnType = some .double) (hd : decode c.code pc = .ok (.dreturn, 1)) {fs : List Frame}
    (hl : ∀ (f : JFrame) (acts : List Action), f.method = m → f.locked = none → f.entered = [] → (doReturn e (T.setTop f) acts (some (.double z))).1 = T.setFrames fs) : Steps p.tables e below (T.setTop (mkF m pc Ls (.double z :: rest))) (T.setFrames fs) := by
  have hm' : T.vm.method? m = some meth := X.method'
  have hn : narrow .double (.double z) = .double z := rfl
  show Steps p.tables e below (T.setTop { method := m, pc := pc, locals := Ls, stack := _ :: rest, locked := none }) _
  jvm_step X.here [X.here.top, hx, hd, hm', hret, hn]
  first | (intro acts; rw [hl _ acts rfl rfl rfl]) | rw [hl _ _ rfl rfl rfl]
  exact Steps.refl _
end New
end Jvm.RoadKit
namespace Jvm.Pilot.@@N@@
open Jvm Jvm.ClassFile Sem Op Lib Jvm.Free Jvm.Stand Jvm.LawKit Jvm.RoadKit Bundle Jvm.Pilot.@@N@@.Jvm.D
abbrev own_HW (a0 : Array Value) (Z : State) : Prop := ∀ d ∈ tables_1, d.before a0 Z = true
theorem own_at {Z : State} {a0 : Array Value} (hw : own_HW a0 Z) (i : Nat) {d : Jvm.Cond} (h : tables_1[i]? = some d) : d.before a0 Z = true := hw _ (List.mem_of_getElem? h)
abbrev OwnS (p : Program) (e : Env) (below : List Frame) (T : State) (g : JFrame) (t : State) : Prop := Steps p.tables e below (T.setTop g) t
theorem own_selpriv {s : State} {args : Array Value} {y : MethodName} {n : Nat} (hy : y.cls ≠ "java/lang/invoke/MethodHandle" ∧ y.cls ≠ "java/lang/invoke/VarHandle") (hins : (Jvm.Cond.instantiable y.cls n).before args s = true) (hp : (Jvm.Cond.privateMethod y).before args s = true) (hi : (Jvm.Cond.instanceMethod y).before args s = true) : (Jvm.Cond.selects y.cls y y).before args s = true := by
  obtain ⟨c, k, hc, hk, -, hniab, -⟩ := Cond.instantiable_spec hins
  exact selects_self_of_private hc hk (Bool.or_eq_false_iff.mp hniab).1 (Cond.privateMethod_at hp) hi hy
theorem own_irr (x : Int32) : ¬ (x < x) := by rw [Int32.lt_iff_toInt_lt]; omega
theorem own_asymm {x y : Int32} (h : x < y) : ¬ (y < x) := by rw [Int32.lt_iff_toInt_lt] at *; omega
theorem own_irr64 (x : Int64) : ¬ (x < x) := by rw [Int64.lt_iff_toInt_lt]; omega
theorem own_asymm64 {x y : Int64} (h : x < y) : ¬ (y < x) := by rw [Int64.lt_iff_toInt_lt] at *; omega
theorem own_ne {x y : Int32} (h : x < y) : ¬ (x = y) := fun q => own_irr x (by rw [← q] at h; exact h)
theorem own_ne' {x y : Int32} (h : x < y) : ¬ (y = x) := fun q => own_irr x (by rw [q] at h; exact h)
theorem own_tri (x y : Int32) : x < y ∨ x = y ∨ y < x := by
  rw [Int32.lt_iff_toInt_lt, Int32.lt_iff_toInt_lt, ← Int32.toInt_inj]; omega
theorem own_ns {Z : State} {h : Heap} {a : Addr} {C : String} (F : Exa Z h a C) : ∃ cell : Cell, h[a]? = some cell ∧ cell.vm.isStatics = false := by
  obtain ⟨cell, k, h1, -, -, h4, -⟩ := F; exact ⟨cell, h1, h4⟩
theorem own_sta_keep {Z : State} {h h' : Heap} {ws : List Addr} {C n d : String} {v : Value} (F : Sta Z h C n d v) (K : Keep h h' ws) (q : ∀ x ∈ ws, ∃ cell : Cell, h[x]? = some cell ∧ cell.vm.isStatics = false) : Sta Z h' C n d v := by
  obtain ⟨cf, i, k, f, st, cell, h1, h2, h3, h4, h5, h6, h7⟩ := F
  refine ⟨cf, i, k, f, st, cell, h1, h2, h3, h4, K.2.1 st cell h5 fun r => ?_, h6, h7⟩
  obtain ⟨c2, g1, g2⟩ := q st r
  cases h5.symm.trans g1
  rw [g2] at h6; cases h6
theorem own_eq_int {args : Array Value} {first s : State} {o : Option Outcome} {idx : List Nat} {t : Term} {k : Int32} (h : (Jvm.Cond.eq t (.int k)).value args first o s idx = some true) : t.eval args first o idx s = some (.int k) := by
  simp only [Cond.value, Term.eval] at h
  cases ht : t.eval args first o idx s with
  | none => simp [ht] at h
  | some x => cases x <;> simp [ht] at h ⊢; exact h
section
variable {p : Program} {l : Launch} {e : Env} {R : Room} {s : State} {m : MethodId} {args : Array Value} {below : List Frame} {meth : Method} {c : Code} {T t : State} {locs : List Loc} {cells slots : Nat} {cd : ByteArray} {pc : Nat} {ls : Array Slot} {st : List Value}
theorem oIn (X : Stand p l e R s m args below meth c T locs cells slots) (hx : p.tables.exec = Jvm.exec) (hy : c.code = cd) {k : Fin 4} {v : Int32} (hd : decode cd pc = .ok (.iload_n k, 1)) (hl : ls[k.val]? = some (.val (.int v))) (hr : OwnS p e below T (mkF m (pc + 1) ls (.int v :: st)) t) : OwnS p e below T (mkF m pc ls st) t := XS.iloadN X.here hx rfl (hb hy hd) hl hr
theorem oIl (X : Stand p l e R s m args below meth c T locs cells slots) (hx : p.tables.exec = Jvm.exec) (hy : c.code = cd) {k : Nat} {v : Int32} (hd : decode cd pc = .ok (.iload k, 2)) (hl : ls[k]? = some (.val (.int v))) (hr : OwnS p e below T (mkF m (pc + 2) ls (.int v :: st)) t) : OwnS p e below T (mkF m pc ls st) t := XS.iload X.here hx rfl (hb hy hd) hl hr
theorem oAn (X : Stand p l e R s m args below meth c T locs cells slots) (hx : p.tables.exec = Jvm.exec) (hy : c.code = cd) {k : Fin 4} {v : Value} (hd : decode cd pc = .ok (.aload_n k, 1)) (hl : ls[k.val]? = some (.val v)) (hv : v.isRef = true) (hr : OwnS p e below T (mkF m (pc + 1) ls (v :: st)) t) : OwnS p e below T (mkF m pc ls st) t := XS.aloadN X.here hx rfl (hb hy hd) hl hv hr
theorem oAl (X : Stand p l e R s m args below meth c T locs cells slots) (hx : p.tables.exec = Jvm.exec) (hy : c.code = cd) {k : Nat} {v : Value} (hd : decode cd pc = .ok (.aload k, 2)) (hl : ls[k]? = some (.val v)) (hv : v.isRef = true) (hr : OwnS p e below T (mkF m (pc + 2) ls (v :: st)) t) : OwnS p e below T (mkF m pc ls st) t := XS.aload X.here hx rfl (hb hy hd) hl hv hr
theorem oIc (X : Stand p l e R s m args below meth c T locs cells slots) (hx : p.tables.exec = Jvm.exec) (hy : c.code = cd) {i : Int} (hd : decode cd pc = .ok (.iconst i, 1)) (hr : OwnS p e below T (mkF m (pc + 1) ls (.int (Int32.ofInt i) :: st)) t) : OwnS p e below T (mkF m pc ls st) t := XS.iconst X.here hx rfl (hb hy hd) hr
theorem oBp (X : Stand p l e R s m args below meth c T locs cells slots) (hx : p.tables.exec = Jvm.exec) (hy : c.code = cd) {i : Int} (hd : decode cd pc = .ok (.bipush i, 2)) (hr : OwnS p e below T (mkF m (pc + 2) ls (.int (Int8.ofInt i).toInt32 :: st)) t) : OwnS p e below T (mkF m pc ls st) t := XS.bipush X.here hx rfl (hb hy hd) hr
theorem oJy (X : Stand p l e R s m args below meth c T locs cells slots) (hx : p.tables.exec = Jvm.exec) (hy : c.code = cd) {cc : ClassFile.Cond} {x y : Int32} {o : Int} (a q : Nat) (hd : decode cd a = .ok (.if_icmp cc o, 3)) (hc : if_icmp.holds cc x y = true) (h1 : 0 ≤ (a : Int) + o) (h2 : ((a : Int) + o).toNat = q) (hr : OwnS p e below T (mkF m q ls st) t) : OwnS p e below T (mkF m a ls (.int y :: .int x :: st)) t := XS.icmpYes X.here hx rfl (pc0 := a) (pc' := q) rfl (hb hy hd) rfl hc h1 h2 hr
theorem oJn (X : Stand p l e R s m args below meth c T locs cells slots) (hx : p.tables.exec = Jvm.exec) (hy : c.code = cd) {cc : ClassFile.Cond} {x y : Int32} {o : Int} (hd : decode cd pc = .ok (.if_icmp cc o, 3)) (hc : if_icmp.holds cc x y = false) (hr : OwnS p e below T (mkF m (pc + 3) ls st) t) : OwnS p e below T (mkF m pc ls (.int y :: .int x :: st)) t := XS.icmpNo X.here hx rfl (hb hy hd) rfl hc hr
theorem oGo (X : Stand p l e R s m args below meth c T locs cells slots) (hx : p.tables.exec = Jvm.exec) (hy : c.code = cd) {o : Int} (a q : Nat) (hd : decode cd a = .ok (.goto o, 3)) (h1 : 0 ≤ (a : Int) + o) (h2 : ((a : Int) + o).toNat = q) (hr : OwnS p e below T (mkF m q ls st) t) : OwnS p e below T (mkF m a ls st) t := XS.goto X.here hx rfl (pc0 := a) (pc' := q) rfl (hb hy hd) h1 h2 hr
end
abbrev own_M (l : Launch) (Z : State) (y : MethodName) (cd : ByteArray) (ml : Nat) (rt : Option FieldType) (ws : List Jvm.Cond) (R : Room) (A : Array Value) (h0 : Heap) (Q : Option Value → Heap → List Loc → Prop) : Prop :=
  MetFree l y (head1 (Jvm.Cond.code y cd ml rt :: ws) R) (fun a U => a = A ∧ Z.Warmed39 U.vm ∧ U.heap = h0) (fun _ _ _ _ _ => True) (fun _ U o U' => ∃ v L, o = .returned v ∧ Q v U'.heap L ∧ FrameEnd U o U' L R.cells R.slots)
theorem own_in {l : Launch} {Z : State} {y : MethodName} {cd : ByteArray} {ml : Nat} {rt : Option FieldType} {ws : List Jvm.Cond} {R : Room} {A : Array Value} {h0 : Heap} {Q : Option Value → Heap → List Loc → Prop} (own : String) (hc : y.cls = own) (hp : plainFor y = true)
    (H : ∀ p e s m below meth c s₁, BodyLoose p l y (head1 (Jvm.Cond.code y cd ml rt :: ws) R) cd ml rt e s m A below meth c s₁ → c.maxLocals = ml → Z.Warmed39 s.vm → s.heap = h0 → p.tables.exec = Jvm.exec → c.code = cd → s.vm.findClass own = some m.cls → Stand p l e R s m A below meth c s₁ [] 0 0 → s₁.heap = h0 →
      ∃ s₂ o, Steps p.tables e below (s₁.setTop (entryFrame m A ml)) s₂ ∧ s₂.status = .running ∧ Ended s₂ below o ∧ ∃ v L, o = .returned v ∧ Q v s₂.heap L ∧ FrameEnd s o s₂ L R.cells R.slots) : own_M l Z y cd ml rt ws R A h0 Q := by
  refine MetFree.of_bodySF hp hisR ?_
  intro p e s m args below meth c s₁ Bd hml0 hP hK
  obtain ⟨rfl, hZ, hh⟩ := hP
  subst hc
  exact H p e s m below meth c s₁ Bd hml0 hZ hh Bd.exec Bd.bytes (findClass_of_methodNamed Bd.named) (Stand.of_body Bd) (by rw [← hh, Bd.state]; rfl)
theorem own_cS {p : Program} {l : Launch} {e : Env} {R : Room} {s : State} {m : MethodId} {args : Array Value} {below : List Frame} {meth : Method} {c : Code} {T : State} {locs : List Loc} {cells slots : Nat} {Z : State} {a0 : Array Value} {own : String} {index : Nat} {y : MethodName} {bytes : ByteArray} {maxL : Nat} {ret : Option FieldType} {rm : Room} {as' : Array Value} {h : Heap} {Q : Option Value → Heap → List Loc → Prop} (W : Nat)
    (hM : own_M l Z y bytes maxL ret [] rm as' h Q) (X : Stand p l e R s m args below meth c T locs cells slots) (hx : p.tables.exec = Jvm.exec) (hZ : Z.Warmed39 s.vm) (hown : s.vm.findClass own = some m.cls) (hw : own_HW a0 Z) (i1 i2 i3 i4 : Nat) (v1 : tables_1[i1]? = some (Jvm.Cond.methodLink own index y)) (v2 : tables_1[i2]? = some (Jvm.Cond.static y)) (v3 : tables_1[i3]? = some (Jvm.Cond.initialized y.cls)) (v4 : tables_1[i4]? = some (Jvm.Cond.code y bytes maxL ret))
    (pc : Nat) (ls : Array Slot) (argsL rest : List Value) (hdg : decode c.code pc = .ok (.invokestatic index, 3)) (hml : c.maxLocals = ls.size) (hlen : ∀ sig, parseMethodDescriptor y.desc = some sig → argsL.length = sig.parameters.length) (eT : T.heap = h) (has : argsL.toArray = as') (hW : (rest.map fun v => v.category).sum ≤ W)
    (hd : (y.cls ≠ "java/lang/invoke/MethodHandle" ∧ y.cls ≠ "java/lang/invoke/VarHandle") ∧ rm.frames + 1 ≤ R.frames ∧ W + (maxL + 11) + rm.locals ≤ R.locals ∧ cells + rm.cells ≤ R.cells ∧ slots + rm.slots ≤ R.slots) :
    ∃ (v : Option Value) (T' : State) (L : List Loc), Stand p l e R s m args below meth c T' (locs ++ L) (cells + rm.cells) (slots + rm.slots) ∧ Q v T'.heap L ∧ ∀ t, OwnS p e below T' (mkF m (pc + 3) ls (v.toList ++ rest)) t → OwnS p e below T (mkF m pc ls (argsL.reverse ++ rest)) t := by
  obtain ⟨v, vm₁, ⟨T', L', j, i⟩, -, X', ⟨L, hQ, l1, y1, z1⟩, st⟩ := Jvm.LawKit.callS X hx (y := y) hown (mvT hZ (own_at hw i1 v1)) (mvT hZ (own_at hw i2 v2)) (mvT hZ (own_at hw i3 v3)) (mvT hZ (own_at hw i4 v4)) hd.1 (backOf (W := W) hM hZ (own_at hw i4 v4) (own_at hw i3 v3) hd.2.1 hd.2.2.1) (g := (mkF m pc ls (argsL.reverse ++ rest))) rfl hml.symm (argsL := argsL) (rest := rest) hlen rfl (by simpa [mkF] using hW) hdg (fun _ _ => ⟨has, eT, hd.2.2.2⟩)
  dsimp only [Pt.U, Pt.locs, Pt.cells, Pt.slots] at X' l1 y1 z1 st hQ
  subst l1 y1 z1
  exact ⟨v, T', L, X', hQ, st⟩
theorem own_cV {p : Program} {l : Launch} {e : Env} {R : Room} {s : State} {m : MethodId} {args : Array Value} {below : List Frame} {meth : Method} {c : Code} {T : State} {locs : List Loc} {cells slots : Nat} {Z : State} {a0 : Array Value} {own : String} {index : Nat} {y : MethodName} {bytes : ByteArray} {maxL : Nat} {ret : Option FieldType} {rm : Room} {as' : Array Value} {h : Heap} {Q : Option Value → Heap → List Loc → Prop} (W : Nat)
    (hM : own_M l Z y bytes maxL ret [] rm as' h Q) (X : Stand p l e R s m args below meth c T locs cells slots) (hx : p.tables.exec = Jvm.exec) (hZ : Z.Warmed39 s.vm) (hown : s.vm.findClass own = some m.cls) (hw : own_HW a0 Z) (i1 i2 i5 i6 i3 i4 : Nat) (v1 : tables_1[i1]? = some (Jvm.Cond.methodLink own index y)) (v2 : tables_1[i2]? = some (Jvm.Cond.declares y)) (v5 : tables_1[i5]? = some (Jvm.Cond.selects y.cls y y)) (v6 : tables_1[i6]? = some (Jvm.Cond.instanceMethod y)) (v3 : tables_1[i3]? = some (Jvm.Cond.initialized y.cls)) (v4 : tables_1[i4]? = some (Jvm.Cond.code y bytes maxL ret))
    (o : Addr) (E : Exa Z h o y.cls) (pc : Nat) (ls : Array Slot) (argsL rest : List Value) (hdg : decode c.code pc = .ok (.invokevirtual index, 3)) (hml : c.maxLocals = ls.size) (hlen : ∀ sig, parseMethodDescriptor y.desc = some sig → argsL.length = sig.parameters.length) (eT : T.heap = h) (has : (.ref o :: argsL).toArray = as') (hW : (rest.map fun v => v.category).sum ≤ W)
    (hd : (y.cls ≠ "java/lang/invoke/MethodHandle" ∧ y.cls ≠ "java/lang/invoke/VarHandle") ∧ rm.frames + 1 ≤ R.frames ∧ W + (maxL + 11) + rm.locals ≤ R.locals ∧ cells + rm.cells ≤ R.cells ∧ slots + rm.slots ≤ R.slots) :
    ∃ (v : Option Value) (T' : State) (L : List Loc), Stand p l e R s m args below meth c T' (locs ++ L) (cells + rm.cells) (slots + rm.slots) ∧ Q v T'.heap L ∧ ∀ t, OwnS p e below T' (mkF m (pc + 3) ls (v.toList ++ rest)) t → OwnS p e below T (mkF m pc ls (argsL.reverse ++ .ref o :: rest)) t := by
  obtain ⟨cq, kq, qa, qb, qc⟩ := isOf hZ eT E
  obtain ⟨v, vm₁, ⟨T', L', j, i⟩, -, X', ⟨L, hQ, l1, y1, z1⟩, st⟩ := X.virtualBack hx (y := y) (z := y) hown (mvT hZ (own_at hw i1 v1)) (mvT hZ (own_at hw i2 v2)) (notFace_of_selects (args := #[]) (mvT hZ (own_at hw i5 v5))) (mvT hZ (own_at hw i5 v5)) (mvT hZ (own_at hw i6 v6)) hd.1 (backOf (W := W) hM hZ (own_at hw i4 v4) (own_at hw i3 v3) hd.2.1 hd.2.2.1) qa qc (g := (mkF m pc ls (argsL.reverse ++ .ref o :: rest))) rfl hml.symm (Steps.refl _) (argsL := argsL) (rest := rest) hlen rfl (by simpa [mkF] using hW) hdg (fun _ _ => ⟨has, eT, hd.2.2.2⟩)
  dsimp only [Pt.U, Pt.locs, Pt.cells, Pt.slots] at X' l1 y1 z1 st hQ
  subst l1 y1 z1
  exact ⟨v, T', L, X', hQ, fun t q => st.trans q⟩
theorem own_k {p : Program} {e : Env} {below : List Frame} {T : State} {f g : JFrame} (h : f = g) (t : State) (q : OwnS p e below T g t) : OwnS p e below T f t := castTop h q
def own_G (p : Program) (e : Env) (below : List Frame) (F : State → Outcome → Prop) (T : State) (g : JFrame) : Prop := ∃ s₂ o, Steps p.tables e below (T.setTop g) s₂ ∧ s₂.status = .running ∧ Ended s₂ below o ∧ F s₂ o
theorem own_by {p : Program} {e : Env} {below : List Frame} {F : State → Outcome → Prop} {T T' : State} {g g' : JFrame} (f : ∀ t, OwnS p e below T' g' t → OwnS p e below T g t) (h : own_G p e below F T' g') : own_G p e below F T g := by
  obtain ⟨s2, o, a, b⟩ := h; exact ⟨s2, o, f _ a, b⟩
theorem own_gi {p : Program} {e : Env} {below : List Frame} {F : State → Outcome → Prop} {T : State} {g : JFrame} {s₂ : State} {o : Outcome} (a : Steps p.tables e below (T.setTop g) s₂) (b : s₂.status = .running) (c : Ended s₂ below o) (d : F s₂ o) : own_G p e below F T g := ⟨s₂, o, a, b, c, d⟩
theorem own_start {p : Program} {e : Env} {below : List Frame} {F : State → Outcome → Prop} {T : State} {f g : JFrame} (h : f = g) (q : own_G p e below F T g) : ∃ s₂ o, Steps p.tables e below (T.setTop f) s₂ ∧ s₂.status = .running ∧ Ended s₂ below o ∧ F s₂ o := by subst h; exact q
section
variable {p : Program} {l : Launch} {e : Env} {R : Room} {s : State} {m : MethodId} {args : Array Value} {below : List Frame} {meth : Method} {c : Code} {T : State} {locs : List Loc} {cells slots : Nat} {Z : State} {a0 : Array Value} {h : Heap} {cd : ByteArray} {pc : Nat} {ls : Array Slot} {st : List Value} {t : State} {a : Addr} {k : ClassId} {z : Int32} {vs : List Value} {dv v : Value} {j : Int32} {G : State → Outcome → Prop}
theorem own_gF (X : Stand p l e R s m args below meth c T locs cells slots) (hx : p.tables.exec = Jvm.exec) (hZ : Z.Warmed39 s.vm) {own O n d : String} {index : Nat} (hown : s.vm.findClass own = some m.cls) (hw : own_HW a0 Z) (i : Nat) (v1 : tables_1[i]? = some (Jvm.Cond.fieldLink own index O n d)) (eT : T.heap = h) (F : Fld Z h a O n d v) (hy : c.code = cd) (hd : decode cd pc = .ok (.getfield index, 3))
    (K : ∀ T', Stand p l e R s m args below meth c T' locs cells slots → T'.heap = h → own_G p e below G T' (mkF m (pc + 3) ls (v :: st))) : own_G p e below G T (mkF m pc ls (.ref a :: st)) := by
  obtain ⟨T', X', e', q⟩ := getF X hx hZ hown (host := "") (Or.inl (own_at hw i v1)) Via.refl eT F (g := mkF m pc ls (.ref a :: st)) rfl rfl (hb hy hd)
  exact own_by q (K T' X' e')
theorem own_alen {ty : FieldType} (X : Stand p l e R s m args below meth c T locs cells slots) (hx : p.tables.exec = Jvm.exec) (hZ : Z.Warmed39 s.vm) (eT : T.heap = h) (V : Arv Z h a k ty z vs dv) (hy : c.code = cd) (hd : decode cd pc = .ok (.arraylength, 1)) (hr : OwnS p e below T (mkF m (pc + 1) ls (.int z :: st)) t) : OwnS p e below T (mkF m pc ls (.ref a :: st)) t := by
  obtain ⟨cl, Ar, q, S, N, H, G⟩ := V
  refine X.arraylength hx (by rw [eT]; exact Ar.1) (State.isArrayOf_alike hZ.alike Ar.2.1) (g := mkF m pc ls (.ref a :: st)) rfl rfl (hb hy hd) _ ?_
  rw [len_of S N]
  exact hr
theorem own_ldI (X : Stand p l e R s m args below meth c T locs cells slots) (hx : p.tables.exec = Jvm.exec) (hZ : Z.Warmed39 s.vm) (eT : T.heap = h) (V : Arv Z h a k .int z vs dv) (hy : c.code = cd) (hj : ¬ j < 0 ∧ j < z) (hv : vs.getD j.toNatClampNeg dv = v) (hd : decode cd pc = .ok (.iaload, 1)) (hr : OwnS p e below T (mkF m (pc + 1) ls (v :: st)) t) : OwnS p e below T (mkF m pc ls (.int j :: .ref a :: st)) t := by
  obtain ⟨cl, Ar, q, S, N, H, G⟩ := V
  have hin := inb_of S hj
  exact X.iaload hx (j := j) (v := v) (by rw [eT]; exact Ar.1) (State.isArrayOf_alike hZ.alike Ar.2.1) Ar.2.2 hin (Has.at H hin hv) (g := mkF m pc ls (.int j :: .ref a :: st)) rfl rfl (hb hy hd) _ hr
theorem own_ldC (X : Stand p l e R s m args below meth c T locs cells slots) (hx : p.tables.exec = Jvm.exec) (hZ : Z.Warmed39 s.vm) (eT : T.heap = h) (V : Arv Z h a k .char z vs dv) (hy : c.code = cd) (hj : ¬ j < 0 ∧ j < z) (hv : vs.getD j.toNatClampNeg dv = v) (hd : decode cd pc = .ok (.caload, 1)) (hr : OwnS p e below T (mkF m (pc + 1) ls (v :: st)) t) : OwnS p e below T (mkF m pc ls (.int j :: .ref a :: st)) t := by
  obtain ⟨cl, Ar, q, S, N, H, G⟩ := V
  have hin := inb_of S hj
  exact X.caload hx (j := j) (v := v) (by rw [eT]; exact Ar.1) (State.isArrayOf_alike hZ.alike Ar.2.1) Ar.2.2 hin (Has.at H hin hv) (g := mkF m pc ls (.int j :: .ref a :: st)) rfl rfl (hb hy hd) _ hr
theorem own_ldB (X : Stand p l e R s m args below meth c T locs cells slots) (hx : p.tables.exec = Jvm.exec) (hZ : Z.Warmed39 s.vm) (eT : T.heap = h) (V : Arv Z h a k .byte z vs dv) (hy : c.code = cd) (hj : ¬ j < 0 ∧ j < z) (hv : vs.getD j.toNatClampNeg dv = v) (hd : decode cd pc = .ok (.baload, 1)) (hr : OwnS p e below T (mkF m (pc + 1) ls (v :: st)) t) : OwnS p e below T (mkF m pc ls (.int j :: .ref a :: st)) t := by
  obtain ⟨cl, Ar, q, S, N, H, G⟩ := V
  have hin := inb_of S hj
  exact X.baloadBytes hx (j := j) (v := v) (by rw [eT]; exact Ar.1) (State.isArrayOf_alike hZ.alike Ar.2.1) Ar.2.2 hin (Has.at H hin hv) (g := mkF m pc ls (.int j :: .ref a :: st)) rfl rfl (hb hy hd) _ hr
theorem own_ldA {ty : FieldType} (X : Stand p l e R s m args below meth c T locs cells slots) (hx : p.tables.exec = Jvm.exec) (hZ : Z.Warmed39 s.vm) (eT : T.heap = h) (V : Arv Z h a k ty z vs dv) (hy : c.code = cd) (hj : ¬ j < 0 ∧ j < z) (hv : vs.getD j.toNatClampNeg dv = v) (hty : ty.isReference = true) (hd : decode cd pc = .ok (.aaload, 1)) (hr : OwnS p e below T (mkF m (pc + 1) ls (v :: st)) t) : OwnS p e below T (mkF m pc ls (.int j :: .ref a :: st)) t := by
  obtain ⟨cl, Ar, q, S, N, H, G⟩ := V
  have hin := inb_of S hj
  exact X.aaload hx (j := j) (v := v) (by rw [eT]; exact Ar.1) (State.isArrayOf_alike hZ.alike Ar.2.1) hty Ar.2.2 hin (Has.at H hin hv) (g := mkF m pc ls (.int j :: .ref a :: st)) rfl rfl (hb hy hd) _ hr
theorem own_aF (X : Stand p l e R s m args below meth c T locs cells slots) (hx : p.tables.exec = Jvm.exec) (hZ : Z.Warmed39 s.vm) {own O n d : String} {index : Nat} {lk : Fin 4} (hown : s.vm.findClass own = some m.cls) (hw : own_HW a0 Z) (i : Nat) (v1 : tables_1[i]? = some (Jvm.Cond.fieldLink own index O n d)) (eT : T.heap = h) (F : Fld Z h a O n d v) (hy : c.code = cd) (hda : decode cd pc = .ok (.aload_n lk, 1)) (hl : ls[lk.val]? = some (.val (.ref a))) (hd : decode cd (pc + 1) = .ok (.getfield index, 3))
    (K : ∀ T', Stand p l e R s m args below meth c T' locs cells slots → T'.heap = h → own_G p e below G T' (mkF m (pc + 4) ls (v :: st))) : own_G p e below G T (mkF m pc ls st) :=
  own_by (fun t q => oAn X hx hy hda hl rfl q) (own_gF X hx hZ hown hw i v1 eT F hy hd K)
theorem own_stI (X : Stand p l e R s m args below meth c T locs cells slots) (hx : p.tables.exec = Jvm.exec) (hZ : Z.Warmed39 s.vm) (eT : T.heap = h) (V : Arv Z h a k .int z vs dv) (hy : c.code = cd) (hj : ¬ j < 0 ∧ j < z) {x : Int32} (i : Nat) (hi : j.toNatClampNeg = i) (hl : i < vs.length) {n0 : Nat} (N : Fr n0 locs) (ge : n0 ≤ a) (hd : decode cd pc = .ok (.iastore, 1))
    (K : ∀ T' h', Stand p l e R s m args below meth c T' (locs ++ [⟨a, j.toNatClampNeg⟩]) cells slots → T'.heap = h' → Wr h h' a j.toNatClampNeg (.int x) → Arv Z h' a k .int z (vs.set i (.int x)) dv → Fr n0 (locs ++ [⟨a, j.toNatClampNeg⟩]) → own_G p e below G T' (mkF m (pc + 1) ls st)) : own_G p e below G T (mkF m pc ls (.int x :: .int j :: .ref a :: st)) := by
  obtain ⟨cl, Ar, q, S, N', H, G'⟩ := V
  have hin := inb_of S hj
  obtain ⟨T', h', X', e', W', st'⟩ := stI X hx hZ eT Ar (j := j) (x := x) hin (g := mkF m pc ls (.int x :: .int j :: .ref a :: st)) rfl rfl (hb hy hd)
  exact own_by st' (K T' h' X' e' W' (Arv.set Ar q S N' H G' rfl W' i hi hl) (Fr.snoc X' N ge))
theorem own_pF (X : Stand p l e R s m args below meth c T locs cells slots) (hx : p.tables.exec = Jvm.exec) (hZ : Z.Warmed39 s.vm) {own O n d C : String} {index kk : Nat} (hown : s.vm.findClass own = some m.cls) (hw : own_HW a0 Z) (i1 i2 i3 : Nat) (v1 : tables_1[i1]? = some (Jvm.Cond.fieldLink own index O n d)) (v2 : tables_1[i2]? = some (Jvm.Cond.lays C O n d)) (v3 : tables_1[i3]? = some (Jvm.Cond.instantiable C kk)) (eT : T.heap = h) {old w : Value} (F : Fld Z h a O n d old) (E : Exa Z h a C) {ty : FieldType} (hty : parseFieldDescriptor d = some ty) (hn : narrow ty w = w) (hf : fits ty w = true) {n0 : Nat} (N : Fr n0 locs) (ge : n0 ≤ a) (hy : c.code = cd) (hd : decode cd pc = .ok (.putfield index, 3))
    (K : ∀ T' h', Stand p l e R s m args below meth c T' (locs ++ [⟨a, Jvm.RoadKit.slotOf Z O n d⟩]) cells slots → T'.heap = h' → Wr h h' a (Jvm.RoadKit.slotOf Z O n d) w → Fld Z h' a O n d w → Fr n0 (locs ++ [⟨a, Jvm.RoadKit.slotOf Z O n d⟩]) → own_G p e below G T' (mkF m (pc + 3) ls st)) : own_G p e below G T (mkF m pc ls (w :: .ref a :: st)) := by
  obtain ⟨T', h', X', e', W', st'⟩ := putF X hx hZ hown (host := "") (Or.inl (own_at hw i1 v1)) Via.refl eT F E (Or.inl (own_at hw i2 v2)) (own_at hw i3 v3) hty hn hf (g := mkF m pc ls (w :: .ref a :: st)) rfl rfl (hb hy hd)
  exact own_by st' (K T' h' X' e' W' (F.same W') (Fr.snoc X' N ge))
theorem own_cP {own : String} {index : Nat} {y : MethodName} {bytes : ByteArray} {maxL : Nat} {ret : Option FieldType} {rm : Room} {as' : Array Value} {Q : Option Value → Heap → List Loc → Prop} (W : Nat) {ni : Nat}
    (hM : own_M l Z y bytes maxL ret [] rm as' h Q) (X : Stand p l e R s m args below meth c T locs cells slots) (hx : p.tables.exec = Jvm.exec) (hZ : Z.Warmed39 s.vm) (hown : s.vm.findClass own = some m.cls) (hw : own_HW a0 Z) (i1 i2 i5 i6 i3 i4 : Nat) (v1 : tables_1[i1]? = some (Jvm.Cond.methodLink own index y)) (v2 : tables_1[i2]? = some (Jvm.Cond.instanceMethod y)) (v5 : tables_1[i5]? = some (Jvm.Cond.instantiable y.cls ni)) (v6 : tables_1[i6]? = some (Jvm.Cond.privateMethod y)) (v3 : tables_1[i3]? = some (Jvm.Cond.initialized y.cls)) (v4 : tables_1[i4]? = some (Jvm.Cond.code y bytes maxL ret))
    (o : Addr) (E : Exa Z h o y.cls) (argsL rest : List Value) (hby : c.code = cd) (hdg : decode cd pc = .ok (.invokevirtual index, 3)) (hml : c.maxLocals = ls.size) (hlen : ∀ sig, parseMethodDescriptor y.desc = some sig → argsL.length = sig.parameters.length) (eT : T.heap = h) (has : (.ref o :: argsL).toArray = as') (hW : (rest.map fun v => v.category).sum ≤ W)
    (hd : (y.cls ≠ "java/lang/invoke/MethodHandle" ∧ y.cls ≠ "java/lang/invoke/VarHandle") ∧ rm.frames + 1 ≤ R.frames ∧ W + (maxL + 11) + rm.locals ≤ R.locals ∧ cells + rm.cells ≤ R.cells ∧ slots + rm.slots ≤ R.slots)
    (K : ∀ (v : Option Value) (T' : State) (L : List Loc), Stand p l e R s m args below meth c T' (locs ++ L) (cells + rm.cells) (slots + rm.slots) → Q v T'.heap L → own_G p e below G T' (mkF m (pc + 3) ls (v.toList ++ rest))) : own_G p e below G T (mkF m pc ls (argsL.reverse ++ .ref o :: rest)) := by
  obtain ⟨cq, q1, q2⟩ := E.cell
  obtain ⟨v, vm₁, ⟨T', L', j', i'⟩, -, X', ⟨L, hQ, l1, y1, z1⟩, st'⟩ := X.privateBack hx (y := y) hown (mvT hZ (own_at hw i1 v1)) (mvT hZ (own_at hw i2 v2)) (own_selpriv hd.1 (mvT hZ (own_at hw i5 v5)) (mvP hZ (own_at hw i6 v6)) (mvT hZ (own_at hw i2 v2))) (Cond.privateMethod_at (mvP hZ (own_at hw i6 v6) (args := #[]))) (mvT hZ (own_at hw i4 v4)) hd.1 (backOf (W := W) hM hZ (own_at hw i4 v4) (own_at hw i3 v3) hd.2.1 hd.2.2.1) (g := (mkF m pc ls (argsL.reverse ++ .ref o :: rest))) rfl hml.symm (Steps.refl _) (a := o) (by rw [eT]; exact q1) q2 (argsL := argsL) (rest := rest) hlen rfl (by simpa [mkF] using hW) (hb hby hdg) (fun _ _ => ⟨has, eT, hd.2.2.2⟩)
  dsimp only [Pt.U, Pt.locs, Pt.cells, Pt.slots] at X' l1 y1 z1 st' hQ
  subst l1 y1 z1
  exact own_by (fun t q => st'.trans q) (K v T' L X' hQ)
theorem own_cK {own : String} {index : Nat} {y : MethodName} {bytes : ByteArray} {maxL : Nat} {ret : Option FieldType} {rm : Room} {as' : Array Value} {Q : Option Value → Heap → List Loc → Prop} (W : Nat)
    (hM : own_M l Z y bytes maxL ret [] rm as' h Q) (X : Stand p l e R s m args below meth c T locs cells slots) (hx : p.tables.exec = Jvm.exec) (hZ : Z.Warmed39 s.vm) (hown : s.vm.findClass own = some m.cls) (hw : own_HW a0 Z) (i1 i2 i3 i4 : Nat) (v1 : tables_1[i1]? = some (Jvm.Cond.methodLink own index y)) (v2 : tables_1[i2]? = some (Jvm.Cond.static y)) (v3 : tables_1[i3]? = some (Jvm.Cond.initialized y.cls)) (v4 : tables_1[i4]? = some (Jvm.Cond.code y bytes maxL ret))
    (argsL rest : List Value) (hby : c.code = cd) (hdg : decode cd pc = .ok (.invokestatic index, 3)) (hml : c.maxLocals = ls.size) (hlen : ∀ sig, parseMethodDescriptor y.desc = some sig → argsL.length = sig.parameters.length) (eT : T.heap = h) (has : argsL.toArray = as') (hW : (rest.map fun v => v.category).sum ≤ W)
    (hd : (y.cls ≠ "java/lang/invoke/MethodHandle" ∧ y.cls ≠ "java/lang/invoke/VarHandle") ∧ rm.frames + 1 ≤ R.frames ∧ W + (maxL + 11) + rm.locals ≤ R.locals ∧ cells + rm.cells ≤ R.cells ∧ slots + rm.slots ≤ R.slots)
    (K : ∀ (v : Option Value) (T' : State) (L : List Loc), Stand p l e R s m args below meth c T' (locs ++ L) (cells + rm.cells) (slots + rm.slots) → Q v T'.heap L → own_G p e below G T' (mkF m (pc + 3) ls (v.toList ++ rest))) : own_G p e below G T (mkF m pc ls (argsL.reverse ++ rest)) := by
  obtain ⟨v, T', L, X', hQ, q⟩ := own_cS W hM X hx hZ hown hw i1 i2 i3 i4 v1 v2 v3 v4 pc ls argsL rest (hb hby hdg) hml hlen eT has hW hd
  exact own_by q (K v T' L X' hQ)
theorem own_cW {own : String} {index : Nat} {y : MethodName} {bytes : ByteArray} {maxL : Nat} {ret : Option FieldType} {rm : Room} {as' : Array Value} {Q : Option Value → Heap → List Loc → Prop} (W : Nat)
    (hM : own_M l Z y bytes maxL ret [] rm as' h Q) (X : Stand p l e R s m args below meth c T locs cells slots) (hx : p.tables.exec = Jvm.exec) (hZ : Z.Warmed39 s.vm) (hown : s.vm.findClass own = some m.cls) (hw : own_HW a0 Z) (i1 i2 i5 i6 i3 i4 : Nat) (v1 : tables_1[i1]? = some (Jvm.Cond.methodLink own index y)) (v2 : tables_1[i2]? = some (Jvm.Cond.declares y)) (v5 : tables_1[i5]? = some (Jvm.Cond.selects y.cls y y)) (v6 : tables_1[i6]? = some (Jvm.Cond.instanceMethod y)) (v3 : tables_1[i3]? = some (Jvm.Cond.initialized y.cls)) (v4 : tables_1[i4]? = some (Jvm.Cond.code y bytes maxL ret))
    (o : Addr) (E : Exa Z h o y.cls) (argsL rest : List Value) (hby : c.code = cd) (hdg : decode cd pc = .ok (.invokevirtual index, 3)) (hml : c.maxLocals = ls.size) (hlen : ∀ sig, parseMethodDescriptor y.desc = some sig → argsL.length = sig.parameters.length) (eT : T.heap = h) (has : (.ref o :: argsL).toArray = as') (hW : (rest.map fun v => v.category).sum ≤ W)
    (hd : (y.cls ≠ "java/lang/invoke/MethodHandle" ∧ y.cls ≠ "java/lang/invoke/VarHandle") ∧ rm.frames + 1 ≤ R.frames ∧ W + (maxL + 11) + rm.locals ≤ R.locals ∧ cells + rm.cells ≤ R.cells ∧ slots + rm.slots ≤ R.slots)
    (K : ∀ (v : Option Value) (T' : State) (L : List Loc), Stand p l e R s m args below meth c T' (locs ++ L) (cells + rm.cells) (slots + rm.slots) → Q v T'.heap L → own_G p e below G T' (mkF m (pc + 3) ls (v.toList ++ rest))) : own_G p e below G T (mkF m pc ls (argsL.reverse ++ .ref o :: rest)) := by
  obtain ⟨v, T', L, X', hQ, q⟩ := own_cV W hM X hx hZ hown hw i1 i2 i5 i6 i3 i4 v1 v2 v5 v6 v3 v4 o E pc ls argsL rest (hb hby hdg) hml hlen eT has hW hd
  exact own_by q (K v T' L X' hQ)
end
theorem own_out {p : Program} {l : Launch} {e : Env} {R : Room} {s : State} {m : MethodId} {args : Array Value} {below : List Frame} {meth : Method} {c : Code} {T : State} {locs : List Loc} {cells slots : Nat} {g : JFrame} {Q : Option Value → Heap → List Loc → Prop} {C D : Nat} (X : Stand p l e R s m args below meth c T locs cells slots) (hlk : meth.locks = false) {rt : Option FieldType} (hrt : meth.sig.returnType = rt) (v : Option Value) (hv : rt = none → v = none) (hc : cells ≤ C) (hs : slots ≤ D) (hQ : Q v T.heap locs)
    (K : ∀ fs, (∀ (f : JFrame) (acts : List Action), f.method = m → f.locked = none → f.entered = [] → (doReturn e (T.setTop f) acts v).1 = T.setFrames fs) → OwnS p e below T g (T.setFrames fs)) :
    own_G p e below (fun s₂ o => ∃ v L, o = .returned v ∧ Q v s₂.heap L ∧ FrameEnd s o s₂ L C D) T g := by
  obtain ⟨fs, hr, hrun, hended, hW, hsame⟩ := X.leave (v := v) (fun q => hv (hrt.symm.trans q)) hlk
  exact ⟨_, _, K fs hr, hrun, hended, _, _, rfl, hQ, ⟨_, rfl⟩, hW, hsame.mono hc hs⟩
theorem own_more {p : Program} {l : Launch} {e : Env} {R : Room} {s : State} {m : MethodId} {args : Array Value} {below : List Frame} {meth : Method} {c : Code} {T : State} {locs : List Loc} {cells slots cells' slots' : Nat} (X : Stand p l e R s m args below meth c T locs cells slots) (h1 : cells ≤ cells') (h2 : slots ≤ slots') : Stand p l e R s m args below meth c T locs cells' slots' := { X with same := X.same.mono h1 h2 }
def own_B (Z : State) (h : Heap) (a : Addr) (z : Int32) : Prop := ∃ (k : ClassId) (vs : List Value), Arv Z h a k .byte z vs (.int 0)
theorem own_B.lt {Z : State} {h : Heap} {a : Addr} {z : Int32} (F : own_B Z h a z) : a < h.size := by obtain ⟨k, vs, V⟩ := F; exact V.lt
theorem own_B.ext {Z : State} {h h' : Heap} {a : Addr} {z : Int32} (F : own_B Z h a z) (E : Ext h h') : own_B Z h' a z := by obtain ⟨k, vs, V⟩ := F; exact ⟨k, vs, V.ext E⟩
theorem own_B.other {Z : State} {h h' : Heap} {a b : Addr} {z : Int32} {sl : Nat} {v : Value} (F : own_B Z h b z) (W : Wr h h' a sl v) (q : b ≠ a) : own_B Z h' b z := by obtain ⟨k, vs, V⟩ := F; exact ⟨k, vs, V.other W q⟩
theorem own_B.keep {Z : State} {h h' : Heap} {a : Addr} {z : Int32} {ws : List Addr} (F : own_B Z h a z) (K : Keep h h' ws) (q : a ∉ ws) : own_B Z h' a z := by obtain ⟨k, vs, V⟩ := F; exact ⟨k, vs, V.keep K q⟩
theorem own_nat {x : Int32} (q : 0 ≤ x.toInt) : ¬ x < 0 ∧ x.toInt = x.toNatClampNeg := by
  have e : (0 : Int32).toInt = 0 := rfl
  refine ⟨by rw [Int32.lt_iff_toInt_lt]; omega, ?_⟩
  simp only [Int32.toNatClampNeg]; omega
theorem own_lits : (0 : Int32).toInt = 0 ∧ (1 : Int32).toInt = 1 ∧ (2 : Int32).toInt = 2 ∧ (3 : Int32).toInt = 3 ∧ (4 : Int32).toInt = 4 ∧ (5 : Int32).toInt = 5 ∧ (7 : Int32).toInt = 7 ∧ (8 : Int32).toInt = 8 ∧ (15 : Int32).toInt = 15 ∧ (256 : Int32).toInt = 256 ∧ (4096 : Int32).toInt = 4096 ∧ (-1 : Int32).toInt = -1 := by decide
theorem own_ltm {x y : Int32} (h : x < y) : x.toInt < y.toInt := Int32.lt_iff_toInt_lt.mp h
theorem own_nlt {x y : Int32} (h : ¬ (x < y)) : ¬ (x.toInt < y.toInt) := fun q => h (Int32.lt_iff_toInt_lt.mpr q)
theorem own_eqm {x y : Int32} (h : x = y) : x.toInt = y.toInt := congrArg Int32.toInt h
theorem own_neq {x y : Int32} (h : ¬ (x = y)) : ¬ (x.toInt = y.toInt) := fun q => h (Int32.toInt_inj.mp q)
section
variable {p : Program} {l : Launch} {e : Env} {R : Room} {s : State} {m : MethodId} {args : Array Value} {below : List Frame} {meth : Method} {c : Code} {T : State} {locs : List Loc} {cells slots : Nat} {Z : State} {h : Heap} {a b : Addr} {z z' : Int32} {cd : ByteArray} {ls : Array Slot} {st : List Value} {t : State}
theorem own_blen (X : Stand p l e R s m args below meth c T locs cells slots) (hx : p.tables.exec = Jvm.exec) (hZ : Z.Warmed39 s.vm) (eT : T.heap = h) (F : own_B Z h a z) (hy : c.code = cd) {pc : Nat} (hd : decode cd pc = .ok (.arraylength, 1)) (hr : OwnS p e below T (mkF m (pc + 1) ls (.int z :: st)) t) : OwnS p e below T (mkF m pc ls (.ref a :: st)) t := by
  obtain ⟨k, vs, cl, Ar, q, S, N, H, G⟩ := F
  refine X.arraylength hx (by rw [eT]; exact Ar.1) (State.isArrayOf_alike hZ.alike Ar.2.1) (g := mkF m pc ls (.ref a :: st)) rfl rfl (hb hy hd) _ ?_
  rw [len_of S N]
  exact hr
theorem own_bld (X : Stand p l e R s m args below meth c T locs cells slots) (hx : p.tables.exec = Jvm.exec) (hZ : Z.Warmed39 s.vm) (eT : T.heap = h) (F : own_B Z h a z) (hy : c.code = cd) (j : Int32) (h0 : 0 ≤ j.toInt) (h1 : j.toInt < z.toInt) :
    ∃ x : Int32, ∀ (pc : Nat) (ls : Array Slot) (st : List Value) (t : State), decode cd pc = .ok (.baload, 1) → OwnS p e below T (mkF m (pc + 1) ls (.int x :: st)) t → OwnS p e below T (mkF m pc ls (.int j :: .ref a :: st)) t := by
  obtain ⟨k, vs, cl, Ar, q, S, N, H, G⟩ := F
  have hin : ¬ (j < 0 ∨ cl.slots.size ≤ j.toNatClampNeg) := inb_of S ⟨(own_nat h0).1, Int32.lt_iff_toInt_lt.mpr h1⟩
  have hf := G j.toNatClampNeg (Nat.lt_of_not_le fun y => hin (Or.inr y))
  have hv : ∃ x, vs.getD j.toNatClampNeg (.int 0) = .int x := by
    generalize vs.getD j.toNatClampNeg (.int 0) = v at hf
    cases v <;> first | exact ⟨_, rfl⟩ | (simp [fits] at hf)
  obtain ⟨x, hv⟩ := hv
  refine ⟨x, fun pc ls st t hd hr => ?_⟩
  exact X.baloadBytes hx (j := j) (v := .int x) (by rw [eT]; exact Ar.1) (State.isArrayOf_alike hZ.alike Ar.2.1) Ar.2.2 hin (Has.at H hin hv) (g := mkF m pc ls (.int j :: .ref a :: st)) rfl rfl (hb hy hd) _ hr
theorem own_bcp (X : Stand p l e R s m args below meth c T locs cells slots) (hx : p.tables.exec = Jvm.exec) (hZ : Z.Warmed39 s.vm) {a0 : Array Value} {own : String} {index : Nat} (hown : s.vm.findClass own = some m.cls)
    (w1 : (Jvm.Cond.methodLink own index Jvm.Stand.acN).before a0 Z = true) (w2 : (Jvm.Cond.native Jvm.Stand.acN).before a0 Z = true) (w3 : (Jvm.Cond.static Jvm.Stand.acN).before a0 Z = true) (w4 : (Jvm.Cond.initialized "java/lang/System").before a0 Z = true) (eT : T.heap = h)
    (A : own_B Z h a z) (B : own_B Z h b z') {sp dp nn : Int32} (q : (0 ≤ sp.toInt ∧ 0 ≤ dp.toInt ∧ 0 ≤ nn.toInt) ∧ sp.toInt + nn.toInt ≤ z.toInt ∧ dp.toInt + nn.toInt ≤ z'.toInt) {n0 : Nat} (N : Fr n0 locs) (ge : n0 ≤ b)
    {g : JFrame} (hg : g.method = m) (hsize : g.locals.size = c.maxLocals) {rest : List Value} (hs : g.stack = .int nn :: .int dp :: .ref b :: .int sp :: .ref a :: rest) (hd : decode c.code g.pc = .ok (.invokestatic index, 3))
    (hf : 1 ≤ R.frames) {W : Nat} (hW : 2 * g.monitorRoom + (rest.map fun v => v.category).sum ≤ W) (hlo : W + (nativeFrameWords "java/lang/System" "arraycopy" 5 + 11) ≤ R.locals) :
    ∃ T' h' L, Stand p l e R s m args below meth c T' L cells slots ∧ T'.heap = h' ∧ Fr n0 L ∧ Keep h h' [b] ∧ own_B Z h' b z' ∧
      ∀ target, Steps p.tables e below (T'.setTop { g with pc := g.pc + 3, stack := rest }) target → Steps p.tables e below (T.setTop g) target := by
  obtain ⟨k, vs, VA⟩ := A
  obtain ⟨k', vd, VB⟩ := B
  obtain ⟨⟨q1, q2, q3⟩, q4, q5⟩ := q
  have n1 := own_nat q1
  have n2 := own_nat q2
  have n3 := own_nat q3
  have n4 := own_nat (x := z) (by omega)
  have n5 := own_nat (x := z') (by omega)
  have VB' : Arv Z h b k' .byte z' (vd ++ List.replicate (dp.toNatClampNeg + nn.toNatClampNeg) (.int 0)) (.int 0) := VB.pad fun i => by
    simp only [List.getD_eq_getElem?_getD, List.getElem?_append]
    split
    · rfl
    · rename_i hi
      rw [List.getElem?_eq_none (by omega : vd.length ≤ i)]
      simp only [List.getElem?_replicate]
      split <;> rfl
  obtain ⟨T', h', L, X', e', N', K', V', st'⟩ := cpA X hx hZ hown w1 w2 w3 w4 eT VA VB' (us := (List.range nn.toNatClampNeg).map fun i => vs.getD (sp.toNatClampNeg + i) (.int 0)) (Or.inl ⟨rfl, rfl⟩) n1.1 n2.1 n3.1 (by omega) (by omega) rfl (by simp) N ge hg hsize hs hd hf hW hlo
  exact ⟨T', h', L, X', e', N', K', ⟨_, _, V'⟩, st'⟩
end
theorem own_B.new {Z : State} {h : Heap} {a : Addr} {k : ClassId} {z : Int32} (A : Arr Z h a (newA k .byte z) .byte) (q : ¬ z < 0) : own_B Z h a z := ⟨_, _, Arv.new A q⟩
theorem own_r3c {x : Int32} (h : 0 ≤ x.toInt ∧ x.toInt ≤ 3) : x = 0 ∨ x = 1 ∨ x = 2 ∨ x = 3 := by
  have h2 : x.toInt = 0 ∨ x.toInt = 1 ∨ x.toInt = 2 ∨ x.toInt = 3 := by omega
  rcases h2 with q | q | q | q
  · exact Or.inl (Int32.toInt_inj.mp q)
  · exact Or.inr (Or.inl (Int32.toInt_inj.mp q))
  · exact Or.inr (Or.inr (Or.inl (Int32.toInt_inj.mp q)))
  · exact Or.inr (Or.inr (Or.inr (Int32.toInt_inj.mp q)))
theorem own_addsub (x y : Int32) : (x + y) - x = y := by
  apply Int32.toInt_inj.mp
  have a := c_iadd x y
  have b := c_isub (x + y) x
  have r1 := rng32 (x + y - x)
  have r2 := rng32 y
  omega
theorem own_mod5 (p : Int32) : (p &&& (2147483647 : Int32)) % (5 : Int32) = (0 : Int32) ∨ (p &&& (2147483647 : Int32)) % (5 : Int32) = (1 : Int32) ∨ (p &&& (2147483647 : Int32)) % (5 : Int32) = (2 : Int32) ∨ (p &&& (2147483647 : Int32)) % (5 : Int32) = (3 : Int32) ∨ (p &&& (2147483647 : Int32)) % (5 : Int32) = (4 : Int32) := by
  have h := (c_irem (p &&& 2147483647) 5 5 rfl).1 (c_and p 2147483647 (by decide)).1
  have h2 : ((p &&& (2147483647 : Int32)) % (5 : Int32)).toInt = 0 ∨ ((p &&& (2147483647 : Int32)) % (5 : Int32)).toInt = 1 ∨ ((p &&& (2147483647 : Int32)) % (5 : Int32)).toInt = 2 ∨ ((p &&& (2147483647 : Int32)) % (5 : Int32)).toInt = 3 ∨ ((p &&& (2147483647 : Int32)) % (5 : Int32)).toInt = 4 := by omega
  rcases h2 with q | q | q | q | q
  · exact Or.inl (Int32.toInt_inj.mp q)
  · exact Or.inr (Or.inl (Int32.toInt_inj.mp q))
  · exact Or.inr (Or.inr (Or.inl (Int32.toInt_inj.mp q)))
  · exact Or.inr (Or.inr (Or.inr (Or.inl (Int32.toInt_inj.mp q))))
  · exact Or.inr (Or.inr (Or.inr (Or.inr ((Int32.toInt_inj.mp q)))))
theorem own_and3 (x : Int32) : 0 ≤ (x &&& (3 : Int32)).toInt ∧ (x &&& (3 : Int32)).toInt ≤ 3 := c_and x 3 (by decide)
theorem own_mb (x : Int32) : 0 ≤ (x &&& (15 : Int32)).toInt ∧ (x &&& (15 : Int32)).toInt ≤ 15 := c_and x 15 (by decide)
theorem own_mn (x : Int32) : 2 ≤ ((2 : Int32) + (x &&& (3 : Int32))).toInt ∧ ((2 : Int32) + (x &&& (3 : Int32))).toInt ≤ 5 := by
  have a := own_and3 x
  have b := c_iadd 2 (x &&& (3 : Int32))
  have r := rng32 ((2 : Int32) + (x &&& (3 : Int32)))
  have e : (2 : Int32).toInt = 2 := by decide
  omega
abbrev cS0 : String := "com/example/measurewright/measurewright/cli/NameBatch"
theorem d8_0 : decode jdk_29_method_69_code 0 = .ok (.iload_n 0, 1) := by decide +kernel
theorem d8_1 : decode jdk_29_method_69_code 1 = .ok (.iload_n 1, 1) := by decide +kernel
theorem d8_2 : decode jdk_29_method_69_code 2 = .ok (.if_icmp .gt 7, 3) := by decide +kernel
theorem d8_9 : decode jdk_29_method_69_code 9 = .ok (.iload_n 1, 1) := by decide +kernel
theorem d8_10 : decode jdk_29_method_69_code 10 = .ok (.ireturn, 1) := by decide +kernel
theorem ef_8 (m : MethodId) (x0 : Int32) (x1 : Int32) : entryFrame m #[(.int x0), (.int x1)] 2 = mkF m 0 #[.val (.int x0), .val (.int x1)] [] := by first | (simp [entryFrame, mkF, argsToLocals, Value.category]; done) | rfl
def Q_8_t (Z : State) (p0 p1 : Int32) (h0 : Heap) (n0 : Nat) (v : Option Value) (h : Heap) (L : List Loc) : Prop := v = some (.int p1) ∧ Fr n0 L ∧ h = h0
theorem rm8_t (l : Launch) (Z : State) (a0 : Array Value) (hw : own_HW a0 Z) (ws : List Jvm.Cond) (p0 p1 : Int32) (h0 : Heap) (n0 : Nat) (Z0 : n0 ≤ h0.size) (hc2 : p1 < p0) :
    own_M l Z (⟨"java/lang/Math", "min", "(II)I"⟩ : MethodName) jdk_29_method_69_code 2 (some .int) ws ({ frames := 0, cells := 0, slots := 0, locals := 0 } : Room) #[(.int p0), (.int p1)] h0 (Q_8_t Z p0 p1 h0 n0) := by
  refine own_in "java/lang/Math" rfl (Jvm.Free.JP.mathPlain rfl (by decide +kernel)) ?_
  intro p e s m below meth c s₁ Bd hml hZ hh hx hby hown X0 e0
  have N0 := Fr.nil n0
  refine own_start (ef_8 m p0 p1) ?_
  refine own_by (fun t q => oIn X0 hx hby d8_0 rfl (oIn X0 hx hby d8_1 rfl (oJy X0 hx hby 2 9 d8_2 (tlt hc2).2.2.1 (by decide) (by decide) (oIn X0 hx hby d8_9 rfl q)))) ?_
  refine own_out X0 Bd.notSynchronized Bd.returns (some (.int p1)) nofun (by decide) (by decide) ?_ fun fs hr => ?_
  · rw [e0]; exact ⟨rfl, N0, rfl⟩
  · exact retI X0 hx Bd.returns (hb hby d8_10) hr
theorem d8_5 : decode jdk_29_method_69_code 5 = .ok (.iload_n 0, 1) := by decide +kernel
theorem d8_6 : decode jdk_29_method_69_code 6 = .ok (.goto 4, 3) := by decide +kernel
def Q_8_f (Z : State) (p0 p1 : Int32) (h0 : Heap) (n0 : Nat) (v : Option Value) (h : Heap) (L : List Loc) : Prop := v = some (.int p0) ∧ Fr n0 L ∧ h = h0
theorem rm8_f (l : Launch) (Z : State) (a0 : Array Value) (hw : own_HW a0 Z) (ws : List Jvm.Cond) (p0 p1 : Int32) (h0 : Heap) (n0 : Nat) (Z0 : n0 ≤ h0.size) (hc2 : ¬ (p1 < p0)) :
    own_M l Z (⟨"java/lang/Math", "min", "(II)I"⟩ : MethodName) jdk_29_method_69_code 2 (some .int) ws ({ frames := 0, cells := 0, slots := 0, locals := 0 } : Room) #[(.int p0), (.int p1)] h0 (Q_8_f Z p0 p1 h0 n0) := by
  refine own_in "java/lang/Math" rfl (Jvm.Free.JP.mathPlain rfl (by decide +kernel)) ?_
  intro p e s m below meth c s₁ Bd hml hZ hh hx hby hown X0 e0
  have N0 := Fr.nil n0
  refine own_start (ef_8 m p0 p1) ?_
  refine own_by (fun t q => oIn X0 hx hby d8_0 rfl (oIn X0 hx hby d8_1 rfl (oJn X0 hx hby d8_2 (flt hc2).2.2.1 (oIn X0 hx hby d8_5 rfl (oGo X0 hx hby 6 10 d8_6 (by decide) (by decide) q))))) ?_
  refine own_out X0 Bd.notSynchronized Bd.returns (some (.int p0)) nofun (by decide) (by decide) ?_ fun fs hr => ?_
  · rw [e0]; exact ⟨rfl, N0, rfl⟩
  · exact retI X0 hx Bd.returns (hb hby d8_10) hr
def Q_8_e (Z : State) (p0 p1 : Int32) (h0 : Heap) (n0 : Nat) (v : Option Value) (h : Heap) (L : List Loc) : Prop := ∃ rr : Int32, v = some (.int rr) ∧ Fr n0 L ∧ h = h0 ∧ (rr.toInt ≤ p0.toInt ∧ rr.toInt ≤ p1.toInt) ∧ (rr.toInt = p0.toInt ∨ rr.toInt = p1.toInt)
theorem rm8_e (l : Launch) (Z : State) (a0 : Array Value) (hw : own_HW a0 Z) (ws : List Jvm.Cond) (p0 p1 : Int32) (h0 : Heap) (n0 : Nat) (Z0 : n0 ≤ h0.size) :
    own_M l Z (⟨"java/lang/Math", "min", "(II)I"⟩ : MethodName) jdk_29_method_69_code 2 (some .int) ws ({ frames := 0, cells := 0, slots := 0, locals := 0 } : Room) #[(.int p0), (.int p1)] h0 (Q_8_e Z p0 p1 h0 n0) := by
  refine own_in "java/lang/Math" rfl (Jvm.Free.JP.mathPlain rfl (by decide +kernel)) ?_
  intro p e s m below meth c s₁ Bd hml hZ hh hx hby hown X0 e0
  have N0 := Fr.nil n0
  refine own_start (ef_8 m p0 p1) ?_
  refine own_by (fun t q => oIn X0 hx hby d8_0 rfl (oIn X0 hx hby d8_1 rfl q)) ?_
  by_cases hc2_1 : p1 < p0
  · refine own_by (fun t q => oJy X0 hx hby 2 9 d8_2 (tlt hc2_1).2.2.1 (by decide) (by decide) (oIn X0 hx hby d8_9 rfl q)) ?_
    refine own_out X0 Bd.notSynchronized Bd.returns (some (.int p1)) nofun (by decide) (by decide) ?_ fun fs hr => ?_
    · rw [e0]; exact ⟨p1, rfl, N0, rfl, (by have w0 := own_lits; have v0 := own_ltm hc2_1; omega)⟩
    · exact retI X0 hx Bd.returns (hb hby d8_10) hr
  · refine own_by (fun t q => oJn X0 hx hby d8_2 (flt hc2_1).2.2.1 (oIn X0 hx hby d8_5 rfl (oGo X0 hx hby 6 10 d8_6 (by decide) (by decide) q))) ?_
    refine own_out X0 Bd.notSynchronized Bd.returns (some (.int p0)) nofun (by decide) (by decide) ?_ fun fs hr => ?_
    · rw [e0]; exact ⟨p0, rfl, N0, rfl, (by have w0 := own_lits; have v0 := own_nlt hc2_1; omega)⟩
    · exact retI X0 hx Bd.returns (hb hby d8_10) hr
theorem d13_0 : decode jdk_65_method_30_code 0 = .ok (.iload_n 1, 1) := by decide +kernel
theorem d13_1 : decode jdk_65_method_30_code 1 = .ok (.iload_n 2, 1) := by decide +kernel
theorem d13_2 : decode jdk_65_method_30_code 2 = .ok (.if_icmp .le 44, 3) := by decide +kernel
theorem d13_46 : decode jdk_65_method_30_code 46 = .ok (.iload_n 1, 1) := by decide +kernel
theorem d13_47 : decode jdk_65_method_30_code 47 = .ok (.ifCond .ge 12, 3) := by decide +kernel
theorem d13_59 : decode jdk_65_method_30_code 59 = .ok (.iload_n 2, 1) := by decide +kernel
theorem d13_60 : decode jdk_65_method_30_code 60 = .ok (.iload_n 0, 1) := by decide +kernel
theorem d13_61 : decode jdk_65_method_30_code 61 = .ok (.if_icmp .le 12, 3) := by decide +kernel
theorem d13_73 : decode jdk_65_method_30_code 73 = .ok (.return_, 1) := by decide +kernel
theorem pn_java_util_Arrays : plainName "java/util/Arrays" = true := by first | (simp [plainName, overriddenIn]; done) | decide +kernel
theorem ef_13 (m : MethodId) (x0 : Int32) (x1 : Int32) (x2 : Int32) : entryFrame m #[(.int x0), (.int x1), (.int x2)] 3 = mkF m 0 #[.val (.int x0), .val (.int x1), .val (.int x2)] [] := by first | (simp [entryFrame, mkF, argsToLocals, Value.category]; done) | rfl
def Q_13 (Z : State) (p0 p1 p2 : Int32) (h0 : Heap) (n0 : Nat) (v : Option Value) (h : Heap) (L : List Loc) : Prop := v = none ∧ Fr n0 L ∧ h = h0
theorem rm13 (l : Launch) (Z : State) (a0 : Array Value) (hw : own_HW a0 Z) (ws : List Jvm.Cond) (p0 p1 p2 : Int32) (h0 : Heap) (n0 : Nat) (Z0 : n0 ≤ h0.size) (hp0 : 0 ≤ p1.toInt ∧ p1.toInt ≤ p2.toInt ∧ p2.toInt ≤ p0.toInt) :
    own_M l Z (⟨"java/util/Arrays", "rangeCheck", "(III)V"⟩ : MethodName) jdk_65_method_30_code 3 none ws ({ frames := 0, cells := 0, slots := 0, locals := 0 } : Room) #[(.int p0), (.int p1), (.int p2)] h0 (Q_13 Z p0 p1 p2 h0 n0) := by
  refine own_in "java/util/Arrays" rfl (plainFor_of_name pn_java_util_Arrays) ?_
  intro p e s m below meth c s₁ Bd hml hZ hh hx hby hown X0 e0
  have N0 := Fr.nil n0
  refine own_start (ef_13 m p0 p1 p2) ?_
  refine own_by (fun t q => oIn X0 hx hby d13_0 rfl (oIn X0 hx hby d13_1 rfl (oJy X0 hx hby 2 46 d13_2 (flt (by rw [Int32.lt_iff_toInt_lt]; have w0 := own_lits; omega)).2.2.2 (by decide) (by decide) (oIn X0 hx hby d13_46 rfl (XS.ifYes X0.here hx rfl (pc0 := 47) (pc' := 59) rfl (hb hby d13_47) rfl ((if0 _ _).trans (flt (show ¬ (p1 < (0 : Int32)) from (by rw [Int32.lt_iff_toInt_lt]; have w0 := own_lits; omega))).2.1) (by decide) (by decide) (oIn X0 hx hby d13_59 rfl q)))))) ?_
  refine own_by (fun t q => oIn X0 hx hby d13_60 rfl (oJy X0 hx hby 61 73 d13_61 (flt (by rw [Int32.lt_iff_toInt_lt]; have w0 := own_lits; omega)).2.2.2 (by decide) (by decide) q)) ?_
  refine own_out X0 Bd.notSynchronized Bd.returns (none) (fun _ => rfl) (by decide) (by decide) ?_ fun fs hr => ?_
  · rw [e0]; exact ⟨rfl, N0, rfl⟩
  · exact X0.returnOut hx Bd.returns (hb hby d13_73) hr
theorem d17_0 : decode jdk_65_method_131_code 0 = .ok (.iload_n 1, 1) := by decide +kernel
theorem d17_1 : decode jdk_65_method_131_code 1 = .ok (.iload_n 0, 1) := by decide +kernel
theorem d17_2 : decode jdk_65_method_131_code 2 = .ok (.if_icmp .ge 35, 3) := by decide +kernel
theorem d17_37 : decode jdk_65_method_131_code 37 = .ok (.return_, 1) := by decide +kernel
theorem ef_17 (m : MethodId) (x0 : Int32) (x1 : Int32) : entryFrame m #[(.int x0), (.int x1)] 2 = mkF m 0 #[.val (.int x0), .val (.int x1)] [] := by first | (simp [entryFrame, mkF, argsToLocals, Value.category]; done) | rfl
def Q_17 (Z : State) (p0 p1 : Int32) (h0 : Heap) (n0 : Nat) (v : Option Value) (h : Heap) (L : List Loc) : Prop := v = none ∧ Fr n0 L ∧ h = h0
theorem rm17 (l : Launch) (Z : State) (a0 : Array Value) (hw : own_HW a0 Z) (ws : List Jvm.Cond) (p0 p1 : Int32) (h0 : Heap) (n0 : Nat) (Z0 : n0 ≤ h0.size) (hp0 : p0.toInt ≤ p1.toInt) :
    own_M l Z (⟨"java/util/Arrays", "checkLength", "(II)V"⟩ : MethodName) jdk_65_method_131_code 2 none ws ({ frames := 0, cells := 0, slots := 0, locals := 0 } : Room) #[(.int p0), (.int p1)] h0 (Q_17 Z p0 p1 h0 n0) := by
  refine own_in "java/util/Arrays" rfl (plainFor_of_name pn_java_util_Arrays) ?_
  intro p e s m below meth c s₁ Bd hml hZ hh hx hby hown X0 e0
  have N0 := Fr.nil n0
  refine own_start (ef_17 m p0 p1) ?_
  refine own_by (fun t q => oIn X0 hx hby d17_0 rfl (oIn X0 hx hby d17_1 rfl (oJy X0 hx hby 2 37 d17_2 (flt (by rw [Int32.lt_iff_toInt_lt]; have w0 := own_lits; omega)).2.1 (by decide) (by decide) q))) ?_
  refine own_out X0 Bd.notSynchronized Bd.returns (none) (fun _ => rfl) (by decide) (by decide) ?_ fun fs hr => ?_
  · rw [e0]; exact ⟨rfl, N0, rfl⟩
  · exact X0.returnOut hx Bd.returns (hb hby d17_37) hr
theorem d19_0 : decode jdk_2056_method_24_code 0 = .ok (.iload_n 0, 1) := by decide +kernel
theorem d19_1 : decode jdk_2056_method_24_code 1 = .ok (.sipush 255, 3) := by decide +kernel
theorem d19_4 : decode jdk_2056_method_24_code 4 = .ok (.iand, 1) := by decide +kernel
theorem d19_5 : decode jdk_2056_method_24_code 5 = .ok (.ireturn, 1) := by decide +kernel
theorem pn_java_lang_Byte : plainName "java/lang/Byte" = true := by first | (simp [plainName, overriddenIn]; done) | decide +kernel
theorem ef_19 (m : MethodId) (x0 : Int32) : entryFrame m #[(.int x0)] 1 = mkF m 0 #[.val (.int x0)] [] := by first | (simp [entryFrame, mkF, argsToLocals, Value.category]; done) | rfl
def Q_19 (Z : State) (p0 : Int32) (h0 : Heap) (n0 : Nat) (v : Option Value) (h : Heap) (L : List Loc) : Prop := v = some (.int (p0 &&& (255 : Int32))) ∧ Fr n0 L ∧ h = h0
theorem rm19 (l : Launch) (Z : State) (a0 : Array Value) (hw : own_HW a0 Z) (ws : List Jvm.Cond) (p0 : Int32) (h0 : Heap) (n0 : Nat) (Z0 : n0 ≤ h0.size) :
    own_M l Z (⟨"java/lang/Byte", "toUnsignedInt", "(B)I"⟩ : MethodName) jdk_2056_method_24_code 1 (some .int) ws ({ frames := 0, cells := 0, slots := 0, locals := 0 } : Room) #[(.int p0)] h0 (Q_19 Z p0 h0 n0) := by
  refine own_in "java/lang/Byte" rfl (plainFor_of_name pn_java_lang_Byte) ?_
  intro p e s m below meth c s₁ Bd hml hZ hh hx hby hown X0 e0
  have N0 := Fr.nil n0
  refine own_start (ef_19 m p0) ?_
  refine own_by (fun t q => oIn X0 hx hby d19_0 rfl (XS.sipush X0.here hx rfl (hb hby d19_1) (XS.iand X0.here hx rfl (hb hby d19_4) rfl q))) ?_
  refine own_out X0 Bd.notSynchronized Bd.returns (some (.int (p0 &&& (255 : Int32)))) nofun (by decide) (by decide) ?_ fun fs hr => ?_
  · rw [e0]; exact ⟨rfl, N0, rfl⟩
  · exact retI X0 hx Bd.returns (hb hby d19_5) hr
theorem pd_0 : parseMethodDescriptor "(B)I" = some ⟨[.byte], some .int⟩ := by decide +kernel
theorem d18_0 : decode jdk_2056_method_23_code 0 = .ok (.iload_n 0, 1) := by decide +kernel
theorem d18_1 : decode jdk_2056_method_23_code 1 = .ok (.invokestatic 116, 3) := by decide +kernel
theorem d18_4 : decode jdk_2056_method_23_code 4 = .ok (.iload_n 1, 1) := by decide +kernel
theorem d18_5 : decode jdk_2056_method_23_code 5 = .ok (.invokestatic 116, 3) := by decide +kernel
theorem d18_8 : decode jdk_2056_method_23_code 8 = .ok (.isub, 1) := by decide +kernel
theorem d18_9 : decode jdk_2056_method_23_code 9 = .ok (.ireturn, 1) := by decide +kernel
theorem ef_18 (m : MethodId) (x0 : Int32) (x1 : Int32) : entryFrame m #[(.int x0), (.int x1)] 2 = mkF m 0 #[.val (.int x0), .val (.int x1)] [] := by first | (simp [entryFrame, mkF, argsToLocals, Value.category]; done) | rfl
def Q_18 (Z : State) (p0 p1 : Int32) (h0 : Heap) (n0 : Nat) (v : Option Value) (h : Heap) (L : List Loc) : Prop := v = some (.int ((p0 &&& (255 : Int32)) - (p1 &&& (255 : Int32)))) ∧ Fr n0 L ∧ h = h0
theorem rm18 (l : Launch) (Z : State) (a0 : Array Value) (hw : own_HW a0 Z) (ws : List Jvm.Cond) (p0 p1 : Int32) (h0 : Heap) (n0 : Nat) (Z0 : n0 ≤ h0.size) :
    own_M l Z (⟨"java/lang/Byte", "compareUnsigned", "(BB)I"⟩ : MethodName) jdk_2056_method_23_code 2 (some .int) ws ({ frames := 1, cells := 0, slots := 0, locals := 13 } : Room) #[(.int p0), (.int p1)] h0 (Q_18 Z p0 p1 h0 n0) := by
  refine own_in "java/lang/Byte" rfl (plainFor_of_name pn_java_lang_Byte) ?_
  intro p e s m below meth c s₁ Bd hml hZ hh hx hby hown X0 e0
  have N0 := Fr.nil n0
  refine own_start (ef_18 m p0 p1) ?_
  refine own_by (fun t q => oIn X0 hx hby d18_0 rfl q) ?_
  refine own_cK 0 (rm19 l Z a0 hw [] p0 h0 n0 Z0 ) X0 hx hZ hown hw 100 101 98 102 rfl rfl rfl rfl [(.int p0)] [] hby d18_1 hml (lenOf pd_0 rfl) e0 rfl (Nat.le_refl _) (by decide) fun _ T1 L1 X1 hQ1 => ?_
  obtain ⟨rfl, N1q, e1⟩ := hQ1
  have N1 := Fr.app N0 N1q
  refine own_by (fun t q => oIn X1 hx hby d18_4 rfl q) ?_
  refine own_cK 1 (rm19 l Z a0 hw [] p1 h0 n0 Z0 ) X1 hx hZ hown hw 100 101 98 102 rfl rfl rfl rfl [(.int p1)] [(.int (p0 &&& (255 : Int32)))] hby d18_5 hml (lenOf pd_0 rfl) e1 rfl (Nat.le_refl _) (by decide) fun _ T2 L2 X2 hQ2 => ?_
  obtain ⟨rfl, N2q, e2⟩ := hQ2
  have N2 := Fr.app N1 N2q
  refine own_by (fun t q => XS.isub X2.here hx rfl (hb hby d18_8) rfl q) ?_
  refine own_out X2 Bd.notSynchronized Bd.returns (some (.int ((p0 &&& (255 : Int32)) - (p1 &&& (255 : Int32))))) nofun (by decide) (by decide) ?_ fun fs hr => ?_
  · rw [e2]; exact ⟨rfl, N2, rfl⟩
  · exact retI X2 hx Bd.returns (hb hby d18_9) hr
theorem d3_0 : decode prog_6_method_4_code 0 = .ok (.aload_n 0, 1) := by decide +kernel
theorem d3_1 : decode prog_6_method_4_code 1 = .ok (.getfield 36, 3) := by decide +kernel
theorem d3_4 : decode prog_6_method_4_code 4 = .ok (.ifnull 7, 3) := by decide +kernel
theorem d3_11 : decode prog_6_method_4_code 11 = .ok (.iconst 0, 1) := by decide +kernel
theorem d3_12 : decode prog_6_method_4_code 12 = .ok (.ireturn, 1) := by decide +kernel
theorem pn_com_example_measurewright_measurewright_cli_NameBatch : plainName cS0 = true := by first | (simp [plainName, overriddenIn]; done) | decide +kernel
theorem ef_3 (m : MethodId) (x0 : Addr) : entryFrame m #[(.ref x0)] 1 = mkF m 0 #[.val (.ref x0)] [] := by first | (simp [entryFrame, mkF, argsToLocals, Value.category]; done) | rfl
def Q_3_n (Z : State) (r0 : Addr) (h0 : Heap) (n0 : Nat) (v : Option Value) (h : Heap) (L : List Loc) : Prop := v = some (.int 0) ∧ Fr n0 L ∧ h = h0
theorem rm3_n (l : Launch) (Z : State) (a0 : Array Value) (hw : own_HW a0 Z) (ws : List Jvm.Cond) (r0 : Addr) (h0 : Heap) (n0 : Nat) (Z0 : n0 ≤ h0.size) (F_limit_r0 : Fld Z h0 r0 cS0 "limit" "[B" .null) :
    own_M l Z (⟨cS0, "letAnyGo", "()Z"⟩ : MethodName) prog_6_method_4_code 1 (some .boolean) ws ({ frames := 0, cells := 0, slots := 0, locals := 0 } : Room) #[(.ref r0)] h0 (Q_3_n Z r0 h0 n0) := by
  refine own_in cS0 rfl (plainFor_of_name pn_com_example_measurewright_measurewright_cli_NameBatch) ?_
  intro p e s m below meth c s₁ Bd hml hZ hh hx hby hown X0 e0
  have N0 := Fr.nil n0
  refine own_start (ef_3 m r0) ?_
  refine own_aF X0 hx hZ hown hw 29 rfl e0 F_limit_r0 hby d3_0 rfl d3_1 fun T1 X1 e1 => ?_
  refine own_by (fun t q => XS.ifnullYes X1.here hx rfl (pc0 := 4) (pc' := 11) rfl (hb hby d3_4) rfl (by decide) (by decide) (oIc X1 hx hby d3_11 q)) ?_
  refine own_out X1 Bd.notSynchronized Bd.returns (some (.int 0)) nofun (by decide) (by decide) ?_ fun fs hr => ?_
  · rw [e1]; exact ⟨rfl, N0, rfl⟩
  · exact retN X1 hx (t := .boolean) Bd.returns (by simp) (hb hby d3_12) hr
theorem d3_7 : decode prog_6_method_4_code 7 = .ok (.iconst 1, 1) := by decide +kernel
theorem d3_8 : decode prog_6_method_4_code 8 = .ok (.goto 4, 3) := by decide +kernel
def Q_3_y (Z : State) (r0 lim : Addr) (h0 : Heap) (n0 : Nat) (v : Option Value) (h : Heap) (L : List Loc) : Prop := v = some (.int 1) ∧ Fr n0 L ∧ h = h0
theorem rm3_y (l : Launch) (Z : State) (a0 : Array Value) (hw : own_HW a0 Z) (ws : List Jvm.Cond) (r0 lim : Addr) (h0 : Heap) (n0 : Nat) (Z0 : n0 ≤ h0.size) (F_limit_r0 : Fld Z h0 r0 cS0 "limit" "[B" (.ref lim)) :
    own_M l Z (⟨cS0, "letAnyGo", "()Z"⟩ : MethodName) prog_6_method_4_code 1 (some .boolean) ws ({ frames := 0, cells := 0, slots := 0, locals := 0 } : Room) #[(.ref r0)] h0 (Q_3_y Z r0 lim h0 n0) := by
  refine own_in cS0 rfl (plainFor_of_name pn_com_example_measurewright_measurewright_cli_NameBatch) ?_
  intro p e s m below meth c s₁ Bd hml hZ hh hx hby hown X0 e0
  have N0 := Fr.nil n0
  refine own_start (ef_3 m r0) ?_
  refine own_aF X0 hx hZ hown hw 29 rfl e0 F_limit_r0 hby d3_0 rfl d3_1 fun T1 X1 e1 => ?_
  refine own_by (fun t q => XS.ifnullNo X1.here hx rfl (hb hby d3_4) rfl (oIc X1 hx hby d3_7 (oGo X1 hx hby 8 12 d3_8 (by decide) (by decide) q))) ?_
  refine own_out X1 Bd.notSynchronized Bd.returns (some (.int 1)) nofun (by decide) (by decide) ?_ fun fs hr => ?_
  · rw [e1]; exact ⟨rfl, N0, rfl⟩
  · exact retN X1 hx (t := .boolean) Bd.returns (by simp) (hb hby d3_12) hr
theorem sn_0 {Z : State} {a0 : Array Value} (hw : own_HW a0 Z) : Jvm.RoadKit.slotOf Z cS0 "used" "I" ≠ Jvm.RoadKit.slotOf Z cS0 "count" "I" := slot_ne (Or.inl (own_at hw 39 rfl)) (Or.inl (own_at hw 37 rfl)) (by decide) (t := .int) (t' := .int) (by decide) (by decide)
theorem sn_1 {Z : State} {a0 : Array Value} (hw : own_HW a0 Z) : Jvm.RoadKit.slotOf Z cS0 "limit" "[B" ≠ Jvm.RoadKit.slotOf Z cS0 "count" "I" := slot_ne (Or.inl (own_at hw 30 rfl)) (Or.inl (own_at hw 37 rfl)) (by decide) (t := (.array .byte)) (t' := .int) (by decide) (by decide)
theorem sn_2 {Z : State} {a0 : Array Value} (hw : own_HW a0 Z) : Jvm.RoadKit.slotOf Z cS0 "limit" "[B" ≠ Jvm.RoadKit.slotOf Z cS0 "used" "I" := slot_ne (Or.inl (own_at hw 30 rfl)) (Or.inl (own_at hw 39 rfl)) (by decide) (t := (.array .byte)) (t' := .int) (by decide) (by decide)
theorem d4_0 : decode prog_6_method_2_code 0 = .ok (.aload_n 0, 1) := by decide +kernel
theorem d4_1 : decode prog_6_method_2_code 1 = .ok (.iconst 0, 1) := by decide +kernel
theorem d4_2 : decode prog_6_method_2_code 2 = .ok (.putfield 30, 3) := by decide +kernel
theorem d4_5 : decode prog_6_method_2_code 5 = .ok (.aload_n 0, 1) := by decide +kernel
theorem d4_6 : decode prog_6_method_2_code 6 = .ok (.iconst 0, 1) := by decide +kernel
theorem d4_7 : decode prog_6_method_2_code 7 = .ok (.putfield 33, 3) := by decide +kernel
theorem d4_10 : decode prog_6_method_2_code 10 = .ok (.aload_n 0, 1) := by decide +kernel
theorem d4_11 : decode prog_6_method_2_code 11 = .ok (.aconst_null, 1) := by decide +kernel
theorem d4_12 : decode prog_6_method_2_code 12 = .ok (.putfield 36, 3) := by decide +kernel
theorem d4_15 : decode prog_6_method_2_code 15 = .ok (.return_, 1) := by decide +kernel
theorem ef_4 (m : MethodId) (x0 : Addr) : entryFrame m #[(.ref x0)] 1 = mkF m 0 #[.val (.ref x0)] [] := by first | (simp [entryFrame, mkF, argsToLocals, Value.category]; done) | rfl
def Q_4 (Z : State) (r0 : Addr) (u_count_r0 u_used_r0 u_limit_r0 : Value) (h0 : Heap) (n0 : Nat) (v : Option Value) (h : Heap) (L : List Loc) : Prop := v = none ∧ Fr n0 L ∧ Keep h0 h [r0] ∧ Fld Z h r0 cS0 "limit" "[B" .null
theorem rm4 (l : Launch) (Z : State) (a0 : Array Value) (hw : own_HW a0 Z) (ws : List Jvm.Cond) (r0 : Addr) (u_count_r0 u_used_r0 u_limit_r0 : Value) (h0 : Heap) (n0 : Nat) (Z0 : n0 ≤ h0.size) (E_r0 : Exa Z h0 r0 cS0) (F_count_r0 : Fld Z h0 r0 cS0 "count" "I" u_count_r0) (ge_r0 : n0 ≤ r0) (F_used_r0 : Fld Z h0 r0 cS0 "used" "I" u_used_r0) (F_limit_r0 : Fld Z h0 r0 cS0 "limit" "[B" u_limit_r0) :
    own_M l Z (⟨cS0, "clear", "()V"⟩ : MethodName) prog_6_method_2_code 1 none ws ({ frames := 0, cells := 0, slots := 0, locals := 0 } : Room) #[(.ref r0)] h0 (Q_4 Z r0 u_count_r0 u_used_r0 u_limit_r0 h0 n0) := by
  refine own_in cS0 rfl (plainFor_of_name pn_com_example_measurewright_measurewright_cli_NameBatch) ?_
  intro p e s m below meth c s₁ Bd hml hZ hh hx hby hown X0 e0
  have N0 := Fr.nil n0
  refine own_start (ef_4 m r0) ?_
  refine own_by (fun t q => oAn X0 hx hby d4_0 rfl rfl (oIc X0 hx hby d4_1 q)) ?_
  refine own_pF X0 hx hZ hown hw 36 37 3 rfl rfl rfl e0 F_count_r0 E_r0 (ty := .int) (by decide) rfl rfl N0 ge_r0 hby d4_2 fun T1 h1 X1 e1 W1 Fw1 N1 => ?_
  have f2 := (E_r0.wr W1)
  have f3 := (F_used_r0.other W1 (Or.inr (sn_0 hw)))
  refine own_by (fun t q => oAn X1 hx hby d4_5 rfl rfl (oIc X1 hx hby d4_6 q)) ?_
  refine own_pF X1 hx hZ hown hw 38 39 3 rfl rfl rfl e1 f3 f2 (ty := .int) (by decide) rfl rfl N1 ge_r0 hby d4_7 fun T4 h4 X4 e4 W4 Fw4 N4 => ?_
  have f5 := (f2.wr W4)
  have f6 := ((F_limit_r0.other W1 (Or.inr (sn_1 hw))).other W4 (Or.inr (sn_2 hw)))
  refine own_by (fun t q => oAn X4 hx hby d4_10 rfl rfl (XS.aconstNull X4.here hx rfl (hb hby d4_11) q)) ?_
  refine own_pF X4 hx hZ hown hw 29 30 3 rfl rfl rfl e4 f6 f5 (ty := (.array .byte)) (by decide) rfl rfl N4 ge_r0 hby d4_12 fun T7 h7 X7 e7 W7 Fw7 N7 => ?_
  refine own_out X7 Bd.notSynchronized Bd.returns (none) (fun _ => rfl) (by decide) (by decide) ?_ fun fs hr => ?_
  · rw [e7]; exact ⟨rfl, N7, ((((Keep.refl h0 [r0]).wr W1 (Or.inl (List.mem_of_getElem? (i := 0) rfl))).wr W4 (Or.inl (List.mem_of_getElem? (i := 0) rfl))).wr W7 (Or.inl (List.mem_of_getElem? (i := 0) rfl))), Fw7⟩
  · exact X7.returnOut hx Bd.returns (hb hby d4_15) hr
theorem d14_0 : decode jdk_48_method_14_code 0 = .ok (.iconst 0, 1) := by decide +kernel
theorem d14_1 : decode jdk_48_method_14_code 1 = .ok (.istore 5, 2) := by decide +kernel
theorem d14_3 : decode jdk_48_method_14_code 3 = .ok (.iload 4, 2) := by decide +kernel
theorem d14_5 : decode jdk_48_method_14_code 5 = .ok (.bipush 7, 2) := by decide +kernel
theorem d14_7 : decode jdk_48_method_14_code 7 = .ok (.if_icmp .le 63, 3) := by decide +kernel
theorem d14_70 : decode jdk_48_method_14_code 70 = .ok (.iload 5, 2) := by decide +kernel
theorem d14_72 : decode jdk_48_method_14_code 72 = .ok (.iload 4, 2) := by decide +kernel
theorem d14_74 : decode jdk_48_method_14_code 74 = .ok (.if_icmp .ge 27, 3) := by decide +kernel
theorem d14_77 : decode jdk_48_method_14_code 77 = .ok (.aload_n 0, 1) := by decide +kernel
theorem d14_78 : decode jdk_48_method_14_code 78 = .ok (.iload_n 1, 1) := by decide +kernel
theorem d14_79 : decode jdk_48_method_14_code 79 = .ok (.iload 5, 2) := by decide +kernel
theorem d14_81 : decode jdk_48_method_14_code 81 = .ok (.iadd, 1) := by decide +kernel
theorem d14_82 : decode jdk_48_method_14_code 82 = .ok (.baload, 1) := by decide +kernel
theorem d14_83 : decode jdk_48_method_14_code 83 = .ok (.aload_n 2, 1) := by decide +kernel
theorem d14_84 : decode jdk_48_method_14_code 84 = .ok (.iload_n 3, 1) := by decide +kernel
theorem d14_85 : decode jdk_48_method_14_code 85 = .ok (.iload 5, 2) := by decide +kernel
theorem d14_87 : decode jdk_48_method_14_code 87 = .ok (.iadd, 1) := by decide +kernel
theorem d14_88 : decode jdk_48_method_14_code 88 = .ok (.baload, 1) := by decide +kernel
theorem d14_89 : decode jdk_48_method_14_code 89 = .ok (.if_icmp .eq 6, 3) := by decide +kernel
theorem d14_92 : decode jdk_48_method_14_code 92 = .ok (.iload 5, 2) := by decide +kernel
theorem d14_94 : decode jdk_48_method_14_code 94 = .ok (.ireturn, 1) := by decide +kernel
theorem d14_95 : decode jdk_48_method_14_code 95 = .ok (.iinc 5 1, 3) := by decide +kernel
theorem d14_98 : decode jdk_48_method_14_code 98 = .ok (.goto (-28), 3) := by decide +kernel
theorem d14_101 : decode jdk_48_method_14_code 101 = .ok (.iconst (-1), 1) := by decide +kernel
theorem d14_102 : decode jdk_48_method_14_code 102 = .ok (.ireturn, 1) := by decide +kernel
theorem pn_jdk_internal_util_ArraysSupport : plainName "jdk/internal/util/ArraysSupport" = true := by first | (simp [plainName, overriddenIn]; done) | decide +kernel
theorem ef_14 (m : MethodId) (x0 : Addr) (x1 : Int32) (x2 : Addr) (x3 : Int32) (x4 : Int32) : entryFrame m #[(.ref x0), (.int x1), (.ref x2), (.int x3), (.int x4)] 8 = mkF m 0 #[.val (.ref x0), .val (.int x1), .val (.ref x2), .val (.int x3), .val (.int x4), .unset, .unset, .unset] [] := by first | (simp [entryFrame, mkF, argsToLocals, Value.category]; done) | rfl
def Q_14 (Z : State) (r0 : Addr) (p1 : Int32) (r2 : Addr) (p3 p4 n1 n2 : Int32) (h0 : Heap) (n0 : Nat) (v : Option Value) (h : Heap) (L : List Loc) : Prop := ∃ rr : Int32, v = some (.int rr) ∧ Fr n0 L ∧ h = h0 ∧ -1 ≤ rr.toInt ∧ rr.toInt < p4.toInt
theorem rm14 (l : Launch) (Z : State) (a0 : Array Value) (hw : own_HW a0 Z) (ws : List Jvm.Cond) (r0 : Addr) (p1 : Int32) (r2 : Addr) (p3 p4 n1 n2 : Int32) (h0 : Heap) (n0 : Nat) (Z0 : n0 ≤ h0.size) (B_r0 : own_B Z h0 r0 n1) (B_r2 : own_B Z h0 r2 n2) (hp0 : 0 ≤ p1.toInt ∧ p1.toInt + p4.toInt ≤ n1.toInt ∧ n1.toInt ≤ 4096) (hp1 : 0 ≤ p4.toInt ∧ p4.toInt ≤ 3) (hp2 : 0 ≤ p3.toInt ∧ p3.toInt + p4.toInt ≤ n2.toInt ∧ n2.toInt ≤ 4096) :
    own_M l Z (⟨"jdk/internal/util/ArraysSupport", "mismatch", "([BI[BII)I"⟩ : MethodName) jdk_48_method_14_code 8 (some .int) ws ({ frames := 0, cells := 0, slots := 0, locals := 0 } : Room) #[(.ref r0), (.int p1), (.ref r2), (.int p3), (.int p4)] h0 (Q_14 Z r0 p1 r2 p3 p4 n1 n2 h0 n0) := by
  refine own_in "jdk/internal/util/ArraysSupport" rfl (plainFor_of_name pn_jdk_internal_util_ArraysSupport) ?_
  intro p e s m below meth c s₁ Bd hml hZ hh hx hby hown X0 e0
  have N0 := Fr.nil n0
  refine own_start (ef_14 m r0 p1 r2 p3 p4) ?_
  rcases own_r3c hp1 with rfl | rfl | rfl | rfl
  · skip
    refine own_by (fun t q => oIc X0 hx hby d14_0 (XS.istore X0.here hx rfl (hb hby d14_1) rfl (l' := #[rv r0, iv p1, rv r2, iv p3, iv 0, iv 0, .unset, .unset]) rfl (oIl X0 hx hby d14_3 rfl (oBp X0 hx hby d14_5 (oJy X0 hx hby 7 70 d14_7 (flt (by decide : ¬ ((7 : Int32) < (0 : Int32)))).2.2.2 (by decide) (by decide) (oIl X0 hx hby d14_70 rfl q)))))) ?_
    refine own_by (fun t q => oIl X0 hx hby d14_72 rfl (oJy X0 hx hby 74 101 d14_74 (flt (by decide : ¬ ((0 : Int32) < (0 : Int32)))).2.1 (by decide) (by decide) (oIc X0 hx hby d14_101 q))) ?_
    refine own_out X0 Bd.notSynchronized Bd.returns (some (.int (-1))) nofun (by decide) (by decide) ?_ fun fs hr => ?_
    · rw [e0]; exact ⟨(-1 : Int32), rfl, N0, rfl, (by have w0 := own_lits; omega)⟩
    · exact retI X0 hx Bd.returns (hb hby d14_102) hr
  · skip
    obtain ⟨x1, st1⟩ := own_bld X0 hx hZ e0 B_r0 hby (p1 + (0 : Int32)) (by have w0 := own_lits; have w1a := c_iadd p1 (0 : Int32); have w1b := rng32 (p1 + (0 : Int32)); omega) (by have w0 := own_lits; have w1a := c_iadd p1 (0 : Int32); have w1b := rng32 (p1 + (0 : Int32)); omega)
    obtain ⟨x2, st2⟩ := own_bld X0 hx hZ e0 B_r2 hby (p3 + (0 : Int32)) (by have w0 := own_lits; have w1a := c_iadd p3 (0 : Int32); have w1b := rng32 (p3 + (0 : Int32)); omega) (by have w0 := own_lits; have w1a := c_iadd p3 (0 : Int32); have w1b := rng32 (p3 + (0 : Int32)); omega)
    refine own_by (fun t q => oIc X0 hx hby d14_0 (XS.istore X0.here hx rfl (hb hby d14_1) rfl (l' := #[rv r0, iv p1, rv r2, iv p3, iv 1, iv 0, .unset, .unset]) rfl (oIl X0 hx hby d14_3 rfl (oBp X0 hx hby d14_5 (oJy X0 hx hby 7 70 d14_7 (flt (by decide : ¬ ((7 : Int32) < (1 : Int32)))).2.2.2 (by decide) (by decide) (oIl X0 hx hby d14_70 rfl q)))))) ?_
    refine own_by (fun t q => oIl X0 hx hby d14_72 rfl (oJn X0 hx hby d14_74 (tlt (by decide : (0 : Int32) < (1 : Int32))).2.1 (oAn X0 hx hby d14_77 rfl rfl (oIn X0 hx hby d14_78 rfl (oIl X0 hx hby d14_79 rfl (XS.iadd X0.here hx rfl (hb hby d14_81) rfl q)))))) ?_
    refine own_by (fun t q => st1 _ _ _ _ d14_82 (oAn X0 hx hby d14_83 rfl rfl (oIn X0 hx hby d14_84 rfl (oIl X0 hx hby d14_85 rfl (XS.iadd X0.here hx rfl (hb hby d14_87) rfl (st2 _ _ _ _ d14_88 q)))))) ?_
    by_cases hc89_3 : x1 = x2
    · refine own_by (fun t q => oJy X0 hx hby 89 95 d14_89 (teq hc89_3).1 (by decide) (by decide) (XS.iinc X0.here hx rfl (hb hby d14_95) rfl (l' := #[rv r0, iv p1, rv r2, iv p3, iv 1, iv 1, .unset, .unset]) rfl (oGo X0 hx hby 98 70 d14_98 (by decide) (by decide) (oIl X0 hx hby d14_70 rfl (oIl X0 hx hby d14_72 rfl (oJy X0 hx hby 74 101 d14_74 (flt (by decide : ¬ ((1 : Int32) < (1 : Int32)))).2.1 (by decide) (by decide) q)))))) ?_
      refine own_by (fun t q => oIc X0 hx hby d14_101 q) ?_
      refine own_out X0 Bd.notSynchronized Bd.returns (some (.int (-1))) nofun (by decide) (by decide) ?_ fun fs hr => ?_
      · rw [e0]; exact ⟨(-1 : Int32), rfl, N0, rfl, (by have w0 := own_lits; have v0 := own_eqm hc89_3; omega)⟩
      · exact retI X0 hx Bd.returns (hb hby d14_102) hr
    · refine own_by (fun t q => oJn X0 hx hby d14_89 (feq hc89_3).1 (oIl X0 hx hby d14_92 rfl q)) ?_
      refine own_out X0 Bd.notSynchronized Bd.returns (some (.int 0)) nofun (by decide) (by decide) ?_ fun fs hr => ?_
      · rw [e0]; exact ⟨(0 : Int32), rfl, N0, rfl, (by have w0 := own_lits; have v0 := own_neq hc89_3; omega)⟩
      · exact retI X0 hx Bd.returns (hb hby d14_94) hr
  · skip
    obtain ⟨x4, st4⟩ := own_bld X0 hx hZ e0 B_r0 hby (p1 + (0 : Int32)) (by have w0 := own_lits; have w1a := c_iadd p1 (0 : Int32); have w1b := rng32 (p1 + (0 : Int32)); omega) (by have w0 := own_lits; have w1a := c_iadd p1 (0 : Int32); have w1b := rng32 (p1 + (0 : Int32)); omega)
    obtain ⟨x5, st5⟩ := own_bld X0 hx hZ e0 B_r2 hby (p3 + (0 : Int32)) (by have w0 := own_lits; have w1a := c_iadd p3 (0 : Int32); have w1b := rng32 (p3 + (0 : Int32)); omega) (by have w0 := own_lits; have w1a := c_iadd p3 (0 : Int32); have w1b := rng32 (p3 + (0 : Int32)); omega)
    refine own_by (fun t q => oIc X0 hx hby d14_0 (XS.istore X0.here hx rfl (hb hby d14_1) rfl (l' := #[rv r0, iv p1, rv r2, iv p3, iv 2, iv 0, .unset, .unset]) rfl (oIl X0 hx hby d14_3 rfl (oBp X0 hx hby d14_5 (oJy X0 hx hby 7 70 d14_7 (flt (by decide : ¬ ((7 : Int32) < (2 : Int32)))).2.2.2 (by decide) (by decide) (oIl X0 hx hby d14_70 rfl q)))))) ?_
    refine own_by (fun t q => oIl X0 hx hby d14_72 rfl (oJn X0 hx hby d14_74 (tlt (by decide : (0 : Int32) < (2 : Int32))).2.1 (oAn X0 hx hby d14_77 rfl rfl (oIn X0 hx hby d14_78 rfl (oIl X0 hx hby d14_79 rfl (XS.iadd X0.here hx rfl (hb hby d14_81) rfl q)))))) ?_
    refine own_by (fun t q => st4 _ _ _ _ d14_82 (oAn X0 hx hby d14_83 rfl rfl (oIn X0 hx hby d14_84 rfl (oIl X0 hx hby d14_85 rfl (XS.iadd X0.here hx rfl (hb hby d14_87) rfl (st5 _ _ _ _ d14_88 q)))))) ?_
    by_cases hc89_6 : x4 = x5
    · obtain ⟨x7, st7⟩ := own_bld X0 hx hZ e0 B_r0 hby (p1 + (1 : Int32)) (by have w0 := own_lits; have w1a := c_iadd p1 (1 : Int32); have w1b := rng32 (p1 + (1 : Int32)); have v0 := own_eqm hc89_6; omega) (by have w0 := own_lits; have w1a := c_iadd p1 (1 : Int32); have w1b := rng32 (p1 + (1 : Int32)); have v0 := own_eqm hc89_6; omega)
      obtain ⟨x8, st8⟩ := own_bld X0 hx hZ e0 B_r2 hby (p3 + (1 : Int32)) (by have w0 := own_lits; have w1a := c_iadd p3 (1 : Int32); have w1b := rng32 (p3 + (1 : Int32)); have v0 := own_eqm hc89_6; omega) (by have w0 := own_lits; have w1a := c_iadd p3 (1 : Int32); have w1b := rng32 (p3 + (1 : Int32)); have v0 := own_eqm hc89_6; omega)
      refine own_by (fun t q => oJy X0 hx hby 89 95 d14_89 (teq hc89_6).1 (by decide) (by decide) (XS.iinc X0.here hx rfl (hb hby d14_95) rfl (l' := #[rv r0, iv p1, rv r2, iv p3, iv 2, iv 1, .unset, .unset]) rfl (oGo X0 hx hby 98 70 d14_98 (by decide) (by decide) (oIl X0 hx hby d14_70 rfl (oIl X0 hx hby d14_72 rfl (oJn X0 hx hby d14_74 (tlt (by decide : (1 : Int32) < (2 : Int32))).2.1 q)))))) ?_
      refine own_by (fun t q => oAn X0 hx hby d14_77 rfl rfl (oIn X0 hx hby d14_78 rfl (oIl X0 hx hby d14_79 rfl (XS.iadd X0.here hx rfl (hb hby d14_81) rfl (st7 _ _ _ _ d14_82 (oAn X0 hx hby d14_83 rfl rfl q)))))) ?_
      refine own_by (fun t q => oIn X0 hx hby d14_84 rfl (oIl X0 hx hby d14_85 rfl (XS.iadd X0.here hx rfl (hb hby d14_87) rfl (st8 _ _ _ _ d14_88 q)))) ?_
      by_cases hc89_9 : x7 = x8
      · refine own_by (fun t q => oJy X0 hx hby 89 95 d14_89 (teq hc89_9).1 (by decide) (by decide) (XS.iinc X0.here hx rfl (hb hby d14_95) rfl (l' := #[rv r0, iv p1, rv r2, iv p3, iv 2, iv 2, .unset, .unset]) rfl (oGo X0 hx hby 98 70 d14_98 (by decide) (by decide) (oIl X0 hx hby d14_70 rfl (oIl X0 hx hby d14_72 rfl (oJy X0 hx hby 74 101 d14_74 (flt (by decide : ¬ ((2 : Int32) < (2 : Int32)))).2.1 (by decide) (by decide) q)))))) ?_
        refine own_by (fun t q => oIc X0 hx hby d14_101 q) ?_
        refine own_out X0 Bd.notSynchronized Bd.returns (some (.int (-1))) nofun (by decide) (by decide) ?_ fun fs hr => ?_
        · rw [e0]; exact ⟨(-1 : Int32), rfl, N0, rfl, (by have w0 := own_lits; have v0 := own_eqm hc89_6; have v1 := own_eqm hc89_9; omega)⟩
        · exact retI X0 hx Bd.returns (hb hby d14_102) hr
      · refine own_by (fun t q => oJn X0 hx hby d14_89 (feq hc89_9).1 (oIl X0 hx hby d14_92 rfl q)) ?_
        refine own_out X0 Bd.notSynchronized Bd.returns (some (.int 1)) nofun (by decide) (by decide) ?_ fun fs hr => ?_
        · rw [e0]; exact ⟨(1 : Int32), rfl, N0, rfl, (by have w0 := own_lits; have v0 := own_eqm hc89_6; have v1 := own_neq hc89_9; omega)⟩
        · exact retI X0 hx Bd.returns (hb hby d14_94) hr
    · refine own_by (fun t q => oJn X0 hx hby d14_89 (feq hc89_6).1 (oIl X0 hx hby d14_92 rfl q)) ?_
      refine own_out X0 Bd.notSynchronized Bd.returns (some (.int 0)) nofun (by decide) (by decide) ?_ fun fs hr => ?_
      · rw [e0]; exact ⟨(0 : Int32), rfl, N0, rfl, (by have w0 := own_lits; have v0 := own_neq hc89_6; omega)⟩
      · exact retI X0 hx Bd.returns (hb hby d14_94) hr
  · skip
    obtain ⟨x10, st10⟩ := own_bld X0 hx hZ e0 B_r0 hby (p1 + (0 : Int32)) (by have w0 := own_lits; have w1a := c_iadd p1 (0 : Int32); have w1b := rng32 (p1 + (0 : Int32)); omega) (by have w0 := own_lits; have w1a := c_iadd p1 (0 : Int32); have w1b := rng32 (p1 + (0 : Int32)); omega)
    obtain ⟨x11, st11⟩ := own_bld X0 hx hZ e0 B_r2 hby (p3 + (0 : Int32)) (by have w0 := own_lits; have w1a := c_iadd p3 (0 : Int32); have w1b := rng32 (p3 + (0 : Int32)); omega) (by have w0 := own_lits; have w1a := c_iadd p3 (0 : Int32); have w1b := rng32 (p3 + (0 : Int32)); omega)
    refine own_by (fun t q => oIc X0 hx hby d14_0 (XS.istore X0.here hx rfl (hb hby d14_1) rfl (l' := #[rv r0, iv p1, rv r2, iv p3, iv 3, iv 0, .unset, .unset]) rfl (oIl X0 hx hby d14_3 rfl (oBp X0 hx hby d14_5 (oJy X0 hx hby 7 70 d14_7 (flt (by decide : ¬ ((7 : Int32) < (3 : Int32)))).2.2.2 (by decide) (by decide) (oIl X0 hx hby d14_70 rfl q)))))) ?_
    refine own_by (fun t q => oIl X0 hx hby d14_72 rfl (oJn X0 hx hby d14_74 (tlt (by decide : (0 : Int32) < (3 : Int32))).2.1 (oAn X0 hx hby d14_77 rfl rfl (oIn X0 hx hby d14_78 rfl (oIl X0 hx hby d14_79 rfl (XS.iadd X0.here hx rfl (hb hby d14_81) rfl q)))))) ?_
    refine own_by (fun t q => st10 _ _ _ _ d14_82 (oAn X0 hx hby d14_83 rfl rfl (oIn X0 hx hby d14_84 rfl (oIl X0 hx hby d14_85 rfl (XS.iadd X0.here hx rfl (hb hby d14_87) rfl (st11 _ _ _ _ d14_88 q)))))) ?_
    by_cases hc89_12 : x10 = x11
    · obtain ⟨x13, st13⟩ := own_bld X0 hx hZ e0 B_r0 hby (p1 + (1 : Int32)) (by have w0 := own_lits; have w1a := c_iadd p1 (1 : Int32); have w1b := rng32 (p1 + (1 : Int32)); have v0 := own_eqm hc89_12; omega) (by have w0 := own_lits; have w1a := c_iadd p1 (1 : Int32); have w1b := rng32 (p1 + (1 : Int32)); have v0 := own_eqm hc89_12; omega)
      obtain ⟨x14, st14⟩ := own_bld X0 hx hZ e0 B_r2 hby (p3 + (1 : Int32)) (by have w0 := own_lits; have w1a := c_iadd p3 (1 : Int32); have w1b := rng32 (p3 + (1 : Int32)); have v0 := own_eqm hc89_12; omega) (by have w0 := own_lits; have w1a := c_iadd p3 (1 : Int32); have w1b := rng32 (p3 + (1 : Int32)); have v0 := own_eqm hc89_12; omega)
      refine own_by (fun t q => oJy X0 hx hby 89 95 d14_89 (teq hc89_12).1 (by decide) (by decide) (XS.iinc X0.here hx rfl (hb hby d14_95) rfl (l' := #[rv r0, iv p1, rv r2, iv p3, iv 3, iv 1, .unset, .unset]) rfl (oGo X0 hx hby 98 70 d14_98 (by decide) (by decide) (oIl X0 hx hby d14_70 rfl (oIl X0 hx hby d14_72 rfl (oJn X0 hx hby d14_74 (tlt (by decide : (1 : Int32) < (3 : Int32))).2.1 q)))))) ?_
      refine own_by (fun t q => oAn X0 hx hby d14_77 rfl rfl (oIn X0 hx hby d14_78 rfl (oIl X0 hx hby d14_79 rfl (XS.iadd X0.here hx rfl (hb hby d14_81) rfl (st13 _ _ _ _ d14_82 (oAn X0 hx hby d14_83 rfl rfl q)))))) ?_
      refine own_by (fun t q => oIn X0 hx hby d14_84 rfl (oIl X0 hx hby d14_85 rfl (XS.iadd X0.here hx rfl (hb hby d14_87) rfl (st14 _ _ _ _ d14_88 q)))) ?_
      by_cases hc89_15 : x13 = x14
      · obtain ⟨x16, st16⟩ := own_bld X0 hx hZ e0 B_r0 hby (p1 + (2 : Int32)) (by have w0 := own_lits; have w1a := c_iadd p1 (2 : Int32); have w1b := rng32 (p1 + (2 : Int32)); have v0 := own_eqm hc89_12; have v1 := own_eqm hc89_15; omega) (by have w0 := own_lits; have w1a := c_iadd p1 (2 : Int32); have w1b := rng32 (p1 + (2 : Int32)); have v0 := own_eqm hc89_12; have v1 := own_eqm hc89_15; omega)
        obtain ⟨x17, st17⟩ := own_bld X0 hx hZ e0 B_r2 hby (p3 + (2 : Int32)) (by have w0 := own_lits; have w1a := c_iadd p3 (2 : Int32); have w1b := rng32 (p3 + (2 : Int32)); have v0 := own_eqm hc89_12; have v1 := own_eqm hc89_15; omega) (by have w0 := own_lits; have w1a := c_iadd p3 (2 : Int32); have w1b := rng32 (p3 + (2 : Int32)); have v0 := own_eqm hc89_12; have v1 := own_eqm hc89_15; omega)
        refine own_by (fun t q => oJy X0 hx hby 89 95 d14_89 (teq hc89_15).1 (by decide) (by decide) (XS.iinc X0.here hx rfl (hb hby d14_95) rfl (l' := #[rv r0, iv p1, rv r2, iv p3, iv 3, iv 2, .unset, .unset]) rfl (oGo X0 hx hby 98 70 d14_98 (by decide) (by decide) (oIl X0 hx hby d14_70 rfl (oIl X0 hx hby d14_72 rfl (oJn X0 hx hby d14_74 (tlt (by decide : (2 : Int32) < (3 : Int32))).2.1 q)))))) ?_
        refine own_by (fun t q => oAn X0 hx hby d14_77 rfl rfl (oIn X0 hx hby d14_78 rfl (oIl X0 hx hby d14_79 rfl (XS.iadd X0.here hx rfl (hb hby d14_81) rfl (st16 _ _ _ _ d14_82 (oAn X0 hx hby d14_83 rfl rfl q)))))) ?_
        refine own_by (fun t q => oIn X0 hx hby d14_84 rfl (oIl X0 hx hby d14_85 rfl (XS.iadd X0.here hx rfl (hb hby d14_87) rfl (st17 _ _ _ _ d14_88 q)))) ?_
        by_cases hc89_18 : x16 = x17
        · refine own_by (fun t q => oJy X0 hx hby 89 95 d14_89 (teq hc89_18).1 (by decide) (by decide) (XS.iinc X0.here hx rfl (hb hby d14_95) rfl (l' := #[rv r0, iv p1, rv r2, iv p3, iv 3, iv 3, .unset, .unset]) rfl (oGo X0 hx hby 98 70 d14_98 (by decide) (by decide) (oIl X0 hx hby d14_70 rfl (oIl X0 hx hby d14_72 rfl (oJy X0 hx hby 74 101 d14_74 (flt (by decide : ¬ ((3 : Int32) < (3 : Int32)))).2.1 (by decide) (by decide) q)))))) ?_
          refine own_by (fun t q => oIc X0 hx hby d14_101 q) ?_
          refine own_out X0 Bd.notSynchronized Bd.returns (some (.int (-1))) nofun (by decide) (by decide) ?_ fun fs hr => ?_
          · rw [e0]; exact ⟨(-1 : Int32), rfl, N0, rfl, (by have w0 := own_lits; have v0 := own_eqm hc89_12; have v1 := own_eqm hc89_15; have v2 := own_eqm hc89_18; omega)⟩
          · exact retI X0 hx Bd.returns (hb hby d14_102) hr
        · refine own_by (fun t q => oJn X0 hx hby d14_89 (feq hc89_18).1 (oIl X0 hx hby d14_92 rfl q)) ?_
          refine own_out X0 Bd.notSynchronized Bd.returns (some (.int 2)) nofun (by decide) (by decide) ?_ fun fs hr => ?_
          · rw [e0]; exact ⟨(2 : Int32), rfl, N0, rfl, (by have w0 := own_lits; have v0 := own_eqm hc89_12; have v1 := own_eqm hc89_15; have v2 := own_neq hc89_18; omega)⟩
          · exact retI X0 hx Bd.returns (hb hby d14_94) hr
      · refine own_by (fun t q => oJn X0 hx hby d14_89 (feq hc89_15).1 (oIl X0 hx hby d14_92 rfl q)) ?_
        refine own_out X0 Bd.notSynchronized Bd.returns (some (.int 1)) nofun (by decide) (by decide) ?_ fun fs hr => ?_
        · rw [e0]; exact ⟨(1 : Int32), rfl, N0, rfl, (by have w0 := own_lits; have v0 := own_eqm hc89_12; have v1 := own_neq hc89_15; omega)⟩
        · exact retI X0 hx Bd.returns (hb hby d14_94) hr
    · refine own_by (fun t q => oJn X0 hx hby d14_89 (feq hc89_12).1 (oIl X0 hx hby d14_92 rfl q)) ?_
      refine own_out X0 Bd.notSynchronized Bd.returns (some (.int 0)) nofun (by decide) (by decide) ?_ fun fs hr => ?_
      · rw [e0]; exact ⟨(0 : Int32), rfl, N0, rfl, (by have w0 := own_lits; have v0 := own_neq hc89_12; omega)⟩
      · exact retI X0 hx Bd.returns (hb hby d14_94) hr
theorem pd_1 : parseMethodDescriptor "(III)V" = some ⟨[.int, .int, .int], none⟩ := by decide +kernel
theorem pd_2 : parseMethodDescriptor "(II)I" = some ⟨[.int, .int], some .int⟩ := by decide +kernel
theorem pd_3 : parseMethodDescriptor "([BI[BII)I" = some ⟨[(.array .byte), .int, (.array .byte), .int, .int], some .int⟩ := by decide +kernel
theorem pd_4 : parseMethodDescriptor "(BB)I" = some ⟨[.byte, .byte], some .int⟩ := by decide +kernel
theorem d12_0 : decode jdk_65_method_202_code 0 = .ok (.aload_n 0, 1) := by decide +kernel
theorem d12_1 : decode jdk_65_method_202_code 1 = .ok (.arraylength, 1) := by decide +kernel
theorem d12_2 : decode jdk_65_method_202_code 2 = .ok (.iload_n 1, 1) := by decide +kernel
theorem d12_3 : decode jdk_65_method_202_code 3 = .ok (.iload_n 2, 1) := by decide +kernel
theorem d12_4 : decode jdk_65_method_202_code 4 = .ok (.invokestatic 13, 3) := by decide +kernel
theorem d12_7 : decode jdk_65_method_202_code 7 = .ok (.aload_n 3, 1) := by decide +kernel
theorem d12_8 : decode jdk_65_method_202_code 8 = .ok (.arraylength, 1) := by decide +kernel
theorem d12_9 : decode jdk_65_method_202_code 9 = .ok (.iload 4, 2) := by decide +kernel
theorem d12_11 : decode jdk_65_method_202_code 11 = .ok (.iload 5, 2) := by decide +kernel
theorem d12_13 : decode jdk_65_method_202_code 13 = .ok (.invokestatic 13, 3) := by decide +kernel
theorem d12_16 : decode jdk_65_method_202_code 16 = .ok (.iload_n 2, 1) := by decide +kernel
theorem d12_17 : decode jdk_65_method_202_code 17 = .ok (.iload_n 1, 1) := by decide +kernel
theorem d12_18 : decode jdk_65_method_202_code 18 = .ok (.isub, 1) := by decide +kernel
theorem d12_19 : decode jdk_65_method_202_code 19 = .ok (.istore 6, 2) := by decide +kernel
theorem d12_21 : decode jdk_65_method_202_code 21 = .ok (.iload 5, 2) := by decide +kernel
theorem d12_23 : decode jdk_65_method_202_code 23 = .ok (.iload 4, 2) := by decide +kernel
theorem d12_25 : decode jdk_65_method_202_code 25 = .ok (.isub, 1) := by decide +kernel
theorem d12_26 : decode jdk_65_method_202_code 26 = .ok (.istore 7, 2) := by decide +kernel
theorem d12_28 : decode jdk_65_method_202_code 28 = .ok (.aload_n 0, 1) := by decide +kernel
theorem d12_29 : decode jdk_65_method_202_code 29 = .ok (.iload_n 1, 1) := by decide +kernel
theorem d12_30 : decode jdk_65_method_202_code 30 = .ok (.aload_n 3, 1) := by decide +kernel
theorem d12_31 : decode jdk_65_method_202_code 31 = .ok (.iload 4, 2) := by decide +kernel
theorem d12_33 : decode jdk_65_method_202_code 33 = .ok (.iload 6, 2) := by decide +kernel
theorem d12_35 : decode jdk_65_method_202_code 35 = .ok (.iload 7, 2) := by decide +kernel
theorem d12_37 : decode jdk_65_method_202_code 37 = .ok (.invokestatic 304, 3) := by decide +kernel
theorem d12_40 : decode jdk_65_method_202_code 40 = .ok (.invokestatic 275, 3) := by decide +kernel
theorem d12_43 : decode jdk_65_method_202_code 43 = .ok (.istore 8, 2) := by decide +kernel
theorem d12_45 : decode jdk_65_method_202_code 45 = .ok (.iload 8, 2) := by decide +kernel
theorem d12_47 : decode jdk_65_method_202_code 47 = .ok (.ifCond .lt 20, 3) := by decide +kernel
theorem d12_50 : decode jdk_65_method_202_code 50 = .ok (.aload_n 0, 1) := by decide +kernel
theorem d12_51 : decode jdk_65_method_202_code 51 = .ok (.iload_n 1, 1) := by decide +kernel
theorem d12_52 : decode jdk_65_method_202_code 52 = .ok (.iload 8, 2) := by decide +kernel
theorem d12_54 : decode jdk_65_method_202_code 54 = .ok (.iadd, 1) := by decide +kernel
theorem d12_55 : decode jdk_65_method_202_code 55 = .ok (.baload, 1) := by decide +kernel
theorem d12_56 : decode jdk_65_method_202_code 56 = .ok (.aload_n 3, 1) := by decide +kernel
theorem d12_57 : decode jdk_65_method_202_code 57 = .ok (.iload 4, 2) := by decide +kernel
theorem d12_59 : decode jdk_65_method_202_code 59 = .ok (.iload 8, 2) := by decide +kernel
theorem d12_61 : decode jdk_65_method_202_code 61 = .ok (.iadd, 1) := by decide +kernel
theorem d12_62 : decode jdk_65_method_202_code 62 = .ok (.baload, 1) := by decide +kernel
theorem d12_63 : decode jdk_65_method_202_code 63 = .ok (.invokestatic 686, 3) := by decide +kernel
theorem d12_66 : decode jdk_65_method_202_code 66 = .ok (.ireturn, 1) := by decide +kernel
theorem d12_67 : decode jdk_65_method_202_code 67 = .ok (.iload 6, 2) := by decide +kernel
theorem d12_69 : decode jdk_65_method_202_code 69 = .ok (.iload 7, 2) := by decide +kernel
theorem d12_71 : decode jdk_65_method_202_code 71 = .ok (.isub, 1) := by decide +kernel
theorem d12_72 : decode jdk_65_method_202_code 72 = .ok (.ireturn, 1) := by decide +kernel
theorem ef_12 (m : MethodId) (x0 : Addr) (x1 : Int32) (x2 : Int32) (x3 : Addr) (x4 : Int32) (x5 : Int32) : entryFrame m #[(.ref x0), (.int x1), (.int x2), (.ref x3), (.int x4), (.int x5)] 9 = mkF m 0 #[.val (.ref x0), .val (.int x1), .val (.int x2), .val (.ref x3), .val (.int x4), .val (.int x5), .unset, .unset, .unset] [] := by first | (simp [entryFrame, mkF, argsToLocals, Value.category]; done) | rfl
def Q_12 (Z : State) (r0 : Addr) (p1 p2 : Int32) (r3 : Addr) (p4 p5 n1 n2 : Int32) (h0 : Heap) (n0 : Nat) (v : Option Value) (h : Heap) (L : List Loc) : Prop := ∃ rr : Int32, v = some (.int rr) ∧ Fr n0 L ∧ h = h0 ∧ True
theorem rm12 (l : Launch) (Z : State) (a0 : Array Value) (hw : own_HW a0 Z) (ws : List Jvm.Cond) (r0 : Addr) (p1 p2 : Int32) (r3 : Addr) (p4 p5 n1 n2 : Int32) (h0 : Heap) (n0 : Nat) (Z0 : n0 ≤ h0.size) (B_r0 : own_B Z h0 r0 n1) (B_r3 : own_B Z h0 r3 n2) (hp0 : 0 ≤ p1.toInt ∧ p1.toInt ≤ p2.toInt ∧ p2.toInt ≤ p1.toInt + 3 ∧ p2.toInt ≤ n1.toInt ∧ n1.toInt ≤ 4096) (hp1 : 0 ≤ p4.toInt ∧ p4.toInt ≤ p5.toInt ∧ p5.toInt ≤ p4.toInt + 3 ∧ p5.toInt ≤ n2.toInt ∧ n2.toInt ≤ 4096) :
    own_M l Z (⟨"java/util/Arrays", "compareUnsigned", "([BII[BII)I"⟩ : MethodName) jdk_65_method_202_code 9 (some .int) ws ({ frames := 2, cells := 0, slots := 0, locals := 26 } : Room) #[(.ref r0), (.int p1), (.int p2), (.ref r3), (.int p4), (.int p5)] h0 (Q_12 Z r0 p1 p2 r3 p4 p5 n1 n2 h0 n0) := by
  refine own_in "java/util/Arrays" rfl (plainFor_of_name pn_java_util_Arrays) ?_
  intro p e s m below meth c s₁ Bd hml hZ hh hx hby hown X0 e0
  have N0 := Fr.nil n0
  refine own_start (ef_12 m r0 p1 p2 r3 p4 p5) ?_
  refine own_by (fun t q => oAn X0 hx hby d12_0 rfl rfl (own_blen X0 hx hZ e0 B_r0 hby d12_1 (oIn X0 hx hby d12_2 rfl (oIn X0 hx hby d12_3 rfl q)))) ?_
  refine own_cK 0 (rm13 l Z a0 hw [] n1 p1 p2 h0 n0 Z0 (by have w0 := own_lits; omega)) X0 hx hZ hown hw 78 79 76 80 rfl rfl rfl rfl [(.int n1), (.int p1), (.int p2)] [] hby d12_4 hml (lenOf pd_1 rfl) e0 rfl (Nat.le_refl _) (by decide) fun _ T1 L1 X1 hQ1 => ?_
  obtain ⟨rfl, N1q, e1⟩ := hQ1
  have N1 := Fr.app N0 N1q
  refine own_by (fun t q => oAn X1 hx hby d12_7 rfl rfl (own_blen X1 hx hZ e1 B_r3 hby d12_8 (oIl X1 hx hby d12_9 rfl (oIl X1 hx hby d12_11 rfl q)))) ?_
  refine own_cK 0 (rm13 l Z a0 hw [] n2 p4 p5 h0 n0 Z0 (by have w0 := own_lits; omega)) X1 hx hZ hown hw 78 79 76 80 rfl rfl rfl rfl [(.int n2), (.int p4), (.int p5)] [] hby d12_13 hml (lenOf pd_1 rfl) e1 rfl (Nat.le_refl _) (by decide) fun _ T2 L2 X2 hQ2 => ?_
  obtain ⟨rfl, N2q, e2⟩ := hQ2
  have N2 := Fr.app N1 N2q
  refine own_by (fun t q => oIn X2 hx hby d12_16 rfl (oIn X2 hx hby d12_17 rfl (XS.isub X2.here hx rfl (hb hby d12_18) rfl (XS.istore X2.here hx rfl (hb hby d12_19) rfl (l' := #[rv r0, iv p1, iv p2, rv r3, iv p4, iv p5, iv (p2 - p1), .unset, .unset]) rfl (oIl X2 hx hby d12_21 rfl (oIl X2 hx hby d12_23 rfl q)))))) ?_
  refine own_by (fun t q => XS.isub X2.here hx rfl (hb hby d12_25) rfl (XS.istore X2.here hx rfl (hb hby d12_26) rfl (l' := #[rv r0, iv p1, iv p2, rv r3, iv p4, iv p5, iv (p2 - p1), iv (p5 - p4), .unset]) rfl (oAn X2 hx hby d12_28 rfl rfl (oIn X2 hx hby d12_29 rfl (oAn X2 hx hby d12_30 rfl rfl (oIl X2 hx hby d12_31 rfl q)))))) ?_
  refine own_by (fun t q => oIl X2 hx hby d12_33 rfl (oIl X2 hx hby d12_35 rfl q)) ?_
  refine own_cK 4 (rm8_e l Z a0 hw [] (p2 - p1) (p5 - p4) h0 n0 Z0 ) X2 hx hZ hown hw 81 59 60 61 rfl rfl rfl rfl [(.int (p2 - p1)), (.int (p5 - p4))] [(.int p4), (.ref r3), (.int p1), (.ref r0)] hby d12_37 hml (lenOf pd_2 rfl) e2 rfl (Nat.le_refl _) (by decide) fun _ T3 L3 X3 hQ3 => ?_
  obtain ⟨rr_3, rfl, N3q, e3, p3_0⟩ := hQ3
  have N3 := Fr.app N2 N3q
  refine own_cK 0 (rm14 l Z a0 hw [] r0 p1 r3 p4 rr_3 n1 n2 h0 n0 Z0 B_r0 B_r3 (by have w0 := own_lits; have w1a := c_isub p2 p1; have w1b := rng32 (p2 - p1); have w2a := c_isub p5 p4; have w2b := rng32 (p5 - p4); omega) (by have w0 := own_lits; have w1a := c_isub p2 p1; have w1b := rng32 (p2 - p1); have w2a := c_isub p5 p4; have w2b := rng32 (p5 - p4); omega) (by have w0 := own_lits; have w1a := c_isub p2 p1; have w1b := rng32 (p2 - p1); have w2a := c_isub p5 p4; have w2b := rng32 (p5 - p4); omega)) X3 hx hZ hown hw 82 83 84 85 rfl rfl rfl rfl [(.ref r0), (.int p1), (.ref r3), (.int p4), (.int rr_3)] [] hby d12_40 hml (lenOf pd_3 rfl) e3 rfl (Nat.le_refl _) (by decide) fun _ T4 L4 X4 hQ4 => ?_
  obtain ⟨rr_4, rfl, N4q, e4, p4_0⟩ := hQ4
  have N4 := Fr.app N3 N4q
  refine own_by (fun t q => XS.istore X4.here hx rfl (hb hby d12_43) rfl (l' := #[rv r0, iv p1, iv p2, rv r3, iv p4, iv p5, iv (p2 - p1), iv (p5 - p4), iv rr_4]) rfl (oIl X4 hx hby d12_45 rfl q)) ?_
  by_cases hc47_5 : rr_4 < (0 : Int32)
  · refine own_by (fun t q => XS.ifYes X4.here hx rfl (pc0 := 47) (pc' := 67) rfl (hb hby d12_47) rfl ((if0 _ _).trans (tlt hc47_5).1) (by decide) (by decide) (oIl X4 hx hby d12_67 rfl (oIl X4 hx hby d12_69 rfl (XS.isub X4.here hx rfl (hb hby d12_71) rfl q)))) ?_
    refine own_out X4 Bd.notSynchronized Bd.returns (some (.int ((p2 - p1) - (p5 - p4)))) nofun (by decide) (by decide) ?_ fun fs hr => ?_
    · rw [e4]; exact ⟨((p2 - p1) - (p5 - p4)), rfl, N4, rfl, trivial⟩
    · exact retI X4 hx Bd.returns (hb hby d12_72) hr
  · obtain ⟨x6, st6⟩ := own_bld X4 hx hZ e4 B_r0 hby (p1 + rr_4) (by have w0 := own_lits; have w1a := c_isub p2 p1; have w1b := rng32 (p2 - p1); have w2a := c_isub p5 p4; have w2b := rng32 (p5 - p4); have w3a := c_iadd p1 rr_4; have w3b := rng32 (p1 + rr_4); have v0 := own_nlt hc47_5; omega) (by have w0 := own_lits; have w1a := c_isub p2 p1; have w1b := rng32 (p2 - p1); have w2a := c_isub p5 p4; have w2b := rng32 (p5 - p4); have w3a := c_iadd p1 rr_4; have w3b := rng32 (p1 + rr_4); have v0 := own_nlt hc47_5; omega)
    obtain ⟨x7, st7⟩ := own_bld X4 hx hZ e4 B_r3 hby (p4 + rr_4) (by have w0 := own_lits; have w1a := c_isub p2 p1; have w1b := rng32 (p2 - p1); have w2a := c_isub p5 p4; have w2b := rng32 (p5 - p4); have w3a := c_iadd p4 rr_4; have w3b := rng32 (p4 + rr_4); have v0 := own_nlt hc47_5; omega) (by have w0 := own_lits; have w1a := c_isub p2 p1; have w1b := rng32 (p2 - p1); have w2a := c_isub p5 p4; have w2b := rng32 (p5 - p4); have w3a := c_iadd p4 rr_4; have w3b := rng32 (p4 + rr_4); have v0 := own_nlt hc47_5; omega)
    refine own_by (fun t q => XS.ifNo X4.here hx rfl (hb hby d12_47) rfl ((if0 _ _).trans (flt hc47_5).1) (oAn X4 hx hby d12_50 rfl rfl (oIn X4 hx hby d12_51 rfl (oIl X4 hx hby d12_52 rfl (XS.iadd X4.here hx rfl (hb hby d12_54) rfl (st6 _ _ _ _ d12_55 q)))))) ?_
    refine own_by (fun t q => oAn X4 hx hby d12_56 rfl rfl (oIl X4 hx hby d12_57 rfl (oIl X4 hx hby d12_59 rfl (XS.iadd X4.here hx rfl (hb hby d12_61) rfl (st7 _ _ _ _ d12_62 q))))) ?_
    refine own_cK 0 (rm18 l Z a0 hw [] x6 x7 h0 n0 Z0 ) X4 hx hZ hown hw 96 97 98 99 rfl rfl rfl rfl [(.int x6), (.int x7)] [] hby d12_63 hml (lenOf pd_4 rfl) e4 rfl (Nat.le_refl _) (by decide) fun _ T8 L8 X8 hQ8 => ?_
    obtain ⟨rfl, N8q, e8⟩ := hQ8
    have N8 := Fr.app N4 N8q
    refine own_out X8 Bd.notSynchronized Bd.returns (some (.int ((x6 &&& (255 : Int32)) - (x7 &&& (255 : Int32))))) nofun (by decide) (by decide) ?_ fun fs hr => ?_
    · rw [e8]; exact ⟨((x6 &&& (255 : Int32)) - (x7 &&& (255 : Int32))), rfl, N8, rfl, trivial⟩
    · exact retI X8 hx Bd.returns (hb hby d12_66) hr
theorem pd_5 : parseMethodDescriptor "(II)V" = some ⟨[.int, .int], none⟩ := by decide +kernel
theorem d16_0 : decode jdk_65_method_133_code 0 = .ok (.iload_n 1, 1) := by decide +kernel
theorem d16_1 : decode jdk_65_method_133_code 1 = .ok (.iload_n 2, 1) := by decide +kernel
theorem d16_2 : decode jdk_65_method_133_code 2 = .ok (.invokestatic 343, 3) := by decide +kernel
theorem d16_5 : decode jdk_65_method_133_code 5 = .ok (.iload_n 2, 1) := by decide +kernel
theorem d16_6 : decode jdk_65_method_133_code 6 = .ok (.iload_n 1, 1) := by decide +kernel
theorem d16_7 : decode jdk_65_method_133_code 7 = .ok (.isub, 1) := by decide +kernel
theorem d16_8 : decode jdk_65_method_133_code 8 = .ok (.istore_n 3, 1) := by decide +kernel
theorem d16_9 : decode jdk_65_method_133_code 9 = .ok (.iload_n 3, 1) := by decide +kernel
theorem d16_10 : decode jdk_65_method_133_code 10 = .ok (.newarray .byte, 2) := by decide +kernel
theorem d16_12 : decode jdk_65_method_133_code 12 = .ok (.astore 4, 2) := by decide +kernel
theorem d16_14 : decode jdk_65_method_133_code 14 = .ok (.aload_n 0, 1) := by decide +kernel
theorem d16_15 : decode jdk_65_method_133_code 15 = .ok (.iload_n 1, 1) := by decide +kernel
theorem d16_16 : decode jdk_65_method_133_code 16 = .ok (.aload 4, 2) := by decide +kernel
theorem d16_18 : decode jdk_65_method_133_code 18 = .ok (.iconst 0, 1) := by decide +kernel
theorem d16_19 : decode jdk_65_method_133_code 19 = .ok (.aload_n 0, 1) := by decide +kernel
theorem d16_20 : decode jdk_65_method_133_code 20 = .ok (.arraylength, 1) := by decide +kernel
theorem d16_21 : decode jdk_65_method_133_code 21 = .ok (.iload_n 1, 1) := by decide +kernel
theorem d16_22 : decode jdk_65_method_133_code 22 = .ok (.isub, 1) := by decide +kernel
theorem d16_23 : decode jdk_65_method_133_code 23 = .ok (.iload_n 3, 1) := by decide +kernel
theorem d16_24 : decode jdk_65_method_133_code 24 = .ok (.invokestatic 304, 3) := by decide +kernel
theorem d16_27 : decode jdk_65_method_133_code 27 = .ok (.invokestatic 150, 3) := by decide +kernel
theorem d16_30 : decode jdk_65_method_133_code 30 = .ok (.aload 4, 2) := by decide +kernel
theorem d16_32 : decode jdk_65_method_133_code 32 = .ok (.areturn, 1) := by decide +kernel
theorem ef_16 (m : MethodId) (x0 : Addr) (x1 : Int32) (x2 : Int32) : entryFrame m #[(.ref x0), (.int x1), (.int x2)] 5 = mkF m 0 #[.val (.ref x0), .val (.int x1), .val (.int x2), .unset, .unset] [] := by first | (simp [entryFrame, mkF, argsToLocals, Value.category]; done) | rfl
def Q_16 (Z : State) (r0 : Addr) (p1 p2 n1 : Int32) (h0 : Heap) (n0 : Nat) (v : Option Value) (h : Heap) (L : List Loc) : Prop := ∃ ar : Addr, v = some (.ref ar) ∧ Fr n0 L ∧ Keep h0 h [] ∧ h0.size ≤ ar ∧ own_B Z h ar (p2 - p1) ∧ Exa Z h ar "[B"
theorem rm16 (l : Launch) (Z : State) (a0 : Array Value) (hw : own_HW a0 Z) (ws : List Jvm.Cond) (r0 : Addr) (p1 p2 n1 : Int32) (h0 : Heap) (n0 : Nat) (Z0 : n0 ≤ h0.size) (B_r0 : own_B Z h0 r0 n1) (hp0 : 0 ≤ p1.toInt ∧ p1.toInt ≤ p2.toInt ∧ p2.toInt ≤ p1.toInt + 3 ∧ p2.toInt ≤ n1.toInt ∧ n1.toInt ≤ 4096) :
    own_M l Z (⟨"java/util/Arrays", "copyOfRangeByte", "([BII)[B"⟩ : MethodName) jdk_65_method_133_code 5 (some (.array .byte)) ws ({ frames := 1, cells := 1, slots := 3, locals := 18 } : Room) #[(.ref r0), (.int p1), (.int p2)] h0 (Q_16 Z r0 p1 p2 n1 h0 n0) := by
  refine own_in "java/util/Arrays" rfl (plainFor_of_name pn_java_util_Arrays) ?_
  intro p e s m below meth c s₁ Bd hml hZ hh hx hby hown X0 e0
  have N0 := Fr.nil n0
  refine own_start (ef_16 m r0 p1 p2) ?_
  refine own_by (fun t q => oIn X0 hx hby d16_0 rfl (oIn X0 hx hby d16_1 rfl q)) ?_
  refine own_cK 0 (rm17 l Z a0 hw [] p1 p2 h0 n0 Z0 (by have w0 := own_lits; omega)) X0 hx hZ hown hw 92 93 76 94 rfl rfl rfl rfl [(.int p1), (.int p2)] [] hby d16_2 hml (lenOf pd_5 rfl) e0 rfl (Nat.le_refl _) (by decide) fun _ T1 L1 X1 hQ1 => ?_
  obtain ⟨rfl, N1q, e1⟩ := hQ1
  have N1 := Fr.app N0 N1q
  have hz2 : ¬ ((p2 - p1) < 0) := (own_nat (by have w0 := own_lits; have w1a := c_isub p2 p1; have w1b := rng32 (p2 - p1); omega)).1
  have hz3 : (p2 - p1).toNatClampNeg ≤ 3 := by have q1 := own_nat (x := (p2 - p1)) (by have w0 := own_lits; have w1a := c_isub p2 p1; have w1b := rng32 (p2 - p1); omega); have q2 : (p2 - p1).toInt ≤ 3 := (by have w0 := own_lits; have w1a := c_isub p2 p1; have w1b := rng32 (p2 - p1); omega); omega
  obtain ⟨T4, h4, k4, X4, e4, E4, A4, EA4, st4⟩ := newPE X1 hx hZ (own_at hw 1 rfl) e1 (g := (mkF m 10 #[rv r0, iv p1, iv p2, iv (p2 - p1), .unset] [(.int (p2 - p1))])) rfl (hb hby d16_10) rfl hz2 (cap := 3) hz3 (by decide) (by decide) (by decide) (ad := "[B") (by decide)
  obtain ⟨b4, g4⟩ : ∃ z, z = h0.size := ⟨_, rfl⟩
  rw [← g4] at A4 EA4 st4
  have g_b4 : n0 ≤ b4 := Nat.le_trans Z0 (Nat.le_of_eq g4.symm)
  have sz_b4 : h0.size ≤ b4 := Nat.le_trans (Keep.refl h0 []).1 (Nat.le_of_eq g4.symm)
  have V_b4 : own_B Z h4 b4 (p2 - p1) := own_B.new A4 hz2
  have f5 := (B_r0.ext E4)
  refine own_by (fun t q => oIn X1 hx hby d16_5 rfl (oIn X1 hx hby d16_6 rfl (XS.isub X1.here hx rfl (hb hby d16_7) rfl (XS.istoreN X1.here hx rfl (hb hby d16_8) rfl (l' := #[rv r0, iv p1, iv p2, iv (p2 - p1), .unset]) rfl (oIn X1 hx hby d16_9 rfl (st4 _ q)))))) ?_
  refine own_by (fun t q => XS.astore X4.here hx rfl (hb hby d16_12) rfl rfl (l' := #[rv r0, iv p1, iv p2, iv (p2 - p1), rv b4]) rfl (oAn X4 hx hby d16_14 rfl rfl (oIn X4 hx hby d16_15 rfl (oAl X4 hx hby d16_16 rfl rfl (oIc X4 hx hby d16_18 (oAn X4 hx hby d16_19 rfl rfl q)))))) ?_
  refine own_by (fun t q => own_blen X4 hx hZ e4 f5 hby d16_20 (oIn X4 hx hby d16_21 rfl (XS.isub X4.here hx rfl (hb hby d16_22) rfl (oIn X4 hx hby d16_23 rfl q)))) ?_
  refine own_cK 4 (rm8_e l Z a0 hw [] (n1 - p1) (p2 - p1) h4 n0 (Nat.le_trans Z0 E4.1) ) X4 hx hZ hown hw 81 59 60 61 rfl rfl rfl rfl [(.int (n1 - p1)), (.int (p2 - p1))] [(.int 0), (.ref b4), (.int p1), (.ref r0)] hby d16_24 hml (lenOf pd_2 rfl) e4 rfl (Nat.le_refl _) (by decide) fun _ T6 L6 X6 hQ6 => ?_
  obtain ⟨rr_6, rfl, N6q, e6, p6_0⟩ := hQ6
  have N6 := Fr.app N1 N6q
  obtain ⟨T7, h7, L7, X7, e7, N7, K7, Vr7, st7⟩ := own_bcp X6 hx hZ hown (own_at hw 95 rfl) (own_at hw 48 rfl) (own_at hw 46 rfl) (own_at hw 47 rfl) e6 f5 V_b4 (sp := p1) (dp := (0 : Int32)) (nn := rr_6) (by have w0 := own_lits; have w1a := c_isub n1 p1; have w1b := rng32 (n1 - p1); have w2a := c_isub p2 p1; have w2b := rng32 (p2 - p1); omega) N6 g_b4 (g := (mkF m 27 #[rv r0, iv p1, iv p2, iv (p2 - p1), rv b4] [(.int rr_6), (.int 0), (.ref b4), (.int p1), (.ref r0)])) rfl (by rw [hml]; rfl) rfl (hb hby d16_27) (by decide) (W := 0) (Nat.le_refl _) (by decide)
  have pl7 := (allS (P := fun x => ∃ cell : Cell, h4[x]? = some cell ∧ cell.vm.isStatics = false) (own_ns EA4) all0)
  refine own_by (fun t q => st7 _ (oAl X7 hx hby d16_30 rfl rfl q)) ?_
  have f8 := (EA4.keep K7)
  refine own_out X7 Bd.notSynchronized Bd.returns (some (.ref b4)) nofun (by decide) (by decide) ?_ fun fs hr => ?_
  · rw [e7]; exact ⟨b4, rfl, N7, (((Keep.refl h0 []).ext E4).trans K7 (allS (Or.inr sz_b4) all0)), sz_b4, Vr7, f8⟩
  · jvm_step X7.here [X7.here.top, hx, (hb hby d16_32), X7.method', Bd.returns, Value.isRef, FieldType.isReference]
    first | (intro acts; rw [hr _ acts rfl rfl rfl]) | rw [hr _ _ rfl rfl rfl]
    exact Steps.refl _
theorem pd_6 : parseMethodDescriptor "([BII)[B" = some ⟨[(.array .byte), .int, .int], some (.array .byte)⟩ := by decide +kernel
theorem d15_0 : decode jdk_65_method_132_code 0 = .ok (.iload_n 1, 1) := by decide +kernel
theorem d15_1 : decode jdk_65_method_132_code 1 = .ok (.ifCond .ne 9, 3) := by decide +kernel
theorem d15_4 : decode jdk_65_method_132_code 4 = .ok (.iload_n 2, 1) := by decide +kernel
theorem d15_5 : decode jdk_65_method_132_code 5 = .ok (.aload_n 0, 1) := by decide +kernel
theorem d15_6 : decode jdk_65_method_132_code 6 = .ok (.arraylength, 1) := by decide +kernel
theorem d15_7 : decode jdk_65_method_132_code 7 = .ok (.if_icmp .eq 10, 3) := by decide +kernel
theorem d15_10 : decode jdk_65_method_132_code 10 = .ok (.aload_n 0, 1) := by decide +kernel
theorem d15_11 : decode jdk_65_method_132_code 11 = .ok (.iload_n 1, 1) := by decide +kernel
theorem d15_12 : decode jdk_65_method_132_code 12 = .ok (.iload_n 2, 1) := by decide +kernel
theorem d15_13 : decode jdk_65_method_132_code 13 = .ok (.invokestatic 339, 3) := by decide +kernel
theorem d15_16 : decode jdk_65_method_132_code 16 = .ok (.areturn, 1) := by decide +kernel
theorem ef_15 (m : MethodId) (x0 : Addr) (x1 : Int32) (x2 : Int32) : entryFrame m #[(.ref x0), (.int x1), (.int x2)] 3 = mkF m 0 #[.val (.ref x0), .val (.int x1), .val (.int x2)] [] := by first | (simp [entryFrame, mkF, argsToLocals, Value.category]; done) | rfl
def Q_15 (Z : State) (r0 : Addr) (p1 p2 n1 : Int32) (h0 : Heap) (n0 : Nat) (v : Option Value) (h : Heap) (L : List Loc) : Prop := ∃ ar : Addr, v = some (.ref ar) ∧ Fr n0 L ∧ Keep h0 h [] ∧ h0.size ≤ ar ∧ own_B Z h ar (p2 - p1) ∧ Exa Z h ar "[B"
theorem rm15 (l : Launch) (Z : State) (a0 : Array Value) (hw : own_HW a0 Z) (ws : List Jvm.Cond) (r0 : Addr) (p1 p2 n1 : Int32) (h0 : Heap) (n0 : Nat) (Z0 : n0 ≤ h0.size) (B_r0 : own_B Z h0 r0 n1) (hp0 : 0 ≤ p1.toInt ∧ p1.toInt ≤ p2.toInt ∧ p2.toInt ≤ p1.toInt + 3 ∧ p2.toInt ≤ n1.toInt ∧ n1.toInt ≤ 4096) (hp1 : p2.toInt < n1.toInt) :
    own_M l Z (⟨"java/util/Arrays", "copyOfRange", "([BII)[B"⟩ : MethodName) jdk_65_method_132_code 3 (some (.array .byte)) ws ({ frames := 2, cells := 1, slots := 3, locals := 34 } : Room) #[(.ref r0), (.int p1), (.int p2)] h0 (Q_15 Z r0 p1 p2 n1 h0 n0) := by
  refine own_in "java/util/Arrays" rfl (plainFor_of_name pn_java_util_Arrays) ?_
  intro p e s m below meth c s₁ Bd hml hZ hh hx hby hown X0 e0
  have N0 := Fr.nil n0
  refine own_start (ef_15 m r0 p1 p2) ?_
  refine own_by (fun t q => oIn X0 hx hby d15_0 rfl q) ?_
  by_cases hc1_1 : p1 = (0 : Int32)
  · refine own_by (fun t q => XS.ifNo X0.here hx rfl (hb hby d15_1) rfl ((if0 _ _).trans (teq hc1_1).2) (oIn X0 hx hby d15_4 rfl (oAn X0 hx hby d15_5 rfl rfl (own_blen X0 hx hZ e0 B_r0 hby d15_6 (oJn X0 hx hby d15_7 (feq (by rw [← Int32.toInt_inj]; have w0 := own_lits; have v0 := own_eqm hc1_1; omega)).1 (oAn X0 hx hby d15_10 rfl rfl q)))))) ?_
    refine own_by (fun t q => oIn X0 hx hby d15_11 rfl (oIn X0 hx hby d15_12 rfl q)) ?_
    refine own_cK 0 (rm16 l Z a0 hw [] r0 p1 p2 n1 h0 n0 Z0 B_r0 hp0) X0 hx hZ hown hw 89 90 76 91 rfl rfl rfl rfl [(.ref r0), (.int p1), (.int p2)] [] hby d15_13 hml (lenOf pd_6 rfl) e0 rfl (Nat.le_refl _) (by decide) fun _ T2 L2 X2 hQ2 => ?_
    obtain ⟨ar_2, rfl, N2q, K2, p2_0, p2_1, p2_2⟩ := hQ2
    have g_ar_2 : n0 ≤ ar_2 := Nat.le_trans Z0 p2_0
    have sz_ar_2 : h0.size ≤ ar_2 := Nat.le_trans (Keep.refl h0 []).1 p2_0
    have N2 := Fr.app N0 N2q
    refine own_out X2 Bd.notSynchronized Bd.returns (some (.ref ar_2)) nofun (by decide) (by decide) ?_ fun fs hr => ?_
    · exact ⟨ar_2, rfl, N2, ((Keep.refl h0 []).trans K2 all0), sz_ar_2, p2_1, p2_2⟩
    · jvm_step X2.here [X2.here.top, hx, (hb hby d15_16), X2.method', Bd.returns, Value.isRef, FieldType.isReference]
      first | (intro acts; rw [hr _ acts rfl rfl rfl]) | rw [hr _ _ rfl rfl rfl]
      exact Steps.refl _
  · refine own_by (fun t q => XS.ifYes X0.here hx rfl (pc0 := 1) (pc' := 10) rfl (hb hby d15_1) rfl ((if0 _ _).trans (feq hc1_1).2) (by decide) (by decide) (oAn X0 hx hby d15_10 rfl rfl (oIn X0 hx hby d15_11 rfl (oIn X0 hx hby d15_12 rfl q)))) ?_
    refine own_cK 0 (rm16 l Z a0 hw [] r0 p1 p2 n1 h0 n0 Z0 B_r0 hp0) X0 hx hZ hown hw 89 90 76 91 rfl rfl rfl rfl [(.ref r0), (.int p1), (.int p2)] [] hby d15_13 hml (lenOf pd_6 rfl) e0 rfl (Nat.le_refl _) (by decide) fun _ T3 L3 X3 hQ3 => ?_
    obtain ⟨ar_3, rfl, N3q, K3, p3_0, p3_1, p3_2⟩ := hQ3
    have g_ar_3 : n0 ≤ ar_3 := Nat.le_trans Z0 p3_0
    have sz_ar_3 : h0.size ≤ ar_3 := Nat.le_trans (Keep.refl h0 []).1 p3_0
    have N3 := Fr.app N0 N3q
    refine own_out X3 Bd.notSynchronized Bd.returns (some (.ref ar_3)) nofun (by decide) (by decide) ?_ fun fs hr => ?_
    · exact ⟨ar_3, rfl, N3, ((Keep.refl h0 []).trans K3 all0), sz_ar_3, p3_1, p3_2⟩
    · jvm_step X3.here [X3.here.top, hx, (hb hby d15_16), X3.method', Bd.returns, Value.isRef, FieldType.isReference]
      first | (intro acts; rw [hr _ acts rfl rfl rfl]) | rw [hr _ _ rfl rfl rfl]
      exact Steps.refl _
theorem d11_0 : decode prog_6_method_11_code 0 = .ok (.iload_n 1, 1) := by decide +kernel
theorem d11_1 : decode prog_6_method_11_code 1 = .ok (.iconst 1, 1) := by decide +kernel
theorem d11_2 : decode prog_6_method_11_code 2 = .ok (.iadd, 1) := by decide +kernel
theorem d11_3 : decode prog_6_method_11_code 3 = .ok (.aload_n 0, 1) := by decide +kernel
theorem d11_4 : decode prog_6_method_11_code 4 = .ok (.getfield 30, 3) := by decide +kernel
theorem d11_7 : decode prog_6_method_11_code 7 = .ok (.if_icmp .ge 14, 3) := by decide +kernel
theorem d11_10 : decode prog_6_method_11_code 10 = .ok (.aload_n 0, 1) := by decide +kernel
theorem d11_11 : decode prog_6_method_11_code 11 = .ok (.getfield 13, 3) := by decide +kernel
theorem d11_14 : decode prog_6_method_11_code 14 = .ok (.iload_n 1, 1) := by decide +kernel
theorem d11_15 : decode prog_6_method_11_code 15 = .ok (.iconst 1, 1) := by decide +kernel
theorem d11_16 : decode prog_6_method_11_code 16 = .ok (.iadd, 1) := by decide +kernel
theorem d11_17 : decode prog_6_method_11_code 17 = .ok (.iaload, 1) := by decide +kernel
theorem d11_18 : decode prog_6_method_11_code 18 = .ok (.goto 7, 3) := by decide +kernel
theorem d11_25 : decode prog_6_method_11_code 25 = .ok (.ireturn, 1) := by decide +kernel
theorem ef_11 (m : MethodId) (x0 : Addr) (x1 : Int32) : entryFrame m #[(.ref x0), (.int x1)] 2 = mkF m 0 #[.val (.ref x0), .val (.int x1)] [] := by first | (simp [entryFrame, mkF, argsToLocals, Value.category]; done) | rfl
def Q_11_20 (Z : State) (r0 sA : Addr) (kS : ClassId) (u s0 s1 s2 s3 : Int32) (h0 : Heap) (n0 : Nat) (v : Option Value) (h : Heap) (L : List Loc) : Prop := v = some (.int s1) ∧ Fr n0 L ∧ h = h0
theorem rm11_20 (l : Launch) (Z : State) (a0 : Array Value) (hw : own_HW a0 Z) (ws : List Jvm.Cond) (r0 sA : Addr) (kS : ClassId) (u s0 s1 s2 s3 : Int32) (h0 : Heap) (n0 : Nat) (Z0 : n0 ≤ h0.size) (E_r0 : Exa Z h0 r0 cS0) (F_count_r0 : Fld Z h0 r0 cS0 "count" "I" (.int 2)) (F_used_r0 : Fld Z h0 r0 cS0 "used" "I" (.int u)) (F_starts_r0 : Fld Z h0 r0 cS0 "starts" "[I" (.ref sA)) (V_sA : Arv Z h0 sA kS .int (256 : Int32) [(.int s0), (.int s1), (.int s2), (.int s3)] (.int 0)) (E_sA : Exa Z h0 sA "[I") :
    own_M l Z (⟨cS0, "end", "(I)I"⟩ : MethodName) prog_6_method_11_code 2 (some .int) ws ({ frames := 0, cells := 0, slots := 0, locals := 0 } : Room) #[(.ref r0), (.int 0)] h0 (Q_11_20 Z r0 sA kS u s0 s1 s2 s3 h0 n0) := by
  refine own_in cS0 rfl (plainFor_of_name pn_com_example_measurewright_measurewright_cli_NameBatch) ?_
  intro p e s m below meth c s₁ Bd hml hZ hh hx hby hown X0 e0
  have N0 := Fr.nil n0
  refine own_start (ef_11 m r0 (0 : Int32)) ?_
  refine own_by (fun t q => oIn X0 hx hby d11_0 rfl (oIc X0 hx hby d11_1 (XS.iadd X0.here hx rfl (hb hby d11_2) rfl q))) ?_
  refine own_aF X0 hx hZ hown hw 36 rfl e0 F_count_r0 hby d11_3 rfl d11_4 fun T1 X1 e1 => ?_
  refine own_by (fun t q => oJn X1 hx hby d11_7 (tlt (by decide : (1 : Int32) < (2 : Int32))).2.1 q) ?_
  refine own_aF X1 hx hZ hown hw 14 rfl e1 F_starts_r0 hby d11_10 rfl d11_11 fun T2 X2 e2 => ?_
  refine own_by (fun t q => oIn X2 hx hby d11_14 rfl (oIc X2 hx hby d11_15 (XS.iadd X2.here hx rfl (hb hby d11_16) rfl (own_ldI X2 hx hZ e2 V_sA hby ⟨by decide, by decide⟩ (v := (.int s1)) rfl d11_17 (oGo X2 hx hby 18 25 d11_18 (by decide) (by decide) q))))) ?_
  refine own_out X2 Bd.notSynchronized Bd.returns (some (.int s1)) nofun (by decide) (by decide) ?_ fun fs hr => ?_
  · rw [e2]; exact ⟨rfl, N0, rfl⟩
  · exact retI X2 hx Bd.returns (hb hby d11_25) hr
theorem d11_21 : decode prog_6_method_11_code 21 = .ok (.aload_n 0, 1) := by decide +kernel
theorem d11_22 : decode prog_6_method_11_code 22 = .ok (.getfield 33, 3) := by decide +kernel
def Q_11_21 (Z : State) (r0 sA : Addr) (kS : ClassId) (u s0 s1 s2 s3 : Int32) (h0 : Heap) (n0 : Nat) (v : Option Value) (h : Heap) (L : List Loc) : Prop := v = some (.int u) ∧ Fr n0 L ∧ h = h0
theorem rm11_21 (l : Launch) (Z : State) (a0 : Array Value) (hw : own_HW a0 Z) (ws : List Jvm.Cond) (r0 sA : Addr) (kS : ClassId) (u s0 s1 s2 s3 : Int32) (h0 : Heap) (n0 : Nat) (Z0 : n0 ≤ h0.size) (E_r0 : Exa Z h0 r0 cS0) (F_count_r0 : Fld Z h0 r0 cS0 "count" "I" (.int 2)) (F_used_r0 : Fld Z h0 r0 cS0 "used" "I" (.int u)) (F_starts_r0 : Fld Z h0 r0 cS0 "starts" "[I" (.ref sA)) (V_sA : Arv Z h0 sA kS .int (256 : Int32) [(.int s0), (.int s1), (.int s2), (.int s3)] (.int 0)) (E_sA : Exa Z h0 sA "[I") :
    own_M l Z (⟨cS0, "end", "(I)I"⟩ : MethodName) prog_6_method_11_code 2 (some .int) ws ({ frames := 0, cells := 0, slots := 0, locals := 0 } : Room) #[(.ref r0), (.int 1)] h0 (Q_11_21 Z r0 sA kS u s0 s1 s2 s3 h0 n0) := by
  refine own_in cS0 rfl (plainFor_of_name pn_com_example_measurewright_measurewright_cli_NameBatch) ?_
  intro p e s m below meth c s₁ Bd hml hZ hh hx hby hown X0 e0
  have N0 := Fr.nil n0
  refine own_start (ef_11 m r0 (1 : Int32)) ?_
  refine own_by (fun t q => oIn X0 hx hby d11_0 rfl (oIc X0 hx hby d11_1 (XS.iadd X0.here hx rfl (hb hby d11_2) rfl q))) ?_
  refine own_aF X0 hx hZ hown hw 36 rfl e0 F_count_r0 hby d11_3 rfl d11_4 fun T1 X1 e1 => ?_
  refine own_by (fun t q => oJy X1 hx hby 7 21 d11_7 (flt (by decide : ¬ ((2 : Int32) < (2 : Int32)))).2.1 (by decide) (by decide) q) ?_
  refine own_aF X1 hx hZ hown hw 38 rfl e1 F_used_r0 hby d11_21 rfl d11_22 fun T2 X2 e2 => ?_
  refine own_out X2 Bd.notSynchronized Bd.returns (some (.int u)) nofun (by decide) (by decide) ?_ fun fs hr => ?_
  · rw [e2]; exact ⟨rfl, N0, rfl⟩
  · exact retI X2 hx Bd.returns (hb hby d11_25) hr
theorem pd_7 : parseMethodDescriptor "(I)I" = some ⟨[.int], some .int⟩ := by decide +kernel
theorem pd_8 : parseMethodDescriptor "([BII[BII)I" = some ⟨[(.array .byte), .int, .int, (.array .byte), .int, .int], some .int⟩ := by decide +kernel
theorem d10_0 : decode prog_6_method_10_code 0 = .ok (.aload_n 0, 1) := by decide +kernel
theorem d10_1 : decode prog_6_method_10_code 1 = .ok (.getfield 7, 3) := by decide +kernel
theorem d10_4 : decode prog_6_method_10_code 4 = .ok (.aload_n 0, 1) := by decide +kernel
theorem d10_5 : decode prog_6_method_10_code 5 = .ok (.getfield 13, 3) := by decide +kernel
theorem d10_8 : decode prog_6_method_10_code 8 = .ok (.iload_n 1, 1) := by decide +kernel
theorem d10_9 : decode prog_6_method_10_code 9 = .ok (.iaload, 1) := by decide +kernel
theorem d10_10 : decode prog_6_method_10_code 10 = .ok (.aload_n 0, 1) := by decide +kernel
theorem d10_11 : decode prog_6_method_10_code 11 = .ok (.iload_n 1, 1) := by decide +kernel
theorem d10_12 : decode prog_6_method_10_code 12 = .ok (.invokevirtual 74, 3) := by decide +kernel
theorem d10_15 : decode prog_6_method_10_code 15 = .ok (.aload_n 0, 1) := by decide +kernel
theorem d10_16 : decode prog_6_method_10_code 16 = .ok (.getfield 7, 3) := by decide +kernel
theorem d10_19 : decode prog_6_method_10_code 19 = .ok (.aload_n 0, 1) := by decide +kernel
theorem d10_20 : decode prog_6_method_10_code 20 = .ok (.getfield 13, 3) := by decide +kernel
theorem d10_23 : decode prog_6_method_10_code 23 = .ok (.iload_n 2, 1) := by decide +kernel
theorem d10_24 : decode prog_6_method_10_code 24 = .ok (.iaload, 1) := by decide +kernel
theorem d10_25 : decode prog_6_method_10_code 25 = .ok (.aload_n 0, 1) := by decide +kernel
theorem d10_26 : decode prog_6_method_10_code 26 = .ok (.iload_n 2, 1) := by decide +kernel
theorem d10_27 : decode prog_6_method_10_code 27 = .ok (.invokevirtual 74, 3) := by decide +kernel
theorem d10_30 : decode prog_6_method_10_code 30 = .ok (.invokestatic 39, 3) := by decide +kernel
theorem d10_33 : decode prog_6_method_10_code 33 = .ok (.ireturn, 1) := by decide +kernel
theorem ef_10 (m : MethodId) (x0 : Addr) (x1 : Int32) (x2 : Int32) : entryFrame m #[(.ref x0), (.int x1), (.int x2)] 3 = mkF m 0 #[.val (.ref x0), .val (.int x1), .val (.int x2)] [] := by first | (simp [entryFrame, mkF, argsToLocals, Value.category]; done) | rfl
def Q_10_201 (Z : State) (r0 bA sA : Addr) (kS : ClassId) (u s0 s1 s2 s3 : Int32) (h0 : Heap) (n0 : Nat) (v : Option Value) (h : Heap) (L : List Loc) : Prop := ∃ rr : Int32, v = some (.int rr) ∧ Fr n0 L ∧ h = h0 ∧ True
theorem rm10_201 (l : Launch) (Z : State) (a0 : Array Value) (hw : own_HW a0 Z) (ws : List Jvm.Cond) (r0 bA sA : Addr) (kS : ClassId) (u s0 s1 s2 s3 : Int32) (h0 : Heap) (n0 : Nat) (Z0 : n0 ≤ h0.size) (E_r0 : Exa Z h0 r0 cS0) (F_count_r0 : Fld Z h0 r0 cS0 "count" "I" (.int 2)) (F_used_r0 : Fld Z h0 r0 cS0 "used" "I" (.int u)) (F_bytes_r0 : Fld Z h0 r0 cS0 "bytes" "[B" (.ref bA)) (B_bA : own_B Z h0 bA (4096 : Int32)) (E_bA : Exa Z h0 bA "[B") (F_starts_r0 : Fld Z h0 r0 cS0 "starts" "[I" (.ref sA)) (V_sA : Arv Z h0 sA kS .int (256 : Int32) [(.int s0), (.int s1), (.int s2), (.int s3)] (.int 0)) (E_sA : Exa Z h0 sA "[I") (hp0 : s0.toInt ≤ s1.toInt ∧ s1.toInt ≤ s0.toInt + 3 ∧ s1.toInt ≤ u.toInt ∧ u.toInt ≤ s1.toInt + 3 ∧ 0 ≤ s0.toInt ∧ u.toInt ≤ 50) :
    own_M l Z (⟨cS0, "compare", "(II)I"⟩ : MethodName) prog_6_method_10_code 3 (some .int) ws ({ frames := 3, cells := 0, slots := 0, locals := 46 } : Room) #[(.ref r0), (.int 0), (.int 1)] h0 (Q_10_201 Z r0 bA sA kS u s0 s1 s2 s3 h0 n0) := by
  refine own_in cS0 rfl (plainFor_of_name pn_com_example_measurewright_measurewright_cli_NameBatch) ?_
  intro p e s m below meth c s₁ Bd hml hZ hh hx hby hown X0 e0
  have N0 := Fr.nil n0
  refine own_start (ef_10 m r0 (0 : Int32) (1 : Int32)) ?_
  refine own_aF X0 hx hZ hown hw 11 rfl e0 F_bytes_r0 hby d10_0 rfl d10_1 fun T1 X1 e1 => ?_
  refine own_aF X1 hx hZ hown hw 14 rfl e1 F_starts_r0 hby d10_4 rfl d10_5 fun T2 X2 e2 => ?_
  refine own_by (fun t q => oIn X2 hx hby d10_8 rfl (own_ldI X2 hx hZ e2 V_sA hby ⟨by decide, by decide⟩ (v := (.int s0)) rfl d10_9 (oAn X2 hx hby d10_10 rfl rfl (oIn X2 hx hby d10_11 rfl q)))) ?_
  refine own_cP 2 (rm11_20 l Z a0 hw [] r0 sA kS u s0 s1 s2 s3 h0 n0 Z0 E_r0 F_count_r0 F_used_r0 F_starts_r0 V_sA E_sA) X2 hx hZ hown hw 70 71 3 72 4 73 rfl rfl rfl rfl rfl rfl r0 E_r0 [(.int 0)] [(.int s0), (.ref bA)] hby d10_12 hml (lenOf pd_7 rfl) e2 rfl (Nat.le_refl _) (by decide) fun _ T3 L3 X3 hQ3 => ?_
  obtain ⟨rfl, N3q, e3⟩ := hQ3
  have N3 := Fr.app N0 N3q
  refine own_aF X3 hx hZ hown hw 11 rfl e3 F_bytes_r0 hby d10_15 rfl d10_16 fun T4 X4 e4 => ?_
  refine own_aF X4 hx hZ hown hw 14 rfl e4 F_starts_r0 hby d10_19 rfl d10_20 fun T5 X5 e5 => ?_
  refine own_by (fun t q => oIn X5 hx hby d10_23 rfl (own_ldI X5 hx hZ e5 V_sA hby ⟨by decide, by decide⟩ (v := (.int s1)) rfl d10_24 (oAn X5 hx hby d10_25 rfl rfl (oIn X5 hx hby d10_26 rfl q)))) ?_
  refine own_cP 5 (rm11_21 l Z a0 hw [] r0 sA kS u s0 s1 s2 s3 h0 n0 Z0 E_r0 F_count_r0 F_used_r0 F_starts_r0 V_sA E_sA) X5 hx hZ hown hw 70 71 3 72 4 73 rfl rfl rfl rfl rfl rfl r0 E_r0 [(.int 1)] [(.int s1), (.ref bA), (.int s1), (.int s0), (.ref bA)] hby d10_27 hml (lenOf pd_7 rfl) e5 rfl (Nat.le_refl _) (by decide) fun _ T6 L6 X6 hQ6 => ?_
  obtain ⟨rfl, N6q, e6⟩ := hQ6
  have N6 := Fr.app N3 N6q
  refine own_cK 0 (rm12 l Z a0 hw [] bA s0 s1 bA s1 u (4096 : Int32) (4096 : Int32) h0 n0 Z0 B_bA B_bA (by have w0 := own_lits; omega) (by have w0 := own_lits; omega)) X6 hx hZ hown hw 74 75 76 77 rfl rfl rfl rfl [(.ref bA), (.int s0), (.int s1), (.ref bA), (.int s1), (.int u)] [] hby d10_30 hml (lenOf pd_8 rfl) e6 rfl (Nat.le_refl _) (by decide) fun _ T7 L7 X7 hQ7 => ?_
  obtain ⟨rr_7, rfl, N7q, e7, -⟩ := hQ7
  have N7 := Fr.app N6 N7q
  refine own_out X7 Bd.notSynchronized Bd.returns (some (.int rr_7)) nofun (by decide) (by decide) ?_ fun fs hr => ?_
  · rw [e7]; exact ⟨rr_7, rfl, N7, rfl, trivial⟩
  · exact retI X7 hx Bd.returns (hb hby d10_33) hr
def Q_11_30 (Z : State) (r0 sA : Addr) (kS : ClassId) (u s0 s1 s2 s3 : Int32) (h0 : Heap) (n0 : Nat) (v : Option Value) (h : Heap) (L : List Loc) : Prop := v = some (.int s1) ∧ Fr n0 L ∧ h = h0
theorem rm11_30 (l : Launch) (Z : State) (a0 : Array Value) (hw : own_HW a0 Z) (ws : List Jvm.Cond) (r0 sA : Addr) (kS : ClassId) (u s0 s1 s2 s3 : Int32) (h0 : Heap) (n0 : Nat) (Z0 : n0 ≤ h0.size) (E_r0 : Exa Z h0 r0 cS0) (F_count_r0 : Fld Z h0 r0 cS0 "count" "I" (.int 3)) (F_used_r0 : Fld Z h0 r0 cS0 "used" "I" (.int u)) (F_starts_r0 : Fld Z h0 r0 cS0 "starts" "[I" (.ref sA)) (V_sA : Arv Z h0 sA kS .int (256 : Int32) [(.int s0), (.int s1), (.int s2), (.int s3)] (.int 0)) (E_sA : Exa Z h0 sA "[I") :
    own_M l Z (⟨cS0, "end", "(I)I"⟩ : MethodName) prog_6_method_11_code 2 (some .int) ws ({ frames := 0, cells := 0, slots := 0, locals := 0 } : Room) #[(.ref r0), (.int 0)] h0 (Q_11_30 Z r0 sA kS u s0 s1 s2 s3 h0 n0) := by
  refine own_in cS0 rfl (plainFor_of_name pn_com_example_measurewright_measurewright_cli_NameBatch) ?_
  intro p e s m below meth c s₁ Bd hml hZ hh hx hby hown X0 e0
  have N0 := Fr.nil n0
  refine own_start (ef_11 m r0 (0 : Int32)) ?_
  refine own_by (fun t q => oIn X0 hx hby d11_0 rfl (oIc X0 hx hby d11_1 (XS.iadd X0.here hx rfl (hb hby d11_2) rfl q))) ?_
  refine own_aF X0 hx hZ hown hw 36 rfl e0 F_count_r0 hby d11_3 rfl d11_4 fun T1 X1 e1 => ?_
  refine own_by (fun t q => oJn X1 hx hby d11_7 (tlt (by decide : (1 : Int32) < (3 : Int32))).2.1 q) ?_
  refine own_aF X1 hx hZ hown hw 14 rfl e1 F_starts_r0 hby d11_10 rfl d11_11 fun T2 X2 e2 => ?_
  refine own_by (fun t q => oIn X2 hx hby d11_14 rfl (oIc X2 hx hby d11_15 (XS.iadd X2.here hx rfl (hb hby d11_16) rfl (own_ldI X2 hx hZ e2 V_sA hby ⟨by decide, by decide⟩ (v := (.int s1)) rfl d11_17 (oGo X2 hx hby 18 25 d11_18 (by decide) (by decide) q))))) ?_
  refine own_out X2 Bd.notSynchronized Bd.returns (some (.int s1)) nofun (by decide) (by decide) ?_ fun fs hr => ?_
  · rw [e2]; exact ⟨rfl, N0, rfl⟩
  · exact retI X2 hx Bd.returns (hb hby d11_25) hr
def Q_11_31 (Z : State) (r0 sA : Addr) (kS : ClassId) (u s0 s1 s2 s3 : Int32) (h0 : Heap) (n0 : Nat) (v : Option Value) (h : Heap) (L : List Loc) : Prop := v = some (.int s2) ∧ Fr n0 L ∧ h = h0
theorem rm11_31 (l : Launch) (Z : State) (a0 : Array Value) (hw : own_HW a0 Z) (ws : List Jvm.Cond) (r0 sA : Addr) (kS : ClassId) (u s0 s1 s2 s3 : Int32) (h0 : Heap) (n0 : Nat) (Z0 : n0 ≤ h0.size) (E_r0 : Exa Z h0 r0 cS0) (F_count_r0 : Fld Z h0 r0 cS0 "count" "I" (.int 3)) (F_used_r0 : Fld Z h0 r0 cS0 "used" "I" (.int u)) (F_starts_r0 : Fld Z h0 r0 cS0 "starts" "[I" (.ref sA)) (V_sA : Arv Z h0 sA kS .int (256 : Int32) [(.int s0), (.int s1), (.int s2), (.int s3)] (.int 0)) (E_sA : Exa Z h0 sA "[I") :
    own_M l Z (⟨cS0, "end", "(I)I"⟩ : MethodName) prog_6_method_11_code 2 (some .int) ws ({ frames := 0, cells := 0, slots := 0, locals := 0 } : Room) #[(.ref r0), (.int 1)] h0 (Q_11_31 Z r0 sA kS u s0 s1 s2 s3 h0 n0) := by
  refine own_in cS0 rfl (plainFor_of_name pn_com_example_measurewright_measurewright_cli_NameBatch) ?_
  intro p e s m below meth c s₁ Bd hml hZ hh hx hby hown X0 e0
  have N0 := Fr.nil n0
  refine own_start (ef_11 m r0 (1 : Int32)) ?_
  refine own_by (fun t q => oIn X0 hx hby d11_0 rfl (oIc X0 hx hby d11_1 (XS.iadd X0.here hx rfl (hb hby d11_2) rfl q))) ?_
  refine own_aF X0 hx hZ hown hw 36 rfl e0 F_count_r0 hby d11_3 rfl d11_4 fun T1 X1 e1 => ?_
  refine own_by (fun t q => oJn X1 hx hby d11_7 (tlt (by decide : (2 : Int32) < (3 : Int32))).2.1 q) ?_
  refine own_aF X1 hx hZ hown hw 14 rfl e1 F_starts_r0 hby d11_10 rfl d11_11 fun T2 X2 e2 => ?_
  refine own_by (fun t q => oIn X2 hx hby d11_14 rfl (oIc X2 hx hby d11_15 (XS.iadd X2.here hx rfl (hb hby d11_16) rfl (own_ldI X2 hx hZ e2 V_sA hby ⟨by decide, by decide⟩ (v := (.int s2)) rfl d11_17 (oGo X2 hx hby 18 25 d11_18 (by decide) (by decide) q))))) ?_
  refine own_out X2 Bd.notSynchronized Bd.returns (some (.int s2)) nofun (by decide) (by decide) ?_ fun fs hr => ?_
  · rw [e2]; exact ⟨rfl, N0, rfl⟩
  · exact retI X2 hx Bd.returns (hb hby d11_25) hr
def Q_11_32 (Z : State) (r0 sA : Addr) (kS : ClassId) (u s0 s1 s2 s3 : Int32) (h0 : Heap) (n0 : Nat) (v : Option Value) (h : Heap) (L : List Loc) : Prop := v = some (.int u) ∧ Fr n0 L ∧ h = h0
theorem rm11_32 (l : Launch) (Z : State) (a0 : Array Value) (hw : own_HW a0 Z) (ws : List Jvm.Cond) (r0 sA : Addr) (kS : ClassId) (u s0 s1 s2 s3 : Int32) (h0 : Heap) (n0 : Nat) (Z0 : n0 ≤ h0.size) (E_r0 : Exa Z h0 r0 cS0) (F_count_r0 : Fld Z h0 r0 cS0 "count" "I" (.int 3)) (F_used_r0 : Fld Z h0 r0 cS0 "used" "I" (.int u)) (F_starts_r0 : Fld Z h0 r0 cS0 "starts" "[I" (.ref sA)) (V_sA : Arv Z h0 sA kS .int (256 : Int32) [(.int s0), (.int s1), (.int s2), (.int s3)] (.int 0)) (E_sA : Exa Z h0 sA "[I") :
    own_M l Z (⟨cS0, "end", "(I)I"⟩ : MethodName) prog_6_method_11_code 2 (some .int) ws ({ frames := 0, cells := 0, slots := 0, locals := 0 } : Room) #[(.ref r0), (.int 2)] h0 (Q_11_32 Z r0 sA kS u s0 s1 s2 s3 h0 n0) := by
  refine own_in cS0 rfl (plainFor_of_name pn_com_example_measurewright_measurewright_cli_NameBatch) ?_
  intro p e s m below meth c s₁ Bd hml hZ hh hx hby hown X0 e0
  have N0 := Fr.nil n0
  refine own_start (ef_11 m r0 (2 : Int32)) ?_
  refine own_by (fun t q => oIn X0 hx hby d11_0 rfl (oIc X0 hx hby d11_1 (XS.iadd X0.here hx rfl (hb hby d11_2) rfl q))) ?_
  refine own_aF X0 hx hZ hown hw 36 rfl e0 F_count_r0 hby d11_3 rfl d11_4 fun T1 X1 e1 => ?_
  refine own_by (fun t q => oJy X1 hx hby 7 21 d11_7 (flt (by decide : ¬ ((3 : Int32) < (3 : Int32)))).2.1 (by decide) (by decide) q) ?_
  refine own_aF X1 hx hZ hown hw 38 rfl e1 F_used_r0 hby d11_21 rfl d11_22 fun T2 X2 e2 => ?_
  refine own_out X2 Bd.notSynchronized Bd.returns (some (.int u)) nofun (by decide) (by decide) ?_ fun fs hr => ?_
  · rw [e2]; exact ⟨rfl, N0, rfl⟩
  · exact retI X2 hx Bd.returns (hb hby d11_25) hr
def Q_10_301 (Z : State) (r0 bA sA : Addr) (kS : ClassId) (u s0 s1 s2 s3 : Int32) (h0 : Heap) (n0 : Nat) (v : Option Value) (h : Heap) (L : List Loc) : Prop := ∃ rr : Int32, v = some (.int rr) ∧ Fr n0 L ∧ h = h0 ∧ True
theorem rm10_301 (l : Launch) (Z : State) (a0 : Array Value) (hw : own_HW a0 Z) (ws : List Jvm.Cond) (r0 bA sA : Addr) (kS : ClassId) (u s0 s1 s2 s3 : Int32) (h0 : Heap) (n0 : Nat) (Z0 : n0 ≤ h0.size) (E_r0 : Exa Z h0 r0 cS0) (F_count_r0 : Fld Z h0 r0 cS0 "count" "I" (.int 3)) (F_used_r0 : Fld Z h0 r0 cS0 "used" "I" (.int u)) (F_bytes_r0 : Fld Z h0 r0 cS0 "bytes" "[B" (.ref bA)) (B_bA : own_B Z h0 bA (4096 : Int32)) (E_bA : Exa Z h0 bA "[B") (F_starts_r0 : Fld Z h0 r0 cS0 "starts" "[I" (.ref sA)) (V_sA : Arv Z h0 sA kS .int (256 : Int32) [(.int s0), (.int s1), (.int s2), (.int s3)] (.int 0)) (E_sA : Exa Z h0 sA "[I") (hp0 : s0.toInt ≤ s1.toInt ∧ s1.toInt ≤ s0.toInt + 3 ∧ s1.toInt ≤ s2.toInt ∧ s2.toInt ≤ s1.toInt + 3 ∧ s2.toInt ≤ u.toInt ∧ u.toInt ≤ s2.toInt + 3 ∧ 0 ≤ s0.toInt ∧ u.toInt ≤ 50) :
    own_M l Z (⟨cS0, "compare", "(II)I"⟩ : MethodName) prog_6_method_10_code 3 (some .int) ws ({ frames := 3, cells := 0, slots := 0, locals := 46 } : Room) #[(.ref r0), (.int 0), (.int 1)] h0 (Q_10_301 Z r0 bA sA kS u s0 s1 s2 s3 h0 n0) := by
  refine own_in cS0 rfl (plainFor_of_name pn_com_example_measurewright_measurewright_cli_NameBatch) ?_
  intro p e s m below meth c s₁ Bd hml hZ hh hx hby hown X0 e0
  have N0 := Fr.nil n0
  refine own_start (ef_10 m r0 (0 : Int32) (1 : Int32)) ?_
  refine own_aF X0 hx hZ hown hw 11 rfl e0 F_bytes_r0 hby d10_0 rfl d10_1 fun T1 X1 e1 => ?_
  refine own_aF X1 hx hZ hown hw 14 rfl e1 F_starts_r0 hby d10_4 rfl d10_5 fun T2 X2 e2 => ?_
  refine own_by (fun t q => oIn X2 hx hby d10_8 rfl (own_ldI X2 hx hZ e2 V_sA hby ⟨by decide, by decide⟩ (v := (.int s0)) rfl d10_9 (oAn X2 hx hby d10_10 rfl rfl (oIn X2 hx hby d10_11 rfl q)))) ?_
  refine own_cP 2 (rm11_30 l Z a0 hw [] r0 sA kS u s0 s1 s2 s3 h0 n0 Z0 E_r0 F_count_r0 F_used_r0 F_starts_r0 V_sA E_sA) X2 hx hZ hown hw 70 71 3 72 4 73 rfl rfl rfl rfl rfl rfl r0 E_r0 [(.int 0)] [(.int s0), (.ref bA)] hby d10_12 hml (lenOf pd_7 rfl) e2 rfl (Nat.le_refl _) (by decide) fun _ T3 L3 X3 hQ3 => ?_
  obtain ⟨rfl, N3q, e3⟩ := hQ3
  have N3 := Fr.app N0 N3q
  refine own_aF X3 hx hZ hown hw 11 rfl e3 F_bytes_r0 hby d10_15 rfl d10_16 fun T4 X4 e4 => ?_
  refine own_aF X4 hx hZ hown hw 14 rfl e4 F_starts_r0 hby d10_19 rfl d10_20 fun T5 X5 e5 => ?_
  refine own_by (fun t q => oIn X5 hx hby d10_23 rfl (own_ldI X5 hx hZ e5 V_sA hby ⟨by decide, by decide⟩ (v := (.int s1)) rfl d10_24 (oAn X5 hx hby d10_25 rfl rfl (oIn X5 hx hby d10_26 rfl q)))) ?_
  refine own_cP 5 (rm11_31 l Z a0 hw [] r0 sA kS u s0 s1 s2 s3 h0 n0 Z0 E_r0 F_count_r0 F_used_r0 F_starts_r0 V_sA E_sA) X5 hx hZ hown hw 70 71 3 72 4 73 rfl rfl rfl rfl rfl rfl r0 E_r0 [(.int 1)] [(.int s1), (.ref bA), (.int s1), (.int s0), (.ref bA)] hby d10_27 hml (lenOf pd_7 rfl) e5 rfl (Nat.le_refl _) (by decide) fun _ T6 L6 X6 hQ6 => ?_
  obtain ⟨rfl, N6q, e6⟩ := hQ6
  have N6 := Fr.app N3 N6q
  refine own_cK 0 (rm12 l Z a0 hw [] bA s0 s1 bA s1 s2 (4096 : Int32) (4096 : Int32) h0 n0 Z0 B_bA B_bA (by have w0 := own_lits; omega) (by have w0 := own_lits; omega)) X6 hx hZ hown hw 74 75 76 77 rfl rfl rfl rfl [(.ref bA), (.int s0), (.int s1), (.ref bA), (.int s1), (.int s2)] [] hby d10_30 hml (lenOf pd_8 rfl) e6 rfl (Nat.le_refl _) (by decide) fun _ T7 L7 X7 hQ7 => ?_
  obtain ⟨rr_7, rfl, N7q, e7, -⟩ := hQ7
  have N7 := Fr.app N6 N7q
  refine own_out X7 Bd.notSynchronized Bd.returns (some (.int rr_7)) nofun (by decide) (by decide) ?_ fun fs hr => ?_
  · rw [e7]; exact ⟨rr_7, rfl, N7, rfl, trivial⟩
  · exact retI X7 hx Bd.returns (hb hby d10_33) hr
def Q_10_302 (Z : State) (r0 bA sA : Addr) (kS : ClassId) (u s0 s1 s2 s3 : Int32) (h0 : Heap) (n0 : Nat) (v : Option Value) (h : Heap) (L : List Loc) : Prop := ∃ rr : Int32, v = some (.int rr) ∧ Fr n0 L ∧ h = h0 ∧ True
theorem rm10_302 (l : Launch) (Z : State) (a0 : Array Value) (hw : own_HW a0 Z) (ws : List Jvm.Cond) (r0 bA sA : Addr) (kS : ClassId) (u s0 s1 s2 s3 : Int32) (h0 : Heap) (n0 : Nat) (Z0 : n0 ≤ h0.size) (E_r0 : Exa Z h0 r0 cS0) (F_count_r0 : Fld Z h0 r0 cS0 "count" "I" (.int 3)) (F_used_r0 : Fld Z h0 r0 cS0 "used" "I" (.int u)) (F_bytes_r0 : Fld Z h0 r0 cS0 "bytes" "[B" (.ref bA)) (B_bA : own_B Z h0 bA (4096 : Int32)) (E_bA : Exa Z h0 bA "[B") (F_starts_r0 : Fld Z h0 r0 cS0 "starts" "[I" (.ref sA)) (V_sA : Arv Z h0 sA kS .int (256 : Int32) [(.int s0), (.int s1), (.int s2), (.int s3)] (.int 0)) (E_sA : Exa Z h0 sA "[I") (hp0 : s0.toInt ≤ s1.toInt ∧ s1.toInt ≤ s0.toInt + 3 ∧ s1.toInt ≤ s2.toInt ∧ s2.toInt ≤ s1.toInt + 3 ∧ s2.toInt ≤ u.toInt ∧ u.toInt ≤ s2.toInt + 3 ∧ 0 ≤ s0.toInt ∧ u.toInt ≤ 50) :
    own_M l Z (⟨cS0, "compare", "(II)I"⟩ : MethodName) prog_6_method_10_code 3 (some .int) ws ({ frames := 3, cells := 0, slots := 0, locals := 46 } : Room) #[(.ref r0), (.int 0), (.int 2)] h0 (Q_10_302 Z r0 bA sA kS u s0 s1 s2 s3 h0 n0) := by
  refine own_in cS0 rfl (plainFor_of_name pn_com_example_measurewright_measurewright_cli_NameBatch) ?_
  intro p e s m below meth c s₁ Bd hml hZ hh hx hby hown X0 e0
  have N0 := Fr.nil n0
  refine own_start (ef_10 m r0 (0 : Int32) (2 : Int32)) ?_
  refine own_aF X0 hx hZ hown hw 11 rfl e0 F_bytes_r0 hby d10_0 rfl d10_1 fun T1 X1 e1 => ?_
  refine own_aF X1 hx hZ hown hw 14 rfl e1 F_starts_r0 hby d10_4 rfl d10_5 fun T2 X2 e2 => ?_
  refine own_by (fun t q => oIn X2 hx hby d10_8 rfl (own_ldI X2 hx hZ e2 V_sA hby ⟨by decide, by decide⟩ (v := (.int s0)) rfl d10_9 (oAn X2 hx hby d10_10 rfl rfl (oIn X2 hx hby d10_11 rfl q)))) ?_
  refine own_cP 2 (rm11_30 l Z a0 hw [] r0 sA kS u s0 s1 s2 s3 h0 n0 Z0 E_r0 F_count_r0 F_used_r0 F_starts_r0 V_sA E_sA) X2 hx hZ hown hw 70 71 3 72 4 73 rfl rfl rfl rfl rfl rfl r0 E_r0 [(.int 0)] [(.int s0), (.ref bA)] hby d10_12 hml (lenOf pd_7 rfl) e2 rfl (Nat.le_refl _) (by decide) fun _ T3 L3 X3 hQ3 => ?_
  obtain ⟨rfl, N3q, e3⟩ := hQ3
  have N3 := Fr.app N0 N3q
  refine own_aF X3 hx hZ hown hw 11 rfl e3 F_bytes_r0 hby d10_15 rfl d10_16 fun T4 X4 e4 => ?_
  refine own_aF X4 hx hZ hown hw 14 rfl e4 F_starts_r0 hby d10_19 rfl d10_20 fun T5 X5 e5 => ?_
  refine own_by (fun t q => oIn X5 hx hby d10_23 rfl (own_ldI X5 hx hZ e5 V_sA hby ⟨by decide, by decide⟩ (v := (.int s2)) rfl d10_24 (oAn X5 hx hby d10_25 rfl rfl (oIn X5 hx hby d10_26 rfl q)))) ?_
  refine own_cP 5 (rm11_32 l Z a0 hw [] r0 sA kS u s0 s1 s2 s3 h0 n0 Z0 E_r0 F_count_r0 F_used_r0 F_starts_r0 V_sA E_sA) X5 hx hZ hown hw 70 71 3 72 4 73 rfl rfl rfl rfl rfl rfl r0 E_r0 [(.int 2)] [(.int s2), (.ref bA), (.int s1), (.int s0), (.ref bA)] hby d10_27 hml (lenOf pd_7 rfl) e5 rfl (Nat.le_refl _) (by decide) fun _ T6 L6 X6 hQ6 => ?_
  obtain ⟨rfl, N6q, e6⟩ := hQ6
  have N6 := Fr.app N3 N6q
  refine own_cK 0 (rm12 l Z a0 hw [] bA s0 s1 bA s2 u (4096 : Int32) (4096 : Int32) h0 n0 Z0 B_bA B_bA (by have w0 := own_lits; omega) (by have w0 := own_lits; omega)) X6 hx hZ hown hw 74 75 76 77 rfl rfl rfl rfl [(.ref bA), (.int s0), (.int s1), (.ref bA), (.int s2), (.int u)] [] hby d10_30 hml (lenOf pd_8 rfl) e6 rfl (Nat.le_refl _) (by decide) fun _ T7 L7 X7 hQ7 => ?_
  obtain ⟨rr_7, rfl, N7q, e7, -⟩ := hQ7
  have N7 := Fr.app N6 N7q
  refine own_out X7 Bd.notSynchronized Bd.returns (some (.int rr_7)) nofun (by decide) (by decide) ?_ fun fs hr => ?_
  · rw [e7]; exact ⟨rr_7, rfl, N7, rfl, trivial⟩
  · exact retI X7 hx Bd.returns (hb hby d10_33) hr
def Q_10_312 (Z : State) (r0 bA sA : Addr) (kS : ClassId) (u s0 s1 s2 s3 : Int32) (h0 : Heap) (n0 : Nat) (v : Option Value) (h : Heap) (L : List Loc) : Prop := ∃ rr : Int32, v = some (.int rr) ∧ Fr n0 L ∧ h = h0 ∧ True
theorem rm10_312 (l : Launch) (Z : State) (a0 : Array Value) (hw : own_HW a0 Z) (ws : List Jvm.Cond) (r0 bA sA : Addr) (kS : ClassId) (u s0 s1 s2 s3 : Int32) (h0 : Heap) (n0 : Nat) (Z0 : n0 ≤ h0.size) (E_r0 : Exa Z h0 r0 cS0) (F_count_r0 : Fld Z h0 r0 cS0 "count" "I" (.int 3)) (F_used_r0 : Fld Z h0 r0 cS0 "used" "I" (.int u)) (F_bytes_r0 : Fld Z h0 r0 cS0 "bytes" "[B" (.ref bA)) (B_bA : own_B Z h0 bA (4096 : Int32)) (E_bA : Exa Z h0 bA "[B") (F_starts_r0 : Fld Z h0 r0 cS0 "starts" "[I" (.ref sA)) (V_sA : Arv Z h0 sA kS .int (256 : Int32) [(.int s0), (.int s1), (.int s2), (.int s3)] (.int 0)) (E_sA : Exa Z h0 sA "[I") (hp0 : s0.toInt ≤ s1.toInt ∧ s1.toInt ≤ s0.toInt + 3 ∧ s1.toInt ≤ s2.toInt ∧ s2.toInt ≤ s1.toInt + 3 ∧ s2.toInt ≤ u.toInt ∧ u.toInt ≤ s2.toInt + 3 ∧ 0 ≤ s0.toInt ∧ u.toInt ≤ 50) :
    own_M l Z (⟨cS0, "compare", "(II)I"⟩ : MethodName) prog_6_method_10_code 3 (some .int) ws ({ frames := 3, cells := 0, slots := 0, locals := 46 } : Room) #[(.ref r0), (.int 1), (.int 2)] h0 (Q_10_312 Z r0 bA sA kS u s0 s1 s2 s3 h0 n0) := by
  refine own_in cS0 rfl (plainFor_of_name pn_com_example_measurewright_measurewright_cli_NameBatch) ?_
  intro p e s m below meth c s₁ Bd hml hZ hh hx hby hown X0 e0
  have N0 := Fr.nil n0
  refine own_start (ef_10 m r0 (1 : Int32) (2 : Int32)) ?_
  refine own_aF X0 hx hZ hown hw 11 rfl e0 F_bytes_r0 hby d10_0 rfl d10_1 fun T1 X1 e1 => ?_
  refine own_aF X1 hx hZ hown hw 14 rfl e1 F_starts_r0 hby d10_4 rfl d10_5 fun T2 X2 e2 => ?_
  refine own_by (fun t q => oIn X2 hx hby d10_8 rfl (own_ldI X2 hx hZ e2 V_sA hby ⟨by decide, by decide⟩ (v := (.int s1)) rfl d10_9 (oAn X2 hx hby d10_10 rfl rfl (oIn X2 hx hby d10_11 rfl q)))) ?_
  refine own_cP 2 (rm11_31 l Z a0 hw [] r0 sA kS u s0 s1 s2 s3 h0 n0 Z0 E_r0 F_count_r0 F_used_r0 F_starts_r0 V_sA E_sA) X2 hx hZ hown hw 70 71 3 72 4 73 rfl rfl rfl rfl rfl rfl r0 E_r0 [(.int 1)] [(.int s1), (.ref bA)] hby d10_12 hml (lenOf pd_7 rfl) e2 rfl (Nat.le_refl _) (by decide) fun _ T3 L3 X3 hQ3 => ?_
  obtain ⟨rfl, N3q, e3⟩ := hQ3
  have N3 := Fr.app N0 N3q
  refine own_aF X3 hx hZ hown hw 11 rfl e3 F_bytes_r0 hby d10_15 rfl d10_16 fun T4 X4 e4 => ?_
  refine own_aF X4 hx hZ hown hw 14 rfl e4 F_starts_r0 hby d10_19 rfl d10_20 fun T5 X5 e5 => ?_
  refine own_by (fun t q => oIn X5 hx hby d10_23 rfl (own_ldI X5 hx hZ e5 V_sA hby ⟨by decide, by decide⟩ (v := (.int s2)) rfl d10_24 (oAn X5 hx hby d10_25 rfl rfl (oIn X5 hx hby d10_26 rfl q)))) ?_
  refine own_cP 5 (rm11_32 l Z a0 hw [] r0 sA kS u s0 s1 s2 s3 h0 n0 Z0 E_r0 F_count_r0 F_used_r0 F_starts_r0 V_sA E_sA) X5 hx hZ hown hw 70 71 3 72 4 73 rfl rfl rfl rfl rfl rfl r0 E_r0 [(.int 2)] [(.int s2), (.ref bA), (.int s2), (.int s1), (.ref bA)] hby d10_27 hml (lenOf pd_7 rfl) e5 rfl (Nat.le_refl _) (by decide) fun _ T6 L6 X6 hQ6 => ?_
  obtain ⟨rfl, N6q, e6⟩ := hQ6
  have N6 := Fr.app N3 N6q
  refine own_cK 0 (rm12 l Z a0 hw [] bA s1 s2 bA s2 u (4096 : Int32) (4096 : Int32) h0 n0 Z0 B_bA B_bA (by have w0 := own_lits; omega) (by have w0 := own_lits; omega)) X6 hx hZ hown hw 74 75 76 77 rfl rfl rfl rfl [(.ref bA), (.int s1), (.int s2), (.ref bA), (.int s2), (.int u)] [] hby d10_30 hml (lenOf pd_8 rfl) e6 rfl (Nat.le_refl _) (by decide) fun _ T7 L7 X7 hQ7 => ?_
  obtain ⟨rr_7, rfl, N7q, e7, -⟩ := hQ7
  have N7 := Fr.app N6 N7q
  refine own_out X7 Bd.notSynchronized Bd.returns (some (.int rr_7)) nofun (by decide) (by decide) ?_ fun fs hr => ?_
  · rw [e7]; exact ⟨rr_7, rfl, N7, rfl, trivial⟩
  · exact retI X7 hx Bd.returns (hb hby d10_33) hr
theorem d9_0 : decode prog_6_method_9_code 0 = .ok (.aload_n 0, 1) := by decide +kernel
theorem d9_1 : decode prog_6_method_9_code 1 = .ok (.getfield 17, 3) := by decide +kernel
theorem d9_4 : decode prog_6_method_9_code 4 = .ok (.iload_n 1, 1) := by decide +kernel
theorem d9_5 : decode prog_6_method_9_code 5 = .ok (.aload_n 0, 1) := by decide +kernel
theorem d9_6 : decode prog_6_method_9_code 6 = .ok (.getfield 20, 3) := by decide +kernel
theorem d9_9 : decode prog_6_method_9_code 9 = .ok (.iload_n 1, 1) := by decide +kernel
theorem d9_10 : decode prog_6_method_9_code 10 = .ok (.iload_n 3, 1) := by decide +kernel
theorem d9_11 : decode prog_6_method_9_code 11 = .ok (.iload_n 1, 1) := by decide +kernel
theorem d9_12 : decode prog_6_method_9_code 12 = .ok (.isub, 1) := by decide +kernel
theorem d9_13 : decode prog_6_method_9_code 13 = .ok (.invokestatic 64, 3) := by decide +kernel
theorem d9_16 : decode prog_6_method_9_code 16 = .ok (.iload_n 1, 1) := by decide +kernel
theorem d9_17 : decode prog_6_method_9_code 17 = .ok (.istore 4, 2) := by decide +kernel
theorem d9_19 : decode prog_6_method_9_code 19 = .ok (.iload_n 2, 1) := by decide +kernel
theorem d9_20 : decode prog_6_method_9_code 20 = .ok (.istore 5, 2) := by decide +kernel
theorem d9_22 : decode prog_6_method_9_code 22 = .ok (.iload_n 1, 1) := by decide +kernel
theorem d9_23 : decode prog_6_method_9_code 23 = .ok (.istore 6, 2) := by decide +kernel
theorem d9_25 : decode prog_6_method_9_code 25 = .ok (.iload 6, 2) := by decide +kernel
theorem d9_27 : decode prog_6_method_9_code 27 = .ok (.iload_n 3, 1) := by decide +kernel
theorem d9_28 : decode prog_6_method_9_code 28 = .ok (.if_icmp .ge 79, 3) := by decide +kernel
theorem d9_31 : decode prog_6_method_9_code 31 = .ok (.iload 5, 2) := by decide +kernel
theorem d9_33 : decode prog_6_method_9_code 33 = .ok (.iload_n 3, 1) := by decide +kernel
theorem d9_34 : decode prog_6_method_9_code 34 = .ok (.if_icmp .eq 30, 3) := by decide +kernel
theorem d9_37 : decode prog_6_method_9_code 37 = .ok (.iload 4, 2) := by decide +kernel
theorem d9_39 : decode prog_6_method_9_code 39 = .ok (.iload_n 2, 1) := by decide +kernel
theorem d9_40 : decode prog_6_method_9_code 40 = .ok (.if_icmp .ge 44, 3) := by decide +kernel
theorem d9_43 : decode prog_6_method_9_code 43 = .ok (.aload_n 0, 1) := by decide +kernel
theorem d9_44 : decode prog_6_method_9_code 44 = .ok (.aload_n 0, 1) := by decide +kernel
theorem d9_45 : decode prog_6_method_9_code 45 = .ok (.getfield 20, 3) := by decide +kernel
theorem d9_48 : decode prog_6_method_9_code 48 = .ok (.iload 4, 2) := by decide +kernel
theorem d9_50 : decode prog_6_method_9_code 50 = .ok (.iaload, 1) := by decide +kernel
theorem d9_51 : decode prog_6_method_9_code 51 = .ok (.aload_n 0, 1) := by decide +kernel
theorem d9_52 : decode prog_6_method_9_code 52 = .ok (.getfield 20, 3) := by decide +kernel
theorem d9_55 : decode prog_6_method_9_code 55 = .ok (.iload 5, 2) := by decide +kernel
theorem d9_57 : decode prog_6_method_9_code 57 = .ok (.iaload, 1) := by decide +kernel
theorem d9_58 : decode prog_6_method_9_code 58 = .ok (.invokevirtual 85, 3) := by decide +kernel
theorem d9_61 : decode prog_6_method_9_code 61 = .ok (.ifCond .gt 23, 3) := by decide +kernel
theorem d9_64 : decode prog_6_method_9_code 64 = .ok (.aload_n 0, 1) := by decide +kernel
theorem d9_65 : decode prog_6_method_9_code 65 = .ok (.getfield 17, 3) := by decide +kernel
theorem d9_68 : decode prog_6_method_9_code 68 = .ok (.iload 6, 2) := by decide +kernel
theorem d9_70 : decode prog_6_method_9_code 70 = .ok (.aload_n 0, 1) := by decide +kernel
theorem d9_71 : decode prog_6_method_9_code 71 = .ok (.getfield 20, 3) := by decide +kernel
theorem d9_74 : decode prog_6_method_9_code 74 = .ok (.iload 4, 2) := by decide +kernel
theorem d9_76 : decode prog_6_method_9_code 76 = .ok (.iinc 4 1, 3) := by decide +kernel
theorem d9_79 : decode prog_6_method_9_code 79 = .ok (.iaload, 1) := by decide +kernel
theorem d9_80 : decode prog_6_method_9_code 80 = .ok (.iastore, 1) := by decide +kernel
theorem d9_81 : decode prog_6_method_9_code 81 = .ok (.goto 20, 3) := by decide +kernel
theorem d9_84 : decode prog_6_method_9_code 84 = .ok (.aload_n 0, 1) := by decide +kernel
theorem d9_85 : decode prog_6_method_9_code 85 = .ok (.getfield 17, 3) := by decide +kernel
theorem d9_88 : decode prog_6_method_9_code 88 = .ok (.iload 6, 2) := by decide +kernel
theorem d9_90 : decode prog_6_method_9_code 90 = .ok (.aload_n 0, 1) := by decide +kernel
theorem d9_91 : decode prog_6_method_9_code 91 = .ok (.getfield 20, 3) := by decide +kernel
theorem d9_94 : decode prog_6_method_9_code 94 = .ok (.iload 5, 2) := by decide +kernel
theorem d9_96 : decode prog_6_method_9_code 96 = .ok (.iinc 5 1, 3) := by decide +kernel
theorem d9_99 : decode prog_6_method_9_code 99 = .ok (.iaload, 1) := by decide +kernel
theorem d9_100 : decode prog_6_method_9_code 100 = .ok (.iastore, 1) := by decide +kernel
theorem d9_101 : decode prog_6_method_9_code 101 = .ok (.iinc 6 1, 3) := by decide +kernel
theorem d9_104 : decode prog_6_method_9_code 104 = .ok (.goto (-79), 3) := by decide +kernel
theorem d9_107 : decode prog_6_method_9_code 107 = .ok (.return_, 1) := by decide +kernel
theorem ef_9 (m : MethodId) (x0 : Addr) (x1 : Int32) (x2 : Int32) (x3 : Int32) : entryFrame m #[(.ref x0), (.int x1), (.int x2), (.int x3)] 7 = mkF m 0 #[.val (.ref x0), .val (.int x1), .val (.int x2), .val (.int x3), .unset, .unset, .unset] [] := by first | (simp [entryFrame, mkF, argsToLocals, Value.category]; done) | rfl
def Q_9_2 (Z : State) (r0 bA sA : Addr) (kS : ClassId) (u s0 s1 s2 s3 : Int32) (oA : Addr) (kO : ClassId) (cA : Addr) (kC : ClassId) (c0 c1 : Int32) (h0 : Heap) (n0 : Nat) (v : Option Value) (h : Heap) (L : List Loc) : Prop := (v = none ∧ Fr n0 L ∧ Keep h0 h [oA, cA] ∧ Arv Z h oA kO .int (256 : Int32) [(.int 1), (.int 0)] (.int 0) ∧ Arv Z h cA kC .int (256 : Int32) [(.int 0), (.int 1)] (.int 0)) ∨ (v = none ∧ Fr n0 L ∧ Keep h0 h [oA, cA] ∧ Arv Z h oA kO .int (256 : Int32) [(.int 0), (.int 1)] (.int 0) ∧ Arv Z h cA kC .int (256 : Int32) [(.int 0), (.int 1)] (.int 0))
theorem rm9_2 (l : Launch) (Z : State) (a0 : Array Value) (hw : own_HW a0 Z) (ws : List Jvm.Cond) (r0 bA sA : Addr) (kS : ClassId) (u s0 s1 s2 s3 : Int32) (oA : Addr) (kO : ClassId) (cA : Addr) (kC : ClassId) (c0 c1 : Int32) (h0 : Heap) (n0 : Nat) (Z0 : n0 ≤ h0.size) (E_r0 : Exa Z h0 r0 cS0) (F_count_r0 : Fld Z h0 r0 cS0 "count" "I" (.int 2)) (F_used_r0 : Fld Z h0 r0 cS0 "used" "I" (.int u)) (F_bytes_r0 : Fld Z h0 r0 cS0 "bytes" "[B" (.ref bA)) (B_bA : own_B Z h0 bA (4096 : Int32)) (E_bA : Exa Z h0 bA "[B") (F_starts_r0 : Fld Z h0 r0 cS0 "starts" "[I" (.ref sA)) (V_sA : Arv Z h0 sA kS .int (256 : Int32) [(.int s0), (.int s1), (.int s2), (.int s3)] (.int 0)) (E_sA : Exa Z h0 sA "[I") (F_order_r0 : Fld Z h0 r0 cS0 "order" "[I" (.ref oA)) (V_oA : Arv Z h0 oA kO .int (256 : Int32) [(.int 0), (.int 1)] (.int 0)) (E_oA : Exa Z h0 oA "[I") (F_scratch_r0 : Fld Z h0 r0 cS0 "scratch" "[I" (.ref cA)) (V_cA : Arv Z h0 cA kC .int (256 : Int32) [(.int c0), (.int c1)] (.int 0)) (E_cA : Exa Z h0 cA "[I") (hp0 : s0.toInt ≤ s1.toInt ∧ s1.toInt ≤ s0.toInt + 3 ∧ s1.toInt ≤ u.toInt ∧ u.toInt ≤ s1.toInt + 3 ∧ 0 ≤ s0.toInt ∧ u.toInt ≤ 50) (ge_cA : n0 ≤ cA) (ne_r0_cA : r0 ≠ cA) (ne_bA_cA : bA ≠ cA) (ne_sA_cA : sA ≠ cA) (ne_oA_cA : oA ≠ cA) (ge_oA : n0 ≤ oA) (ne_r0_oA : r0 ≠ oA) (ne_cA_oA : cA ≠ oA) :
    own_M l Z (⟨cS0, "merge", "(III)V"⟩ : MethodName) prog_6_method_9_code 7 none ws ({ frames := 4, cells := 0, slots := 0, locals := 60 } : Room) #[(.ref r0), (.int 0), (.int 1), (.int 2)] h0 (Q_9_2 Z r0 bA sA kS u s0 s1 s2 s3 oA kO cA kC c0 c1 h0 n0) := by
  refine own_in cS0 rfl (plainFor_of_name pn_com_example_measurewright_measurewright_cli_NameBatch) ?_
  intro p e s m below meth c s₁ Bd hml hZ hh hx hby hown X0 e0
  have N0 := Fr.nil n0
  refine own_start (ef_9 m r0 (0 : Int32) (1 : Int32) (2 : Int32)) ?_
  refine own_aF X0 hx hZ hown hw 16 rfl e0 F_order_r0 hby d9_0 rfl d9_1 fun T1 X1 e1 => ?_
  refine own_by (fun t q => oIn X1 hx hby d9_4 rfl q) ?_
  refine own_aF X1 hx hZ hown hw 18 rfl e1 F_scratch_r0 hby d9_5 rfl d9_6 fun T2 X2 e2 => ?_
  obtain ⟨T3, h3, L3, X3, e3, N3, K3, Vr3, st3⟩ := cpA X2 hx hZ hown (own_at hw 45 rfl) (own_at hw 48 rfl) (own_at hw 46 rfl) (own_at hw 47 rfl) e2 V_oA V_cA (us := [(.int 0), (.int 1)]) (Or.inl ⟨rfl, rfl⟩) (by decide) (by decide) (by decide) (by decide) (by decide) rfl (Nat.le_of_ble_eq_true rfl) N0 ge_cA (g := (mkF m 13 #[rv r0, iv 0, iv 1, iv 2, .unset, .unset, .unset] [(.int 2), (.int 0), (.ref cA), (.int 0), (.ref oA)])) rfl (by rw [hml]; rfl) rfl (hb hby d9_13) (by decide) (W := 0) (Nat.le_refl _) (by decide)
  have pl3 := (allS (P := fun x => ∃ cell : Cell, h0[x]? = some cell ∧ cell.vm.isStatics = false) (own_ns E_cA) all0)
  have V3 : Arv Z h3 cA kC .int (256 : Int32) [(.int 0), (.int 1)] (.int 0) := Vr3
  have f4 := (F_scratch_r0.keep K3 (ninS ne_r0_cA nin0))
  refine own_by (fun t q => oIn X2 hx hby d9_9 rfl (oIn X2 hx hby d9_10 rfl (oIn X2 hx hby d9_11 rfl (XS.isub X2.here hx rfl (hb hby d9_12) rfl (st3 _ (oIn X3 hx hby d9_16 rfl q)))))) ?_
  refine own_by (fun t q => XS.istore X3.here hx rfl (hb hby d9_17) rfl (l' := #[rv r0, iv 0, iv 1, iv 2, iv 0, .unset, .unset]) rfl (oIn X3 hx hby d9_19 rfl (XS.istore X3.here hx rfl (hb hby d9_20) rfl (l' := #[rv r0, iv 0, iv 1, iv 2, iv 0, iv 1, .unset]) rfl (oIn X3 hx hby d9_22 rfl (XS.istore X3.here hx rfl (hb hby d9_23) rfl (l' := #[rv r0, iv 0, iv 1, iv 2, iv 0, iv 1, iv 0]) rfl (oIl X3 hx hby d9_25 rfl q)))))) ?_
  refine own_by (fun t q => oIn X3 hx hby d9_27 rfl (oJn X3 hx hby d9_28 (tlt (by decide : (0 : Int32) < (2 : Int32))).2.1 (oIl X3 hx hby d9_31 rfl (oIn X3 hx hby d9_33 rfl (oJn X3 hx hby d9_34 (feq (by decide : ¬ ((1 : Int32) = (2 : Int32)))).1 (oIl X3 hx hby d9_37 rfl q)))))) ?_
  refine own_by (fun t q => oIn X3 hx hby d9_39 rfl (oJn X3 hx hby d9_40 (tlt (by decide : (0 : Int32) < (1 : Int32))).2.1 (oAn X3 hx hby d9_43 rfl rfl q))) ?_
  refine own_aF X3 hx hZ hown hw 18 rfl e3 f4 hby d9_44 rfl d9_45 fun T5 X5 e5 => ?_
  refine own_by (fun t q => oIl X5 hx hby d9_48 rfl (own_ldI X5 hx hZ e5 V3 hby ⟨by decide, by decide⟩ (v := (.int 0)) rfl d9_50 q)) ?_
  refine own_aF X5 hx hZ hown hw 18 rfl e5 f4 hby d9_51 rfl d9_52 fun T6 X6 e6 => ?_
  have f8 := (E_r0.keep K3)
  have f9 := (F_count_r0.keep K3 (ninS ne_r0_cA nin0))
  have f10 := (F_used_r0.keep K3 (ninS ne_r0_cA nin0))
  have f11 := (F_bytes_r0.keep K3 (ninS ne_r0_cA nin0))
  have f12 := (B_bA.keep K3 (ninS ne_bA_cA nin0))
  have f13 := (E_bA.keep K3)
  have f14 := (F_starts_r0.keep K3 (ninS ne_r0_cA nin0))
  have f15 := (V_sA.keep K3 (ninS ne_sA_cA nin0))
  have f16 := (E_sA.keep K3)
  refine own_by (fun t q => oIl X6 hx hby d9_55 rfl (own_ldI X6 hx hZ e6 V3 hby ⟨by decide, by decide⟩ (v := (.int 1)) rfl d9_57 q)) ?_
  refine own_cP 0 (rm10_201 l Z a0 hw [] r0 bA sA kS u s0 s1 s2 s3 h3 n0 (Nat.le_trans Z0 K3.1) f8 f9 f10 f11 f12 f13 f14 f15 f16 hp0) X6 hx hZ hown hw 66 67 3 68 4 69 rfl rfl rfl rfl rfl rfl r0 f8 [(.int 0), (.int 1)] [] hby d9_58 hml (lenOf pd_2 rfl) e6 rfl (Nat.le_refl _) (by decide) fun _ T7 L7 X7 hQ7 => ?_
  obtain ⟨rr_7, rfl, N7q, e7, -⟩ := hQ7
  have N7 := Fr.app N3 N7q
  by_cases hc61_17 : (0 : Int32) < rr_7
  · have f18 := (F_order_r0.keep K3 (ninS ne_r0_cA nin0))
    refine own_by (fun t q => XS.ifYes X7.here hx rfl (pc0 := 61) (pc' := 84) rfl (hb hby d9_61) rfl ((if0 _ _).trans (tlt hc61_17).2.2.1) (by decide) (by decide) q) ?_
    refine own_aF X7 hx hZ hown hw 16 rfl e7 f18 hby d9_84 rfl d9_85 fun T19 X19 e19 => ?_
    refine own_by (fun t q => oIl X19 hx hby d9_88 rfl q) ?_
    refine own_aF X19 hx hZ hown hw 18 rfl e19 f4 hby d9_90 rfl d9_91 fun T20 X20 e20 => ?_
    have f21 := (V_oA.keep K3 (ninS ne_oA_cA nin0))
    refine own_by (fun t q => oIl X20 hx hby d9_94 rfl (XS.iinc X20.here hx rfl (hb hby d9_96) rfl (l' := #[rv r0, iv 0, iv 1, iv 2, iv 0, iv 2, iv 0]) rfl (own_ldI X20 hx hZ e20 V3 hby ⟨by decide, by decide⟩ (v := (.int 1)) rfl d9_99 q))) ?_
    refine own_stI X20 hx hZ e20 f21 hby ⟨by decide, by decide⟩ 0 rfl (Nat.le_of_ble_eq_true rfl) N7 ge_oA d9_100 fun T22 h22 X22 e22 W22 Vr22 N22 => ?_
    have V22 : Arv Z h22 oA kO .int (256 : Int32) [(.int 1), (.int 1)] (.int 0) := Vr22
    have f23 := (f18.other W22 (Or.inl ne_r0_oA))
    refine own_by (fun t q => XS.iinc X22.here hx rfl (hb hby d9_101) rfl (l' := #[rv r0, iv 0, iv 1, iv 2, iv 0, iv 2, iv 1]) rfl (oGo X22 hx hby 104 25 d9_104 (by decide) (by decide) (oIl X22 hx hby d9_25 rfl (oIn X22 hx hby d9_27 rfl (oJn X22 hx hby d9_28 (tlt (by decide : (1 : Int32) < (2 : Int32))).2.1 (oIl X22 hx hby d9_31 rfl q)))))) ?_
    refine own_by (fun t q => oIn X22 hx hby d9_33 rfl (oJy X22 hx hby 34 64 d9_34 (teq (by decide : (2 : Int32) = (2 : Int32))).1 (by decide) (by decide) q)) ?_
    refine own_aF X22 hx hZ hown hw 16 rfl e22 f23 hby d9_64 rfl d9_65 fun T24 X24 e24 => ?_
    have f25 := (f4.other W22 (Or.inl ne_r0_oA))
    refine own_by (fun t q => oIl X24 hx hby d9_68 rfl q) ?_
    refine own_aF X24 hx hZ hown hw 18 rfl e24 f25 hby d9_70 rfl d9_71 fun T26 X26 e26 => ?_
    have f27 := (V3.other W22 ne_cA_oA)
    refine own_by (fun t q => oIl X26 hx hby d9_74 rfl (XS.iinc X26.here hx rfl (hb hby d9_76) rfl (l' := #[rv r0, iv 0, iv 1, iv 2, iv 1, iv 2, iv 1]) rfl (own_ldI X26 hx hZ e26 f27 hby ⟨by decide, by decide⟩ (v := (.int 0)) rfl d9_79 q))) ?_
    refine own_stI X26 hx hZ e26 V22 hby ⟨by decide, by decide⟩ 1 rfl (Nat.le_of_ble_eq_true rfl) N22 ge_oA d9_80 fun T28 h28 X28 e28 W28 Vr28 N28 => ?_
    have V28 : Arv Z h28 oA kO .int (256 : Int32) [(.int 1), (.int 0)] (.int 0) := Vr28
    refine own_by (fun t q => oGo X28 hx hby 81 101 d9_81 (by decide) (by decide) (XS.iinc X28.here hx rfl (hb hby d9_101) rfl (l' := #[rv r0, iv 0, iv 1, iv 2, iv 1, iv 2, iv 2]) rfl (oGo X28 hx hby 104 25 d9_104 (by decide) (by decide) (oIl X28 hx hby d9_25 rfl (oIn X28 hx hby d9_27 rfl (oJy X28 hx hby 28 107 d9_28 (flt (by decide : ¬ ((2 : Int32) < (2 : Int32)))).2.1 (by decide) (by decide) q)))))) ?_
    have f29 := (f27.other W28 ne_cA_oA)
    refine own_out X28 Bd.notSynchronized Bd.returns (none) (fun _ => rfl) (by decide) (by decide) ?_ fun fs hr => ?_
    · rw [e28]; exact Or.inl (⟨rfl, N28, ((((Keep.refl h0 [oA, cA]).trans K3 (allS (Or.inl (List.mem_of_getElem? (i := 1) rfl)) all0)).wr W22 (Or.inl (List.mem_of_getElem? (i := 0) rfl))).wr W28 (Or.inl (List.mem_of_getElem? (i := 0) rfl))), V28, f29⟩)
    · exact X28.returnOut hx Bd.returns (hb hby d9_107) hr
  · have f30 := (F_order_r0.keep K3 (ninS ne_r0_cA nin0))
    refine own_by (fun t q => XS.ifNo X7.here hx rfl (hb hby d9_61) rfl ((if0 _ _).trans (flt hc61_17).2.2.1) q) ?_
    refine own_aF X7 hx hZ hown hw 16 rfl e7 f30 hby d9_64 rfl d9_65 fun T31 X31 e31 => ?_
    refine own_by (fun t q => oIl X31 hx hby d9_68 rfl q) ?_
    refine own_aF X31 hx hZ hown hw 18 rfl e31 f4 hby d9_70 rfl d9_71 fun T32 X32 e32 => ?_
    have f33 := (V_oA.keep K3 (ninS ne_oA_cA nin0))
    refine own_by (fun t q => oIl X32 hx hby d9_74 rfl (XS.iinc X32.here hx rfl (hb hby d9_76) rfl (l' := #[rv r0, iv 0, iv 1, iv 2, iv 1, iv 1, iv 0]) rfl (own_ldI X32 hx hZ e32 V3 hby ⟨by decide, by decide⟩ (v := (.int 0)) rfl d9_79 q))) ?_
    refine own_stI X32 hx hZ e32 f33 hby ⟨by decide, by decide⟩ 0 rfl (Nat.le_of_ble_eq_true rfl) N7 ge_oA d9_80 fun T34 h34 X34 e34 W34 Vr34 N34 => ?_
    have V34 : Arv Z h34 oA kO .int (256 : Int32) [(.int 0), (.int 1)] (.int 0) := Vr34
    have f35 := (f30.other W34 (Or.inl ne_r0_oA))
    refine own_by (fun t q => oGo X34 hx hby 81 101 d9_81 (by decide) (by decide) (XS.iinc X34.here hx rfl (hb hby d9_101) rfl (l' := #[rv r0, iv 0, iv 1, iv 2, iv 1, iv 1, iv 1]) rfl (oGo X34 hx hby 104 25 d9_104 (by decide) (by decide) (oIl X34 hx hby d9_25 rfl (oIn X34 hx hby d9_27 rfl (oJn X34 hx hby d9_28 (tlt (by decide : (1 : Int32) < (2 : Int32))).2.1 q)))))) ?_
    refine own_by (fun t q => oIl X34 hx hby d9_31 rfl (oIn X34 hx hby d9_33 rfl (oJn X34 hx hby d9_34 (feq (by decide : ¬ ((1 : Int32) = (2 : Int32)))).1 (oIl X34 hx hby d9_37 rfl (oIn X34 hx hby d9_39 rfl (oJy X34 hx hby 40 84 d9_40 (flt (by decide : ¬ ((1 : Int32) < (1 : Int32)))).2.1 (by decide) (by decide) q)))))) ?_
    refine own_aF X34 hx hZ hown hw 16 rfl e34 f35 hby d9_84 rfl d9_85 fun T36 X36 e36 => ?_
    have f37 := (f4.other W34 (Or.inl ne_r0_oA))
    refine own_by (fun t q => oIl X36 hx hby d9_88 rfl q) ?_
    refine own_aF X36 hx hZ hown hw 18 rfl e36 f37 hby d9_90 rfl d9_91 fun T38 X38 e38 => ?_
    have f39 := (V3.other W34 ne_cA_oA)
    refine own_by (fun t q => oIl X38 hx hby d9_94 rfl (XS.iinc X38.here hx rfl (hb hby d9_96) rfl (l' := #[rv r0, iv 0, iv 1, iv 2, iv 1, iv 2, iv 1]) rfl (own_ldI X38 hx hZ e38 f39 hby ⟨by decide, by decide⟩ (v := (.int 1)) rfl d9_99 q))) ?_
    refine own_stI X38 hx hZ e38 V34 hby ⟨by decide, by decide⟩ 1 rfl (Nat.le_of_ble_eq_true rfl) N34 ge_oA d9_100 fun T40 h40 X40 e40 W40 Vr40 N40 => ?_
    have V40 : Arv Z h40 oA kO .int (256 : Int32) [(.int 0), (.int 1)] (.int 0) := Vr40
    refine own_by (fun t q => XS.iinc X40.here hx rfl (hb hby d9_101) rfl (l' := #[rv r0, iv 0, iv 1, iv 2, iv 1, iv 2, iv 2]) rfl (oGo X40 hx hby 104 25 d9_104 (by decide) (by decide) (oIl X40 hx hby d9_25 rfl (oIn X40 hx hby d9_27 rfl (oJy X40 hx hby 28 107 d9_28 (flt (by decide : ¬ ((2 : Int32) < (2 : Int32)))).2.1 (by decide) (by decide) q))))) ?_
    have f41 := (f39.other W40 ne_cA_oA)
    refine own_out X40 Bd.notSynchronized Bd.returns (none) (fun _ => rfl) (by decide) (by decide) ?_ fun fs hr => ?_
    · rw [e40]; exact Or.inr ((⟨rfl, N40, ((((Keep.refl h0 [oA, cA]).trans K3 (allS (Or.inl (List.mem_of_getElem? (i := 1) rfl)) all0)).wr W34 (Or.inl (List.mem_of_getElem? (i := 0) rfl))).wr W40 (Or.inl (List.mem_of_getElem? (i := 0) rfl))), V40, f41⟩))
    · exact X40.returnOut hx Bd.returns (hb hby d9_107) hr
def Q_9_3a (Z : State) (r0 bA sA : Addr) (kS : ClassId) (u s0 s1 s2 s3 : Int32) (oA : Addr) (kO : ClassId) (cA : Addr) (kC : ClassId) (h0 : Heap) (n0 : Nat) (v : Option Value) (h : Heap) (L : List Loc) : Prop := (v = none ∧ Fr n0 L ∧ Keep h0 h [oA, cA] ∧ Arv Z h oA kO .int (256 : Int32) [(.int 1), (.int 0), (.int 2)] (.int 0) ∧ Arv Z h cA kC .int (256 : Int32) [(.int 0), (.int 1), (.int 0)] (.int 0)) ∨ (v = none ∧ Fr n0 L ∧ Keep h0 h [oA, cA] ∧ Arv Z h oA kO .int (256 : Int32) [(.int 0), (.int 1), (.int 2)] (.int 0) ∧ Arv Z h cA kC .int (256 : Int32) [(.int 0), (.int 1), (.int 0)] (.int 0))
theorem rm9_3a (l : Launch) (Z : State) (a0 : Array Value) (hw : own_HW a0 Z) (ws : List Jvm.Cond) (r0 bA sA : Addr) (kS : ClassId) (u s0 s1 s2 s3 : Int32) (oA : Addr) (kO : ClassId) (cA : Addr) (kC : ClassId) (h0 : Heap) (n0 : Nat) (Z0 : n0 ≤ h0.size) (E_r0 : Exa Z h0 r0 cS0) (F_count_r0 : Fld Z h0 r0 cS0 "count" "I" (.int 3)) (F_used_r0 : Fld Z h0 r0 cS0 "used" "I" (.int u)) (F_bytes_r0 : Fld Z h0 r0 cS0 "bytes" "[B" (.ref bA)) (B_bA : own_B Z h0 bA (4096 : Int32)) (E_bA : Exa Z h0 bA "[B") (F_starts_r0 : Fld Z h0 r0 cS0 "starts" "[I" (.ref sA)) (V_sA : Arv Z h0 sA kS .int (256 : Int32) [(.int s0), (.int s1), (.int s2), (.int s3)] (.int 0)) (E_sA : Exa Z h0 sA "[I") (F_order_r0 : Fld Z h0 r0 cS0 "order" "[I" (.ref oA)) (V_oA : Arv Z h0 oA kO .int (256 : Int32) [(.int 0), (.int 1), (.int 2)] (.int 0)) (E_oA : Exa Z h0 oA "[I") (F_scratch_r0 : Fld Z h0 r0 cS0 "scratch" "[I" (.ref cA)) (V_cA : Arv Z h0 cA kC .int (256 : Int32) [(.int 0), (.int 0), (.int 0)] (.int 0)) (E_cA : Exa Z h0 cA "[I") (hp0 : s0.toInt ≤ s1.toInt ∧ s1.toInt ≤ s0.toInt + 3 ∧ s1.toInt ≤ s2.toInt ∧ s2.toInt ≤ s1.toInt + 3 ∧ s2.toInt ≤ u.toInt ∧ u.toInt ≤ s2.toInt + 3 ∧ 0 ≤ s0.toInt ∧ u.toInt ≤ 50) (ge_cA : n0 ≤ cA) (ne_r0_cA : r0 ≠ cA) (ne_bA_cA : bA ≠ cA) (ne_sA_cA : sA ≠ cA) (ne_oA_cA : oA ≠ cA) (ge_oA : n0 ≤ oA) (ne_r0_oA : r0 ≠ oA) (ne_cA_oA : cA ≠ oA) :
    own_M l Z (⟨cS0, "merge", "(III)V"⟩ : MethodName) prog_6_method_9_code 7 none ws ({ frames := 4, cells := 0, slots := 0, locals := 60 } : Room) #[(.ref r0), (.int 0), (.int 1), (.int 2)] h0 (Q_9_3a Z r0 bA sA kS u s0 s1 s2 s3 oA kO cA kC h0 n0) := by
  refine own_in cS0 rfl (plainFor_of_name pn_com_example_measurewright_measurewright_cli_NameBatch) ?_
  intro p e s m below meth c s₁ Bd hml hZ hh hx hby hown X0 e0
  have N0 := Fr.nil n0
  refine own_start (ef_9 m r0 (0 : Int32) (1 : Int32) (2 : Int32)) ?_
  refine own_aF X0 hx hZ hown hw 16 rfl e0 F_order_r0 hby d9_0 rfl d9_1 fun T1 X1 e1 => ?_
  refine own_by (fun t q => oIn X1 hx hby d9_4 rfl q) ?_
  refine own_aF X1 hx hZ hown hw 18 rfl e1 F_scratch_r0 hby d9_5 rfl d9_6 fun T2 X2 e2 => ?_
  obtain ⟨T3, h3, L3, X3, e3, N3, K3, Vr3, st3⟩ := cpA X2 hx hZ hown (own_at hw 45 rfl) (own_at hw 48 rfl) (own_at hw 46 rfl) (own_at hw 47 rfl) e2 V_oA V_cA (us := [(.int 0), (.int 1)]) (Or.inl ⟨rfl, rfl⟩) (by decide) (by decide) (by decide) (by decide) (by decide) rfl (Nat.le_of_ble_eq_true rfl) N0 ge_cA (g := (mkF m 13 #[rv r0, iv 0, iv 1, iv 2, .unset, .unset, .unset] [(.int 2), (.int 0), (.ref cA), (.int 0), (.ref oA)])) rfl (by rw [hml]; rfl) rfl (hb hby d9_13) (by decide) (W := 0) (Nat.le_refl _) (by decide)
  have pl3 := (allS (P := fun x => ∃ cell : Cell, h0[x]? = some cell ∧ cell.vm.isStatics = false) (own_ns E_cA) all0)
  have V3 : Arv Z h3 cA kC .int (256 : Int32) [(.int 0), (.int 1), (.int 0)] (.int 0) := Vr3
  have f4 := (F_scratch_r0.keep K3 (ninS ne_r0_cA nin0))
  refine own_by (fun t q => oIn X2 hx hby d9_9 rfl (oIn X2 hx hby d9_10 rfl (oIn X2 hx hby d9_11 rfl (XS.isub X2.here hx rfl (hb hby d9_12) rfl (st3 _ (oIn X3 hx hby d9_16 rfl q)))))) ?_
  refine own_by (fun t q => XS.istore X3.here hx rfl (hb hby d9_17) rfl (l' := #[rv r0, iv 0, iv 1, iv 2, iv 0, .unset, .unset]) rfl (oIn X3 hx hby d9_19 rfl (XS.istore X3.here hx rfl (hb hby d9_20) rfl (l' := #[rv r0, iv 0, iv 1, iv 2, iv 0, iv 1, .unset]) rfl (oIn X3 hx hby d9_22 rfl (XS.istore X3.here hx rfl (hb hby d9_23) rfl (l' := #[rv r0, iv 0, iv 1, iv 2, iv 0, iv 1, iv 0]) rfl (oIl X3 hx hby d9_25 rfl q)))))) ?_
  refine own_by (fun t q => oIn X3 hx hby d9_27 rfl (oJn X3 hx hby d9_28 (tlt (by decide : (0 : Int32) < (2 : Int32))).2.1 (oIl X3 hx hby d9_31 rfl (oIn X3 hx hby d9_33 rfl (oJn X3 hx hby d9_34 (feq (by decide : ¬ ((1 : Int32) = (2 : Int32)))).1 (oIl X3 hx hby d9_37 rfl q)))))) ?_
  refine own_by (fun t q => oIn X3 hx hby d9_39 rfl (oJn X3 hx hby d9_40 (tlt (by decide : (0 : Int32) < (1 : Int32))).2.1 (oAn X3 hx hby d9_43 rfl rfl q))) ?_
  refine own_aF X3 hx hZ hown hw 18 rfl e3 f4 hby d9_44 rfl d9_45 fun T5 X5 e5 => ?_
  refine own_by (fun t q => oIl X5 hx hby d9_48 rfl (own_ldI X5 hx hZ e5 V3 hby ⟨by decide, by decide⟩ (v := (.int 0)) rfl d9_50 q)) ?_
  refine own_aF X5 hx hZ hown hw 18 rfl e5 f4 hby d9_51 rfl d9_52 fun T6 X6 e6 => ?_
  have f8 := (E_r0.keep K3)
  have f9 := (F_count_r0.keep K3 (ninS ne_r0_cA nin0))
  have f10 := (F_used_r0.keep K3 (ninS ne_r0_cA nin0))
  have f11 := (F_bytes_r0.keep K3 (ninS ne_r0_cA nin0))
  have f12 := (B_bA.keep K3 (ninS ne_bA_cA nin0))
  have f13 := (E_bA.keep K3)
  have f14 := (F_starts_r0.keep K3 (ninS ne_r0_cA nin0))
  have f15 := (V_sA.keep K3 (ninS ne_sA_cA nin0))
  have f16 := (E_sA.keep K3)
  refine own_by (fun t q => oIl X6 hx hby d9_55 rfl (own_ldI X6 hx hZ e6 V3 hby ⟨by decide, by decide⟩ (v := (.int 1)) rfl d9_57 q)) ?_
  refine own_cP 0 (rm10_301 l Z a0 hw [] r0 bA sA kS u s0 s1 s2 s3 h3 n0 (Nat.le_trans Z0 K3.1) f8 f9 f10 f11 f12 f13 f14 f15 f16 hp0) X6 hx hZ hown hw 66 67 3 68 4 69 rfl rfl rfl rfl rfl rfl r0 f8 [(.int 0), (.int 1)] [] hby d9_58 hml (lenOf pd_2 rfl) e6 rfl (Nat.le_refl _) (by decide) fun _ T7 L7 X7 hQ7 => ?_
  obtain ⟨rr_7, rfl, N7q, e7, -⟩ := hQ7
  have N7 := Fr.app N3 N7q
  by_cases hc61_17 : (0 : Int32) < rr_7
  · have f18 := (F_order_r0.keep K3 (ninS ne_r0_cA nin0))
    refine own_by (fun t q => XS.ifYes X7.here hx rfl (pc0 := 61) (pc' := 84) rfl (hb hby d9_61) rfl ((if0 _ _).trans (tlt hc61_17).2.2.1) (by decide) (by decide) q) ?_
    refine own_aF X7 hx hZ hown hw 16 rfl e7 f18 hby d9_84 rfl d9_85 fun T19 X19 e19 => ?_
    refine own_by (fun t q => oIl X19 hx hby d9_88 rfl q) ?_
    refine own_aF X19 hx hZ hown hw 18 rfl e19 f4 hby d9_90 rfl d9_91 fun T20 X20 e20 => ?_
    have f21 := (V_oA.keep K3 (ninS ne_oA_cA nin0))
    refine own_by (fun t q => oIl X20 hx hby d9_94 rfl (XS.iinc X20.here hx rfl (hb hby d9_96) rfl (l' := #[rv r0, iv 0, iv 1, iv 2, iv 0, iv 2, iv 0]) rfl (own_ldI X20 hx hZ e20 V3 hby ⟨by decide, by decide⟩ (v := (.int 1)) rfl d9_99 q))) ?_
    refine own_stI X20 hx hZ e20 f21 hby ⟨by decide, by decide⟩ 0 rfl (Nat.le_of_ble_eq_true rfl) N7 ge_oA d9_100 fun T22 h22 X22 e22 W22 Vr22 N22 => ?_
    have V22 : Arv Z h22 oA kO .int (256 : Int32) [(.int 1), (.int 1), (.int 2)] (.int 0) := Vr22
    have f23 := (f18.other W22 (Or.inl ne_r0_oA))
    refine own_by (fun t q => XS.iinc X22.here hx rfl (hb hby d9_101) rfl (l' := #[rv r0, iv 0, iv 1, iv 2, iv 0, iv 2, iv 1]) rfl (oGo X22 hx hby 104 25 d9_104 (by decide) (by decide) (oIl X22 hx hby d9_25 rfl (oIn X22 hx hby d9_27 rfl (oJn X22 hx hby d9_28 (tlt (by decide : (1 : Int32) < (2 : Int32))).2.1 (oIl X22 hx hby d9_31 rfl q)))))) ?_
    refine own_by (fun t q => oIn X22 hx hby d9_33 rfl (oJy X22 hx hby 34 64 d9_34 (teq (by decide : (2 : Int32) = (2 : Int32))).1 (by decide) (by decide) q)) ?_
    refine own_aF X22 hx hZ hown hw 16 rfl e22 f23 hby d9_64 rfl d9_65 fun T24 X24 e24 => ?_
    have f25 := (f4.other W22 (Or.inl ne_r0_oA))
    refine own_by (fun t q => oIl X24 hx hby d9_68 rfl q) ?_
    refine own_aF X24 hx hZ hown hw 18 rfl e24 f25 hby d9_70 rfl d9_71 fun T26 X26 e26 => ?_
    have f27 := (V3.other W22 ne_cA_oA)
    refine own_by (fun t q => oIl X26 hx hby d9_74 rfl (XS.iinc X26.here hx rfl (hb hby d9_76) rfl (l' := #[rv r0, iv 0, iv 1, iv 2, iv 1, iv 2, iv 1]) rfl (own_ldI X26 hx hZ e26 f27 hby ⟨by decide, by decide⟩ (v := (.int 0)) rfl d9_79 q))) ?_
    refine own_stI X26 hx hZ e26 V22 hby ⟨by decide, by decide⟩ 1 rfl (Nat.le_of_ble_eq_true rfl) N22 ge_oA d9_80 fun T28 h28 X28 e28 W28 Vr28 N28 => ?_
    have V28 : Arv Z h28 oA kO .int (256 : Int32) [(.int 1), (.int 0), (.int 2)] (.int 0) := Vr28
    refine own_by (fun t q => oGo X28 hx hby 81 101 d9_81 (by decide) (by decide) (XS.iinc X28.here hx rfl (hb hby d9_101) rfl (l' := #[rv r0, iv 0, iv 1, iv 2, iv 1, iv 2, iv 2]) rfl (oGo X28 hx hby 104 25 d9_104 (by decide) (by decide) (oIl X28 hx hby d9_25 rfl (oIn X28 hx hby d9_27 rfl (oJy X28 hx hby 28 107 d9_28 (flt (by decide : ¬ ((2 : Int32) < (2 : Int32)))).2.1 (by decide) (by decide) q)))))) ?_
    have f29 := (f27.other W28 ne_cA_oA)
    refine own_out X28 Bd.notSynchronized Bd.returns (none) (fun _ => rfl) (by decide) (by decide) ?_ fun fs hr => ?_
    · rw [e28]; exact Or.inl (⟨rfl, N28, ((((Keep.refl h0 [oA, cA]).trans K3 (allS (Or.inl (List.mem_of_getElem? (i := 1) rfl)) all0)).wr W22 (Or.inl (List.mem_of_getElem? (i := 0) rfl))).wr W28 (Or.inl (List.mem_of_getElem? (i := 0) rfl))), V28, f29⟩)
    · exact X28.returnOut hx Bd.returns (hb hby d9_107) hr
  · have f30 := (F_order_r0.keep K3 (ninS ne_r0_cA nin0))
    refine own_by (fun t q => XS.ifNo X7.here hx rfl (hb hby d9_61) rfl ((if0 _ _).trans (flt hc61_17).2.2.1) q) ?_
    refine own_aF X7 hx hZ hown hw 16 rfl e7 f30 hby d9_64 rfl d9_65 fun T31 X31 e31 => ?_
    refine own_by (fun t q => oIl X31 hx hby d9_68 rfl q) ?_
    refine own_aF X31 hx hZ hown hw 18 rfl e31 f4 hby d9_70 rfl d9_71 fun T32 X32 e32 => ?_
    have f33 := (V_oA.keep K3 (ninS ne_oA_cA nin0))
    refine own_by (fun t q => oIl X32 hx hby d9_74 rfl (XS.iinc X32.here hx rfl (hb hby d9_76) rfl (l' := #[rv r0, iv 0, iv 1, iv 2, iv 1, iv 1, iv 0]) rfl (own_ldI X32 hx hZ e32 V3 hby ⟨by decide, by decide⟩ (v := (.int 0)) rfl d9_79 q))) ?_
    refine own_stI X32 hx hZ e32 f33 hby ⟨by decide, by decide⟩ 0 rfl (Nat.le_of_ble_eq_true rfl) N7 ge_oA d9_80 fun T34 h34 X34 e34 W34 Vr34 N34 => ?_
    have V34 : Arv Z h34 oA kO .int (256 : Int32) [(.int 0), (.int 1), (.int 2)] (.int 0) := Vr34
    have f35 := (f30.other W34 (Or.inl ne_r0_oA))
    refine own_by (fun t q => oGo X34 hx hby 81 101 d9_81 (by decide) (by decide) (XS.iinc X34.here hx rfl (hb hby d9_101) rfl (l' := #[rv r0, iv 0, iv 1, iv 2, iv 1, iv 1, iv 1]) rfl (oGo X34 hx hby 104 25 d9_104 (by decide) (by decide) (oIl X34 hx hby d9_25 rfl (oIn X34 hx hby d9_27 rfl (oJn X34 hx hby d9_28 (tlt (by decide : (1 : Int32) < (2 : Int32))).2.1 q)))))) ?_
    refine own_by (fun t q => oIl X34 hx hby d9_31 rfl (oIn X34 hx hby d9_33 rfl (oJn X34 hx hby d9_34 (feq (by decide : ¬ ((1 : Int32) = (2 : Int32)))).1 (oIl X34 hx hby d9_37 rfl (oIn X34 hx hby d9_39 rfl (oJy X34 hx hby 40 84 d9_40 (flt (by decide : ¬ ((1 : Int32) < (1 : Int32)))).2.1 (by decide) (by decide) q)))))) ?_
    refine own_aF X34 hx hZ hown hw 16 rfl e34 f35 hby d9_84 rfl d9_85 fun T36 X36 e36 => ?_
    have f37 := (f4.other W34 (Or.inl ne_r0_oA))
    refine own_by (fun t q => oIl X36 hx hby d9_88 rfl q) ?_
    refine own_aF X36 hx hZ hown hw 18 rfl e36 f37 hby d9_90 rfl d9_91 fun T38 X38 e38 => ?_
    have f39 := (V3.other W34 ne_cA_oA)
    refine own_by (fun t q => oIl X38 hx hby d9_94 rfl (XS.iinc X38.here hx rfl (hb hby d9_96) rfl (l' := #[rv r0, iv 0, iv 1, iv 2, iv 1, iv 2, iv 1]) rfl (own_ldI X38 hx hZ e38 f39 hby ⟨by decide, by decide⟩ (v := (.int 1)) rfl d9_99 q))) ?_
    refine own_stI X38 hx hZ e38 V34 hby ⟨by decide, by decide⟩ 1 rfl (Nat.le_of_ble_eq_true rfl) N34 ge_oA d9_100 fun T40 h40 X40 e40 W40 Vr40 N40 => ?_
    have V40 : Arv Z h40 oA kO .int (256 : Int32) [(.int 0), (.int 1), (.int 2)] (.int 0) := Vr40
    refine own_by (fun t q => XS.iinc X40.here hx rfl (hb hby d9_101) rfl (l' := #[rv r0, iv 0, iv 1, iv 2, iv 1, iv 2, iv 2]) rfl (oGo X40 hx hby 104 25 d9_104 (by decide) (by decide) (oIl X40 hx hby d9_25 rfl (oIn X40 hx hby d9_27 rfl (oJy X40 hx hby 28 107 d9_28 (flt (by decide : ¬ ((2 : Int32) < (2 : Int32)))).2.1 (by decide) (by decide) q))))) ?_
    have f41 := (f39.other W40 ne_cA_oA)
    refine own_out X40 Bd.notSynchronized Bd.returns (none) (fun _ => rfl) (by decide) (by decide) ?_ fun fs hr => ?_
    · rw [e40]; exact Or.inr ((⟨rfl, N40, ((((Keep.refl h0 [oA, cA]).trans K3 (allS (Or.inl (List.mem_of_getElem? (i := 1) rfl)) all0)).wr W34 (Or.inl (List.mem_of_getElem? (i := 0) rfl))).wr W40 (Or.inl (List.mem_of_getElem? (i := 0) rfl))), V40, f41⟩))
    · exact X40.returnOut hx Bd.returns (hb hby d9_107) hr
def Q_9_3b (Z : State) (r0 bA sA : Addr) (kS : ClassId) (u s0 s1 s2 s3 : Int32) (oA : Addr) (kO : ClassId) (cA : Addr) (kC : ClassId) (h0 : Heap) (n0 : Nat) (v : Option Value) (h : Heap) (L : List Loc) : Prop := (v = none ∧ Fr n0 L ∧ Keep h0 h [oA, cA] ∧ Arv Z h oA kO .int (256 : Int32) [(.int 2), (.int 0), (.int 1)] (.int 0) ∧ Arv Z h cA kC .int (256 : Int32) [(.int 0), (.int 1), (.int 2)] (.int 0)) ∨ (v = none ∧ Fr n0 L ∧ Keep h0 h [oA, cA] ∧ Arv Z h oA kO .int (256 : Int32) [(.int 0), (.int 2), (.int 1)] (.int 0) ∧ Arv Z h cA kC .int (256 : Int32) [(.int 0), (.int 1), (.int 2)] (.int 0)) ∨ (v = none ∧ Fr n0 L ∧ Keep h0 h [oA, cA] ∧ Arv Z h oA kO .int (256 : Int32) [(.int 0), (.int 1), (.int 2)] (.int 0) ∧ Arv Z h cA kC .int (256 : Int32) [(.int 0), (.int 1), (.int 2)] (.int 0))
theorem rm9_3b (l : Launch) (Z : State) (a0 : Array Value) (hw : own_HW a0 Z) (ws : List Jvm.Cond) (r0 bA sA : Addr) (kS : ClassId) (u s0 s1 s2 s3 : Int32) (oA : Addr) (kO : ClassId) (cA : Addr) (kC : ClassId) (h0 : Heap) (n0 : Nat) (Z0 : n0 ≤ h0.size) (E_r0 : Exa Z h0 r0 cS0) (F_count_r0 : Fld Z h0 r0 cS0 "count" "I" (.int 3)) (F_used_r0 : Fld Z h0 r0 cS0 "used" "I" (.int u)) (F_bytes_r0 : Fld Z h0 r0 cS0 "bytes" "[B" (.ref bA)) (B_bA : own_B Z h0 bA (4096 : Int32)) (E_bA : Exa Z h0 bA "[B") (F_starts_r0 : Fld Z h0 r0 cS0 "starts" "[I" (.ref sA)) (V_sA : Arv Z h0 sA kS .int (256 : Int32) [(.int s0), (.int s1), (.int s2), (.int s3)] (.int 0)) (E_sA : Exa Z h0 sA "[I") (F_order_r0 : Fld Z h0 r0 cS0 "order" "[I" (.ref oA)) (V_oA : Arv Z h0 oA kO .int (256 : Int32) [(.int 0), (.int 1), (.int 2)] (.int 0)) (E_oA : Exa Z h0 oA "[I") (F_scratch_r0 : Fld Z h0 r0 cS0 "scratch" "[I" (.ref cA)) (V_cA : Arv Z h0 cA kC .int (256 : Int32) [(.int 0), (.int 1), (.int 0)] (.int 0)) (E_cA : Exa Z h0 cA "[I") (hp0 : s0.toInt ≤ s1.toInt ∧ s1.toInt ≤ s0.toInt + 3 ∧ s1.toInt ≤ s2.toInt ∧ s2.toInt ≤ s1.toInt + 3 ∧ s2.toInt ≤ u.toInt ∧ u.toInt ≤ s2.toInt + 3 ∧ 0 ≤ s0.toInt ∧ u.toInt ≤ 50) (ge_cA : n0 ≤ cA) (ne_r0_cA : r0 ≠ cA) (ne_bA_cA : bA ≠ cA) (ne_sA_cA : sA ≠ cA) (ne_oA_cA : oA ≠ cA) (ge_oA : n0 ≤ oA) (ne_r0_oA : r0 ≠ oA) (ne_cA_oA : cA ≠ oA) (ne_bA_oA : bA ≠ oA) (ne_sA_oA : sA ≠ oA) :
    own_M l Z (⟨cS0, "merge", "(III)V"⟩ : MethodName) prog_6_method_9_code 7 none ws ({ frames := 4, cells := 0, slots := 0, locals := 60 } : Room) #[(.ref r0), (.int 0), (.int 2), (.int 3)] h0 (Q_9_3b Z r0 bA sA kS u s0 s1 s2 s3 oA kO cA kC h0 n0) := by
  refine own_in cS0 rfl (plainFor_of_name pn_com_example_measurewright_measurewright_cli_NameBatch) ?_
  intro p e s m below meth c s₁ Bd hml hZ hh hx hby hown X0 e0
  have N0 := Fr.nil n0
  refine own_start (ef_9 m r0 (0 : Int32) (2 : Int32) (3 : Int32)) ?_
  refine own_aF X0 hx hZ hown hw 16 rfl e0 F_order_r0 hby d9_0 rfl d9_1 fun T1 X1 e1 => ?_
  refine own_by (fun t q => oIn X1 hx hby d9_4 rfl q) ?_
  refine own_aF X1 hx hZ hown hw 18 rfl e1 F_scratch_r0 hby d9_5 rfl d9_6 fun T2 X2 e2 => ?_
  obtain ⟨T3, h3, L3, X3, e3, N3, K3, Vr3, st3⟩ := cpA X2 hx hZ hown (own_at hw 45 rfl) (own_at hw 48 rfl) (own_at hw 46 rfl) (own_at hw 47 rfl) e2 V_oA V_cA (us := [(.int 0), (.int 1), (.int 2)]) (Or.inl ⟨rfl, rfl⟩) (by decide) (by decide) (by decide) (by decide) (by decide) rfl (Nat.le_of_ble_eq_true rfl) N0 ge_cA (g := (mkF m 13 #[rv r0, iv 0, iv 2, iv 3, .unset, .unset, .unset] [(.int 3), (.int 0), (.ref cA), (.int 0), (.ref oA)])) rfl (by rw [hml]; rfl) rfl (hb hby d9_13) (by decide) (W := 0) (Nat.le_refl _) (by decide)
  have pl3 := (allS (P := fun x => ∃ cell : Cell, h0[x]? = some cell ∧ cell.vm.isStatics = false) (own_ns E_cA) all0)
  have V3 : Arv Z h3 cA kC .int (256 : Int32) [(.int 0), (.int 1), (.int 2)] (.int 0) := Vr3
  have f4 := (F_scratch_r0.keep K3 (ninS ne_r0_cA nin0))
  refine own_by (fun t q => oIn X2 hx hby d9_9 rfl (oIn X2 hx hby d9_10 rfl (oIn X2 hx hby d9_11 rfl (XS.isub X2.here hx rfl (hb hby d9_12) rfl (st3 _ (oIn X3 hx hby d9_16 rfl q)))))) ?_
  refine own_by (fun t q => XS.istore X3.here hx rfl (hb hby d9_17) rfl (l' := #[rv r0, iv 0, iv 2, iv 3, iv 0, .unset, .unset]) rfl (oIn X3 hx hby d9_19 rfl (XS.istore X3.here hx rfl (hb hby d9_20) rfl (l' := #[rv r0, iv 0, iv 2, iv 3, iv 0, iv 2, .unset]) rfl (oIn X3 hx hby d9_22 rfl (XS.istore X3.here hx rfl (hb hby d9_23) rfl (l' := #[rv r0, iv 0, iv 2, iv 3, iv 0, iv 2, iv 0]) rfl (oIl X3 hx hby d9_25 rfl q)))))) ?_
  refine own_by (fun t q => oIn X3 hx hby d9_27 rfl (oJn X3 hx hby d9_28 (tlt (by decide : (0 : Int32) < (3 : Int32))).2.1 (oIl X3 hx hby d9_31 rfl (oIn X3 hx hby d9_33 rfl (oJn X3 hx hby d9_34 (feq (by decide : ¬ ((2 : Int32) = (3 : Int32)))).1 (oIl X3 hx hby d9_37 rfl q)))))) ?_
  refine own_by (fun t q => oIn X3 hx hby d9_39 rfl (oJn X3 hx hby d9_40 (tlt (by decide : (0 : Int32) < (2 : Int32))).2.1 (oAn X3 hx hby d9_43 rfl rfl q))) ?_
  refine own_aF X3 hx hZ hown hw 18 rfl e3 f4 hby d9_44 rfl d9_45 fun T5 X5 e5 => ?_
  refine own_by (fun t q => oIl X5 hx hby d9_48 rfl (own_ldI X5 hx hZ e5 V3 hby ⟨by decide, by decide⟩ (v := (.int 0)) rfl d9_50 q)) ?_
  refine own_aF X5 hx hZ hown hw 18 rfl e5 f4 hby d9_51 rfl d9_52 fun T6 X6 e6 => ?_
  have f8 := (E_r0.keep K3)
  have f9 := (F_count_r0.keep K3 (ninS ne_r0_cA nin0))
  have f10 := (F_used_r0.keep K3 (ninS ne_r0_cA nin0))
  have f11 := (F_bytes_r0.keep K3 (ninS ne_r0_cA nin0))
  have f12 := (B_bA.keep K3 (ninS ne_bA_cA nin0))
  have f13 := (E_bA.keep K3)
  have f14 := (F_starts_r0.keep K3 (ninS ne_r0_cA nin0))
  have f15 := (V_sA.keep K3 (ninS ne_sA_cA nin0))
  have f16 := (E_sA.keep K3)
  refine own_by (fun t q => oIl X6 hx hby d9_55 rfl (own_ldI X6 hx hZ e6 V3 hby ⟨by decide, by decide⟩ (v := (.int 2)) rfl d9_57 q)) ?_
  refine own_cP 0 (rm10_302 l Z a0 hw [] r0 bA sA kS u s0 s1 s2 s3 h3 n0 (Nat.le_trans Z0 K3.1) f8 f9 f10 f11 f12 f13 f14 f15 f16 hp0) X6 hx hZ hown hw 66 67 3 68 4 69 rfl rfl rfl rfl rfl rfl r0 f8 [(.int 0), (.int 2)] [] hby d9_58 hml (lenOf pd_2 rfl) e6 rfl (Nat.le_refl _) (by decide) fun _ T7 L7 X7 hQ7 => ?_
  obtain ⟨rr_7, rfl, N7q, e7, -⟩ := hQ7
  have N7 := Fr.app N3 N7q
  by_cases hc61_17 : (0 : Int32) < rr_7
  · have f18 := (F_order_r0.keep K3 (ninS ne_r0_cA nin0))
    refine own_by (fun t q => XS.ifYes X7.here hx rfl (pc0 := 61) (pc' := 84) rfl (hb hby d9_61) rfl ((if0 _ _).trans (tlt hc61_17).2.2.1) (by decide) (by decide) q) ?_
    refine own_aF X7 hx hZ hown hw 16 rfl e7 f18 hby d9_84 rfl d9_85 fun T19 X19 e19 => ?_
    refine own_by (fun t q => oIl X19 hx hby d9_88 rfl q) ?_
    refine own_aF X19 hx hZ hown hw 18 rfl e19 f4 hby d9_90 rfl d9_91 fun T20 X20 e20 => ?_
    have f21 := (V_oA.keep K3 (ninS ne_oA_cA nin0))
    refine own_by (fun t q => oIl X20 hx hby d9_94 rfl (XS.iinc X20.here hx rfl (hb hby d9_96) rfl (l' := #[rv r0, iv 0, iv 2, iv 3, iv 0, iv 3, iv 0]) rfl (own_ldI X20 hx hZ e20 V3 hby ⟨by decide, by decide⟩ (v := (.int 2)) rfl d9_99 q))) ?_
    refine own_stI X20 hx hZ e20 f21 hby ⟨by decide, by decide⟩ 0 rfl (Nat.le_of_ble_eq_true rfl) N7 ge_oA d9_100 fun T22 h22 X22 e22 W22 Vr22 N22 => ?_
    have V22 : Arv Z h22 oA kO .int (256 : Int32) [(.int 2), (.int 1), (.int 2)] (.int 0) := Vr22
    have f23 := (f18.other W22 (Or.inl ne_r0_oA))
    refine own_by (fun t q => XS.iinc X22.here hx rfl (hb hby d9_101) rfl (l' := #[rv r0, iv 0, iv 2, iv 3, iv 0, iv 3, iv 1]) rfl (oGo X22 hx hby 104 25 d9_104 (by decide) (by decide) (oIl X22 hx hby d9_25 rfl (oIn X22 hx hby d9_27 rfl (oJn X22 hx hby d9_28 (tlt (by decide : (1 : Int32) < (3 : Int32))).2.1 (oIl X22 hx hby d9_31 rfl q)))))) ?_
    refine own_by (fun t q => oIn X22 hx hby d9_33 rfl (oJy X22 hx hby 34 64 d9_34 (teq (by decide : (3 : Int32) = (3 : Int32))).1 (by decide) (by decide) q)) ?_
    refine own_aF X22 hx hZ hown hw 16 rfl e22 f23 hby d9_64 rfl d9_65 fun T24 X24 e24 => ?_
    have f25 := (f4.other W22 (Or.inl ne_r0_oA))
    refine own_by (fun t q => oIl X24 hx hby d9_68 rfl q) ?_
    refine own_aF X24 hx hZ hown hw 18 rfl e24 f25 hby d9_70 rfl d9_71 fun T26 X26 e26 => ?_
    have f27 := (V3.other W22 ne_cA_oA)
    refine own_by (fun t q => oIl X26 hx hby d9_74 rfl (XS.iinc X26.here hx rfl (hb hby d9_76) rfl (l' := #[rv r0, iv 0, iv 2, iv 3, iv 1, iv 3, iv 1]) rfl (own_ldI X26 hx hZ e26 f27 hby ⟨by decide, by decide⟩ (v := (.int 0)) rfl d9_79 q))) ?_
    refine own_stI X26 hx hZ e26 V22 hby ⟨by decide, by decide⟩ 1 rfl (Nat.le_of_ble_eq_true rfl) N22 ge_oA d9_80 fun T28 h28 X28 e28 W28 Vr28 N28 => ?_
    have V28 : Arv Z h28 oA kO .int (256 : Int32) [(.int 2), (.int 0), (.int 2)] (.int 0) := Vr28
    have f29 := (f23.other W28 (Or.inl ne_r0_oA))
    refine own_by (fun t q => oGo X28 hx hby 81 101 d9_81 (by decide) (by decide) (XS.iinc X28.here hx rfl (hb hby d9_101) rfl (l' := #[rv r0, iv 0, iv 2, iv 3, iv 1, iv 3, iv 2]) rfl (oGo X28 hx hby 104 25 d9_104 (by decide) (by decide) (oIl X28 hx hby d9_25 rfl (oIn X28 hx hby d9_27 rfl (oJn X28 hx hby d9_28 (tlt (by decide : (2 : Int32) < (3 : Int32))).2.1 q)))))) ?_
    refine own_by (fun t q => oIl X28 hx hby d9_31 rfl (oIn X28 hx hby d9_33 rfl (oJy X28 hx hby 34 64 d9_34 (teq (by decide : (3 : Int32) = (3 : Int32))).1 (by decide) (by decide) q))) ?_
    refine own_aF X28 hx hZ hown hw 16 rfl e28 f29 hby d9_64 rfl d9_65 fun T30 X30 e30 => ?_
    have f31 := (f25.other W28 (Or.inl ne_r0_oA))
    refine own_by (fun t q => oIl X30 hx hby d9_68 rfl q) ?_
    refine own_aF X30 hx hZ hown hw 18 rfl e30 f31 hby d9_70 rfl d9_71 fun T32 X32 e32 => ?_
    have f33 := (f27.other W28 ne_cA_oA)
    refine own_by (fun t q => oIl X32 hx hby d9_74 rfl (XS.iinc X32.here hx rfl (hb hby d9_76) rfl (l' := #[rv r0, iv 0, iv 2, iv 3, iv 2, iv 3, iv 2]) rfl (own_ldI X32 hx hZ e32 f33 hby ⟨by decide, by decide⟩ (v := (.int 1)) rfl d9_79 q))) ?_
    refine own_stI X32 hx hZ e32 V28 hby ⟨by decide, by decide⟩ 2 rfl (Nat.le_of_ble_eq_true rfl) N28 ge_oA d9_80 fun T34 h34 X34 e34 W34 Vr34 N34 => ?_
    have V34 : Arv Z h34 oA kO .int (256 : Int32) [(.int 2), (.int 0), (.int 1)] (.int 0) := Vr34
    refine own_by (fun t q => oGo X34 hx hby 81 101 d9_81 (by decide) (by decide) (XS.iinc X34.here hx rfl (hb hby d9_101) rfl (l' := #[rv r0, iv 0, iv 2, iv 3, iv 2, iv 3, iv 3]) rfl (oGo X34 hx hby 104 25 d9_104 (by decide) (by decide) (oIl X34 hx hby d9_25 rfl (oIn X34 hx hby d9_27 rfl (oJy X34 hx hby 28 107 d9_28 (flt (by decide : ¬ ((3 : Int32) < (3 : Int32)))).2.1 (by decide) (by decide) q)))))) ?_
    have f35 := (f33.other W34 ne_cA_oA)
    refine own_out X34 Bd.notSynchronized Bd.returns (none) (fun _ => rfl) (by decide) (by decide) ?_ fun fs hr => ?_
    · rw [e34]; exact Or.inl (⟨rfl, N34, (((((Keep.refl h0 [oA, cA]).trans K3 (allS (Or.inl (List.mem_of_getElem? (i := 1) rfl)) all0)).wr W22 (Or.inl (List.mem_of_getElem? (i := 0) rfl))).wr W28 (Or.inl (List.mem_of_getElem? (i := 0) rfl))).wr W34 (Or.inl (List.mem_of_getElem? (i := 0) rfl))), V34, f35⟩)
    · exact X34.returnOut hx Bd.returns (hb hby d9_107) hr
  · have f36 := (F_order_r0.keep K3 (ninS ne_r0_cA nin0))
    refine own_by (fun t q => XS.ifNo X7.here hx rfl (hb hby d9_61) rfl ((if0 _ _).trans (flt hc61_17).2.2.1) q) ?_
    refine own_aF X7 hx hZ hown hw 16 rfl e7 f36 hby d9_64 rfl d9_65 fun T37 X37 e37 => ?_
    refine own_by (fun t q => oIl X37 hx hby d9_68 rfl q) ?_
    refine own_aF X37 hx hZ hown hw 18 rfl e37 f4 hby d9_70 rfl d9_71 fun T38 X38 e38 => ?_
    have f39 := (V_oA.keep K3 (ninS ne_oA_cA nin0))
    refine own_by (fun t q => oIl X38 hx hby d9_74 rfl (XS.iinc X38.here hx rfl (hb hby d9_76) rfl (l' := #[rv r0, iv 0, iv 2, iv 3, iv 1, iv 2, iv 0]) rfl (own_ldI X38 hx hZ e38 V3 hby ⟨by decide, by decide⟩ (v := (.int 0)) rfl d9_79 q))) ?_
    refine own_stI X38 hx hZ e38 f39 hby ⟨by decide, by decide⟩ 0 rfl (Nat.le_of_ble_eq_true rfl) N7 ge_oA d9_80 fun T40 h40 X40 e40 W40 Vr40 N40 => ?_
    have V40 : Arv Z h40 oA kO .int (256 : Int32) [(.int 0), (.int 1), (.int 2)] (.int 0) := Vr40
    have f41 := (f4.other W40 (Or.inl ne_r0_oA))
    refine own_by (fun t q => oGo X40 hx hby 81 101 d9_81 (by decide) (by decide) (XS.iinc X40.here hx rfl (hb hby d9_101) rfl (l' := #[rv r0, iv 0, iv 2, iv 3, iv 1, iv 2, iv 1]) rfl (oGo X40 hx hby 104 25 d9_104 (by decide) (by decide) (oIl X40 hx hby d9_25 rfl (oIn X40 hx hby d9_27 rfl (oJn X40 hx hby d9_28 (tlt (by decide : (1 : Int32) < (3 : Int32))).2.1 q)))))) ?_
    refine own_by (fun t q => oIl X40 hx hby d9_31 rfl (oIn X40 hx hby d9_33 rfl (oJn X40 hx hby d9_34 (feq (by decide : ¬ ((2 : Int32) = (3 : Int32)))).1 (oIl X40 hx hby d9_37 rfl (oIn X40 hx hby d9_39 rfl (oJn X40 hx hby d9_40 (tlt (by decide : (1 : Int32) < (2 : Int32))).2.1 q)))))) ?_
    refine own_by (fun t q => oAn X40 hx hby d9_43 rfl rfl q) ?_
    refine own_aF X40 hx hZ hown hw 18 rfl e40 f41 hby d9_44 rfl d9_45 fun T42 X42 e42 => ?_
    have f43 := (V3.other W40 ne_cA_oA)
    refine own_by (fun t q => oIl X42 hx hby d9_48 rfl (own_ldI X42 hx hZ e42 f43 hby ⟨by decide, by decide⟩ (v := (.int 1)) rfl d9_50 q)) ?_
    refine own_aF X42 hx hZ hown hw 18 rfl e42 f41 hby d9_51 rfl d9_52 fun T44 X44 e44 => ?_
    have f46 := (f8.wr W40)
    have f47 := (f9.other W40 (Or.inl ne_r0_oA))
    have f48 := (f10.other W40 (Or.inl ne_r0_oA))
    have f49 := (f11.other W40 (Or.inl ne_r0_oA))
    have f50 := (f12.other W40 ne_bA_oA)
    have f51 := (f13.wr W40)
    have f52 := (f14.other W40 (Or.inl ne_r0_oA))
    have f53 := (f15.other W40 ne_sA_oA)
    have f54 := (f16.wr W40)
    refine own_by (fun t q => oIl X44 hx hby d9_55 rfl (own_ldI X44 hx hZ e44 f43 hby ⟨by decide, by decide⟩ (v := (.int 2)) rfl d9_57 q)) ?_
    refine own_cP 0 (rm10_312 l Z a0 hw [] r0 bA sA kS u s0 s1 s2 s3 h40 n0 (Nat.le_trans (Nat.le_trans Z0 K3.1) (Keep.of_wr W40).1) f46 f47 f48 f49 f50 f51 f52 f53 f54 hp0) X44 hx hZ hown hw 66 67 3 68 4 69 rfl rfl rfl rfl rfl rfl r0 f46 [(.int 1), (.int 2)] [] hby d9_58 hml (lenOf pd_2 rfl) e44 rfl (Nat.le_refl _) (by decide) fun _ T45 L45 X45 hQ45 => ?_
    obtain ⟨rr_45, rfl, N45q, e45, -⟩ := hQ45
    have N45 := Fr.app N40 N45q
    by_cases hc61_55 : (0 : Int32) < rr_45
    · have f56 := (f36.other W40 (Or.inl ne_r0_oA))
      refine own_by (fun t q => XS.ifYes X45.here hx rfl (pc0 := 61) (pc' := 84) rfl (hb hby d9_61) rfl ((if0 _ _).trans (tlt hc61_55).2.2.1) (by decide) (by decide) q) ?_
      refine own_aF X45 hx hZ hown hw 16 rfl e45 f56 hby d9_84 rfl d9_85 fun T57 X57 e57 => ?_
      refine own_by (fun t q => oIl X57 hx hby d9_88 rfl q) ?_
      refine own_aF X57 hx hZ hown hw 18 rfl e57 f41 hby d9_90 rfl d9_91 fun T58 X58 e58 => ?_
      refine own_by (fun t q => oIl X58 hx hby d9_94 rfl (XS.iinc X58.here hx rfl (hb hby d9_96) rfl (l' := #[rv r0, iv 0, iv 2, iv 3, iv 1, iv 3, iv 1]) rfl (own_ldI X58 hx hZ e58 f43 hby ⟨by decide, by decide⟩ (v := (.int 2)) rfl d9_99 q))) ?_
      refine own_stI X58 hx hZ e58 V40 hby ⟨by decide, by decide⟩ 1 rfl (Nat.le_of_ble_eq_true rfl) N45 ge_oA d9_100 fun T59 h59 X59 e59 W59 Vr59 N59 => ?_
      have V59 : Arv Z h59 oA kO .int (256 : Int32) [(.int 0), (.int 2), (.int 2)] (.int 0) := Vr59
      have f60 := (f56.other W59 (Or.inl ne_r0_oA))
      refine own_by (fun t q => XS.iinc X59.here hx rfl (hb hby d9_101) rfl (l' := #[rv r0, iv 0, iv 2, iv 3, iv 1, iv 3, iv 2]) rfl (oGo X59 hx hby 104 25 d9_104 (by decide) (by decide) (oIl X59 hx hby d9_25 rfl (oIn X59 hx hby d9_27 rfl (oJn X59 hx hby d9_28 (tlt (by decide : (2 : Int32) < (3 : Int32))).2.1 (oIl X59 hx hby d9_31 rfl q)))))) ?_
      refine own_by (fun t q => oIn X59 hx hby d9_33 rfl (oJy X59 hx hby 34 64 d9_34 (teq (by decide : (3 : Int32) = (3 : Int32))).1 (by decide) (by decide) q)) ?_
      refine own_aF X59 hx hZ hown hw 16 rfl e59 f60 hby d9_64 rfl d9_65 fun T61 X61 e61 => ?_
      have f62 := (f41.other W59 (Or.inl ne_r0_oA))
      refine own_by (fun t q => oIl X61 hx hby d9_68 rfl q) ?_
      refine own_aF X61 hx hZ hown hw 18 rfl e61 f62 hby d9_70 rfl d9_71 fun T63 X63 e63 => ?_
      have f64 := (f43.other W59 ne_cA_oA)
      refine own_by (fun t q => oIl X63 hx hby d9_74 rfl (XS.iinc X63.here hx rfl (hb hby d9_76) rfl (l' := #[rv r0, iv 0, iv 2, iv 3, iv 2, iv 3, iv 2]) rfl (own_ldI X63 hx hZ e63 f64 hby ⟨by decide, by decide⟩ (v := (.int 1)) rfl d9_79 q))) ?_
      refine own_stI X63 hx hZ e63 V59 hby ⟨by decide, by decide⟩ 2 rfl (Nat.le_of_ble_eq_true rfl) N59 ge_oA d9_80 fun T65 h65 X65 e65 W65 Vr65 N65 => ?_
      have V65 : Arv Z h65 oA kO .int (256 : Int32) [(.int 0), (.int 2), (.int 1)] (.int 0) := Vr65
      refine own_by (fun t q => oGo X65 hx hby 81 101 d9_81 (by decide) (by decide) (XS.iinc X65.here hx rfl (hb hby d9_101) rfl (l' := #[rv r0, iv 0, iv 2, iv 3, iv 2, iv 3, iv 3]) rfl (oGo X65 hx hby 104 25 d9_104 (by decide) (by decide) (oIl X65 hx hby d9_25 rfl (oIn X65 hx hby d9_27 rfl (oJy X65 hx hby 28 107 d9_28 (flt (by decide : ¬ ((3 : Int32) < (3 : Int32)))).2.1 (by decide) (by decide) q)))))) ?_
      have f66 := (f64.other W65 ne_cA_oA)
      refine own_out X65 Bd.notSynchronized Bd.returns (none) (fun _ => rfl) (by decide) (by decide) ?_ fun fs hr => ?_
      · rw [e65]; exact Or.inr (Or.inl (⟨rfl, N65, (((((Keep.refl h0 [oA, cA]).trans K3 (allS (Or.inl (List.mem_of_getElem? (i := 1) rfl)) all0)).wr W40 (Or.inl (List.mem_of_getElem? (i := 0) rfl))).wr W59 (Or.inl (List.mem_of_getElem? (i := 0) rfl))).wr W65 (Or.inl (List.mem_of_getElem? (i := 0) rfl))), V65, f66⟩))
      · exact X65.returnOut hx Bd.returns (hb hby d9_107) hr
    · have f67 := (f36.other W40 (Or.inl ne_r0_oA))
      refine own_by (fun t q => XS.ifNo X45.here hx rfl (hb hby d9_61) rfl ((if0 _ _).trans (flt hc61_55).2.2.1) q) ?_
      refine own_aF X45 hx hZ hown hw 16 rfl e45 f67 hby d9_64 rfl d9_65 fun T68 X68 e68 => ?_
      refine own_by (fun t q => oIl X68 hx hby d9_68 rfl q) ?_
      refine own_aF X68 hx hZ hown hw 18 rfl e68 f41 hby d9_70 rfl d9_71 fun T69 X69 e69 => ?_
      refine own_by (fun t q => oIl X69 hx hby d9_74 rfl (XS.iinc X69.here hx rfl (hb hby d9_76) rfl (l' := #[rv r0, iv 0, iv 2, iv 3, iv 2, iv 2, iv 1]) rfl (own_ldI X69 hx hZ e69 f43 hby ⟨by decide, by decide⟩ (v := (.int 1)) rfl d9_79 q))) ?_
      refine own_stI X69 hx hZ e69 V40 hby ⟨by decide, by decide⟩ 1 rfl (Nat.le_of_ble_eq_true rfl) N45 ge_oA d9_80 fun T70 h70 X70 e70 W70 Vr70 N70 => ?_
      have V70 : Arv Z h70 oA kO .int (256 : Int32) [(.int 0), (.int 1), (.int 2)] (.int 0) := Vr70
      have f71 := (f67.other W70 (Or.inl ne_r0_oA))
      refine own_by (fun t q => oGo X70 hx hby 81 101 d9_81 (by decide) (by decide) (XS.iinc X70.here hx rfl (hb hby d9_101) rfl (l' := #[rv r0, iv 0, iv 2, iv 3, iv 2, iv 2, iv 2]) rfl (oGo X70 hx hby 104 25 d9_104 (by decide) (by decide) (oIl X70 hx hby d9_25 rfl (oIn X70 hx hby d9_27 rfl (oJn X70 hx hby d9_28 (tlt (by decide : (2 : Int32) < (3 : Int32))).2.1 q)))))) ?_
      refine own_by (fun t q => oIl X70 hx hby d9_31 rfl (oIn X70 hx hby d9_33 rfl (oJn X70 hx hby d9_34 (feq (by decide : ¬ ((2 : Int32) = (3 : Int32)))).1 (oIl X70 hx hby d9_37 rfl (oIn X70 hx hby d9_39 rfl (oJy X70 hx hby 40 84 d9_40 (flt (by decide : ¬ ((2 : Int32) < (2 : Int32)))).2.1 (by decide) (by decide) q)))))) ?_
      refine own_aF X70 hx hZ hown hw 16 rfl e70 f71 hby d9_84 rfl d9_85 fun T72 X72 e72 => ?_
      have f73 := (f41.other W70 (Or.inl ne_r0_oA))
      refine own_by (fun t q => oIl X72 hx hby d9_88 rfl q) ?_
      refine own_aF X72 hx hZ hown hw 18 rfl e72 f73 hby d9_90 rfl d9_91 fun T74 X74 e74 => ?_
      have f75 := (f43.other W70 ne_cA_oA)
      refine own_by (fun t q => oIl X74 hx hby d9_94 rfl (XS.iinc X74.here hx rfl (hb hby d9_96) rfl (l' := #[rv r0, iv 0, iv 2, iv 3, iv 2, iv 3, iv 2]) rfl (own_ldI X74 hx hZ e74 f75 hby ⟨by decide, by decide⟩ (v := (.int 2)) rfl d9_99 q))) ?_
      refine own_stI X74 hx hZ e74 V70 hby ⟨by decide, by decide⟩ 2 rfl (Nat.le_of_ble_eq_true rfl) N70 ge_oA d9_100 fun T76 h76 X76 e76 W76 Vr76 N76 => ?_
      have V76 : Arv Z h76 oA kO .int (256 : Int32) [(.int 0), (.int 1), (.int 2)] (.int 0) := Vr76
      refine own_by (fun t q => XS.iinc X76.here hx rfl (hb hby d9_101) rfl (l' := #[rv r0, iv 0, iv 2, iv 3, iv 2, iv 3, iv 3]) rfl (oGo X76 hx hby 104 25 d9_104 (by decide) (by decide) (oIl X76 hx hby d9_25 rfl (oIn X76 hx hby d9_27 rfl (oJy X76 hx hby 28 107 d9_28 (flt (by decide : ¬ ((3 : Int32) < (3 : Int32)))).2.1 (by decide) (by decide) q))))) ?_
      have f77 := (f75.other W76 ne_cA_oA)
      refine own_out X76 Bd.notSynchronized Bd.returns (none) (fun _ => rfl) (by decide) (by decide) ?_ fun fs hr => ?_
      · rw [e76]; exact Or.inr (Or.inr ((⟨rfl, N76, (((((Keep.refl h0 [oA, cA]).trans K3 (allS (Or.inl (List.mem_of_getElem? (i := 1) rfl)) all0)).wr W40 (Or.inl (List.mem_of_getElem? (i := 0) rfl))).wr W70 (Or.inl (List.mem_of_getElem? (i := 0) rfl))).wr W76 (Or.inl (List.mem_of_getElem? (i := 0) rfl))), V76, f77⟩)))
      · exact X76.returnOut hx Bd.returns (hb hby d9_107) hr
def Q_9_3c (Z : State) (r0 bA sA : Addr) (kS : ClassId) (u s0 s1 s2 s3 : Int32) (oA : Addr) (kO : ClassId) (cA : Addr) (kC : ClassId) (h0 : Heap) (n0 : Nat) (v : Option Value) (h : Heap) (L : List Loc) : Prop := (v = none ∧ Fr n0 L ∧ Keep h0 h [oA, cA] ∧ Arv Z h oA kO .int (256 : Int32) [(.int 2), (.int 1), (.int 0)] (.int 0) ∧ Arv Z h cA kC .int (256 : Int32) [(.int 1), (.int 0), (.int 2)] (.int 0)) ∨ (v = none ∧ Fr n0 L ∧ Keep h0 h [oA, cA] ∧ Arv Z h oA kO .int (256 : Int32) [(.int 1), (.int 2), (.int 0)] (.int 0) ∧ Arv Z h cA kC .int (256 : Int32) [(.int 1), (.int 0), (.int 2)] (.int 0)) ∨ (v = none ∧ Fr n0 L ∧ Keep h0 h [oA, cA] ∧ Arv Z h oA kO .int (256 : Int32) [(.int 1), (.int 0), (.int 2)] (.int 0) ∧ Arv Z h cA kC .int (256 : Int32) [(.int 1), (.int 0), (.int 2)] (.int 0))
theorem rm9_3c (l : Launch) (Z : State) (a0 : Array Value) (hw : own_HW a0 Z) (ws : List Jvm.Cond) (r0 bA sA : Addr) (kS : ClassId) (u s0 s1 s2 s3 : Int32) (oA : Addr) (kO : ClassId) (cA : Addr) (kC : ClassId) (h0 : Heap) (n0 : Nat) (Z0 : n0 ≤ h0.size) (E_r0 : Exa Z h0 r0 cS0) (F_count_r0 : Fld Z h0 r0 cS0 "count" "I" (.int 3)) (F_used_r0 : Fld Z h0 r0 cS0 "used" "I" (.int u)) (F_bytes_r0 : Fld Z h0 r0 cS0 "bytes" "[B" (.ref bA)) (B_bA : own_B Z h0 bA (4096 : Int32)) (E_bA : Exa Z h0 bA "[B") (F_starts_r0 : Fld Z h0 r0 cS0 "starts" "[I" (.ref sA)) (V_sA : Arv Z h0 sA kS .int (256 : Int32) [(.int s0), (.int s1), (.int s2), (.int s3)] (.int 0)) (E_sA : Exa Z h0 sA "[I") (F_order_r0 : Fld Z h0 r0 cS0 "order" "[I" (.ref oA)) (V_oA : Arv Z h0 oA kO .int (256 : Int32) [(.int 1), (.int 0), (.int 2)] (.int 0)) (E_oA : Exa Z h0 oA "[I") (F_scratch_r0 : Fld Z h0 r0 cS0 "scratch" "[I" (.ref cA)) (V_cA : Arv Z h0 cA kC .int (256 : Int32) [(.int 0), (.int 1), (.int 0)] (.int 0)) (E_cA : Exa Z h0 cA "[I") (hp0 : s0.toInt ≤ s1.toInt ∧ s1.toInt ≤ s0.toInt + 3 ∧ s1.toInt ≤ s2.toInt ∧ s2.toInt ≤ s1.toInt + 3 ∧ s2.toInt ≤ u.toInt ∧ u.toInt ≤ s2.toInt + 3 ∧ 0 ≤ s0.toInt ∧ u.toInt ≤ 50) (ge_cA : n0 ≤ cA) (ne_r0_cA : r0 ≠ cA) (ne_bA_cA : bA ≠ cA) (ne_sA_cA : sA ≠ cA) (ne_oA_cA : oA ≠ cA) (ge_oA : n0 ≤ oA) (ne_r0_oA : r0 ≠ oA) (ne_cA_oA : cA ≠ oA) (ne_bA_oA : bA ≠ oA) (ne_sA_oA : sA ≠ oA) :
    own_M l Z (⟨cS0, "merge", "(III)V"⟩ : MethodName) prog_6_method_9_code 7 none ws ({ frames := 4, cells := 0, slots := 0, locals := 60 } : Room) #[(.ref r0), (.int 0), (.int 2), (.int 3)] h0 (Q_9_3c Z r0 bA sA kS u s0 s1 s2 s3 oA kO cA kC h0 n0) := by
  refine own_in cS0 rfl (plainFor_of_name pn_com_example_measurewright_measurewright_cli_NameBatch) ?_
  intro p e s m below meth c s₁ Bd hml hZ hh hx hby hown X0 e0
  have N0 := Fr.nil n0
  refine own_start (ef_9 m r0 (0 : Int32) (2 : Int32) (3 : Int32)) ?_
  refine own_aF X0 hx hZ hown hw 16 rfl e0 F_order_r0 hby d9_0 rfl d9_1 fun T1 X1 e1 => ?_
  refine own_by (fun t q => oIn X1 hx hby d9_4 rfl q) ?_
  refine own_aF X1 hx hZ hown hw 18 rfl e1 F_scratch_r0 hby d9_5 rfl d9_6 fun T2 X2 e2 => ?_
  obtain ⟨T3, h3, L3, X3, e3, N3, K3, Vr3, st3⟩ := cpA X2 hx hZ hown (own_at hw 45 rfl) (own_at hw 48 rfl) (own_at hw 46 rfl) (own_at hw 47 rfl) e2 V_oA V_cA (us := [(.int 1), (.int 0), (.int 2)]) (Or.inl ⟨rfl, rfl⟩) (by decide) (by decide) (by decide) (by decide) (by decide) rfl (Nat.le_of_ble_eq_true rfl) N0 ge_cA (g := (mkF m 13 #[rv r0, iv 0, iv 2, iv 3, .unset, .unset, .unset] [(.int 3), (.int 0), (.ref cA), (.int 0), (.ref oA)])) rfl (by rw [hml]; rfl) rfl (hb hby d9_13) (by decide) (W := 0) (Nat.le_refl _) (by decide)
  have pl3 := (allS (P := fun x => ∃ cell : Cell, h0[x]? = some cell ∧ cell.vm.isStatics = false) (own_ns E_cA) all0)
  have V3 : Arv Z h3 cA kC .int (256 : Int32) [(.int 1), (.int 0), (.int 2)] (.int 0) := Vr3
  have f4 := (F_scratch_r0.keep K3 (ninS ne_r0_cA nin0))
  refine own_by (fun t q => oIn X2 hx hby d9_9 rfl (oIn X2 hx hby d9_10 rfl (oIn X2 hx hby d9_11 rfl (XS.isub X2.here hx rfl (hb hby d9_12) rfl (st3 _ (oIn X3 hx hby d9_16 rfl q)))))) ?_
  refine own_by (fun t q => XS.istore X3.here hx rfl (hb hby d9_17) rfl (l' := #[rv r0, iv 0, iv 2, iv 3, iv 0, .unset, .unset]) rfl (oIn X3 hx hby d9_19 rfl (XS.istore X3.here hx rfl (hb hby d9_20) rfl (l' := #[rv r0, iv 0, iv 2, iv 3, iv 0, iv 2, .unset]) rfl (oIn X3 hx hby d9_22 rfl (XS.istore X3.here hx rfl (hb hby d9_23) rfl (l' := #[rv r0, iv 0, iv 2, iv 3, iv 0, iv 2, iv 0]) rfl (oIl X3 hx hby d9_25 rfl q)))))) ?_
  refine own_by (fun t q => oIn X3 hx hby d9_27 rfl (oJn X3 hx hby d9_28 (tlt (by decide : (0 : Int32) < (3 : Int32))).2.1 (oIl X3 hx hby d9_31 rfl (oIn X3 hx hby d9_33 rfl (oJn X3 hx hby d9_34 (feq (by decide : ¬ ((2 : Int32) = (3 : Int32)))).1 (oIl X3 hx hby d9_37 rfl q)))))) ?_
  refine own_by (fun t q => oIn X3 hx hby d9_39 rfl (oJn X3 hx hby d9_40 (tlt (by decide : (0 : Int32) < (2 : Int32))).2.1 (oAn X3 hx hby d9_43 rfl rfl q))) ?_
  refine own_aF X3 hx hZ hown hw 18 rfl e3 f4 hby d9_44 rfl d9_45 fun T5 X5 e5 => ?_
  refine own_by (fun t q => oIl X5 hx hby d9_48 rfl (own_ldI X5 hx hZ e5 V3 hby ⟨by decide, by decide⟩ (v := (.int 1)) rfl d9_50 q)) ?_
  refine own_aF X5 hx hZ hown hw 18 rfl e5 f4 hby d9_51 rfl d9_52 fun T6 X6 e6 => ?_
  have f8 := (E_r0.keep K3)
  have f9 := (F_count_r0.keep K3 (ninS ne_r0_cA nin0))
  have f10 := (F_used_r0.keep K3 (ninS ne_r0_cA nin0))
  have f11 := (F_bytes_r0.keep K3 (ninS ne_r0_cA nin0))
  have f12 := (B_bA.keep K3 (ninS ne_bA_cA nin0))
  have f13 := (E_bA.keep K3)
  have f14 := (F_starts_r0.keep K3 (ninS ne_r0_cA nin0))
  have f15 := (V_sA.keep K3 (ninS ne_sA_cA nin0))
  have f16 := (E_sA.keep K3)
  refine own_by (fun t q => oIl X6 hx hby d9_55 rfl (own_ldI X6 hx hZ e6 V3 hby ⟨by decide, by decide⟩ (v := (.int 2)) rfl d9_57 q)) ?_
  refine own_cP 0 (rm10_312 l Z a0 hw [] r0 bA sA kS u s0 s1 s2 s3 h3 n0 (Nat.le_trans Z0 K3.1) f8 f9 f10 f11 f12 f13 f14 f15 f16 hp0) X6 hx hZ hown hw 66 67 3 68 4 69 rfl rfl rfl rfl rfl rfl r0 f8 [(.int 1), (.int 2)] [] hby d9_58 hml (lenOf pd_2 rfl) e6 rfl (Nat.le_refl _) (by decide) fun _ T7 L7 X7 hQ7 => ?_
  obtain ⟨rr_7, rfl, N7q, e7, -⟩ := hQ7
  have N7 := Fr.app N3 N7q
  by_cases hc61_17 : (0 : Int32) < rr_7
  · have f18 := (F_order_r0.keep K3 (ninS ne_r0_cA nin0))
    refine own_by (fun t q => XS.ifYes X7.here hx rfl (pc0 := 61) (pc' := 84) rfl (hb hby d9_61) rfl ((if0 _ _).trans (tlt hc61_17).2.2.1) (by decide) (by decide) q) ?_
    refine own_aF X7 hx hZ hown hw 16 rfl e7 f18 hby d9_84 rfl d9_85 fun T19 X19 e19 => ?_
    refine own_by (fun t q => oIl X19 hx hby d9_88 rfl q) ?_
    refine own_aF X19 hx hZ hown hw 18 rfl e19 f4 hby d9_90 rfl d9_91 fun T20 X20 e20 => ?_
    have f21 := (V_oA.keep K3 (ninS ne_oA_cA nin0))
    refine own_by (fun t q => oIl X20 hx hby d9_94 rfl (XS.iinc X20.here hx rfl (hb hby d9_96) rfl (l' := #[rv r0, iv 0, iv 2, iv 3, iv 0, iv 3, iv 0]) rfl (own_ldI X20 hx hZ e20 V3 hby ⟨by decide, by decide⟩ (v := (.int 2)) rfl d9_99 q))) ?_
    refine own_stI X20 hx hZ e20 f21 hby ⟨by decide, by decide⟩ 0 rfl (Nat.le_of_ble_eq_true rfl) N7 ge_oA d9_100 fun T22 h22 X22 e22 W22 Vr22 N22 => ?_
    have V22 : Arv Z h22 oA kO .int (256 : Int32) [(.int 2), (.int 0), (.int 2)] (.int 0) := Vr22
    have f23 := (f18.other W22 (Or.inl ne_r0_oA))
    refine own_by (fun t q => XS.iinc X22.here hx rfl (hb hby d9_101) rfl (l' := #[rv r0, iv 0, iv 2, iv 3, iv 0, iv 3, iv 1]) rfl (oGo X22 hx hby 104 25 d9_104 (by decide) (by decide) (oIl X22 hx hby d9_25 rfl (oIn X22 hx hby d9_27 rfl (oJn X22 hx hby d9_28 (tlt (by decide : (1 : Int32) < (3 : Int32))).2.1 (oIl X22 hx hby d9_31 rfl q)))))) ?_
    refine own_by (fun t q => oIn X22 hx hby d9_33 rfl (oJy X22 hx hby 34 64 d9_34 (teq (by decide : (3 : Int32) = (3 : Int32))).1 (by decide) (by decide) q)) ?_
    refine own_aF X22 hx hZ hown hw 16 rfl e22 f23 hby d9_64 rfl d9_65 fun T24 X24 e24 => ?_
    have f25 := (f4.other W22 (Or.inl ne_r0_oA))
    refine own_by (fun t q => oIl X24 hx hby d9_68 rfl q) ?_
    refine own_aF X24 hx hZ hown hw 18 rfl e24 f25 hby d9_70 rfl d9_71 fun T26 X26 e26 => ?_
    have f27 := (V3.other W22 ne_cA_oA)
    refine own_by (fun t q => oIl X26 hx hby d9_74 rfl (XS.iinc X26.here hx rfl (hb hby d9_76) rfl (l' := #[rv r0, iv 0, iv 2, iv 3, iv 1, iv 3, iv 1]) rfl (own_ldI X26 hx hZ e26 f27 hby ⟨by decide, by decide⟩ (v := (.int 1)) rfl d9_79 q))) ?_
    refine own_stI X26 hx hZ e26 V22 hby ⟨by decide, by decide⟩ 1 rfl (Nat.le_of_ble_eq_true rfl) N22 ge_oA d9_80 fun T28 h28 X28 e28 W28 Vr28 N28 => ?_
    have V28 : Arv Z h28 oA kO .int (256 : Int32) [(.int 2), (.int 1), (.int 2)] (.int 0) := Vr28
    have f29 := (f23.other W28 (Or.inl ne_r0_oA))
    refine own_by (fun t q => oGo X28 hx hby 81 101 d9_81 (by decide) (by decide) (XS.iinc X28.here hx rfl (hb hby d9_101) rfl (l' := #[rv r0, iv 0, iv 2, iv 3, iv 1, iv 3, iv 2]) rfl (oGo X28 hx hby 104 25 d9_104 (by decide) (by decide) (oIl X28 hx hby d9_25 rfl (oIn X28 hx hby d9_27 rfl (oJn X28 hx hby d9_28 (tlt (by decide : (2 : Int32) < (3 : Int32))).2.1 q)))))) ?_
    refine own_by (fun t q => oIl X28 hx hby d9_31 rfl (oIn X28 hx hby d9_33 rfl (oJy X28 hx hby 34 64 d9_34 (teq (by decide : (3 : Int32) = (3 : Int32))).1 (by decide) (by decide) q))) ?_
    refine own_aF X28 hx hZ hown hw 16 rfl e28 f29 hby d9_64 rfl d9_65 fun T30 X30 e30 => ?_
    have f31 := (f25.other W28 (Or.inl ne_r0_oA))
    refine own_by (fun t q => oIl X30 hx hby d9_68 rfl q) ?_
    refine own_aF X30 hx hZ hown hw 18 rfl e30 f31 hby d9_70 rfl d9_71 fun T32 X32 e32 => ?_
    have f33 := (f27.other W28 ne_cA_oA)
    refine own_by (fun t q => oIl X32 hx hby d9_74 rfl (XS.iinc X32.here hx rfl (hb hby d9_76) rfl (l' := #[rv r0, iv 0, iv 2, iv 3, iv 2, iv 3, iv 2]) rfl (own_ldI X32 hx hZ e32 f33 hby ⟨by decide, by decide⟩ (v := (.int 0)) rfl d9_79 q))) ?_
    refine own_stI X32 hx hZ e32 V28 hby ⟨by decide, by decide⟩ 2 rfl (Nat.le_of_ble_eq_true rfl) N28 ge_oA d9_80 fun T34 h34 X34 e34 W34 Vr34 N34 => ?_
    have V34 : Arv Z h34 oA kO .int (256 : Int32) [(.int 2), (.int 1), (.int 0)] (.int 0) := Vr34
    refine own_by (fun t q => oGo X34 hx hby 81 101 d9_81 (by decide) (by decide) (XS.iinc X34.here hx rfl (hb hby d9_101) rfl (l' := #[rv r0, iv 0, iv 2, iv 3, iv 2, iv 3, iv 3]) rfl (oGo X34 hx hby 104 25 d9_104 (by decide) (by decide) (oIl X34 hx hby d9_25 rfl (oIn X34 hx hby d9_27 rfl (oJy X34 hx hby 28 107 d9_28 (flt (by decide : ¬ ((3 : Int32) < (3 : Int32)))).2.1 (by decide) (by decide) q)))))) ?_
    have f35 := (f33.other W34 ne_cA_oA)
    refine own_out X34 Bd.notSynchronized Bd.returns (none) (fun _ => rfl) (by decide) (by decide) ?_ fun fs hr => ?_
    · rw [e34]; exact Or.inl (⟨rfl, N34, (((((Keep.refl h0 [oA, cA]).trans K3 (allS (Or.inl (List.mem_of_getElem? (i := 1) rfl)) all0)).wr W22 (Or.inl (List.mem_of_getElem? (i := 0) rfl))).wr W28 (Or.inl (List.mem_of_getElem? (i := 0) rfl))).wr W34 (Or.inl (List.mem_of_getElem? (i := 0) rfl))), V34, f35⟩)
    · exact X34.returnOut hx Bd.returns (hb hby d9_107) hr
  · have f36 := (F_order_r0.keep K3 (ninS ne_r0_cA nin0))
    refine own_by (fun t q => XS.ifNo X7.here hx rfl (hb hby d9_61) rfl ((if0 _ _).trans (flt hc61_17).2.2.1) q) ?_
    refine own_aF X7 hx hZ hown hw 16 rfl e7 f36 hby d9_64 rfl d9_65 fun T37 X37 e37 => ?_
    refine own_by (fun t q => oIl X37 hx hby d9_68 rfl q) ?_
    refine own_aF X37 hx hZ hown hw 18 rfl e37 f4 hby d9_70 rfl d9_71 fun T38 X38 e38 => ?_
    have f39 := (V_oA.keep K3 (ninS ne_oA_cA nin0))
    refine own_by (fun t q => oIl X38 hx hby d9_74 rfl (XS.iinc X38.here hx rfl (hb hby d9_76) rfl (l' := #[rv r0, iv 0, iv 2, iv 3, iv 1, iv 2, iv 0]) rfl (own_ldI X38 hx hZ e38 V3 hby ⟨by decide, by decide⟩ (v := (.int 1)) rfl d9_79 q))) ?_
    refine own_stI X38 hx hZ e38 f39 hby ⟨by decide, by decide⟩ 0 rfl (Nat.le_of_ble_eq_true rfl) N7 ge_oA d9_80 fun T40 h40 X40 e40 W40 Vr40 N40 => ?_
    have V40 : Arv Z h40 oA kO .int (256 : Int32) [(.int 1), (.int 0), (.int 2)] (.int 0) := Vr40
    have f41 := (f4.other W40 (Or.inl ne_r0_oA))
    refine own_by (fun t q => oGo X40 hx hby 81 101 d9_81 (by decide) (by decide) (XS.iinc X40.here hx rfl (hb hby d9_101) rfl (l' := #[rv r0, iv 0, iv 2, iv 3, iv 1, iv 2, iv 1]) rfl (oGo X40 hx hby 104 25 d9_104 (by decide) (by decide) (oIl X40 hx hby d9_25 rfl (oIn X40 hx hby d9_27 rfl (oJn X40 hx hby d9_28 (tlt (by decide : (1 : Int32) < (3 : Int32))).2.1 q)))))) ?_
    refine own_by (fun t q => oIl X40 hx hby d9_31 rfl (oIn X40 hx hby d9_33 rfl (oJn X40 hx hby d9_34 (feq (by decide : ¬ ((2 : Int32) = (3 : Int32)))).1 (oIl X40 hx hby d9_37 rfl (oIn X40 hx hby d9_39 rfl (oJn X40 hx hby d9_40 (tlt (by decide : (1 : Int32) < (2 : Int32))).2.1 q)))))) ?_
    refine own_by (fun t q => oAn X40 hx hby d9_43 rfl rfl q) ?_
    refine own_aF X40 hx hZ hown hw 18 rfl e40 f41 hby d9_44 rfl d9_45 fun T42 X42 e42 => ?_
    have f43 := (V3.other W40 ne_cA_oA)
    refine own_by (fun t q => oIl X42 hx hby d9_48 rfl (own_ldI X42 hx hZ e42 f43 hby ⟨by decide, by decide⟩ (v := (.int 0)) rfl d9_50 q)) ?_
    refine own_aF X42 hx hZ hown hw 18 rfl e42 f41 hby d9_51 rfl d9_52 fun T44 X44 e44 => ?_
    have f46 := (f8.wr W40)
    have f47 := (f9.other W40 (Or.inl ne_r0_oA))
    have f48 := (f10.other W40 (Or.inl ne_r0_oA))
    have f49 := (f11.other W40 (Or.inl ne_r0_oA))
    have f50 := (f12.other W40 ne_bA_oA)
    have f51 := (f13.wr W40)
    have f52 := (f14.other W40 (Or.inl ne_r0_oA))
    have f53 := (f15.other W40 ne_sA_oA)
    have f54 := (f16.wr W40)
    refine own_by (fun t q => oIl X44 hx hby d9_55 rfl (own_ldI X44 hx hZ e44 f43 hby ⟨by decide, by decide⟩ (v := (.int 2)) rfl d9_57 q)) ?_
    refine own_cP 0 (rm10_302 l Z a0 hw [] r0 bA sA kS u s0 s1 s2 s3 h40 n0 (Nat.le_trans (Nat.le_trans Z0 K3.1) (Keep.of_wr W40).1) f46 f47 f48 f49 f50 f51 f52 f53 f54 hp0) X44 hx hZ hown hw 66 67 3 68 4 69 rfl rfl rfl rfl rfl rfl r0 f46 [(.int 0), (.int 2)] [] hby d9_58 hml (lenOf pd_2 rfl) e44 rfl (Nat.le_refl _) (by decide) fun _ T45 L45 X45 hQ45 => ?_
    obtain ⟨rr_45, rfl, N45q, e45, -⟩ := hQ45
    have N45 := Fr.app N40 N45q
    by_cases hc61_55 : (0 : Int32) < rr_45
    · have f56 := (f36.other W40 (Or.inl ne_r0_oA))
      refine own_by (fun t q => XS.ifYes X45.here hx rfl (pc0 := 61) (pc' := 84) rfl (hb hby d9_61) rfl ((if0 _ _).trans (tlt hc61_55).2.2.1) (by decide) (by decide) q) ?_
      refine own_aF X45 hx hZ hown hw 16 rfl e45 f56 hby d9_84 rfl d9_85 fun T57 X57 e57 => ?_
      refine own_by (fun t q => oIl X57 hx hby d9_88 rfl q) ?_
      refine own_aF X57 hx hZ hown hw 18 rfl e57 f41 hby d9_90 rfl d9_91 fun T58 X58 e58 => ?_
      refine own_by (fun t q => oIl X58 hx hby d9_94 rfl (XS.iinc X58.here hx rfl (hb hby d9_96) rfl (l' := #[rv r0, iv 0, iv 2, iv 3, iv 1, iv 3, iv 1]) rfl (own_ldI X58 hx hZ e58 f43 hby ⟨by decide, by decide⟩ (v := (.int 2)) rfl d9_99 q))) ?_
      refine own_stI X58 hx hZ e58 V40 hby ⟨by decide, by decide⟩ 1 rfl (Nat.le_of_ble_eq_true rfl) N45 ge_oA d9_100 fun T59 h59 X59 e59 W59 Vr59 N59 => ?_
      have V59 : Arv Z h59 oA kO .int (256 : Int32) [(.int 1), (.int 2), (.int 2)] (.int 0) := Vr59
      have f60 := (f56.other W59 (Or.inl ne_r0_oA))
      refine own_by (fun t q => XS.iinc X59.here hx rfl (hb hby d9_101) rfl (l' := #[rv r0, iv 0, iv 2, iv 3, iv 1, iv 3, iv 2]) rfl (oGo X59 hx hby 104 25 d9_104 (by decide) (by decide) (oIl X59 hx hby d9_25 rfl (oIn X59 hx hby d9_27 rfl (oJn X59 hx hby d9_28 (tlt (by decide : (2 : Int32) < (3 : Int32))).2.1 (oIl X59 hx hby d9_31 rfl q)))))) ?_
      refine own_by (fun t q => oIn X59 hx hby d9_33 rfl (oJy X59 hx hby 34 64 d9_34 (teq (by decide : (3 : Int32) = (3 : Int32))).1 (by decide) (by decide) q)) ?_
      refine own_aF X59 hx hZ hown hw 16 rfl e59 f60 hby d9_64 rfl d9_65 fun T61 X61 e61 => ?_
      have f62 := (f41.other W59 (Or.inl ne_r0_oA))
      refine own_by (fun t q => oIl X61 hx hby d9_68 rfl q) ?_
      refine own_aF X61 hx hZ hown hw 18 rfl e61 f62 hby d9_70 rfl d9_71 fun T63 X63 e63 => ?_
      have f64 := (f43.other W59 ne_cA_oA)
      refine own_by (fun t q => oIl X63 hx hby d9_74 rfl (XS.iinc X63.here hx rfl (hb hby d9_76) rfl (l' := #[rv r0, iv 0, iv 2, iv 3, iv 2, iv 3, iv 2]) rfl (own_ldI X63 hx hZ e63 f64 hby ⟨by decide, by decide⟩ (v := (.int 0)) rfl d9_79 q))) ?_
      refine own_stI X63 hx hZ e63 V59 hby ⟨by decide, by decide⟩ 2 rfl (Nat.le_of_ble_eq_true rfl) N59 ge_oA d9_80 fun T65 h65 X65 e65 W65 Vr65 N65 => ?_
      have V65 : Arv Z h65 oA kO .int (256 : Int32) [(.int 1), (.int 2), (.int 0)] (.int 0) := Vr65
      refine own_by (fun t q => oGo X65 hx hby 81 101 d9_81 (by decide) (by decide) (XS.iinc X65.here hx rfl (hb hby d9_101) rfl (l' := #[rv r0, iv 0, iv 2, iv 3, iv 2, iv 3, iv 3]) rfl (oGo X65 hx hby 104 25 d9_104 (by decide) (by decide) (oIl X65 hx hby d9_25 rfl (oIn X65 hx hby d9_27 rfl (oJy X65 hx hby 28 107 d9_28 (flt (by decide : ¬ ((3 : Int32) < (3 : Int32)))).2.1 (by decide) (by decide) q)))))) ?_
      have f66 := (f64.other W65 ne_cA_oA)
      refine own_out X65 Bd.notSynchronized Bd.returns (none) (fun _ => rfl) (by decide) (by decide) ?_ fun fs hr => ?_
      · rw [e65]; exact Or.inr (Or.inl (⟨rfl, N65, (((((Keep.refl h0 [oA, cA]).trans K3 (allS (Or.inl (List.mem_of_getElem? (i := 1) rfl)) all0)).wr W40 (Or.inl (List.mem_of_getElem? (i := 0) rfl))).wr W59 (Or.inl (List.mem_of_getElem? (i := 0) rfl))).wr W65 (Or.inl (List.mem_of_getElem? (i := 0) rfl))), V65, f66⟩))
      · exact X65.returnOut hx Bd.returns (hb hby d9_107) hr
    · have f67 := (f36.other W40 (Or.inl ne_r0_oA))
      refine own_by (fun t q => XS.ifNo X45.here hx rfl (hb hby d9_61) rfl ((if0 _ _).trans (flt hc61_55).2.2.1) q) ?_
      refine own_aF X45 hx hZ hown hw 16 rfl e45 f67 hby d9_64 rfl d9_65 fun T68 X68 e68 => ?_
      refine own_by (fun t q => oIl X68 hx hby d9_68 rfl q) ?_
      refine own_aF X68 hx hZ hown hw 18 rfl e68 f41 hby d9_70 rfl d9_71 fun T69 X69 e69 => ?_
      refine own_by (fun t q => oIl X69 hx hby d9_74 rfl (XS.iinc X69.here hx rfl (hb hby d9_76) rfl (l' := #[rv r0, iv 0, iv 2, iv 3, iv 2, iv 2, iv 1]) rfl (own_ldI X69 hx hZ e69 f43 hby ⟨by decide, by decide⟩ (v := (.int 0)) rfl d9_79 q))) ?_
      refine own_stI X69 hx hZ e69 V40 hby ⟨by decide, by decide⟩ 1 rfl (Nat.le_of_ble_eq_true rfl) N45 ge_oA d9_80 fun T70 h70 X70 e70 W70 Vr70 N70 => ?_
      have V70 : Arv Z h70 oA kO .int (256 : Int32) [(.int 1), (.int 0), (.int 2)] (.int 0) := Vr70
      have f71 := (f67.other W70 (Or.inl ne_r0_oA))
      refine own_by (fun t q => oGo X70 hx hby 81 101 d9_81 (by decide) (by decide) (XS.iinc X70.here hx rfl (hb hby d9_101) rfl (l' := #[rv r0, iv 0, iv 2, iv 3, iv 2, iv 2, iv 2]) rfl (oGo X70 hx hby 104 25 d9_104 (by decide) (by decide) (oIl X70 hx hby d9_25 rfl (oIn X70 hx hby d9_27 rfl (oJn X70 hx hby d9_28 (tlt (by decide : (2 : Int32) < (3 : Int32))).2.1 q)))))) ?_
      refine own_by (fun t q => oIl X70 hx hby d9_31 rfl (oIn X70 hx hby d9_33 rfl (oJn X70 hx hby d9_34 (feq (by decide : ¬ ((2 : Int32) = (3 : Int32)))).1 (oIl X70 hx hby d9_37 rfl (oIn X70 hx hby d9_39 rfl (oJy X70 hx hby 40 84 d9_40 (flt (by decide : ¬ ((2 : Int32) < (2 : Int32)))).2.1 (by decide) (by decide) q)))))) ?_
      refine own_aF X70 hx hZ hown hw 16 rfl e70 f71 hby d9_84 rfl d9_85 fun T72 X72 e72 => ?_
      have f73 := (f41.other W70 (Or.inl ne_r0_oA))
      refine own_by (fun t q => oIl X72 hx hby d9_88 rfl q) ?_
      refine own_aF X72 hx hZ hown hw 18 rfl e72 f73 hby d9_90 rfl d9_91 fun T74 X74 e74 => ?_
      have f75 := (f43.other W70 ne_cA_oA)
      refine own_by (fun t q => oIl X74 hx hby d9_94 rfl (XS.iinc X74.here hx rfl (hb hby d9_96) rfl (l' := #[rv r0, iv 0, iv 2, iv 3, iv 2, iv 3, iv 2]) rfl (own_ldI X74 hx hZ e74 f75 hby ⟨by decide, by decide⟩ (v := (.int 2)) rfl d9_99 q))) ?_
      refine own_stI X74 hx hZ e74 V70 hby ⟨by decide, by decide⟩ 2 rfl (Nat.le_of_ble_eq_true rfl) N70 ge_oA d9_100 fun T76 h76 X76 e76 W76 Vr76 N76 => ?_
      have V76 : Arv Z h76 oA kO .int (256 : Int32) [(.int 1), (.int 0), (.int 2)] (.int 0) := Vr76
      refine own_by (fun t q => XS.iinc X76.here hx rfl (hb hby d9_101) rfl (l' := #[rv r0, iv 0, iv 2, iv 3, iv 2, iv 3, iv 3]) rfl (oGo X76 hx hby 104 25 d9_104 (by decide) (by decide) (oIl X76 hx hby d9_25 rfl (oIn X76 hx hby d9_27 rfl (oJy X76 hx hby 28 107 d9_28 (flt (by decide : ¬ ((3 : Int32) < (3 : Int32)))).2.1 (by decide) (by decide) q))))) ?_
      have f77 := (f75.other W76 ne_cA_oA)
      refine own_out X76 Bd.notSynchronized Bd.returns (none) (fun _ => rfl) (by decide) (by decide) ?_ fun fs hr => ?_
      · rw [e76]; exact Or.inr (Or.inr ((⟨rfl, N76, (((((Keep.refl h0 [oA, cA]).trans K3 (allS (Or.inl (List.mem_of_getElem? (i := 1) rfl)) all0)).wr W40 (Or.inl (List.mem_of_getElem? (i := 0) rfl))).wr W70 (Or.inl (List.mem_of_getElem? (i := 0) rfl))).wr W76 (Or.inl (List.mem_of_getElem? (i := 0) rfl))), V76, f77⟩)))
      · exact X76.returnOut hx Bd.returns (hb hby d9_107) hr
theorem sn_3 {Z : State} {a0 : Array Value} (hw : own_HW a0 Z) : Jvm.RoadKit.slotOf Z cS0 "starts" "[I" ≠ Jvm.RoadKit.slotOf Z cS0 "order" "[I" := slot_ne (Or.inl (own_at hw 15 rfl)) (Or.inl (own_at hw 17 rfl)) (by decide) (t := (.array .int)) (t' := (.array .int)) (by decide) (by decide)
theorem sn_4 {Z : State} {a0 : Array Value} (hw : own_HW a0 Z) : Jvm.RoadKit.slotOf Z cS0 "scratch" "[I" ≠ Jvm.RoadKit.slotOf Z cS0 "order" "[I" := slot_ne (Or.inl (own_at hw 19 rfl)) (Or.inl (own_at hw 17 rfl)) (by decide) (t := (.array .int)) (t' := (.array .int)) (by decide) (by decide)
theorem sn_5 {Z : State} {a0 : Array Value} (hw : own_HW a0 Z) : Jvm.RoadKit.slotOf Z cS0 "count" "I" ≠ Jvm.RoadKit.slotOf Z cS0 "order" "[I" := slot_ne (Or.inl (own_at hw 37 rfl)) (Or.inl (own_at hw 17 rfl)) (by decide) (t := .int) (t' := (.array .int)) (by decide) (by decide)
theorem sn_6 {Z : State} {a0 : Array Value} (hw : own_HW a0 Z) : Jvm.RoadKit.slotOf Z cS0 "count" "I" ≠ Jvm.RoadKit.slotOf Z cS0 "scratch" "[I" := slot_ne (Or.inl (own_at hw 37 rfl)) (Or.inl (own_at hw 19 rfl)) (by decide) (t := .int) (t' := (.array .int)) (by decide) (by decide)
theorem sn_7 {Z : State} {a0 : Array Value} (hw : own_HW a0 Z) : Jvm.RoadKit.slotOf Z cS0 "order" "[I" ≠ Jvm.RoadKit.slotOf Z cS0 "scratch" "[I" := slot_ne (Or.inl (own_at hw 17 rfl)) (Or.inl (own_at hw 19 rfl)) (by decide) (t := (.array .int)) (t' := (.array .int)) (by decide) (by decide)
theorem sn_8 {Z : State} {a0 : Array Value} (hw : own_HW a0 Z) : Jvm.RoadKit.slotOf Z cS0 "used" "I" ≠ Jvm.RoadKit.slotOf Z cS0 "order" "[I" := slot_ne (Or.inl (own_at hw 39 rfl)) (Or.inl (own_at hw 17 rfl)) (by decide) (t := .int) (t' := (.array .int)) (by decide) (by decide)
theorem sn_9 {Z : State} {a0 : Array Value} (hw : own_HW a0 Z) : Jvm.RoadKit.slotOf Z cS0 "used" "I" ≠ Jvm.RoadKit.slotOf Z cS0 "scratch" "[I" := slot_ne (Or.inl (own_at hw 39 rfl)) (Or.inl (own_at hw 19 rfl)) (by decide) (t := .int) (t' := (.array .int)) (by decide) (by decide)
theorem sn_10 {Z : State} {a0 : Array Value} (hw : own_HW a0 Z) : Jvm.RoadKit.slotOf Z cS0 "bytes" "[B" ≠ Jvm.RoadKit.slotOf Z cS0 "order" "[I" := slot_ne (Or.inl (own_at hw 12 rfl)) (Or.inl (own_at hw 17 rfl)) (by decide) (t := (.array .byte)) (t' := (.array .int)) (by decide) (by decide)
theorem sn_11 {Z : State} {a0 : Array Value} (hw : own_HW a0 Z) : Jvm.RoadKit.slotOf Z cS0 "bytes" "[B" ≠ Jvm.RoadKit.slotOf Z cS0 "scratch" "[I" := slot_ne (Or.inl (own_at hw 12 rfl)) (Or.inl (own_at hw 19 rfl)) (by decide) (t := (.array .byte)) (t' := (.array .int)) (by decide) (by decide)
theorem sn_12 {Z : State} {a0 : Array Value} (hw : own_HW a0 Z) : Jvm.RoadKit.slotOf Z cS0 "starts" "[I" ≠ Jvm.RoadKit.slotOf Z cS0 "scratch" "[I" := slot_ne (Or.inl (own_at hw 15 rfl)) (Or.inl (own_at hw 19 rfl)) (by decide) (t := (.array .int)) (t' := (.array .int)) (by decide) (by decide)
theorem sn_13 {Z : State} {a0 : Array Value} (hw : own_HW a0 Z) : Jvm.RoadKit.slotOf Z cS0 "limit" "[B" ≠ Jvm.RoadKit.slotOf Z cS0 "order" "[I" := slot_ne (Or.inl (own_at hw 30 rfl)) (Or.inl (own_at hw 17 rfl)) (by decide) (t := (.array .byte)) (t' := (.array .int)) (by decide) (by decide)
theorem sn_14 {Z : State} {a0 : Array Value} (hw : own_HW a0 Z) : Jvm.RoadKit.slotOf Z cS0 "limit" "[B" ≠ Jvm.RoadKit.slotOf Z cS0 "scratch" "[I" := slot_ne (Or.inl (own_at hw 30 rfl)) (Or.inl (own_at hw 19 rfl)) (by decide) (t := (.array .byte)) (t' := (.array .int)) (by decide) (by decide)
theorem sn_15 {Z : State} {a0 : Array Value} (hw : own_HW a0 Z) : Jvm.RoadKit.slotOf Z cS0 "maxNames" "I" ≠ Jvm.RoadKit.slotOf Z cS0 "order" "[I" := slot_ne (Or.inr (own_at hw 21 rfl)) (Or.inl (own_at hw 17 rfl)) (by decide) (t := .int) (t' := (.array .int)) (by decide) (by decide)
theorem sn_16 {Z : State} {a0 : Array Value} (hw : own_HW a0 Z) : Jvm.RoadKit.slotOf Z cS0 "maxNames" "I" ≠ Jvm.RoadKit.slotOf Z cS0 "scratch" "[I" := slot_ne (Or.inr (own_at hw 21 rfl)) (Or.inl (own_at hw 19 rfl)) (by decide) (t := .int) (t' := (.array .int)) (by decide) (by decide)
theorem sn_17 {Z : State} {a0 : Array Value} (hw : own_HW a0 Z) : Jvm.RoadKit.slotOf Z cS0 "maxBytes" "I" ≠ Jvm.RoadKit.slotOf Z cS0 "order" "[I" := slot_ne (Or.inr (own_at hw 23 rfl)) (Or.inl (own_at hw 17 rfl)) (by decide) (t := .int) (t' := (.array .int)) (by decide) (by decide)
theorem sn_18 {Z : State} {a0 : Array Value} (hw : own_HW a0 Z) : Jvm.RoadKit.slotOf Z cS0 "maxBytes" "I" ≠ Jvm.RoadKit.slotOf Z cS0 "scratch" "[I" := slot_ne (Or.inr (own_at hw 23 rfl)) (Or.inl (own_at hw 19 rfl)) (by decide) (t := .int) (t' := (.array .int)) (by decide) (by decide)
theorem d7_0 : decode prog_6_method_6_code 0 = .ok (.aload_n 0, 1) := by decide +kernel
theorem d7_1 : decode prog_6_method_6_code 1 = .ok (.getfield 17, 3) := by decide +kernel
theorem d7_4 : decode prog_6_method_6_code 4 = .ok (.arraylength, 1) := by decide +kernel
theorem d7_5 : decode prog_6_method_6_code 5 = .ok (.aload_n 0, 1) := by decide +kernel
theorem d7_6 : decode prog_6_method_6_code 6 = .ok (.getfield 30, 3) := by decide +kernel
theorem d7_9 : decode prog_6_method_6_code 9 = .ok (.if_icmp .ge 25, 3) := by decide +kernel
theorem d7_12 : decode prog_6_method_6_code 12 = .ok (.aload_n 0, 1) := by decide +kernel
theorem d7_13 : decode prog_6_method_6_code 13 = .ok (.aload_n 0, 1) := by decide +kernel
theorem d7_14 : decode prog_6_method_6_code 14 = .ok (.getfield 13, 3) := by decide +kernel
theorem d7_17 : decode prog_6_method_6_code 17 = .ok (.arraylength, 1) := by decide +kernel
theorem d7_18 : decode prog_6_method_6_code 18 = .ok (.newarray .int, 2) := by decide +kernel
theorem d7_20 : decode prog_6_method_6_code 20 = .ok (.putfield 17, 3) := by decide +kernel
theorem d7_23 : decode prog_6_method_6_code 23 = .ok (.aload_n 0, 1) := by decide +kernel
theorem d7_24 : decode prog_6_method_6_code 24 = .ok (.aload_n 0, 1) := by decide +kernel
theorem d7_25 : decode prog_6_method_6_code 25 = .ok (.getfield 13, 3) := by decide +kernel
theorem d7_28 : decode prog_6_method_6_code 28 = .ok (.arraylength, 1) := by decide +kernel
theorem d7_29 : decode prog_6_method_6_code 29 = .ok (.newarray .int, 2) := by decide +kernel
theorem d7_31 : decode prog_6_method_6_code 31 = .ok (.putfield 20, 3) := by decide +kernel
theorem d7_34 : decode prog_6_method_6_code 34 = .ok (.iconst 0, 1) := by decide +kernel
theorem d7_35 : decode prog_6_method_6_code 35 = .ok (.istore_n 1, 1) := by decide +kernel
theorem d7_36 : decode prog_6_method_6_code 36 = .ok (.iload_n 1, 1) := by decide +kernel
theorem d7_37 : decode prog_6_method_6_code 37 = .ok (.aload_n 0, 1) := by decide +kernel
theorem d7_38 : decode prog_6_method_6_code 38 = .ok (.getfield 30, 3) := by decide +kernel
theorem d7_41 : decode prog_6_method_6_code 41 = .ok (.if_icmp .ge 16, 3) := by decide +kernel
theorem d7_44 : decode prog_6_method_6_code 44 = .ok (.aload_n 0, 1) := by decide +kernel
theorem d7_45 : decode prog_6_method_6_code 45 = .ok (.getfield 17, 3) := by decide +kernel
theorem d7_48 : decode prog_6_method_6_code 48 = .ok (.iload_n 1, 1) := by decide +kernel
theorem d7_49 : decode prog_6_method_6_code 49 = .ok (.iload_n 1, 1) := by decide +kernel
theorem d7_50 : decode prog_6_method_6_code 50 = .ok (.iastore, 1) := by decide +kernel
theorem d7_51 : decode prog_6_method_6_code 51 = .ok (.iinc 1 1, 3) := by decide +kernel
theorem d7_54 : decode prog_6_method_6_code 54 = .ok (.goto (-18), 3) := by decide +kernel
theorem d7_57 : decode prog_6_method_6_code 57 = .ok (.iconst 1, 1) := by decide +kernel
theorem d7_58 : decode prog_6_method_6_code 58 = .ok (.istore_n 1, 1) := by decide +kernel
theorem d7_59 : decode prog_6_method_6_code 59 = .ok (.iload_n 1, 1) := by decide +kernel
theorem d7_60 : decode prog_6_method_6_code 60 = .ok (.aload_n 0, 1) := by decide +kernel
theorem d7_61 : decode prog_6_method_6_code 61 = .ok (.getfield 30, 3) := by decide +kernel
theorem d7_64 : decode prog_6_method_6_code 64 = .ok (.if_icmp .ge 51, 3) := by decide +kernel
theorem d7_67 : decode prog_6_method_6_code 67 = .ok (.iconst 0, 1) := by decide +kernel
theorem d7_68 : decode prog_6_method_6_code 68 = .ok (.istore_n 2, 1) := by decide +kernel
theorem d7_69 : decode prog_6_method_6_code 69 = .ok (.iload_n 2, 1) := by decide +kernel
theorem d7_70 : decode prog_6_method_6_code 70 = .ok (.aload_n 0, 1) := by decide +kernel
theorem d7_71 : decode prog_6_method_6_code 71 = .ok (.getfield 30, 3) := by decide +kernel
theorem d7_74 : decode prog_6_method_6_code 74 = .ok (.iload_n 1, 1) := by decide +kernel
theorem d7_75 : decode prog_6_method_6_code 75 = .ok (.isub, 1) := by decide +kernel
theorem d7_76 : decode prog_6_method_6_code 76 = .ok (.if_icmp .ge 32, 3) := by decide +kernel
theorem d7_79 : decode prog_6_method_6_code 79 = .ok (.aload_n 0, 1) := by decide +kernel
theorem d7_80 : decode prog_6_method_6_code 80 = .ok (.iload_n 2, 1) := by decide +kernel
theorem d7_81 : decode prog_6_method_6_code 81 = .ok (.iload_n 2, 1) := by decide +kernel
theorem d7_82 : decode prog_6_method_6_code 82 = .ok (.iload_n 1, 1) := by decide +kernel
theorem d7_83 : decode prog_6_method_6_code 83 = .ok (.iadd, 1) := by decide +kernel
theorem d7_84 : decode prog_6_method_6_code 84 = .ok (.iload_n 2, 1) := by decide +kernel
theorem d7_85 : decode prog_6_method_6_code 85 = .ok (.iconst 2, 1) := by decide +kernel
theorem d7_86 : decode prog_6_method_6_code 86 = .ok (.iload_n 1, 1) := by decide +kernel
theorem d7_87 : decode prog_6_method_6_code 87 = .ok (.imul, 1) := by decide +kernel
theorem d7_88 : decode prog_6_method_6_code 88 = .ok (.iadd, 1) := by decide +kernel
theorem d7_89 : decode prog_6_method_6_code 89 = .ok (.aload_n 0, 1) := by decide +kernel
theorem d7_90 : decode prog_6_method_6_code 90 = .ok (.getfield 30, 3) := by decide +kernel
theorem d7_93 : decode prog_6_method_6_code 93 = .ok (.invokestatic 48, 3) := by decide +kernel
theorem d7_96 : decode prog_6_method_6_code 96 = .ok (.invokevirtual 70, 3) := by decide +kernel
theorem d7_99 : decode prog_6_method_6_code 99 = .ok (.iload_n 2, 1) := by decide +kernel
theorem d7_100 : decode prog_6_method_6_code 100 = .ok (.iconst 2, 1) := by decide +kernel
theorem d7_101 : decode prog_6_method_6_code 101 = .ok (.iload_n 1, 1) := by decide +kernel
theorem d7_102 : decode prog_6_method_6_code 102 = .ok (.imul, 1) := by decide +kernel
theorem d7_103 : decode prog_6_method_6_code 103 = .ok (.iadd, 1) := by decide +kernel
theorem d7_104 : decode prog_6_method_6_code 104 = .ok (.istore_n 2, 1) := by decide +kernel
theorem d7_105 : decode prog_6_method_6_code 105 = .ok (.goto (-36), 3) := by decide +kernel
theorem d7_108 : decode prog_6_method_6_code 108 = .ok (.iload_n 1, 1) := by decide +kernel
theorem d7_109 : decode prog_6_method_6_code 109 = .ok (.iconst 2, 1) := by decide +kernel
theorem d7_110 : decode prog_6_method_6_code 110 = .ok (.imul, 1) := by decide +kernel
theorem d7_111 : decode prog_6_method_6_code 111 = .ok (.istore_n 1, 1) := by decide +kernel
theorem d7_112 : decode prog_6_method_6_code 112 = .ok (.goto (-53), 3) := by decide +kernel
theorem d7_115 : decode prog_6_method_6_code 115 = .ok (.return_, 1) := by decide +kernel
theorem ef_7 (m : MethodId) (x0 : Addr) : entryFrame m #[(.ref x0)] 3 = mkF m 0 #[.val (.ref x0), .unset, .unset] [] := by first | (simp [entryFrame, mkF, argsToLocals, Value.category]; done) | rfl
def Q_7_2 (Z : State) (r0 bA sA : Addr) (kS : ClassId) (u s0 s1 s2 s3 mN mB : Int32) (oZ : Addr) (kZ : ClassId) (cZ : Addr) (h0 : Heap) (n0 : Nat) (v : Option Value) (h : Heap) (L : List Loc) : Prop := (∃ oA : Addr, ∃ kO : ClassId, ∃ cA : Addr, ∃ kC : ClassId, v = none ∧ Fr n0 L ∧ Keep h0 h [r0] ∧ h0.size ≤ oA ∧ h0.size ≤ cA ∧ oA ≠ cA ∧ Fld Z h r0 cS0 "count" "I" (.int 2) ∧ Fld Z h r0 cS0 "used" "I" (.int u) ∧ Fld Z h r0 cS0 "bytes" "[B" (.ref bA) ∧ Fld Z h r0 cS0 "starts" "[I" (.ref sA) ∧ Fld Z h r0 cS0 "limit" "[B" .null ∧ Fld Z h r0 cS0 "maxNames" "I" (.int mN) ∧ Fld Z h r0 cS0 "maxBytes" "I" (.int mB) ∧ Fld Z h r0 cS0 "order" "[I" (.ref oA) ∧ Arv Z h oA kO .int (256 : Int32) [(.int 1), (.int 0)] (.int 0) ∧ Exa Z h oA "[I" ∧ Fld Z h r0 cS0 "scratch" "[I" (.ref cA) ∧ Arv Z h cA kC .int (256 : Int32) [(.int 0), (.int 1)] (.int 0) ∧ Exa Z h cA "[I") ∨ (∃ oA : Addr, ∃ kO : ClassId, ∃ cA : Addr, ∃ kC : ClassId, v = none ∧ Fr n0 L ∧ Keep h0 h [r0] ∧ h0.size ≤ oA ∧ h0.size ≤ cA ∧ oA ≠ cA ∧ Fld Z h r0 cS0 "count" "I" (.int 2) ∧ Fld Z h r0 cS0 "used" "I" (.int u) ∧ Fld Z h r0 cS0 "bytes" "[B" (.ref bA) ∧ Fld Z h r0 cS0 "starts" "[I" (.ref sA) ∧ Fld Z h r0 cS0 "limit" "[B" .null ∧ Fld Z h r0 cS0 "maxNames" "I" (.int mN) ∧ Fld Z h r0 cS0 "maxBytes" "I" (.int mB) ∧ Fld Z h r0 cS0 "order" "[I" (.ref oA) ∧ Arv Z h oA kO .int (256 : Int32) [(.int 0), (.int 1)] (.int 0) ∧ Exa Z h oA "[I" ∧ Fld Z h r0 cS0 "scratch" "[I" (.ref cA) ∧ Arv Z h cA kC .int (256 : Int32) [(.int 0), (.int 1)] (.int 0) ∧ Exa Z h cA "[I")
theorem rm7_2 (l : Launch) (Z : State) (a0 : Array Value) (hw : own_HW a0 Z) (ws : List Jvm.Cond) (r0 bA sA : Addr) (kS : ClassId) (u s0 s1 s2 s3 mN mB : Int32) (oZ : Addr) (kZ : ClassId) (cZ : Addr) (h0 : Heap) (n0 : Nat) (Z0 : n0 ≤ h0.size) (E_r0 : Exa Z h0 r0 cS0) (F_count_r0 : Fld Z h0 r0 cS0 "count" "I" (.int 2)) (F_used_r0 : Fld Z h0 r0 cS0 "used" "I" (.int u)) (F_bytes_r0 : Fld Z h0 r0 cS0 "bytes" "[B" (.ref bA)) (B_bA : own_B Z h0 bA (4096 : Int32)) (E_bA : Exa Z h0 bA "[B") (F_starts_r0 : Fld Z h0 r0 cS0 "starts" "[I" (.ref sA)) (V_sA : Arv Z h0 sA kS .int (256 : Int32) [(.int s0), (.int s1), (.int s2), (.int s3)] (.int 0)) (E_sA : Exa Z h0 sA "[I") (F_maxNames_r0 : Fld Z h0 r0 cS0 "maxNames" "I" (.int mN)) (F_maxBytes_r0 : Fld Z h0 r0 cS0 "maxBytes" "I" (.int mB)) (F_limit_r0 : Fld Z h0 r0 cS0 "limit" "[B" .null) (F_order_r0 : Fld Z h0 r0 cS0 "order" "[I" (.ref oZ)) (V_oZ : Arv Z h0 oZ kZ .int (0 : Int32) [] (.int 0)) (F_scratch_r0 : Fld Z h0 r0 cS0 "scratch" "[I" (.ref cZ)) (hp0 : s0.toInt ≤ s1.toInt ∧ s1.toInt ≤ s0.toInt + 3 ∧ s1.toInt ≤ u.toInt ∧ u.toInt ≤ s1.toInt + 3 ∧ 0 ≤ s0.toInt ∧ u.toInt ≤ 50) (ge_r0 : n0 ≤ r0) (ne_sA_r0 : sA ≠ r0) (ne_bA_r0 : bA ≠ r0) (ne_oZ_r0 : oZ ≠ r0) :
    own_M l Z (⟨cS0, "sort", "()V"⟩ : MethodName) prog_6_method_6_code 3 none ws ({ frames := 5, cells := 2, slots := 512, locals := 78 } : Room) #[(.ref r0)] h0 (Q_7_2 Z r0 bA sA kS u s0 s1 s2 s3 mN mB oZ kZ cZ h0 n0) := by
  refine own_in cS0 rfl (plainFor_of_name pn_com_example_measurewright_measurewright_cli_NameBatch) ?_
  intro p e s m below meth c s₁ Bd hml hZ hh hx hby hown X0 e0
  have N0 := Fr.nil n0
  refine own_start (ef_7 m r0) ?_
  refine own_aF X0 hx hZ hown hw 16 rfl e0 F_order_r0 hby d7_0 rfl d7_1 fun T1 X1 e1 => ?_
  refine own_by (fun t q => own_alen X1 hx hZ e1 V_oZ hby d7_4 q) ?_
  refine own_aF X1 hx hZ hown hw 36 rfl e1 F_count_r0 hby d7_5 rfl d7_6 fun T2 X2 e2 => ?_
  refine own_by (fun t q => oJn X2 hx hby d7_9 (tlt (by decide : (0 : Int32) < (2 : Int32))).2.1 (oAn X2 hx hby d7_12 rfl rfl q)) ?_
  refine own_aF X2 hx hZ hown hw 14 rfl e2 F_starts_r0 hby d7_13 rfl d7_14 fun T3 X3 e3 => ?_
  obtain ⟨T4, h4, k4, X4, e4, E4, A4, EA4, st4⟩ := newPE X3 hx hZ (own_at hw 13 rfl) e3 (g := (mkF m 18 #[rv r0, .unset, .unset] [(.int 256), (.ref r0)])) rfl (hb hby d7_18) rfl (by decide) (cap := 256) (by decide) (by decide) (by decide) (by decide) (ad := "[I") (by decide)
  obtain ⟨b4, g4⟩ : ∃ z, z = h0.size := ⟨_, rfl⟩
  rw [← g4] at A4 EA4 st4
  have g_b4 : n0 ≤ b4 := Nat.le_trans Z0 (Nat.le_of_eq g4.symm)
  have sz_b4 : h0.size ≤ b4 := Nat.le_trans (Keep.refl h0 []).1 (Nat.le_of_eq g4.symm)
  have V_b4 : Arv Z h4 b4 k4 .int (256 : Int32) [(.int 0), (.int 0)] (.int 0) := (Arv.new A4 (by decide)).pad (pad_rep [] (.int 0) 2)
  have f5 := (E_r0.ext E4)
  have f6 := (F_order_r0.ext E4)
  refine own_by (fun t q => own_alen X3 hx hZ e3 V_sA hby d7_17 (st4 _ q)) ?_
  refine own_pF X4 hx hZ hown hw 16 17 3 rfl rfl rfl e4 f6 f5 (ty := (.array .int)) (by decide) rfl rfl N0 ge_r0 hby d7_20 fun T7 h7 X7 e7 W7 Fw7 N7 => ?_
  have f8 := ((F_starts_r0.ext E4).other W7 (Or.inr (sn_3 hw)))
  refine own_by (fun t q => oAn X7 hx hby d7_23 rfl rfl q) ?_
  refine own_aF X7 hx hZ hown hw 14 rfl e7 f8 hby d7_24 rfl d7_25 fun T9 X9 e9 => ?_
  have f10 := ((V_sA.ext E4).other W7 ne_sA_r0)
  have f11 := (f5.wr W7)
  have f12 := ((B_bA.ext E4).other W7 ne_bA_r0)
  have f13 := ((V_oZ.ext E4).other W7 ne_oZ_r0)
  have f14 := (EA4.wr W7)
  obtain ⟨T15, h15, k15, X15, e15, E15, A15, EA15, st15⟩ := newPE X9 hx hZ (own_at hw 13 rfl) e9 (g := (mkF m 29 #[rv r0, .unset, .unset] [(.int 256), (.ref r0)])) rfl (hb hby d7_29) rfl (by decide) (cap := 256) (by decide) (by decide) (by decide) (by decide) (ad := "[I") (by decide)
  obtain ⟨b15, g15⟩ : ∃ z, z = h7.size := ⟨_, rfl⟩
  rw [← g15] at A15 EA15 st15
  have g_b15 : n0 ≤ b15 := Nat.le_trans (Nat.le_trans (Nat.le_trans Z0 E4.1) (Keep.of_wr W7).1) (Nat.le_of_eq g15.symm)
  have sz_b15 : h0.size ≤ b15 := Nat.le_trans (((Keep.refl h0 [r0]).ext E4).wr W7 (Or.inl (List.mem_of_getElem? (i := 0) rfl))).1 (Nat.le_of_eq g15.symm)
  have V_b15 : Arv Z h15 b15 k15 .int (256 : Int32) [(.int 0), (.int 0)] (.int 0) := (Arv.new A15 (by decide)).pad (pad_rep [] (.int 0) 2)
  have f16 := (f11.ext E15)
  have f17 := (((F_scratch_r0.ext E4).other W7 (Or.inr (sn_4 hw))).ext E15)
  refine own_by (fun t q => own_alen X9 hx hZ e9 f10 hby d7_28 (st15 _ q)) ?_
  refine own_pF X15 hx hZ hown hw 18 19 3 rfl rfl rfl e15 f17 f16 (ty := (.array .int)) (by decide) rfl rfl N7 ge_r0 hby d7_31 fun T18 h18 X18 e18 W18 Fw18 N18 => ?_
  have f19 := ((((F_count_r0.ext E4).other W7 (Or.inr (sn_5 hw))).ext E15).other W18 (Or.inr (sn_6 hw)))
  refine own_by (fun t q => oIc X18 hx hby d7_34 (XS.istoreN X18.here hx rfl (hb hby d7_35) rfl (l' := #[rv r0, iv 0, .unset]) rfl (oIn X18 hx hby d7_36 rfl q))) ?_
  refine own_aF X18 hx hZ hown hw 36 rfl e18 f19 hby d7_37 rfl d7_38 fun T20 X20 e20 => ?_
  have f21 := ((Fw7.ext E15).other W18 (Or.inr (sn_7 hw)))
  refine own_by (fun t q => oJn X20 hx hby d7_41 (tlt (by decide : (0 : Int32) < (2 : Int32))).2.1 q) ?_
  refine own_aF X20 hx hZ hown hw 16 rfl e20 f21 hby d7_44 rfl d7_45 fun T22 X22 e22 => ?_
  have f23 := (((V_b4.other W7 (Ne.symm (Nat.ne_of_lt (Nat.lt_of_lt_of_le E_r0.lt (Nat.le_of_eq g4.symm))))).ext E15).other W18 (Ne.symm (Nat.ne_of_lt (Nat.lt_of_lt_of_le E_r0.lt (Nat.le_of_eq g4.symm)))))
  refine own_by (fun t q => oIn X22 hx hby d7_48 rfl (oIn X22 hx hby d7_49 rfl q)) ?_
  refine own_stI X22 hx hZ e22 f23 hby ⟨by decide, by decide⟩ 0 rfl (Nat.le_of_ble_eq_true rfl) N18 g_b4 d7_50 fun T24 h24 X24 e24 W24 Vr24 N24 => ?_
  have V24 : Arv Z h24 b4 k4 .int (256 : Int32) [(.int 0), (.int 0)] (.int 0) := Vr24
  have f25 := (f19.other W24 (Or.inl (Nat.ne_of_lt (Nat.lt_of_lt_of_le E_r0.lt (Nat.le_of_eq g4.symm)))))
  refine own_by (fun t q => XS.iinc X24.here hx rfl (hb hby d7_51) rfl (l' := #[rv r0, iv 1, .unset]) rfl (oGo X24 hx hby 54 36 d7_54 (by decide) (by decide) (oIn X24 hx hby d7_36 rfl q))) ?_
  refine own_aF X24 hx hZ hown hw 36 rfl e24 f25 hby d7_37 rfl d7_38 fun T26 X26 e26 => ?_
  have f27 := (f21.other W24 (Or.inl (Nat.ne_of_lt (Nat.lt_of_lt_of_le E_r0.lt (Nat.le_of_eq g4.symm)))))
  refine own_by (fun t q => oJn X26 hx hby d7_41 (tlt (by decide : (1 : Int32) < (2 : Int32))).2.1 q) ?_
  refine own_aF X26 hx hZ hown hw 16 rfl e26 f27 hby d7_44 rfl d7_45 fun T28 X28 e28 => ?_
  refine own_by (fun t q => oIn X28 hx hby d7_48 rfl (oIn X28 hx hby d7_49 rfl q)) ?_
  refine own_stI X28 hx hZ e28 V24 hby ⟨by decide, by decide⟩ 1 rfl (Nat.le_of_ble_eq_true rfl) N24 g_b4 d7_50 fun T29 h29 X29 e29 W29 Vr29 N29 => ?_
  have V29 : Arv Z h29 b4 k4 .int (256 : Int32) [(.int 0), (.int 1)] (.int 0) := Vr29
  have f30 := (f25.other W29 (Or.inl (Nat.ne_of_lt (Nat.lt_of_lt_of_le E_r0.lt (Nat.le_of_eq g4.symm)))))
  refine own_by (fun t q => XS.iinc X29.here hx rfl (hb hby d7_51) rfl (l' := #[rv r0, iv 2, .unset]) rfl (oGo X29 hx hby 54 36 d7_54 (by decide) (by decide) (oIn X29 hx hby d7_36 rfl q))) ?_
  refine own_aF X29 hx hZ hown hw 36 rfl e29 f30 hby d7_37 rfl d7_38 fun T31 X31 e31 => ?_
  refine own_by (fun t q => oJy X31 hx hby 41 57 d7_41 (flt (by decide : ¬ ((2 : Int32) < (2 : Int32)))).2.1 (by decide) (by decide) (oIc X31 hx hby d7_57 (XS.istoreN X31.here hx rfl (hb hby d7_58) rfl (l' := #[rv r0, iv 1, .unset]) rfl (oIn X31 hx hby d7_59 rfl q)))) ?_
  refine own_aF X31 hx hZ hown hw 36 rfl e31 f30 hby d7_60 rfl d7_61 fun T32 X32 e32 => ?_
  refine own_by (fun t q => oJn X32 hx hby d7_64 (tlt (by decide : (1 : Int32) < (2 : Int32))).2.1 (oIc X32 hx hby d7_67 (XS.istoreN X32.here hx rfl (hb hby d7_68) rfl (l' := #[rv r0, iv 1, iv 0]) rfl (oIn X32 hx hby d7_69 rfl q)))) ?_
  refine own_aF X32 hx hZ hown hw 36 rfl e32 f30 hby d7_70 rfl d7_71 fun T33 X33 e33 => ?_
  refine own_by (fun t q => oIn X33 hx hby d7_74 rfl (XS.isub X33.here hx rfl (hb hby d7_75) rfl (oJn X33 hx hby d7_76 (tlt (by decide : (0 : Int32) < (1 : Int32))).2.1 (oAn X33 hx hby d7_79 rfl rfl (oIn X33 hx hby d7_80 rfl (oIn X33 hx hby d7_81 rfl q)))))) ?_
  refine own_by (fun t q => oIn X33 hx hby d7_82 rfl (XS.iadd X33.here hx rfl (hb hby d7_83) rfl (oIn X33 hx hby d7_84 rfl (oIc X33 hx hby d7_85 (oIn X33 hx hby d7_86 rfl (XS.imul X33.here hx rfl (hb hby d7_87) rfl q)))))) ?_
  refine own_by (fun t q => XS.iadd X33.here hx rfl (hb hby d7_88) rfl q) ?_
  refine own_aF X33 hx hZ hown hw 36 rfl e33 f30 hby d7_89 rfl d7_90 fun T34 X34 e34 => ?_
  refine own_cK 3 (rm8_f l Z a0 hw [] (2 : Int32) (2 : Int32) h29 n0 (Nat.le_trans (Nat.le_trans (Nat.le_trans (Nat.le_trans (Nat.le_trans (Nat.le_trans Z0 E4.1) (Keep.of_wr W7).1) E15.1) (Keep.of_wr W18).1) (Keep.of_wr W24).1) (Keep.of_wr W29).1) (by decide : ¬ ((2 : Int32) < (2 : Int32)))) X34 hx hZ hown hw 58 59 60 61 rfl rfl rfl rfl [(.int 2), (.int 2)] [(.int 1), (.int 0), (.ref r0)] hby d7_93 hml (lenOf pd_2 rfl) e34 rfl (Nat.le_refl _) (by decide) fun _ T35 L35 X35 hQ35 => ?_
  obtain ⟨rfl, N35q, e35⟩ := hQ35
  have N35 := Fr.app N29 N35q
  have f37 := (((f16.wr W18).wr W24).wr W29)
  have f38 := ((((((F_used_r0.ext E4).other W7 (Or.inr (sn_8 hw))).ext E15).other W18 (Or.inr (sn_9 hw))).other W24 (Or.inl (Nat.ne_of_lt (Nat.lt_of_lt_of_le E_r0.lt (Nat.le_of_eq g4.symm))))).other W29 (Or.inl (Nat.ne_of_lt (Nat.lt_of_lt_of_le E_r0.lt (Nat.le_of_eq g4.symm)))))
  have f39 := ((((((F_bytes_r0.ext E4).other W7 (Or.inr (sn_10 hw))).ext E15).other W18 (Or.inr (sn_11 hw))).other W24 (Or.inl (Nat.ne_of_lt (Nat.lt_of_lt_of_le E_r0.lt (Nat.le_of_eq g4.symm))))).other W29 (Or.inl (Nat.ne_of_lt (Nat.lt_of_lt_of_le E_r0.lt (Nat.le_of_eq g4.symm)))))
  have f40 := ((((f12.ext E15).other W18 ne_bA_r0).other W24 (Nat.ne_of_lt (Nat.lt_of_lt_of_le B_bA.lt (Nat.le_of_eq g4.symm)))).other W29 (Nat.ne_of_lt (Nat.lt_of_lt_of_le B_bA.lt (Nat.le_of_eq g4.symm))))
  have f41 := ((((((E_bA.ext E4).wr W7).ext E15).wr W18).wr W24).wr W29)
  have f42 := ((((f8.ext E15).other W18 (Or.inr (sn_12 hw))).other W24 (Or.inl (Nat.ne_of_lt (Nat.lt_of_lt_of_le E_r0.lt (Nat.le_of_eq g4.symm))))).other W29 (Or.inl (Nat.ne_of_lt (Nat.lt_of_lt_of_le E_r0.lt (Nat.le_of_eq g4.symm)))))
  have f43 := ((((f10.ext E15).other W18 ne_sA_r0).other W24 (Nat.ne_of_lt (Nat.lt_of_lt_of_le V_sA.lt (Nat.le_of_eq g4.symm)))).other W29 (Nat.ne_of_lt (Nat.lt_of_lt_of_le V_sA.lt (Nat.le_of_eq g4.symm))))
  have f44 := ((((((E_sA.ext E4).wr W7).ext E15).wr W18).wr W24).wr W29)
  have f45 := (f27.other W29 (Or.inl (Nat.ne_of_lt (Nat.lt_of_lt_of_le E_r0.lt (Nat.le_of_eq g4.symm)))))
  have f46 := ((((f14.ext E15).wr W18).wr W24).wr W29)
  have f47 := ((Fw18.other W24 (Or.inl (Nat.ne_of_lt (Nat.lt_of_lt_of_le E_r0.lt (Nat.le_of_eq g4.symm))))).other W29 (Or.inl (Nat.ne_of_lt (Nat.lt_of_lt_of_le E_r0.lt (Nat.le_of_eq g4.symm)))))
  have f48 := (((V_b15.other W18 (Ne.symm (Nat.ne_of_lt (Nat.lt_of_lt_of_le f11.lt (Nat.le_of_eq g15.symm))))).other W24 (Ne.symm (Nat.ne_of_lt (Nat.lt_of_lt_of_le f14.lt (Nat.le_of_eq g15.symm))))).other W29 (Ne.symm (Nat.ne_of_lt (Nat.lt_of_lt_of_le f14.lt (Nat.le_of_eq g15.symm)))))
  have f49 := (((EA15.wr W18).wr W24).wr W29)
  refine own_cP 0 (rm9_2 l Z a0 hw [] r0 bA sA kS u s0 s1 s2 s3 b4 k4 b15 k15 (0 : Int32) (0 : Int32) h29 n0 (Nat.le_trans (Nat.le_trans (Nat.le_trans (Nat.le_trans (Nat.le_trans (Nat.le_trans Z0 E4.1) (Keep.of_wr W7).1) E15.1) (Keep.of_wr W18).1) (Keep.of_wr W24).1) (Keep.of_wr W29).1) f37 f30 f38 f39 f40 f41 f42 f43 f44 f45 V29 f46 f47 f48 f49 hp0 g_b15 (Nat.ne_of_lt (Nat.lt_of_lt_of_le f11.lt (Nat.le_of_eq g15.symm))) (Nat.ne_of_lt (Nat.lt_of_lt_of_le f12.lt (Nat.le_of_eq g15.symm))) (Nat.ne_of_lt (Nat.lt_of_lt_of_le f10.lt (Nat.le_of_eq g15.symm))) (Nat.ne_of_lt (Nat.lt_of_lt_of_le f14.lt (Nat.le_of_eq g15.symm))) g_b4 (Nat.ne_of_lt (Nat.lt_of_lt_of_le E_r0.lt (Nat.le_of_eq g4.symm))) (Ne.symm (Nat.ne_of_lt (Nat.lt_of_lt_of_le f14.lt (Nat.le_of_eq g15.symm))))) X35 hx hZ hown hw 62 63 3 64 4 65 rfl rfl rfl rfl rfl rfl r0 f37 [(.int 0), (.int 1), (.int 2)] [] hby d7_96 hml (lenOf pd_1 rfl) e35 rfl (Nat.le_refl _) (by decide) fun _ T36 L36 X36 hQ36 => ?_
  have f50 := ((((f13.ext E15).other W18 ne_oZ_r0).other W24 (Nat.ne_of_lt (Nat.lt_of_lt_of_le V_oZ.lt (Nat.le_of_eq g4.symm)))).other W29 (Nat.ne_of_lt (Nat.lt_of_lt_of_le V_oZ.lt (Nat.le_of_eq g4.symm))))
  rcases hQ36 with ⟨rfl, N36q, K36, p36_0, p36_1⟩ | ⟨rfl, N36q, K36, p36_0, p36_1⟩
  · have pl36 := (allS (P := fun x => ∃ cell : Cell, h29[x]? = some cell ∧ cell.vm.isStatics = false) (own_ns f46) (allS (P := fun x => ∃ cell : Cell, h29[x]? = some cell ∧ cell.vm.isStatics = false) (own_ns f49) all0))
    have N36 := Fr.app N35 N36q
    have f51 := (f30.keep K36 (ninS (Nat.ne_of_lt (Nat.lt_of_lt_of_le E_r0.lt (Nat.le_of_eq g4.symm))) (ninS (Nat.ne_of_lt (Nat.lt_of_lt_of_le f11.lt (Nat.le_of_eq g15.symm))) nin0)))
    refine own_by (fun t q => oIn X36 hx hby d7_99 rfl (oIc X36 hx hby d7_100 (oIn X36 hx hby d7_101 rfl (XS.imul X36.here hx rfl (hb hby d7_102) rfl (XS.iadd X36.here hx rfl (hb hby d7_103) rfl (XS.istoreN X36.here hx rfl (hb hby d7_104) rfl (l' := #[rv r0, iv 1, iv 2]) rfl q)))))) ?_
    refine own_by (fun t q => oGo X36 hx hby 105 69 d7_105 (by decide) (by decide) (oIn X36 hx hby d7_69 rfl q)) ?_
    refine own_aF X36 hx hZ hown hw 36 rfl rfl f51 hby d7_70 rfl d7_71 fun T52 X52 e52 => ?_
    refine own_by (fun t q => oIn X52 hx hby d7_74 rfl (XS.isub X52.here hx rfl (hb hby d7_75) rfl (oJy X52 hx hby 76 108 d7_76 (flt (by decide : ¬ ((2 : Int32) < (1 : Int32)))).2.1 (by decide) (by decide) (oIn X52 hx hby d7_108 rfl (oIc X52 hx hby d7_109 (XS.imul X52.here hx rfl (hb hby d7_110) rfl q)))))) ?_
    refine own_by (fun t q => XS.istoreN X52.here hx rfl (hb hby d7_111) rfl (l' := #[rv r0, iv 2, iv 2]) rfl (oGo X52 hx hby 112 59 d7_112 (by decide) (by decide) (oIn X52 hx hby d7_59 rfl q))) ?_
    refine own_aF X52 hx hZ hown hw 36 rfl e52 f51 hby d7_60 rfl d7_61 fun T53 X53 e53 => ?_
    refine own_by (fun t q => oJy X53 hx hby 64 115 d7_64 (flt (by decide : ¬ ((2 : Int32) < (2 : Int32)))).2.1 (by decide) (by decide) q) ?_
    have f54 := (f38.keep K36 (ninS (Nat.ne_of_lt (Nat.lt_of_lt_of_le E_r0.lt (Nat.le_of_eq g4.symm))) (ninS (Nat.ne_of_lt (Nat.lt_of_lt_of_le f11.lt (Nat.le_of_eq g15.symm))) nin0)))
    have f55 := (f39.keep K36 (ninS (Nat.ne_of_lt (Nat.lt_of_lt_of_le E_r0.lt (Nat.le_of_eq g4.symm))) (ninS (Nat.ne_of_lt (Nat.lt_of_lt_of_le f11.lt (Nat.le_of_eq g15.symm))) nin0)))
    have f56 := (f42.keep K36 (ninS (Nat.ne_of_lt (Nat.lt_of_lt_of_le E_r0.lt (Nat.le_of_eq g4.symm))) (ninS (Nat.ne_of_lt (Nat.lt_of_lt_of_le f11.lt (Nat.le_of_eq g15.symm))) nin0)))
    have f57 := (((((((F_limit_r0.ext E4).other W7 (Or.inr (sn_13 hw))).ext E15).other W18 (Or.inr (sn_14 hw))).other W24 (Or.inl (Nat.ne_of_lt (Nat.lt_of_lt_of_le E_r0.lt (Nat.le_of_eq g4.symm))))).other W29 (Or.inl (Nat.ne_of_lt (Nat.lt_of_lt_of_le E_r0.lt (Nat.le_of_eq g4.symm))))).keep K36 (ninS (Nat.ne_of_lt (Nat.lt_of_lt_of_le E_r0.lt (Nat.le_of_eq g4.symm))) (ninS (Nat.ne_of_lt (Nat.lt_of_lt_of_le f11.lt (Nat.le_of_eq g15.symm))) nin0)))
    have f58 := (((((((F_maxNames_r0.ext E4).other W7 (Or.inr (sn_15 hw))).ext E15).other W18 (Or.inr (sn_16 hw))).other W24 (Or.inl (Nat.ne_of_lt (Nat.lt_of_lt_of_le E_r0.lt (Nat.le_of_eq g4.symm))))).other W29 (Or.inl (Nat.ne_of_lt (Nat.lt_of_lt_of_le E_r0.lt (Nat.le_of_eq g4.symm))))).keep K36 (ninS (Nat.ne_of_lt (Nat.lt_of_lt_of_le E_r0.lt (Nat.le_of_eq g4.symm))) (ninS (Nat.ne_of_lt (Nat.lt_of_lt_of_le f11.lt (Nat.le_of_eq g15.symm))) nin0)))
    have f59 := (((((((F_maxBytes_r0.ext E4).other W7 (Or.inr (sn_17 hw))).ext E15).other W18 (Or.inr (sn_18 hw))).other W24 (Or.inl (Nat.ne_of_lt (Nat.lt_of_lt_of_le E_r0.lt (Nat.le_of_eq g4.symm))))).other W29 (Or.inl (Nat.ne_of_lt (Nat.lt_of_lt_of_le E_r0.lt (Nat.le_of_eq g4.symm))))).keep K36 (ninS (Nat.ne_of_lt (Nat.lt_of_lt_of_le E_r0.lt (Nat.le_of_eq g4.symm))) (ninS (Nat.ne_of_lt (Nat.lt_of_lt_of_le f11.lt (Nat.le_of_eq g15.symm))) nin0)))
    have f60 := (f45.keep K36 (ninS (Nat.ne_of_lt (Nat.lt_of_lt_of_le E_r0.lt (Nat.le_of_eq g4.symm))) (ninS (Nat.ne_of_lt (Nat.lt_of_lt_of_le f11.lt (Nat.le_of_eq g15.symm))) nin0)))
    have f61 := (f46.keep K36)
    have f62 := (f47.keep K36 (ninS (Nat.ne_of_lt (Nat.lt_of_lt_of_le E_r0.lt (Nat.le_of_eq g4.symm))) (ninS (Nat.ne_of_lt (Nat.lt_of_lt_of_le f11.lt (Nat.le_of_eq g15.symm))) nin0)))
    have f63 := (f49.keep K36)
    refine own_out X53 Bd.notSynchronized Bd.returns (none) (fun _ => rfl) (by decide) (by decide) ?_ fun fs hr => ?_
    · rw [e53]; exact Or.inl (⟨b4, k4, b15, k15, rfl, N36, ((((((((Keep.refl h0 [r0]).ext E4).wr W7 (Or.inl (List.mem_of_getElem? (i := 0) rfl))).ext E15).wr W18 (Or.inl (List.mem_of_getElem? (i := 0) rfl))).wr W24 (Or.inr sz_b4)).wr W29 (Or.inr sz_b4)).trans K36 (allS (Or.inr sz_b4) (allS (Or.inr sz_b15) all0))), sz_b4, sz_b15, (Nat.ne_of_lt (Nat.lt_of_lt_of_le f14.lt (Nat.le_of_eq g15.symm))), f51, f54, f55, f56, f57, f58, f59, f60, p36_0, f61, f62, p36_1, f63⟩)
    · exact X53.returnOut hx Bd.returns (hb hby d7_115) hr
  · have pl36 := (allS (P := fun x => ∃ cell : Cell, h29[x]? = some cell ∧ cell.vm.isStatics = false) (own_ns f46) (allS (P := fun x => ∃ cell : Cell, h29[x]? = some cell ∧ cell.vm.isStatics = false) (own_ns f49) all0))
    have N36 := Fr.app N35 N36q
    have f64 := (f30.keep K36 (ninS (Nat.ne_of_lt (Nat.lt_of_lt_of_le E_r0.lt (Nat.le_of_eq g4.symm))) (ninS (Nat.ne_of_lt (Nat.lt_of_lt_of_le f11.lt (Nat.le_of_eq g15.symm))) nin0)))
    refine own_by (fun t q => oIn X36 hx hby d7_99 rfl (oIc X36 hx hby d7_100 (oIn X36 hx hby d7_101 rfl (XS.imul X36.here hx rfl (hb hby d7_102) rfl (XS.iadd X36.here hx rfl (hb hby d7_103) rfl (XS.istoreN X36.here hx rfl (hb hby d7_104) rfl (l' := #[rv r0, iv 1, iv 2]) rfl q)))))) ?_
    refine own_by (fun t q => oGo X36 hx hby 105 69 d7_105 (by decide) (by decide) (oIn X36 hx hby d7_69 rfl q)) ?_
    refine own_aF X36 hx hZ hown hw 36 rfl rfl f64 hby d7_70 rfl d7_71 fun T65 X65 e65 => ?_
    refine own_by (fun t q => oIn X65 hx hby d7_74 rfl (XS.isub X65.here hx rfl (hb hby d7_75) rfl (oJy X65 hx hby 76 108 d7_76 (flt (by decide : ¬ ((2 : Int32) < (1 : Int32)))).2.1 (by decide) (by decide) (oIn X65 hx hby d7_108 rfl (oIc X65 hx hby d7_109 (XS.imul X65.here hx rfl (hb hby d7_110) rfl q)))))) ?_
    refine own_by (fun t q => XS.istoreN X65.here hx rfl (hb hby d7_111) rfl (l' := #[rv r0, iv 2, iv 2]) rfl (oGo X65 hx hby 112 59 d7_112 (by decide) (by decide) (oIn X65 hx hby d7_59 rfl q))) ?_
    refine own_aF X65 hx hZ hown hw 36 rfl e65 f64 hby d7_60 rfl d7_61 fun T66 X66 e66 => ?_
    refine own_by (fun t q => oJy X66 hx hby 64 115 d7_64 (flt (by decide : ¬ ((2 : Int32) < (2 : Int32)))).2.1 (by decide) (by decide) q) ?_
    have f67 := (f38.keep K36 (ninS (Nat.ne_of_lt (Nat.lt_of_lt_of_le E_r0.lt (Nat.le_of_eq g4.symm))) (ninS (Nat.ne_of_lt (Nat.lt_of_lt_of_le f11.lt (Nat.le_of_eq g15.symm))) nin0)))
    have f68 := (f39.keep K36 (ninS (Nat.ne_of_lt (Nat.lt_of_lt_of_le E_r0.lt (Nat.le_of_eq g4.symm))) (ninS (Nat.ne_of_lt (Nat.lt_of_lt_of_le f11.lt (Nat.le_of_eq g15.symm))) nin0)))
    have f69 := (f42.keep K36 (ninS (Nat.ne_of_lt (Nat.lt_of_lt_of_le E_r0.lt (Nat.le_of_eq g4.symm))) (ninS (Nat.ne_of_lt (Nat.lt_of_lt_of_le f11.lt (Nat.le_of_eq g15.symm))) nin0)))
    have f70 := (((((((F_limit_r0.ext E4).other W7 (Or.inr (sn_13 hw))).ext E15).other W18 (Or.inr (sn_14 hw))).other W24 (Or.inl (Nat.ne_of_lt (Nat.lt_of_lt_of_le E_r0.lt (Nat.le_of_eq g4.symm))))).other W29 (Or.inl (Nat.ne_of_lt (Nat.lt_of_lt_of_le E_r0.lt (Nat.le_of_eq g4.symm))))).keep K36 (ninS (Nat.ne_of_lt (Nat.lt_of_lt_of_le E_r0.lt (Nat.le_of_eq g4.symm))) (ninS (Nat.ne_of_lt (Nat.lt_of_lt_of_le f11.lt (Nat.le_of_eq g15.symm))) nin0)))
    have f71 := (((((((F_maxNames_r0.ext E4).other W7 (Or.inr (sn_15 hw))).ext E15).other W18 (Or.inr (sn_16 hw))).other W24 (Or.inl (Nat.ne_of_lt (Nat.lt_of_lt_of_le E_r0.lt (Nat.le_of_eq g4.symm))))).other W29 (Or.inl (Nat.ne_of_lt (Nat.lt_of_lt_of_le E_r0.lt (Nat.le_of_eq g4.symm))))).keep K36 (ninS (Nat.ne_of_lt (Nat.lt_of_lt_of_le E_r0.lt (Nat.le_of_eq g4.symm))) (ninS (Nat.ne_of_lt (Nat.lt_of_lt_of_le f11.lt (Nat.le_of_eq g15.symm))) nin0)))
    have f72 := (((((((F_maxBytes_r0.ext E4).other W7 (Or.inr (sn_17 hw))).ext E15).other W18 (Or.inr (sn_18 hw))).other W24 (Or.inl (Nat.ne_of_lt (Nat.lt_of_lt_of_le E_r0.lt (Nat.le_of_eq g4.symm))))).other W29 (Or.inl (Nat.ne_of_lt (Nat.lt_of_lt_of_le E_r0.lt (Nat.le_of_eq g4.symm))))).keep K36 (ninS (Nat.ne_of_lt (Nat.lt_of_lt_of_le E_r0.lt (Nat.le_of_eq g4.symm))) (ninS (Nat.ne_of_lt (Nat.lt_of_lt_of_le f11.lt (Nat.le_of_eq g15.symm))) nin0)))
    have f73 := (f45.keep K36 (ninS (Nat.ne_of_lt (Nat.lt_of_lt_of_le E_r0.lt (Nat.le_of_eq g4.symm))) (ninS (Nat.ne_of_lt (Nat.lt_of_lt_of_le f11.lt (Nat.le_of_eq g15.symm))) nin0)))
    have f74 := (f46.keep K36)
    have f75 := (f47.keep K36 (ninS (Nat.ne_of_lt (Nat.lt_of_lt_of_le E_r0.lt (Nat.le_of_eq g4.symm))) (ninS (Nat.ne_of_lt (Nat.lt_of_lt_of_le f11.lt (Nat.le_of_eq g15.symm))) nin0)))
    have f76 := (f49.keep K36)
    refine own_out X66 Bd.notSynchronized Bd.returns (none) (fun _ => rfl) (by decide) (by decide) ?_ fun fs hr => ?_
    · rw [e66]; exact Or.inr ((⟨b4, k4, b15, k15, rfl, N36, ((((((((Keep.refl h0 [r0]).ext E4).wr W7 (Or.inl (List.mem_of_getElem? (i := 0) rfl))).ext E15).wr W18 (Or.inl (List.mem_of_getElem? (i := 0) rfl))).wr W24 (Or.inr sz_b4)).wr W29 (Or.inr sz_b4)).trans K36 (allS (Or.inr sz_b4) (allS (Or.inr sz_b15) all0))), sz_b4, sz_b15, (Nat.ne_of_lt (Nat.lt_of_lt_of_le f14.lt (Nat.le_of_eq g15.symm))), f64, f67, f68, f69, f70, f71, f72, f73, p36_0, f74, f75, p36_1, f76⟩))
    · exact X66.returnOut hx Bd.returns (hb hby d7_115) hr
def Q_7_3 (Z : State) (r0 bA sA : Addr) (kS : ClassId) (u s0 s1 s2 s3 mN mB : Int32) (oZ : Addr) (kZ : ClassId) (cZ : Addr) (h0 : Heap) (n0 : Nat) (v : Option Value) (h : Heap) (L : List Loc) : Prop := (∃ oA : Addr, ∃ kO : ClassId, ∃ cA : Addr, ∃ kC : ClassId, v = none ∧ Fr n0 L ∧ Keep h0 h [r0] ∧ h0.size ≤ oA ∧ h0.size ≤ cA ∧ oA ≠ cA ∧ Fld Z h r0 cS0 "count" "I" (.int 3) ∧ Fld Z h r0 cS0 "used" "I" (.int u) ∧ Fld Z h r0 cS0 "bytes" "[B" (.ref bA) ∧ Fld Z h r0 cS0 "starts" "[I" (.ref sA) ∧ Fld Z h r0 cS0 "limit" "[B" .null ∧ Fld Z h r0 cS0 "maxNames" "I" (.int mN) ∧ Fld Z h r0 cS0 "maxBytes" "I" (.int mB) ∧ Fld Z h r0 cS0 "order" "[I" (.ref oA) ∧ Arv Z h oA kO .int (256 : Int32) [(.int 2), (.int 1), (.int 0)] (.int 0) ∧ Exa Z h oA "[I" ∧ Fld Z h r0 cS0 "scratch" "[I" (.ref cA) ∧ Arv Z h cA kC .int (256 : Int32) [(.int 1), (.int 0), (.int 2)] (.int 0) ∧ Exa Z h cA "[I") ∨ (∃ oA : Addr, ∃ kO : ClassId, ∃ cA : Addr, ∃ kC : ClassId, v = none ∧ Fr n0 L ∧ Keep h0 h [r0] ∧ h0.size ≤ oA ∧ h0.size ≤ cA ∧ oA ≠ cA ∧ Fld Z h r0 cS0 "count" "I" (.int 3) ∧ Fld Z h r0 cS0 "used" "I" (.int u) ∧ Fld Z h r0 cS0 "bytes" "[B" (.ref bA) ∧ Fld Z h r0 cS0 "starts" "[I" (.ref sA) ∧ Fld Z h r0 cS0 "limit" "[B" .null ∧ Fld Z h r0 cS0 "maxNames" "I" (.int mN) ∧ Fld Z h r0 cS0 "maxBytes" "I" (.int mB) ∧ Fld Z h r0 cS0 "order" "[I" (.ref oA) ∧ Arv Z h oA kO .int (256 : Int32) [(.int 1), (.int 2), (.int 0)] (.int 0) ∧ Exa Z h oA "[I" ∧ Fld Z h r0 cS0 "scratch" "[I" (.ref cA) ∧ Arv Z h cA kC .int (256 : Int32) [(.int 1), (.int 0), (.int 2)] (.int 0) ∧ Exa Z h cA "[I") ∨ (∃ oA : Addr, ∃ kO : ClassId, ∃ cA : Addr, ∃ kC : ClassId, v = none ∧ Fr n0 L ∧ Keep h0 h [r0] ∧ h0.size ≤ oA ∧ h0.size ≤ cA ∧ oA ≠ cA ∧ Fld Z h r0 cS0 "count" "I" (.int 3) ∧ Fld Z h r0 cS0 "used" "I" (.int u) ∧ Fld Z h r0 cS0 "bytes" "[B" (.ref bA) ∧ Fld Z h r0 cS0 "starts" "[I" (.ref sA) ∧ Fld Z h r0 cS0 "limit" "[B" .null ∧ Fld Z h r0 cS0 "maxNames" "I" (.int mN) ∧ Fld Z h r0 cS0 "maxBytes" "I" (.int mB) ∧ Fld Z h r0 cS0 "order" "[I" (.ref oA) ∧ Arv Z h oA kO .int (256 : Int32) [(.int 1), (.int 0), (.int 2)] (.int 0) ∧ Exa Z h oA "[I" ∧ Fld Z h r0 cS0 "scratch" "[I" (.ref cA) ∧ Arv Z h cA kC .int (256 : Int32) [(.int 1), (.int 0), (.int 2)] (.int 0) ∧ Exa Z h cA "[I") ∨ (∃ oA : Addr, ∃ kO : ClassId, ∃ cA : Addr, ∃ kC : ClassId, v = none ∧ Fr n0 L ∧ Keep h0 h [r0] ∧ h0.size ≤ oA ∧ h0.size ≤ cA ∧ oA ≠ cA ∧ Fld Z h r0 cS0 "count" "I" (.int 3) ∧ Fld Z h r0 cS0 "used" "I" (.int u) ∧ Fld Z h r0 cS0 "bytes" "[B" (.ref bA) ∧ Fld Z h r0 cS0 "starts" "[I" (.ref sA) ∧ Fld Z h r0 cS0 "limit" "[B" .null ∧ Fld Z h r0 cS0 "maxNames" "I" (.int mN) ∧ Fld Z h r0 cS0 "maxBytes" "I" (.int mB) ∧ Fld Z h r0 cS0 "order" "[I" (.ref oA) ∧ Arv Z h oA kO .int (256 : Int32) [(.int 2), (.int 0), (.int 1)] (.int 0) ∧ Exa Z h oA "[I" ∧ Fld Z h r0 cS0 "scratch" "[I" (.ref cA) ∧ Arv Z h cA kC .int (256 : Int32) [(.int 0), (.int 1), (.int 2)] (.int 0) ∧ Exa Z h cA "[I") ∨ (∃ oA : Addr, ∃ kO : ClassId, ∃ cA : Addr, ∃ kC : ClassId, v = none ∧ Fr n0 L ∧ Keep h0 h [r0] ∧ h0.size ≤ oA ∧ h0.size ≤ cA ∧ oA ≠ cA ∧ Fld Z h r0 cS0 "count" "I" (.int 3) ∧ Fld Z h r0 cS0 "used" "I" (.int u) ∧ Fld Z h r0 cS0 "bytes" "[B" (.ref bA) ∧ Fld Z h r0 cS0 "starts" "[I" (.ref sA) ∧ Fld Z h r0 cS0 "limit" "[B" .null ∧ Fld Z h r0 cS0 "maxNames" "I" (.int mN) ∧ Fld Z h r0 cS0 "maxBytes" "I" (.int mB) ∧ Fld Z h r0 cS0 "order" "[I" (.ref oA) ∧ Arv Z h oA kO .int (256 : Int32) [(.int 0), (.int 2), (.int 1)] (.int 0) ∧ Exa Z h oA "[I" ∧ Fld Z h r0 cS0 "scratch" "[I" (.ref cA) ∧ Arv Z h cA kC .int (256 : Int32) [(.int 0), (.int 1), (.int 2)] (.int 0) ∧ Exa Z h cA "[I") ∨ (∃ oA : Addr, ∃ kO : ClassId, ∃ cA : Addr, ∃ kC : ClassId, v = none ∧ Fr n0 L ∧ Keep h0 h [r0] ∧ h0.size ≤ oA ∧ h0.size ≤ cA ∧ oA ≠ cA ∧ Fld Z h r0 cS0 "count" "I" (.int 3) ∧ Fld Z h r0 cS0 "used" "I" (.int u) ∧ Fld Z h r0 cS0 "bytes" "[B" (.ref bA) ∧ Fld Z h r0 cS0 "starts" "[I" (.ref sA) ∧ Fld Z h r0 cS0 "limit" "[B" .null ∧ Fld Z h r0 cS0 "maxNames" "I" (.int mN) ∧ Fld Z h r0 cS0 "maxBytes" "I" (.int mB) ∧ Fld Z h r0 cS0 "order" "[I" (.ref oA) ∧ Arv Z h oA kO .int (256 : Int32) [(.int 0), (.int 1), (.int 2)] (.int 0) ∧ Exa Z h oA "[I" ∧ Fld Z h r0 cS0 "scratch" "[I" (.ref cA) ∧ Arv Z h cA kC .int (256 : Int32) [(.int 0), (.int 1), (.int 2)] (.int 0) ∧ Exa Z h cA "[I")
theorem rm7_3 (l : Launch) (Z : State) (a0 : Array Value) (hw : own_HW a0 Z) (ws : List Jvm.Cond) (r0 bA sA : Addr) (kS : ClassId) (u s0 s1 s2 s3 mN mB : Int32) (oZ : Addr) (kZ : ClassId) (cZ : Addr) (h0 : Heap) (n0 : Nat) (Z0 : n0 ≤ h0.size) (E_r0 : Exa Z h0 r0 cS0) (F_count_r0 : Fld Z h0 r0 cS0 "count" "I" (.int 3)) (F_used_r0 : Fld Z h0 r0 cS0 "used" "I" (.int u)) (F_bytes_r0 : Fld Z h0 r0 cS0 "bytes" "[B" (.ref bA)) (B_bA : own_B Z h0 bA (4096 : Int32)) (E_bA : Exa Z h0 bA "[B") (F_starts_r0 : Fld Z h0 r0 cS0 "starts" "[I" (.ref sA)) (V_sA : Arv Z h0 sA kS .int (256 : Int32) [(.int s0), (.int s1), (.int s2), (.int s3)] (.int 0)) (E_sA : Exa Z h0 sA "[I") (F_maxNames_r0 : Fld Z h0 r0 cS0 "maxNames" "I" (.int mN)) (F_maxBytes_r0 : Fld Z h0 r0 cS0 "maxBytes" "I" (.int mB)) (F_limit_r0 : Fld Z h0 r0 cS0 "limit" "[B" .null) (F_order_r0 : Fld Z h0 r0 cS0 "order" "[I" (.ref oZ)) (V_oZ : Arv Z h0 oZ kZ .int (0 : Int32) [] (.int 0)) (F_scratch_r0 : Fld Z h0 r0 cS0 "scratch" "[I" (.ref cZ)) (hp0 : s0.toInt ≤ s1.toInt ∧ s1.toInt ≤ s0.toInt + 3 ∧ s1.toInt ≤ s2.toInt ∧ s2.toInt ≤ s1.toInt + 3 ∧ s2.toInt ≤ u.toInt ∧ u.toInt ≤ s2.toInt + 3 ∧ 0 ≤ s0.toInt ∧ u.toInt ≤ 50) (ge_r0 : n0 ≤ r0) (ne_sA_r0 : sA ≠ r0) (ne_bA_r0 : bA ≠ r0) (ne_oZ_r0 : oZ ≠ r0) :
    own_M l Z (⟨cS0, "sort", "()V"⟩ : MethodName) prog_6_method_6_code 3 none ws ({ frames := 5, cells := 2, slots := 512, locals := 78 } : Room) #[(.ref r0)] h0 (Q_7_3 Z r0 bA sA kS u s0 s1 s2 s3 mN mB oZ kZ cZ h0 n0) := by
  refine own_in cS0 rfl (plainFor_of_name pn_com_example_measurewright_measurewright_cli_NameBatch) ?_
  intro p e s m below meth c s₁ Bd hml hZ hh hx hby hown X0 e0
  have N0 := Fr.nil n0
  refine own_start (ef_7 m r0) ?_
  refine own_aF X0 hx hZ hown hw 16 rfl e0 F_order_r0 hby d7_0 rfl d7_1 fun T1 X1 e1 => ?_
  refine own_by (fun t q => own_alen X1 hx hZ e1 V_oZ hby d7_4 q) ?_
  refine own_aF X1 hx hZ hown hw 36 rfl e1 F_count_r0 hby d7_5 rfl d7_6 fun T2 X2 e2 => ?_
  refine own_by (fun t q => oJn X2 hx hby d7_9 (tlt (by decide : (0 : Int32) < (3 : Int32))).2.1 (oAn X2 hx hby d7_12 rfl rfl q)) ?_
  refine own_aF X2 hx hZ hown hw 14 rfl e2 F_starts_r0 hby d7_13 rfl d7_14 fun T3 X3 e3 => ?_
  obtain ⟨T4, h4, k4, X4, e4, E4, A4, EA4, st4⟩ := newPE X3 hx hZ (own_at hw 13 rfl) e3 (g := (mkF m 18 #[rv r0, .unset, .unset] [(.int 256), (.ref r0)])) rfl (hb hby d7_18) rfl (by decide) (cap := 256) (by decide) (by decide) (by decide) (by decide) (ad := "[I") (by decide)
  obtain ⟨b4, g4⟩ : ∃ z, z = h0.size := ⟨_, rfl⟩
  rw [← g4] at A4 EA4 st4
  have g_b4 : n0 ≤ b4 := Nat.le_trans Z0 (Nat.le_of_eq g4.symm)
  have sz_b4 : h0.size ≤ b4 := Nat.le_trans (Keep.refl h0 []).1 (Nat.le_of_eq g4.symm)
  have V_b4 : Arv Z h4 b4 k4 .int (256 : Int32) [(.int 0), (.int 0), (.int 0)] (.int 0) := (Arv.new A4 (by decide)).pad (pad_rep [] (.int 0) 3)
  have f5 := (E_r0.ext E4)
  have f6 := (F_order_r0.ext E4)
  refine own_by (fun t q => own_alen X3 hx hZ e3 V_sA hby d7_17 (st4 _ q)) ?_
  refine own_pF X4 hx hZ hown hw 16 17 3 rfl rfl rfl e4 f6 f5 (ty := (.array .int)) (by decide) rfl rfl N0 ge_r0 hby d7_20 fun T7 h7 X7 e7 W7 Fw7 N7 => ?_
  have f8 := ((F_starts_r0.ext E4).other W7 (Or.inr (sn_3 hw)))
  refine own_by (fun t q => oAn X7 hx hby d7_23 rfl rfl q) ?_
  refine own_aF X7 hx hZ hown hw 14 rfl e7 f8 hby d7_24 rfl d7_25 fun T9 X9 e9 => ?_
  have f10 := ((V_sA.ext E4).other W7 ne_sA_r0)
  have f11 := (f5.wr W7)
  have f12 := ((B_bA.ext E4).other W7 ne_bA_r0)
  have f13 := ((V_oZ.ext E4).other W7 ne_oZ_r0)
  have f14 := (EA4.wr W7)
  obtain ⟨T15, h15, k15, X15, e15, E15, A15, EA15, st15⟩ := newPE X9 hx hZ (own_at hw 13 rfl) e9 (g := (mkF m 29 #[rv r0, .unset, .unset] [(.int 256), (.ref r0)])) rfl (hb hby d7_29) rfl (by decide) (cap := 256) (by decide) (by decide) (by decide) (by decide) (ad := "[I") (by decide)
  obtain ⟨b15, g15⟩ : ∃ z, z = h7.size := ⟨_, rfl⟩
  rw [← g15] at A15 EA15 st15
  have g_b15 : n0 ≤ b15 := Nat.le_trans (Nat.le_trans (Nat.le_trans Z0 E4.1) (Keep.of_wr W7).1) (Nat.le_of_eq g15.symm)
  have sz_b15 : h0.size ≤ b15 := Nat.le_trans (((Keep.refl h0 [r0]).ext E4).wr W7 (Or.inl (List.mem_of_getElem? (i := 0) rfl))).1 (Nat.le_of_eq g15.symm)
  have V_b15 : Arv Z h15 b15 k15 .int (256 : Int32) [(.int 0), (.int 0), (.int 0)] (.int 0) := (Arv.new A15 (by decide)).pad (pad_rep [] (.int 0) 3)
  have f16 := (f11.ext E15)
  have f17 := (((F_scratch_r0.ext E4).other W7 (Or.inr (sn_4 hw))).ext E15)
  refine own_by (fun t q => own_alen X9 hx hZ e9 f10 hby d7_28 (st15 _ q)) ?_
  refine own_pF X15 hx hZ hown hw 18 19 3 rfl rfl rfl e15 f17 f16 (ty := (.array .int)) (by decide) rfl rfl N7 ge_r0 hby d7_31 fun T18 h18 X18 e18 W18 Fw18 N18 => ?_
  have f19 := ((((F_count_r0.ext E4).other W7 (Or.inr (sn_5 hw))).ext E15).other W18 (Or.inr (sn_6 hw)))
  refine own_by (fun t q => oIc X18 hx hby d7_34 (XS.istoreN X18.here hx rfl (hb hby d7_35) rfl (l' := #[rv r0, iv 0, .unset]) rfl (oIn X18 hx hby d7_36 rfl q))) ?_
  refine own_aF X18 hx hZ hown hw 36 rfl e18 f19 hby d7_37 rfl d7_38 fun T20 X20 e20 => ?_
  have f21 := ((Fw7.ext E15).other W18 (Or.inr (sn_7 hw)))
  refine own_by (fun t q => oJn X20 hx hby d7_41 (tlt (by decide : (0 : Int32) < (3 : Int32))).2.1 q) ?_
  refine own_aF X20 hx hZ hown hw 16 rfl e20 f21 hby d7_44 rfl d7_45 fun T22 X22 e22 => ?_
  have f23 := (((V_b4.other W7 (Ne.symm (Nat.ne_of_lt (Nat.lt_of_lt_of_le E_r0.lt (Nat.le_of_eq g4.symm))))).ext E15).other W18 (Ne.symm (Nat.ne_of_lt (Nat.lt_of_lt_of_le E_r0.lt (Nat.le_of_eq g4.symm)))))
  refine own_by (fun t q => oIn X22 hx hby d7_48 rfl (oIn X22 hx hby d7_49 rfl q)) ?_
  refine own_stI X22 hx hZ e22 f23 hby ⟨by decide, by decide⟩ 0 rfl (Nat.le_of_ble_eq_true rfl) N18 g_b4 d7_50 fun T24 h24 X24 e24 W24 Vr24 N24 => ?_
  have V24 : Arv Z h24 b4 k4 .int (256 : Int32) [(.int 0), (.int 0), (.int 0)] (.int 0) := Vr24
  have f25 := (f19.other W24 (Or.inl (Nat.ne_of_lt (Nat.lt_of_lt_of_le E_r0.lt (Nat.le_of_eq g4.symm)))))
  refine own_by (fun t q => XS.iinc X24.here hx rfl (hb hby d7_51) rfl (l' := #[rv r0, iv 1, .unset]) rfl (oGo X24 hx hby 54 36 d7_54 (by decide) (by decide) (oIn X24 hx hby d7_36 rfl q))) ?_
  refine own_aF X24 hx hZ hown hw 36 rfl e24 f25 hby d7_37 rfl d7_38 fun T26 X26 e26 => ?_
  have f27 := (f21.other W24 (Or.inl (Nat.ne_of_lt (Nat.lt_of_lt_of_le E_r0.lt (Nat.le_of_eq g4.symm)))))
  refine own_by (fun t q => oJn X26 hx hby d7_41 (tlt (by decide : (1 : Int32) < (3 : Int32))).2.1 q) ?_
  refine own_aF X26 hx hZ hown hw 16 rfl e26 f27 hby d7_44 rfl d7_45 fun T28 X28 e28 => ?_
  refine own_by (fun t q => oIn X28 hx hby d7_48 rfl (oIn X28 hx hby d7_49 rfl q)) ?_
  refine own_stI X28 hx hZ e28 V24 hby ⟨by decide, by decide⟩ 1 rfl (Nat.le_of_ble_eq_true rfl) N24 g_b4 d7_50 fun T29 h29 X29 e29 W29 Vr29 N29 => ?_
  have V29 : Arv Z h29 b4 k4 .int (256 : Int32) [(.int 0), (.int 1), (.int 0)] (.int 0) := Vr29
  have f30 := (f25.other W29 (Or.inl (Nat.ne_of_lt (Nat.lt_of_lt_of_le E_r0.lt (Nat.le_of_eq g4.symm)))))
  refine own_by (fun t q => XS.iinc X29.here hx rfl (hb hby d7_51) rfl (l' := #[rv r0, iv 2, .unset]) rfl (oGo X29 hx hby 54 36 d7_54 (by decide) (by decide) (oIn X29 hx hby d7_36 rfl q))) ?_
  refine own_aF X29 hx hZ hown hw 36 rfl e29 f30 hby d7_37 rfl d7_38 fun T31 X31 e31 => ?_
  have f32 := (f27.other W29 (Or.inl (Nat.ne_of_lt (Nat.lt_of_lt_of_le E_r0.lt (Nat.le_of_eq g4.symm)))))
  refine own_by (fun t q => oJn X31 hx hby d7_41 (tlt (by decide : (2 : Int32) < (3 : Int32))).2.1 q) ?_
  refine own_aF X31 hx hZ hown hw 16 rfl e31 f32 hby d7_44 rfl d7_45 fun T33 X33 e33 => ?_
  refine own_by (fun t q => oIn X33 hx hby d7_48 rfl (oIn X33 hx hby d7_49 rfl q)) ?_
  refine own_stI X33 hx hZ e33 V29 hby ⟨by decide, by decide⟩ 2 rfl (Nat.le_of_ble_eq_true rfl) N29 g_b4 d7_50 fun T34 h34 X34 e34 W34 Vr34 N34 => ?_
  have V34 : Arv Z h34 b4 k4 .int (256 : Int32) [(.int 0), (.int 1), (.int 2)] (.int 0) := Vr34
  have f35 := (f30.other W34 (Or.inl (Nat.ne_of_lt (Nat.lt_of_lt_of_le E_r0.lt (Nat.le_of_eq g4.symm)))))
  refine own_by (fun t q => XS.iinc X34.here hx rfl (hb hby d7_51) rfl (l' := #[rv r0, iv 3, .unset]) rfl (oGo X34 hx hby 54 36 d7_54 (by decide) (by decide) (oIn X34 hx hby d7_36 rfl q))) ?_
  refine own_aF X34 hx hZ hown hw 36 rfl e34 f35 hby d7_37 rfl d7_38 fun T36 X36 e36 => ?_
  refine own_by (fun t q => oJy X36 hx hby 41 57 d7_41 (flt (by decide : ¬ ((3 : Int32) < (3 : Int32)))).2.1 (by decide) (by decide) (oIc X36 hx hby d7_57 (XS.istoreN X36.here hx rfl (hb hby d7_58) rfl (l' := #[rv r0, iv 1, .unset]) rfl (oIn X36 hx hby d7_59 rfl q)))) ?_
  refine own_aF X36 hx hZ hown hw 36 rfl e36 f35 hby d7_60 rfl d7_61 fun T37 X37 e37 => ?_
  refine own_by (fun t q => oJn X37 hx hby d7_64 (tlt (by decide : (1 : Int32) < (3 : Int32))).2.1 (oIc X37 hx hby d7_67 (XS.istoreN X37.here hx rfl (hb hby d7_68) rfl (l' := #[rv r0, iv 1, iv 0]) rfl (oIn X37 hx hby d7_69 rfl q)))) ?_
  refine own_aF X37 hx hZ hown hw 36 rfl e37 f35 hby d7_70 rfl d7_71 fun T38 X38 e38 => ?_
  refine own_by (fun t q => oIn X38 hx hby d7_74 rfl (XS.isub X38.here hx rfl (hb hby d7_75) rfl (oJn X38 hx hby d7_76 (tlt (by decide : (0 : Int32) < (2 : Int32))).2.1 (oAn X38 hx hby d7_79 rfl rfl (oIn X38 hx hby d7_80 rfl (oIn X38 hx hby d7_81 rfl q)))))) ?_
  refine own_by (fun t q => oIn X38 hx hby d7_82 rfl (XS.iadd X38.here hx rfl (hb hby d7_83) rfl (oIn X38 hx hby d7_84 rfl (oIc X38 hx hby d7_85 (oIn X38 hx hby d7_86 rfl (XS.imul X38.here hx rfl (hb hby d7_87) rfl q)))))) ?_
  refine own_by (fun t q => XS.iadd X38.here hx rfl (hb hby d7_88) rfl q) ?_
  refine own_aF X38 hx hZ hown hw 36 rfl e38 f35 hby d7_89 rfl d7_90 fun T39 X39 e39 => ?_
  refine own_cK 3 (rm8_f l Z a0 hw [] (2 : Int32) (3 : Int32) h34 n0 (Nat.le_trans (Nat.le_trans (Nat.le_trans (Nat.le_trans (Nat.le_trans (Nat.le_trans (Nat.le_trans Z0 E4.1) (Keep.of_wr W7).1) E15.1) (Keep.of_wr W18).1) (Keep.of_wr W24).1) (Keep.of_wr W29).1) (Keep.of_wr W34).1) (by decide : ¬ ((3 : Int32) < (2 : Int32)))) X39 hx hZ hown hw 58 59 60 61 rfl rfl rfl rfl [(.int 2), (.int 3)] [(.int 1), (.int 0), (.ref r0)] hby d7_93 hml (lenOf pd_2 rfl) e39 rfl (Nat.le_refl _) (by decide) fun _ T40 L40 X40 hQ40 => ?_
  obtain ⟨rfl, N40q, e40⟩ := hQ40
  have N40 := Fr.app N34 N40q
  have f42 := ((((f16.wr W18).wr W24).wr W29).wr W34)
  have f43 := (((((((F_used_r0.ext E4).other W7 (Or.inr (sn_8 hw))).ext E15).other W18 (Or.inr (sn_9 hw))).other W24 (Or.inl (Nat.ne_of_lt (Nat.lt_of_lt_of_le E_r0.lt (Nat.le_of_eq g4.symm))))).other W29 (Or.inl (Nat.ne_of_lt (Nat.lt_of_lt_of_le E_r0.lt (Nat.le_of_eq g4.symm))))).other W34 (Or.inl (Nat.ne_of_lt (Nat.lt_of_lt_of_le E_r0.lt (Nat.le_of_eq g4.symm)))))
  have f44 := (((((((F_bytes_r0.ext E4).other W7 (Or.inr (sn_10 hw))).ext E15).other W18 (Or.inr (sn_11 hw))).other W24 (Or.inl (Nat.ne_of_lt (Nat.lt_of_lt_of_le E_r0.lt (Nat.le_of_eq g4.symm))))).other W29 (Or.inl (Nat.ne_of_lt (Nat.lt_of_lt_of_le E_r0.lt (Nat.le_of_eq g4.symm))))).other W34 (Or.inl (Nat.ne_of_lt (Nat.lt_of_lt_of_le E_r0.lt (Nat.le_of_eq g4.symm)))))
  have f45 := (((((f12.ext E15).other W18 ne_bA_r0).other W24 (Nat.ne_of_lt (Nat.lt_of_lt_of_le B_bA.lt (Nat.le_of_eq g4.symm)))).other W29 (Nat.ne_of_lt (Nat.lt_of_lt_of_le B_bA.lt (Nat.le_of_eq g4.symm)))).other W34 (Nat.ne_of_lt (Nat.lt_of_lt_of_le B_bA.lt (Nat.le_of_eq g4.symm))))
  have f46 := (((((((E_bA.ext E4).wr W7).ext E15).wr W18).wr W24).wr W29).wr W34)
  have f47 := (((((f8.ext E15).other W18 (Or.inr (sn_12 hw))).other W24 (Or.inl (Nat.ne_of_lt (Nat.lt_of_lt_of_le E_r0.lt (Nat.le_of_eq g4.symm))))).other W29 (Or.inl (Nat.ne_of_lt (Nat.lt_of_lt_of_le E_r0.lt (Nat.le_of_eq g4.symm))))).other W34 (Or.inl (Nat.ne_of_lt (Nat.lt_of_lt_of_le E_r0.lt (Nat.le_of_eq g4.symm)))))
  have f48 := (((((f10.ext E15).other W18 ne_sA_r0).other W24 (Nat.ne_of_lt (Nat.lt_of_lt_of_le V_sA.lt (Nat.le_of_eq g4.symm)))).other W29 (Nat.ne_of_lt (Nat.lt_of_lt_of_le V_sA.lt (Nat.le_of_eq g4.symm)))).other W34 (Nat.ne_of_lt (Nat.lt_of_lt_of_le V_sA.lt (Nat.le_of_eq g4.symm))))
  have f49 := (((((((E_sA.ext E4).wr W7).ext E15).wr W18).wr W24).wr W29).wr W34)
  have f50 := (f32.other W34 (Or.inl (Nat.ne_of_lt (Nat.lt_of_lt_of_le E_r0.lt (Nat.le_of_eq g4.symm)))))
  have f51 := (((((f14.ext E15).wr W18).wr W24).wr W29).wr W34)
  have f52 := (((Fw18.other W24 (Or.inl (Nat.ne_of_lt (Nat.lt_of_lt_of_le E_r0.lt (Nat.le_of_eq g4.symm))))).other W29 (Or.inl (Nat.ne_of_lt (Nat.lt_of_lt_of_le E_r0.lt (Nat.le_of_eq g4.symm))))).other W34 (Or.inl (Nat.ne_of_lt (Nat.lt_of_lt_of_le E_r0.lt (Nat.le_of_eq g4.symm)))))
  have f53 := ((((V_b15.other W18 (Ne.symm (Nat.ne_of_lt (Nat.lt_of_lt_of_le f11.lt (Nat.le_of_eq g15.symm))))).other W24 (Ne.symm (Nat.ne_of_lt (Nat.lt_of_lt_of_le f14.lt (Nat.le_of_eq g15.symm))))).other W29 (Ne.symm (Nat.ne_of_lt (Nat.lt_of_lt_of_le f14.lt (Nat.le_of_eq g15.symm))))).other W34 (Ne.symm (Nat.ne_of_lt (Nat.lt_of_lt_of_le f14.lt (Nat.le_of_eq g15.symm)))))
  have f54 := ((((EA15.wr W18).wr W24).wr W29).wr W34)
  refine own_cP 0 (rm9_3a l Z a0 hw [] r0 bA sA kS u s0 s1 s2 s3 b4 k4 b15 k15 h34 n0 (Nat.le_trans (Nat.le_trans (Nat.le_trans (Nat.le_trans (Nat.le_trans (Nat.le_trans (Nat.le_trans Z0 E4.1) (Keep.of_wr W7).1) E15.1) (Keep.of_wr W18).1) (Keep.of_wr W24).1) (Keep.of_wr W29).1) (Keep.of_wr W34).1) f42 f35 f43 f44 f45 f46 f47 f48 f49 f50 V34 f51 f52 f53 f54 hp0 g_b15 (Nat.ne_of_lt (Nat.lt_of_lt_of_le f11.lt (Nat.le_of_eq g15.symm))) (Nat.ne_of_lt (Nat.lt_of_lt_of_le f12.lt (Nat.le_of_eq g15.symm))) (Nat.ne_of_lt (Nat.lt_of_lt_of_le f10.lt (Nat.le_of_eq g15.symm))) (Nat.ne_of_lt (Nat.lt_of_lt_of_le f14.lt (Nat.le_of_eq g15.symm))) g_b4 (Nat.ne_of_lt (Nat.lt_of_lt_of_le E_r0.lt (Nat.le_of_eq g4.symm))) (Ne.symm (Nat.ne_of_lt (Nat.lt_of_lt_of_le f14.lt (Nat.le_of_eq g15.symm))))) X40 hx hZ hown hw 62 63 3 64 4 65 rfl rfl rfl rfl rfl rfl r0 f42 [(.int 0), (.int 1), (.int 2)] [] hby d7_96 hml (lenOf pd_1 rfl) e40 rfl (Nat.le_refl _) (by decide) fun _ T41 L41 X41 hQ41 => ?_
  have f55 := (((((f13.ext E15).other W18 ne_oZ_r0).other W24 (Nat.ne_of_lt (Nat.lt_of_lt_of_le V_oZ.lt (Nat.le_of_eq g4.symm)))).other W29 (Nat.ne_of_lt (Nat.lt_of_lt_of_le V_oZ.lt (Nat.le_of_eq g4.symm)))).other W34 (Nat.ne_of_lt (Nat.lt_of_lt_of_le V_oZ.lt (Nat.le_of_eq g4.symm))))
  rcases hQ41 with ⟨rfl, N41q, K41, p41_0, p41_1⟩ | ⟨rfl, N41q, K41, p41_0, p41_1⟩
  · have pl41 := (allS (P := fun x => ∃ cell : Cell, h34[x]? = some cell ∧ cell.vm.isStatics = false) (own_ns f51) (allS (P := fun x => ∃ cell : Cell, h34[x]? = some cell ∧ cell.vm.isStatics = false) (own_ns f54) all0))
    have N41 := Fr.app N40 N41q
    have f56 := (f35.keep K41 (ninS (Nat.ne_of_lt (Nat.lt_of_lt_of_le E_r0.lt (Nat.le_of_eq g4.symm))) (ninS (Nat.ne_of_lt (Nat.lt_of_lt_of_le f11.lt (Nat.le_of_eq g15.symm))) nin0)))
    refine own_by (fun t q => oIn X41 hx hby d7_99 rfl (oIc X41 hx hby d7_100 (oIn X41 hx hby d7_101 rfl (XS.imul X41.here hx rfl (hb hby d7_102) rfl (XS.iadd X41.here hx rfl (hb hby d7_103) rfl (XS.istoreN X41.here hx rfl (hb hby d7_104) rfl (l' := #[rv r0, iv 1, iv 2]) rfl q)))))) ?_
    refine own_by (fun t q => oGo X41 hx hby 105 69 d7_105 (by decide) (by decide) (oIn X41 hx hby d7_69 rfl q)) ?_
    refine own_aF X41 hx hZ hown hw 36 rfl rfl f56 hby d7_70 rfl d7_71 fun T57 X57 e57 => ?_
    refine own_by (fun t q => oIn X57 hx hby d7_74 rfl (XS.isub X57.here hx rfl (hb hby d7_75) rfl (oJy X57 hx hby 76 108 d7_76 (flt (by decide : ¬ ((2 : Int32) < (2 : Int32)))).2.1 (by decide) (by decide) (oIn X57 hx hby d7_108 rfl (oIc X57 hx hby d7_109 (XS.imul X57.here hx rfl (hb hby d7_110) rfl q)))))) ?_
    refine own_by (fun t q => XS.istoreN X57.here hx rfl (hb hby d7_111) rfl (l' := #[rv r0, iv 2, iv 2]) rfl (oGo X57 hx hby 112 59 d7_112 (by decide) (by decide) (oIn X57 hx hby d7_59 rfl q))) ?_
    refine own_aF X57 hx hZ hown hw 36 rfl e57 f56 hby d7_60 rfl d7_61 fun T58 X58 e58 => ?_
    refine own_by (fun t q => oJn X58 hx hby d7_64 (tlt (by decide : (2 : Int32) < (3 : Int32))).2.1 (oIc X58 hx hby d7_67 (XS.istoreN X58.here hx rfl (hb hby d7_68) rfl (l' := #[rv r0, iv 2, iv 0]) rfl (oIn X58 hx hby d7_69 rfl q)))) ?_
    refine own_aF X58 hx hZ hown hw 36 rfl e58 f56 hby d7_70 rfl d7_71 fun T59 X59 e59 => ?_
    refine own_by (fun t q => oIn X59 hx hby d7_74 rfl (XS.isub X59.here hx rfl (hb hby d7_75) rfl (oJn X59 hx hby d7_76 (tlt (by decide : (0 : Int32) < (1 : Int32))).2.1 (oAn X59 hx hby d7_79 rfl rfl (oIn X59 hx hby d7_80 rfl (oIn X59 hx hby d7_81 rfl q)))))) ?_
    refine own_by (fun t q => oIn X59 hx hby d7_82 rfl (XS.iadd X59.here hx rfl (hb hby d7_83) rfl (oIn X59 hx hby d7_84 rfl (oIc X59 hx hby d7_85 (oIn X59 hx hby d7_86 rfl (XS.imul X59.here hx rfl (hb hby d7_87) rfl q)))))) ?_
    refine own_by (fun t q => XS.iadd X59.here hx rfl (hb hby d7_88) rfl q) ?_
    refine own_aF X59 hx hZ hown hw 36 rfl e59 f56 hby d7_89 rfl d7_90 fun T60 X60 e60 => ?_
    refine own_cK 3 (rm8_t l Z a0 hw [] (4 : Int32) (3 : Int32) T41.heap n0 (Nat.le_trans (Nat.le_trans (Nat.le_trans (Nat.le_trans (Nat.le_trans (Nat.le_trans (Nat.le_trans (Nat.le_trans Z0 E4.1) (Keep.of_wr W7).1) E15.1) (Keep.of_wr W18).1) (Keep.of_wr W24).1) (Keep.of_wr W29).1) (Keep.of_wr W34).1) K41.1) (by decide : (3 : Int32) < (4 : Int32))) X60 hx hZ hown hw 58 59 60 61 rfl rfl rfl rfl [(.int 4), (.int 3)] [(.int 2), (.int 0), (.ref r0)] hby d7_93 hml (lenOf pd_2 rfl) e60 rfl (Nat.le_refl _) (by decide) fun _ T61 L61 X61 hQ61 => ?_
    obtain ⟨rfl, N61q, e61⟩ := hQ61
    have N61 := Fr.app N41 N61q
    have f63 := (f42.keep K41)
    have f64 := (f43.keep K41 (ninS (Nat.ne_of_lt (Nat.lt_of_lt_of_le E_r0.lt (Nat.le_of_eq g4.symm))) (ninS (Nat.ne_of_lt (Nat.lt_of_lt_of_le f11.lt (Nat.le_of_eq g15.symm))) nin0)))
    have f65 := (f44.keep K41 (ninS (Nat.ne_of_lt (Nat.lt_of_lt_of_le E_r0.lt (Nat.le_of_eq g4.symm))) (ninS (Nat.ne_of_lt (Nat.lt_of_lt_of_le f11.lt (Nat.le_of_eq g15.symm))) nin0)))
    have f66 := (f45.keep K41 (ninS (Nat.ne_of_lt (Nat.lt_of_lt_of_le B_bA.lt (Nat.le_of_eq g4.symm))) (ninS (Nat.ne_of_lt (Nat.lt_of_lt_of_le f12.lt (Nat.le_of_eq g15.symm))) nin0)))
    have f67 := (f46.keep K41)
    have f68 := (f47.keep K41 (ninS (Nat.ne_of_lt (Nat.lt_of_lt_of_le E_r0.lt (Nat.le_of_eq g4.symm))) (ninS (Nat.ne_of_lt (Nat.lt_of_lt_of_le f11.lt (Nat.le_of_eq g15.symm))) nin0)))
    have f69 := (f48.keep K41 (ninS (Nat.ne_of_lt (Nat.lt_of_lt_of_le V_sA.lt (Nat.le_of_eq g4.symm))) (ninS (Nat.ne_of_lt (Nat.lt_of_lt_of_le f10.lt (Nat.le_of_eq g15.symm))) nin0)))
    have f70 := (f49.keep K41)
    have f71 := (f50.keep K41 (ninS (Nat.ne_of_lt (Nat.lt_of_lt_of_le E_r0.lt (Nat.le_of_eq g4.symm))) (ninS (Nat.ne_of_lt (Nat.lt_of_lt_of_le f11.lt (Nat.le_of_eq g15.symm))) nin0)))
    have f72 := (f51.keep K41)
    have f73 := (f52.keep K41 (ninS (Nat.ne_of_lt (Nat.lt_of_lt_of_le E_r0.lt (Nat.le_of_eq g4.symm))) (ninS (Nat.ne_of_lt (Nat.lt_of_lt_of_le f11.lt (Nat.le_of_eq g15.symm))) nin0)))
    have f74 := (f54.keep K41)
    refine own_cP 0 (rm9_3c l Z a0 hw [] r0 bA sA kS u s0 s1 s2 s3 b4 k4 b15 k15 T41.heap n0 (Nat.le_trans (Nat.le_trans (Nat.le_trans (Nat.le_trans (Nat.le_trans (Nat.le_trans (Nat.le_trans (Nat.le_trans Z0 E4.1) (Keep.of_wr W7).1) E15.1) (Keep.of_wr W18).1) (Keep.of_wr W24).1) (Keep.of_wr W29).1) (Keep.of_wr W34).1) K41.1) f63 f56 f64 f65 f66 f67 f68 f69 f70 f71 p41_0 f72 f73 p41_1 f74 hp0 g_b15 (Nat.ne_of_lt (Nat.lt_of_lt_of_le f11.lt (Nat.le_of_eq g15.symm))) (Nat.ne_of_lt (Nat.lt_of_lt_of_le f12.lt (Nat.le_of_eq g15.symm))) (Nat.ne_of_lt (Nat.lt_of_lt_of_le f10.lt (Nat.le_of_eq g15.symm))) (Nat.ne_of_lt (Nat.lt_of_lt_of_le f14.lt (Nat.le_of_eq g15.symm))) g_b4 (Nat.ne_of_lt (Nat.lt_of_lt_of_le E_r0.lt (Nat.le_of_eq g4.symm))) (Ne.symm (Nat.ne_of_lt (Nat.lt_of_lt_of_le f14.lt (Nat.le_of_eq g15.symm)))) (Nat.ne_of_lt (Nat.lt_of_lt_of_le B_bA.lt (Nat.le_of_eq g4.symm))) (Nat.ne_of_lt (Nat.lt_of_lt_of_le V_sA.lt (Nat.le_of_eq g4.symm)))) X61 hx hZ hown hw 62 63 3 64 4 65 rfl rfl rfl rfl rfl rfl r0 f63 [(.int 0), (.int 2), (.int 3)] [] hby d7_96 hml (lenOf pd_1 rfl) e61 rfl (Nat.le_refl _) (by decide) fun _ T62 L62 X62 hQ62 => ?_
    have f75 := (f55.keep K41 (ninS (Nat.ne_of_lt (Nat.lt_of_lt_of_le V_oZ.lt (Nat.le_of_eq g4.symm))) (ninS (Nat.ne_of_lt (Nat.lt_of_lt_of_le f13.lt (Nat.le_of_eq g15.symm))) nin0)))
    rcases hQ62 with ⟨rfl, N62q, K62, p62_0, p62_1⟩ | ⟨rfl, N62q, K62, p62_0, p62_1⟩ | ⟨rfl, N62q, K62, p62_0, p62_1⟩
    · have pl62 := (allS (P := fun x => ∃ cell : Cell, T41.heap[x]? = some cell ∧ cell.vm.isStatics = false) (own_ns f72) (allS (P := fun x => ∃ cell : Cell, T41.heap[x]? = some cell ∧ cell.vm.isStatics = false) (own_ns f74) all0))
      have N62 := Fr.app N61 N62q
      have f76 := (f56.keep K62 (ninS (Nat.ne_of_lt (Nat.lt_of_lt_of_le E_r0.lt (Nat.le_of_eq g4.symm))) (ninS (Nat.ne_of_lt (Nat.lt_of_lt_of_le f11.lt (Nat.le_of_eq g15.symm))) nin0)))
      refine own_by (fun t q => oIn X62 hx hby d7_99 rfl (oIc X62 hx hby d7_100 (oIn X62 hx hby d7_101 rfl (XS.imul X62.here hx rfl (hb hby d7_102) rfl (XS.iadd X62.here hx rfl (hb hby d7_103) rfl (XS.istoreN X62.here hx rfl (hb hby d7_104) rfl (l' := #[rv r0, iv 2, iv 4]) rfl q)))))) ?_
      refine own_by (fun t q => oGo X62 hx hby 105 69 d7_105 (by decide) (by decide) (oIn X62 hx hby d7_69 rfl q)) ?_
      refine own_aF X62 hx hZ hown hw 36 rfl rfl f76 hby d7_70 rfl d7_71 fun T77 X77 e77 => ?_
      refine own_by (fun t q => oIn X77 hx hby d7_74 rfl (XS.isub X77.here hx rfl (hb hby d7_75) rfl (oJy X77 hx hby 76 108 d7_76 (flt (by decide : ¬ ((4 : Int32) < (1 : Int32)))).2.1 (by decide) (by decide) (oIn X77 hx hby d7_108 rfl (oIc X77 hx hby d7_109 (XS.imul X77.here hx rfl (hb hby d7_110) rfl q)))))) ?_
      refine own_by (fun t q => XS.istoreN X77.here hx rfl (hb hby d7_111) rfl (l' := #[rv r0, iv 4, iv 4]) rfl (oGo X77 hx hby 112 59 d7_112 (by decide) (by decide) (oIn X77 hx hby d7_59 rfl q))) ?_
      refine own_aF X77 hx hZ hown hw 36 rfl e77 f76 hby d7_60 rfl d7_61 fun T78 X78 e78 => ?_
      refine own_by (fun t q => oJy X78 hx hby 64 115 d7_64 (flt (by decide : ¬ ((4 : Int32) < (3 : Int32)))).2.1 (by decide) (by decide) q) ?_
      have f79 := (f64.keep K62 (ninS (Nat.ne_of_lt (Nat.lt_of_lt_of_le E_r0.lt (Nat.le_of_eq g4.symm))) (ninS (Nat.ne_of_lt (Nat.lt_of_lt_of_le f11.lt (Nat.le_of_eq g15.symm))) nin0)))
      have f80 := (f65.keep K62 (ninS (Nat.ne_of_lt (Nat.lt_of_lt_of_le E_r0.lt (Nat.le_of_eq g4.symm))) (ninS (Nat.ne_of_lt (Nat.lt_of_lt_of_le f11.lt (Nat.le_of_eq g15.symm))) nin0)))
      have f81 := (f68.keep K62 (ninS (Nat.ne_of_lt (Nat.lt_of_lt_of_le E_r0.lt (Nat.le_of_eq g4.symm))) (ninS (Nat.ne_of_lt (Nat.lt_of_lt_of_le f11.lt (Nat.le_of_eq g15.symm))) nin0)))
      have f82 := (((((((((F_limit_r0.ext E4).other W7 (Or.inr (sn_13 hw))).ext E15).other W18 (Or.inr (sn_14 hw))).other W24 (Or.inl (Nat.ne_of_lt (Nat.lt_of_lt_of_le E_r0.lt (Nat.le_of_eq g4.symm))))).other W29 (Or.inl (Nat.ne_of_lt (Nat.lt_of_lt_of_le E_r0.lt (Nat.le_of_eq g4.symm))))).other W34 (Or.inl (Nat.ne_of_lt (Nat.lt_of_lt_of_le E_r0.lt (Nat.le_of_eq g4.symm))))).keep K41 (ninS (Nat.ne_of_lt (Nat.lt_of_lt_of_le E_r0.lt (Nat.le_of_eq g4.symm))) (ninS (Nat.ne_of_lt (Nat.lt_of_lt_of_le f11.lt (Nat.le_of_eq g15.symm))) nin0))).keep K62 (ninS (Nat.ne_of_lt (Nat.lt_of_lt_of_le E_r0.lt (Nat.le_of_eq g4.symm))) (ninS (Nat.ne_of_lt (Nat.lt_of_lt_of_le f11.lt (Nat.le_of_eq g15.symm))) nin0)))
      have f83 := (((((((((F_maxNames_r0.ext E4).other W7 (Or.inr (sn_15 hw))).ext E15).other W18 (Or.inr (sn_16 hw))).other W24 (Or.inl (Nat.ne_of_lt (Nat.lt_of_lt_of_le E_r0.lt (Nat.le_of_eq g4.symm))))).other W29 (Or.inl (Nat.ne_of_lt (Nat.lt_of_lt_of_le E_r0.lt (Nat.le_of_eq g4.symm))))).other W34 (Or.inl (Nat.ne_of_lt (Nat.lt_of_lt_of_le E_r0.lt (Nat.le_of_eq g4.symm))))).keep K41 (ninS (Nat.ne_of_lt (Nat.lt_of_lt_of_le E_r0.lt (Nat.le_of_eq g4.symm))) (ninS (Nat.ne_of_lt (Nat.lt_of_lt_of_le f11.lt (Nat.le_of_eq g15.symm))) nin0))).keep K62 (ninS (Nat.ne_of_lt (Nat.lt_of_lt_of_le E_r0.lt (Nat.le_of_eq g4.symm))) (ninS (Nat.ne_of_lt (Nat.lt_of_lt_of_le f11.lt (Nat.le_of_eq g15.symm))) nin0)))
      have f84 := (((((((((F_maxBytes_r0.ext E4).other W7 (Or.inr (sn_17 hw))).ext E15).other W18 (Or.inr (sn_18 hw))).other W24 (Or.inl (Nat.ne_of_lt (Nat.lt_of_lt_of_le E_r0.lt (Nat.le_of_eq g4.symm))))).other W29 (Or.inl (Nat.ne_of_lt (Nat.lt_of_lt_of_le E_r0.lt (Nat.le_of_eq g4.symm))))).other W34 (Or.inl (Nat.ne_of_lt (Nat.lt_of_lt_of_le E_r0.lt (Nat.le_of_eq g4.symm))))).keep K41 (ninS (Nat.ne_of_lt (Nat.lt_of_lt_of_le E_r0.lt (Nat.le_of_eq g4.symm))) (ninS (Nat.ne_of_lt (Nat.lt_of_lt_of_le f11.lt (Nat.le_of_eq g15.symm))) nin0))).keep K62 (ninS (Nat.ne_of_lt (Nat.lt_of_lt_of_le E_r0.lt (Nat.le_of_eq g4.symm))) (ninS (Nat.ne_of_lt (Nat.lt_of_lt_of_le f11.lt (Nat.le_of_eq g15.symm))) nin0)))
      have f85 := (f71.keep K62 (ninS (Nat.ne_of_lt (Nat.lt_of_lt_of_le E_r0.lt (Nat.le_of_eq g4.symm))) (ninS (Nat.ne_of_lt (Nat.lt_of_lt_of_le f11.lt (Nat.le_of_eq g15.symm))) nin0)))
      have f86 := (f72.keep K62)
      have f87 := (f73.keep K62 (ninS (Nat.ne_of_lt (Nat.lt_of_lt_of_le E_r0.lt (Nat.le_of_eq g4.symm))) (ninS (Nat.ne_of_lt (Nat.lt_of_lt_of_le f11.lt (Nat.le_of_eq g15.symm))) nin0)))
      have f88 := (f74.keep K62)
      refine own_out X78 Bd.notSynchronized Bd.returns (none) (fun _ => rfl) (by decide) (by decide) ?_ fun fs hr => ?_
      · rw [e78]; exact Or.inl (⟨b4, k4, b15, k15, rfl, N62, ((((((((((Keep.refl h0 [r0]).ext E4).wr W7 (Or.inl (List.mem_of_getElem? (i := 0) rfl))).ext E15).wr W18 (Or.inl (List.mem_of_getElem? (i := 0) rfl))).wr W24 (Or.inr sz_b4)).wr W29 (Or.inr sz_b4)).wr W34 (Or.inr sz_b4)).trans K41 (allS (Or.inr sz_b4) (allS (Or.inr sz_b15) all0))).trans K62 (allS (Or.inr sz_b4) (allS (Or.inr sz_b15) all0))), sz_b4, sz_b15, (Nat.ne_of_lt (Nat.lt_of_lt_of_le f14.lt (Nat.le_of_eq g15.symm))), f76, f79, f80, f81, f82, f83, f84, f85, p62_0, f86, f87, p62_1, f88⟩)
      · exact X78.returnOut hx Bd.returns (hb hby d7_115) hr
    · have pl62 := (allS (P := fun x => ∃ cell : Cell, T41.heap[x]? = some cell ∧ cell.vm.isStatics = false) (own_ns f72) (allS (P := fun x => ∃ cell : Cell, T41.heap[x]? = some cell ∧ cell.vm.isStatics = false) (own_ns f74) all0))
      have N62 := Fr.app N61 N62q
      have f89 := (f56.keep K62 (ninS (Nat.ne_of_lt (Nat.lt_of_lt_of_le E_r0.lt (Nat.le_of_eq g4.symm))) (ninS (Nat.ne_of_lt (Nat.lt_of_lt_of_le f11.lt (Nat.le_of_eq g15.symm))) nin0)))
      refine own_by (fun t q => oIn X62 hx hby d7_99 rfl (oIc X62 hx hby d7_100 (oIn X62 hx hby d7_101 rfl (XS.imul X62.here hx rfl (hb hby d7_102) rfl (XS.iadd X62.here hx rfl (hb hby d7_103) rfl (XS.istoreN X62.here hx rfl (hb hby d7_104) rfl (l' := #[rv r0, iv 2, iv 4]) rfl q)))))) ?_
      refine own_by (fun t q => oGo X62 hx hby 105 69 d7_105 (by decide) (by decide) (oIn X62 hx hby d7_69 rfl q)) ?_
      refine own_aF X62 hx hZ hown hw 36 rfl rfl f89 hby d7_70 rfl d7_71 fun T90 X90 e90 => ?_
      refine own_by (fun t q => oIn X90 hx hby d7_74 rfl (XS.isub X90.here hx rfl (hb hby d7_75) rfl (oJy X90 hx hby 76 108 d7_76 (flt (by decide : ¬ ((4 : Int32) < (1 : Int32)))).2.1 (by decide) (by decide) (oIn X90 hx hby d7_108 rfl (oIc X90 hx hby d7_109 (XS.imul X90.here hx rfl (hb hby d7_110) rfl q)))))) ?_
      refine own_by (fun t q => XS.istoreN X90.here hx rfl (hb hby d7_111) rfl (l' := #[rv r0, iv 4, iv 4]) rfl (oGo X90 hx hby 112 59 d7_112 (by decide) (by decide) (oIn X90 hx hby d7_59 rfl q))) ?_
      refine own_aF X90 hx hZ hown hw 36 rfl e90 f89 hby d7_60 rfl d7_61 fun T91 X91 e91 => ?_
      refine own_by (fun t q => oJy X91 hx hby 64 115 d7_64 (flt (by decide : ¬ ((4 : Int32) < (3 : Int32)))).2.1 (by decide) (by decide) q) ?_
      have f92 := (f64.keep K62 (ninS (Nat.ne_of_lt (Nat.lt_of_lt_of_le E_r0.lt (Nat.le_of_eq g4.symm))) (ninS (Nat.ne_of_lt (Nat.lt_of_lt_of_le f11.lt (Nat.le_of_eq g15.symm))) nin0)))
      have f93 := (f65.keep K62 (ninS (Nat.ne_of_lt (Nat.lt_of_lt_of_le E_r0.lt (Nat.le_of_eq g4.symm))) (ninS (Nat.ne_of_lt (Nat.lt_of_lt_of_le f11.lt (Nat.le_of_eq g15.symm))) nin0)))
      have f94 := (f68.keep K62 (ninS (Nat.ne_of_lt (Nat.lt_of_lt_of_le E_r0.lt (Nat.le_of_eq g4.symm))) (ninS (Nat.ne_of_lt (Nat.lt_of_lt_of_le f11.lt (Nat.le_of_eq g15.symm))) nin0)))
      have f95 := (((((((((F_limit_r0.ext E4).other W7 (Or.inr (sn_13 hw))).ext E15).other W18 (Or.inr (sn_14 hw))).other W24 (Or.inl (Nat.ne_of_lt (Nat.lt_of_lt_of_le E_r0.lt (Nat.le_of_eq g4.symm))))).other W29 (Or.inl (Nat.ne_of_lt (Nat.lt_of_lt_of_le E_r0.lt (Nat.le_of_eq g4.symm))))).other W34 (Or.inl (Nat.ne_of_lt (Nat.lt_of_lt_of_le E_r0.lt (Nat.le_of_eq g4.symm))))).keep K41 (ninS (Nat.ne_of_lt (Nat.lt_of_lt_of_le E_r0.lt (Nat.le_of_eq g4.symm))) (ninS (Nat.ne_of_lt (Nat.lt_of_lt_of_le f11.lt (Nat.le_of_eq g15.symm))) nin0))).keep K62 (ninS (Nat.ne_of_lt (Nat.lt_of_lt_of_le E_r0.lt (Nat.le_of_eq g4.symm))) (ninS (Nat.ne_of_lt (Nat.lt_of_lt_of_le f11.lt (Nat.le_of_eq g15.symm))) nin0)))
      have f96 := (((((((((F_maxNames_r0.ext E4).other W7 (Or.inr (sn_15 hw))).ext E15).other W18 (Or.inr (sn_16 hw))).other W24 (Or.inl (Nat.ne_of_lt (Nat.lt_of_lt_of_le E_r0.lt (Nat.le_of_eq g4.symm))))).other W29 (Or.inl (Nat.ne_of_lt (Nat.lt_of_lt_of_le E_r0.lt (Nat.le_of_eq g4.symm))))).other W34 (Or.inl (Nat.ne_of_lt (Nat.lt_of_lt_of_le E_r0.lt (Nat.le_of_eq g4.symm))))).keep K41 (ninS (Nat.ne_of_lt (Nat.lt_of_lt_of_le E_r0.lt (Nat.le_of_eq g4.symm))) (ninS (Nat.ne_of_lt (Nat.lt_of_lt_of_le f11.lt (Nat.le_of_eq g15.symm))) nin0))).keep K62 (ninS (Nat.ne_of_lt (Nat.lt_of_lt_of_le E_r0.lt (Nat.le_of_eq g4.symm))) (ninS (Nat.ne_of_lt (Nat.lt_of_lt_of_le f11.lt (Nat.le_of_eq g15.symm))) nin0)))
      have f97 := (((((((((F_maxBytes_r0.ext E4).other W7 (Or.inr (sn_17 hw))).ext E15).other W18 (Or.inr (sn_18 hw))).other W24 (Or.inl (Nat.ne_of_lt (Nat.lt_of_lt_of_le E_r0.lt (Nat.le_of_eq g4.symm))))).other W29 (Or.inl (Nat.ne_of_lt (Nat.lt_of_lt_of_le E_r0.lt (Nat.le_of_eq g4.symm))))).other W34 (Or.inl (Nat.ne_of_lt (Nat.lt_of_lt_of_le E_r0.lt (Nat.le_of_eq g4.symm))))).keep K41 (ninS (Nat.ne_of_lt (Nat.lt_of_lt_of_le E_r0.lt (Nat.le_of_eq g4.symm))) (ninS (Nat.ne_of_lt (Nat.lt_of_lt_of_le f11.lt (Nat.le_of_eq g15.symm))) nin0))).keep K62 (ninS (Nat.ne_of_lt (Nat.lt_of_lt_of_le E_r0.lt (Nat.le_of_eq g4.symm))) (ninS (Nat.ne_of_lt (Nat.lt_of_lt_of_le f11.lt (Nat.le_of_eq g15.symm))) nin0)))
      have f98 := (f71.keep K62 (ninS (Nat.ne_of_lt (Nat.lt_of_lt_of_le E_r0.lt (Nat.le_of_eq g4.symm))) (ninS (Nat.ne_of_lt (Nat.lt_of_lt_of_le f11.lt (Nat.le_of_eq g15.symm))) nin0)))
      have f99 := (f72.keep K62)
      have f100 := (f73.keep K62 (ninS (Nat.ne_of_lt (Nat.lt_of_lt_of_le E_r0.lt (Nat.le_of_eq g4.symm))) (ninS (Nat.ne_of_lt (Nat.lt_of_lt_of_le f11.lt (Nat.le_of_eq g15.symm))) nin0)))
      have f101 := (f74.keep K62)
      refine own_out X91 Bd.notSynchronized Bd.returns (none) (fun _ => rfl) (by decide) (by decide) ?_ fun fs hr => ?_
      · rw [e91]; exact Or.inr (Or.inl (⟨b4, k4, b15, k15, rfl, N62, ((((((((((Keep.refl h0 [r0]).ext E4).wr W7 (Or.inl (List.mem_of_getElem? (i := 0) rfl))).ext E15).wr W18 (Or.inl (List.mem_of_getElem? (i := 0) rfl))).wr W24 (Or.inr sz_b4)).wr W29 (Or.inr sz_b4)).wr W34 (Or.inr sz_b4)).trans K41 (allS (Or.inr sz_b4) (allS (Or.inr sz_b15) all0))).trans K62 (allS (Or.inr sz_b4) (allS (Or.inr sz_b15) all0))), sz_b4, sz_b15, (Nat.ne_of_lt (Nat.lt_of_lt_of_le f14.lt (Nat.le_of_eq g15.symm))), f89, f92, f93, f94, f95, f96, f97, f98, p62_0, f99, f100, p62_1, f101⟩))
      · exact X91.returnOut hx Bd.returns (hb hby d7_115) hr
    · have pl62 := (allS (P := fun x => ∃ cell : Cell, T41.heap[x]? = some cell ∧ cell.vm.isStatics = false) (own_ns f72) (allS (P := fun x => ∃ cell : Cell, T41.heap[x]? = some cell ∧ cell.vm.isStatics = false) (own_ns f74) all0))
      have N62 := Fr.app N61 N62q
      have f102 := (f56.keep K62 (ninS (Nat.ne_of_lt (Nat.lt_of_lt_of_le E_r0.lt (Nat.le_of_eq g4.symm))) (ninS (Nat.ne_of_lt (Nat.lt_of_lt_of_le f11.lt (Nat.le_of_eq g15.symm))) nin0)))
      refine own_by (fun t q => oIn X62 hx hby d7_99 rfl (oIc X62 hx hby d7_100 (oIn X62 hx hby d7_101 rfl (XS.imul X62.here hx rfl (hb hby d7_102) rfl (XS.iadd X62.here hx rfl (hb hby d7_103) rfl (XS.istoreN X62.here hx rfl (hb hby d7_104) rfl (l' := #[rv r0, iv 2, iv 4]) rfl q)))))) ?_
      refine own_by (fun t q => oGo X62 hx hby 105 69 d7_105 (by decide) (by decide) (oIn X62 hx hby d7_69 rfl q)) ?_
      refine own_aF X62 hx hZ hown hw 36 rfl rfl f102 hby d7_70 rfl d7_71 fun T103 X103 e103 => ?_
      refine own_by (fun t q => oIn X103 hx hby d7_74 rfl (XS.isub X103.here hx rfl (hb hby d7_75) rfl (oJy X103 hx hby 76 108 d7_76 (flt (by decide : ¬ ((4 : Int32) < (1 : Int32)))).2.1 (by decide) (by decide) (oIn X103 hx hby d7_108 rfl (oIc X103 hx hby d7_109 (XS.imul X103.here hx rfl (hb hby d7_110) rfl q)))))) ?_
      refine own_by (fun t q => XS.istoreN X103.here hx rfl (hb hby d7_111) rfl (l' := #[rv r0, iv 4, iv 4]) rfl (oGo X103 hx hby 112 59 d7_112 (by decide) (by decide) (oIn X103 hx hby d7_59 rfl q))) ?_
      refine own_aF X103 hx hZ hown hw 36 rfl e103 f102 hby d7_60 rfl d7_61 fun T104 X104 e104 => ?_
      refine own_by (fun t q => oJy X104 hx hby 64 115 d7_64 (flt (by decide : ¬ ((4 : Int32) < (3 : Int32)))).2.1 (by decide) (by decide) q) ?_
      have f105 := (f64.keep K62 (ninS (Nat.ne_of_lt (Nat.lt_of_lt_of_le E_r0.lt (Nat.le_of_eq g4.symm))) (ninS (Nat.ne_of_lt (Nat.lt_of_lt_of_le f11.lt (Nat.le_of_eq g15.symm))) nin0)))
      have f106 := (f65.keep K62 (ninS (Nat.ne_of_lt (Nat.lt_of_lt_of_le E_r0.lt (Nat.le_of_eq g4.symm))) (ninS (Nat.ne_of_lt (Nat.lt_of_lt_of_le f11.lt (Nat.le_of_eq g15.symm))) nin0)))
      have f107 := (f68.keep K62 (ninS (Nat.ne_of_lt (Nat.lt_of_lt_of_le E_r0.lt (Nat.le_of_eq g4.symm))) (ninS (Nat.ne_of_lt (Nat.lt_of_lt_of_le f11.lt (Nat.le_of_eq g15.symm))) nin0)))
      have f108 := (((((((((F_limit_r0.ext E4).other W7 (Or.inr (sn_13 hw))).ext E15).other W18 (Or.inr (sn_14 hw))).other W24 (Or.inl (Nat.ne_of_lt (Nat.lt_of_lt_of_le E_r0.lt (Nat.le_of_eq g4.symm))))).other W29 (Or.inl (Nat.ne_of_lt (Nat.lt_of_lt_of_le E_r0.lt (Nat.le_of_eq g4.symm))))).other W34 (Or.inl (Nat.ne_of_lt (Nat.lt_of_lt_of_le E_r0.lt (Nat.le_of_eq g4.symm))))).keep K41 (ninS (Nat.ne_of_lt (Nat.lt_of_lt_of_le E_r0.lt (Nat.le_of_eq g4.symm))) (ninS (Nat.ne_of_lt (Nat.lt_of_lt_of_le f11.lt (Nat.le_of_eq g15.symm))) nin0))).keep K62 (ninS (Nat.ne_of_lt (Nat.lt_of_lt_of_le E_r0.lt (Nat.le_of_eq g4.symm))) (ninS (Nat.ne_of_lt (Nat.lt_of_lt_of_le f11.lt (Nat.le_of_eq g15.symm))) nin0)))
      have f109 := (((((((((F_maxNames_r0.ext E4).other W7 (Or.inr (sn_15 hw))).ext E15).other W18 (Or.inr (sn_16 hw))).other W24 (Or.inl (Nat.ne_of_lt (Nat.lt_of_lt_of_le E_r0.lt (Nat.le_of_eq g4.symm))))).other W29 (Or.inl (Nat.ne_of_lt (Nat.lt_of_lt_of_le E_r0.lt (Nat.le_of_eq g4.symm))))).other W34 (Or.inl (Nat.ne_of_lt (Nat.lt_of_lt_of_le E_r0.lt (Nat.le_of_eq g4.symm))))).keep K41 (ninS (Nat.ne_of_lt (Nat.lt_of_lt_of_le E_r0.lt (Nat.le_of_eq g4.symm))) (ninS (Nat.ne_of_lt (Nat.lt_of_lt_of_le f11.lt (Nat.le_of_eq g15.symm))) nin0))).keep K62 (ninS (Nat.ne_of_lt (Nat.lt_of_lt_of_le E_r0.lt (Nat.le_of_eq g4.symm))) (ninS (Nat.ne_of_lt (Nat.lt_of_lt_of_le f11.lt (Nat.le_of_eq g15.symm))) nin0)))
      have f110 := (((((((((F_maxBytes_r0.ext E4).other W7 (Or.inr (sn_17 hw))).ext E15).other W18 (Or.inr (sn_18 hw))).other W24 (Or.inl (Nat.ne_of_lt (Nat.lt_of_lt_of_le E_r0.lt (Nat.le_of_eq g4.symm))))).other W29 (Or.inl (Nat.ne_of_lt (Nat.lt_of_lt_of_le E_r0.lt (Nat.le_of_eq g4.symm))))).other W34 (Or.inl (Nat.ne_of_lt (Nat.lt_of_lt_of_le E_r0.lt (Nat.le_of_eq g4.symm))))).keep K41 (ninS (Nat.ne_of_lt (Nat.lt_of_lt_of_le E_r0.lt (Nat.le_of_eq g4.symm))) (ninS (Nat.ne_of_lt (Nat.lt_of_lt_of_le f11.lt (Nat.le_of_eq g15.symm))) nin0))).keep K62 (ninS (Nat.ne_of_lt (Nat.lt_of_lt_of_le E_r0.lt (Nat.le_of_eq g4.symm))) (ninS (Nat.ne_of_lt (Nat.lt_of_lt_of_le f11.lt (Nat.le_of_eq g15.symm))) nin0)))
      have f111 := (f71.keep K62 (ninS (Nat.ne_of_lt (Nat.lt_of_lt_of_le E_r0.lt (Nat.le_of_eq g4.symm))) (ninS (Nat.ne_of_lt (Nat.lt_of_lt_of_le f11.lt (Nat.le_of_eq g15.symm))) nin0)))
      have f112 := (f72.keep K62)
      have f113 := (f73.keep K62 (ninS (Nat.ne_of_lt (Nat.lt_of_lt_of_le E_r0.lt (Nat.le_of_eq g4.symm))) (ninS (Nat.ne_of_lt (Nat.lt_of_lt_of_le f11.lt (Nat.le_of_eq g15.symm))) nin0)))
      have f114 := (f74.keep K62)
      refine own_out X104 Bd.notSynchronized Bd.returns (none) (fun _ => rfl) (by decide) (by decide) ?_ fun fs hr => ?_
      · rw [e104]; exact Or.inr (Or.inr (Or.inl (⟨b4, k4, b15, k15, rfl, N62, ((((((((((Keep.refl h0 [r0]).ext E4).wr W7 (Or.inl (List.mem_of_getElem? (i := 0) rfl))).ext E15).wr W18 (Or.inl (List.mem_of_getElem? (i := 0) rfl))).wr W24 (Or.inr sz_b4)).wr W29 (Or.inr sz_b4)).wr W34 (Or.inr sz_b4)).trans K41 (allS (Or.inr sz_b4) (allS (Or.inr sz_b15) all0))).trans K62 (allS (Or.inr sz_b4) (allS (Or.inr sz_b15) all0))), sz_b4, sz_b15, (Nat.ne_of_lt (Nat.lt_of_lt_of_le f14.lt (Nat.le_of_eq g15.symm))), f102, f105, f106, f107, f108, f109, f110, f111, p62_0, f112, f113, p62_1, f114⟩)))
      · exact X104.returnOut hx Bd.returns (hb hby d7_115) hr
  · have pl41 := (allS (P := fun x => ∃ cell : Cell, h34[x]? = some cell ∧ cell.vm.isStatics = false) (own_ns f51) (allS (P := fun x => ∃ cell : Cell, h34[x]? = some cell ∧ cell.vm.isStatics = false) (own_ns f54) all0))
    have N41 := Fr.app N40 N41q
    have f115 := (f35.keep K41 (ninS (Nat.ne_of_lt (Nat.lt_of_lt_of_le E_r0.lt (Nat.le_of_eq g4.symm))) (ninS (Nat.ne_of_lt (Nat.lt_of_lt_of_le f11.lt (Nat.le_of_eq g15.symm))) nin0)))
    refine own_by (fun t q => oIn X41 hx hby d7_99 rfl (oIc X41 hx hby d7_100 (oIn X41 hx hby d7_101 rfl (XS.imul X41.here hx rfl (hb hby d7_102) rfl (XS.iadd X41.here hx rfl (hb hby d7_103) rfl (XS.istoreN X41.here hx rfl (hb hby d7_104) rfl (l' := #[rv r0, iv 1, iv 2]) rfl q)))))) ?_
    refine own_by (fun t q => oGo X41 hx hby 105 69 d7_105 (by decide) (by decide) (oIn X41 hx hby d7_69 rfl q)) ?_
    refine own_aF X41 hx hZ hown hw 36 rfl rfl f115 hby d7_70 rfl d7_71 fun T116 X116 e116 => ?_
    refine own_by (fun t q => oIn X116 hx hby d7_74 rfl (XS.isub X116.here hx rfl (hb hby d7_75) rfl (oJy X116 hx hby 76 108 d7_76 (flt (by decide : ¬ ((2 : Int32) < (2 : Int32)))).2.1 (by decide) (by decide) (oIn X116 hx hby d7_108 rfl (oIc X116 hx hby d7_109 (XS.imul X116.here hx rfl (hb hby d7_110) rfl q)))))) ?_
    refine own_by (fun t q => XS.istoreN X116.here hx rfl (hb hby d7_111) rfl (l' := #[rv r0, iv 2, iv 2]) rfl (oGo X116 hx hby 112 59 d7_112 (by decide) (by decide) (oIn X116 hx hby d7_59 rfl q))) ?_
    refine own_aF X116 hx hZ hown hw 36 rfl e116 f115 hby d7_60 rfl d7_61 fun T117 X117 e117 => ?_
    refine own_by (fun t q => oJn X117 hx hby d7_64 (tlt (by decide : (2 : Int32) < (3 : Int32))).2.1 (oIc X117 hx hby d7_67 (XS.istoreN X117.here hx rfl (hb hby d7_68) rfl (l' := #[rv r0, iv 2, iv 0]) rfl (oIn X117 hx hby d7_69 rfl q)))) ?_
    refine own_aF X117 hx hZ hown hw 36 rfl e117 f115 hby d7_70 rfl d7_71 fun T118 X118 e118 => ?_
    refine own_by (fun t q => oIn X118 hx hby d7_74 rfl (XS.isub X118.here hx rfl (hb hby d7_75) rfl (oJn X118 hx hby d7_76 (tlt (by decide : (0 : Int32) < (1 : Int32))).2.1 (oAn X118 hx hby d7_79 rfl rfl (oIn X118 hx hby d7_80 rfl (oIn X118 hx hby d7_81 rfl q)))))) ?_
    refine own_by (fun t q => oIn X118 hx hby d7_82 rfl (XS.iadd X118.here hx rfl (hb hby d7_83) rfl (oIn X118 hx hby d7_84 rfl (oIc X118 hx hby d7_85 (oIn X118 hx hby d7_86 rfl (XS.imul X118.here hx rfl (hb hby d7_87) rfl q)))))) ?_
    refine own_by (fun t q => XS.iadd X118.here hx rfl (hb hby d7_88) rfl q) ?_
    refine own_aF X118 hx hZ hown hw 36 rfl e118 f115 hby d7_89 rfl d7_90 fun T119 X119 e119 => ?_
    refine own_cK 3 (rm8_t l Z a0 hw [] (4 : Int32) (3 : Int32) T41.heap n0 (Nat.le_trans (Nat.le_trans (Nat.le_trans (Nat.le_trans (Nat.le_trans (Nat.le_trans (Nat.le_trans (Nat.le_trans Z0 E4.1) (Keep.of_wr W7).1) E15.1) (Keep.of_wr W18).1) (Keep.of_wr W24).1) (Keep.of_wr W29).1) (Keep.of_wr W34).1) K41.1) (by decide : (3 : Int32) < (4 : Int32))) X119 hx hZ hown hw 58 59 60 61 rfl rfl rfl rfl [(.int 4), (.int 3)] [(.int 2), (.int 0), (.ref r0)] hby d7_93 hml (lenOf pd_2 rfl) e119 rfl (Nat.le_refl _) (by decide) fun _ T120 L120 X120 hQ120 => ?_
    obtain ⟨rfl, N120q, e120⟩ := hQ120
    have N120 := Fr.app N41 N120q
    have f122 := (f42.keep K41)
    have f123 := (f43.keep K41 (ninS (Nat.ne_of_lt (Nat.lt_of_lt_of_le E_r0.lt (Nat.le_of_eq g4.symm))) (ninS (Nat.ne_of_lt (Nat.lt_of_lt_of_le f11.lt (Nat.le_of_eq g15.symm))) nin0)))
    have f124 := (f44.keep K41 (ninS (Nat.ne_of_lt (Nat.lt_of_lt_of_le E_r0.lt (Nat.le_of_eq g4.symm))) (ninS (Nat.ne_of_lt (Nat.lt_of_lt_of_le f11.lt (Nat.le_of_eq g15.symm))) nin0)))
    have f125 := (f45.keep K41 (ninS (Nat.ne_of_lt (Nat.lt_of_lt_of_le B_bA.lt (Nat.le_of_eq g4.symm))) (ninS (Nat.ne_of_lt (Nat.lt_of_lt_of_le f12.lt (Nat.le_of_eq g15.symm))) nin0)))
    have f126 := (f46.keep K41)
    have f127 := (f47.keep K41 (ninS (Nat.ne_of_lt (Nat.lt_of_lt_of_le E_r0.lt (Nat.le_of_eq g4.symm))) (ninS (Nat.ne_of_lt (Nat.lt_of_lt_of_le f11.lt (Nat.le_of_eq g15.symm))) nin0)))
    have f128 := (f48.keep K41 (ninS (Nat.ne_of_lt (Nat.lt_of_lt_of_le V_sA.lt (Nat.le_of_eq g4.symm))) (ninS (Nat.ne_of_lt (Nat.lt_of_lt_of_le f10.lt (Nat.le_of_eq g15.symm))) nin0)))
    have f129 := (f49.keep K41)
    have f130 := (f50.keep K41 (ninS (Nat.ne_of_lt (Nat.lt_of_lt_of_le E_r0.lt (Nat.le_of_eq g4.symm))) (ninS (Nat.ne_of_lt (Nat.lt_of_lt_of_le f11.lt (Nat.le_of_eq g15.symm))) nin0)))
    have f131 := (f51.keep K41)
    have f132 := (f52.keep K41 (ninS (Nat.ne_of_lt (Nat.lt_of_lt_of_le E_r0.lt (Nat.le_of_eq g4.symm))) (ninS (Nat.ne_of_lt (Nat.lt_of_lt_of_le f11.lt (Nat.le_of_eq g15.symm))) nin0)))
    have f133 := (f54.keep K41)
    refine own_cP 0 (rm9_3b l Z a0 hw [] r0 bA sA kS u s0 s1 s2 s3 b4 k4 b15 k15 T41.heap n0 (Nat.le_trans (Nat.le_trans (Nat.le_trans (Nat.le_trans (Nat.le_trans (Nat.le_trans (Nat.le_trans (Nat.le_trans Z0 E4.1) (Keep.of_wr W7).1) E15.1) (Keep.of_wr W18).1) (Keep.of_wr W24).1) (Keep.of_wr W29).1) (Keep.of_wr W34).1) K41.1) f122 f115 f123 f124 f125 f126 f127 f128 f129 f130 p41_0 f131 f132 p41_1 f133 hp0 g_b15 (Nat.ne_of_lt (Nat.lt_of_lt_of_le f11.lt (Nat.le_of_eq g15.symm))) (Nat.ne_of_lt (Nat.lt_of_lt_of_le f12.lt (Nat.le_of_eq g15.symm))) (Nat.ne_of_lt (Nat.lt_of_lt_of_le f10.lt (Nat.le_of_eq g15.symm))) (Nat.ne_of_lt (Nat.lt_of_lt_of_le f14.lt (Nat.le_of_eq g15.symm))) g_b4 (Nat.ne_of_lt (Nat.lt_of_lt_of_le E_r0.lt (Nat.le_of_eq g4.symm))) (Ne.symm (Nat.ne_of_lt (Nat.lt_of_lt_of_le f14.lt (Nat.le_of_eq g15.symm)))) (Nat.ne_of_lt (Nat.lt_of_lt_of_le B_bA.lt (Nat.le_of_eq g4.symm))) (Nat.ne_of_lt (Nat.lt_of_lt_of_le V_sA.lt (Nat.le_of_eq g4.symm)))) X120 hx hZ hown hw 62 63 3 64 4 65 rfl rfl rfl rfl rfl rfl r0 f122 [(.int 0), (.int 2), (.int 3)] [] hby d7_96 hml (lenOf pd_1 rfl) e120 rfl (Nat.le_refl _) (by decide) fun _ T121 L121 X121 hQ121 => ?_
    have f134 := (f55.keep K41 (ninS (Nat.ne_of_lt (Nat.lt_of_lt_of_le V_oZ.lt (Nat.le_of_eq g4.symm))) (ninS (Nat.ne_of_lt (Nat.lt_of_lt_of_le f13.lt (Nat.le_of_eq g15.symm))) nin0)))
    rcases hQ121 with ⟨rfl, N121q, K121, p121_0, p121_1⟩ | ⟨rfl, N121q, K121, p121_0, p121_1⟩ | ⟨rfl, N121q, K121, p121_0, p121_1⟩
    · have pl121 := (allS (P := fun x => ∃ cell : Cell, T41.heap[x]? = some cell ∧ cell.vm.isStatics = false) (own_ns f131) (allS (P := fun x => ∃ cell : Cell, T41.heap[x]? = some cell ∧ cell.vm.isStatics = false) (own_ns f133) all0))
      have N121 := Fr.app N120 N121q
      have f135 := (f115.keep K121 (ninS (Nat.ne_of_lt (Nat.lt_of_lt_of_le E_r0.lt (Nat.le_of_eq g4.symm))) (ninS (Nat.ne_of_lt (Nat.lt_of_lt_of_le f11.lt (Nat.le_of_eq g15.symm))) nin0)))
      refine own_by (fun t q => oIn X121 hx hby d7_99 rfl (oIc X121 hx hby d7_100 (oIn X121 hx hby d7_101 rfl (XS.imul X121.here hx rfl (hb hby d7_102) rfl (XS.iadd X121.here hx rfl (hb hby d7_103) rfl (XS.istoreN X121.here hx rfl (hb hby d7_104) rfl (l' := #[rv r0, iv 2, iv 4]) rfl q)))))) ?_
      refine own_by (fun t q => oGo X121 hx hby 105 69 d7_105 (by decide) (by decide) (oIn X121 hx hby d7_69 rfl q)) ?_
      refine own_aF X121 hx hZ hown hw 36 rfl rfl f135 hby d7_70 rfl d7_71 fun T136 X136 e136 => ?_
      refine own_by (fun t q => oIn X136 hx hby d7_74 rfl (XS.isub X136.here hx rfl (hb hby d7_75) rfl (oJy X136 hx hby 76 108 d7_76 (flt (by decide : ¬ ((4 : Int32) < (1 : Int32)))).2.1 (by decide) (by decide) (oIn X136 hx hby d7_108 rfl (oIc X136 hx hby d7_109 (XS.imul X136.here hx rfl (hb hby d7_110) rfl q)))))) ?_
      refine own_by (fun t q => XS.istoreN X136.here hx rfl (hb hby d7_111) rfl (l' := #[rv r0, iv 4, iv 4]) rfl (oGo X136 hx hby 112 59 d7_112 (by decide) (by decide) (oIn X136 hx hby d7_59 rfl q))) ?_
      refine own_aF X136 hx hZ hown hw 36 rfl e136 f135 hby d7_60 rfl d7_61 fun T137 X137 e137 => ?_
      refine own_by (fun t q => oJy X137 hx hby 64 115 d7_64 (flt (by decide : ¬ ((4 : Int32) < (3 : Int32)))).2.1 (by decide) (by decide) q) ?_
      have f138 := (f123.keep K121 (ninS (Nat.ne_of_lt (Nat.lt_of_lt_of_le E_r0.lt (Nat.le_of_eq g4.symm))) (ninS (Nat.ne_of_lt (Nat.lt_of_lt_of_le f11.lt (Nat.le_of_eq g15.symm))) nin0)))
      have f139 := (f124.keep K121 (ninS (Nat.ne_of_lt (Nat.lt_of_lt_of_le E_r0.lt (Nat.le_of_eq g4.symm))) (ninS (Nat.ne_of_lt (Nat.lt_of_lt_of_le f11.lt (Nat.le_of_eq g15.symm))) nin0)))
      have f140 := (f127.keep K121 (ninS (Nat.ne_of_lt (Nat.lt_of_lt_of_le E_r0.lt (Nat.le_of_eq g4.symm))) (ninS (Nat.ne_of_lt (Nat.lt_of_lt_of_le f11.lt (Nat.le_of_eq g15.symm))) nin0)))
      have f141 := (((((((((F_limit_r0.ext E4).other W7 (Or.inr (sn_13 hw))).ext E15).other W18 (Or.inr (sn_14 hw))).other W24 (Or.inl (Nat.ne_of_lt (Nat.lt_of_lt_of_le E_r0.lt (Nat.le_of_eq g4.symm))))).other W29 (Or.inl (Nat.ne_of_lt (Nat.lt_of_lt_of_le E_r0.lt (Nat.le_of_eq g4.symm))))).other W34 (Or.inl (Nat.ne_of_lt (Nat.lt_of_lt_of_le E_r0.lt (Nat.le_of_eq g4.symm))))).keep K41 (ninS (Nat.ne_of_lt (Nat.lt_of_lt_of_le E_r0.lt (Nat.le_of_eq g4.symm))) (ninS (Nat.ne_of_lt (Nat.lt_of_lt_of_le f11.lt (Nat.le_of_eq g15.symm))) nin0))).keep K121 (ninS (Nat.ne_of_lt (Nat.lt_of_lt_of_le E_r0.lt (Nat.le_of_eq g4.symm))) (ninS (Nat.ne_of_lt (Nat.lt_of_lt_of_le f11.lt (Nat.le_of_eq g15.symm))) nin0)))
      have f142 := (((((((((F_maxNames_r0.ext E4).other W7 (Or.inr (sn_15 hw))).ext E15).other W18 (Or.inr (sn_16 hw))).other W24 (Or.inl (Nat.ne_of_lt (Nat.lt_of_lt_of_le E_r0.lt (Nat.le_of_eq g4.symm))))).other W29 (Or.inl (Nat.ne_of_lt (Nat.lt_of_lt_of_le E_r0.lt (Nat.le_of_eq g4.symm))))).other W34 (Or.inl (Nat.ne_of_lt (Nat.lt_of_lt_of_le E_r0.lt (Nat.le_of_eq g4.symm))))).keep K41 (ninS (Nat.ne_of_lt (Nat.lt_of_lt_of_le E_r0.lt (Nat.le_of_eq g4.symm))) (ninS (Nat.ne_of_lt (Nat.lt_of_lt_of_le f11.lt (Nat.le_of_eq g15.symm))) nin0))).keep K121 (ninS (Nat.ne_of_lt (Nat.lt_of_lt_of_le E_r0.lt (Nat.le_of_eq g4.symm))) (ninS (Nat.ne_of_lt (Nat.lt_of_lt_of_le f11.lt (Nat.le_of_eq g15.symm))) nin0)))
      have f143 := (((((((((F_maxBytes_r0.ext E4).other W7 (Or.inr (sn_17 hw))).ext E15).other W18 (Or.inr (sn_18 hw))).other W24 (Or.inl (Nat.ne_of_lt (Nat.lt_of_lt_of_le E_r0.lt (Nat.le_of_eq g4.symm))))).other W29 (Or.inl (Nat.ne_of_lt (Nat.lt_of_lt_of_le E_r0.lt (Nat.le_of_eq g4.symm))))).other W34 (Or.inl (Nat.ne_of_lt (Nat.lt_of_lt_of_le E_r0.lt (Nat.le_of_eq g4.symm))))).keep K41 (ninS (Nat.ne_of_lt (Nat.lt_of_lt_of_le E_r0.lt (Nat.le_of_eq g4.symm))) (ninS (Nat.ne_of_lt (Nat.lt_of_lt_of_le f11.lt (Nat.le_of_eq g15.symm))) nin0))).keep K121 (ninS (Nat.ne_of_lt (Nat.lt_of_lt_of_le E_r0.lt (Nat.le_of_eq g4.symm))) (ninS (Nat.ne_of_lt (Nat.lt_of_lt_of_le f11.lt (Nat.le_of_eq g15.symm))) nin0)))
      have f144 := (f130.keep K121 (ninS (Nat.ne_of_lt (Nat.lt_of_lt_of_le E_r0.lt (Nat.le_of_eq g4.symm))) (ninS (Nat.ne_of_lt (Nat.lt_of_lt_of_le f11.lt (Nat.le_of_eq g15.symm))) nin0)))
      have f145 := (f131.keep K121)
      have f146 := (f132.keep K121 (ninS (Nat.ne_of_lt (Nat.lt_of_lt_of_le E_r0.lt (Nat.le_of_eq g4.symm))) (ninS (Nat.ne_of_lt (Nat.lt_of_lt_of_le f11.lt (Nat.le_of_eq g15.symm))) nin0)))
      have f147 := (f133.keep K121)
      refine own_out X137 Bd.notSynchronized Bd.returns (none) (fun _ => rfl) (by decide) (by decide) ?_ fun fs hr => ?_
      · rw [e137]; exact Or.inr (Or.inr (Or.inr (Or.inl (⟨b4, k4, b15, k15, rfl, N121, ((((((((((Keep.refl h0 [r0]).ext E4).wr W7 (Or.inl (List.mem_of_getElem? (i := 0) rfl))).ext E15).wr W18 (Or.inl (List.mem_of_getElem? (i := 0) rfl))).wr W24 (Or.inr sz_b4)).wr W29 (Or.inr sz_b4)).wr W34 (Or.inr sz_b4)).trans K41 (allS (Or.inr sz_b4) (allS (Or.inr sz_b15) all0))).trans K121 (allS (Or.inr sz_b4) (allS (Or.inr sz_b15) all0))), sz_b4, sz_b15, (Nat.ne_of_lt (Nat.lt_of_lt_of_le f14.lt (Nat.le_of_eq g15.symm))), f135, f138, f139, f140, f141, f142, f143, f144, p121_0, f145, f146, p121_1, f147⟩))))
      · exact X137.returnOut hx Bd.returns (hb hby d7_115) hr
    · have pl121 := (allS (P := fun x => ∃ cell : Cell, T41.heap[x]? = some cell ∧ cell.vm.isStatics = false) (own_ns f131) (allS (P := fun x => ∃ cell : Cell, T41.heap[x]? = some cell ∧ cell.vm.isStatics = false) (own_ns f133) all0))
      have N121 := Fr.app N120 N121q
      have f148 := (f115.keep K121 (ninS (Nat.ne_of_lt (Nat.lt_of_lt_of_le E_r0.lt (Nat.le_of_eq g4.symm))) (ninS (Nat.ne_of_lt (Nat.lt_of_lt_of_le f11.lt (Nat.le_of_eq g15.symm))) nin0)))
      refine own_by (fun t q => oIn X121 hx hby d7_99 rfl (oIc X121 hx hby d7_100 (oIn X121 hx hby d7_101 rfl (XS.imul X121.here hx rfl (hb hby d7_102) rfl (XS.iadd X121.here hx rfl (hb hby d7_103) rfl (XS.istoreN X121.here hx rfl (hb hby d7_104) rfl (l' := #[rv r0, iv 2, iv 4]) rfl q)))))) ?_
      refine own_by (fun t q => oGo X121 hx hby 105 69 d7_105 (by decide) (by decide) (oIn X121 hx hby d7_69 rfl q)) ?_
      refine own_aF X121 hx hZ hown hw 36 rfl rfl f148 hby d7_70 rfl d7_71 fun T149 X149 e149 => ?_
      refine own_by (fun t q => oIn X149 hx hby d7_74 rfl (XS.isub X149.here hx rfl (hb hby d7_75) rfl (oJy X149 hx hby 76 108 d7_76 (flt (by decide : ¬ ((4 : Int32) < (1 : Int32)))).2.1 (by decide) (by decide) (oIn X149 hx hby d7_108 rfl (oIc X149 hx hby d7_109 (XS.imul X149.here hx rfl (hb hby d7_110) rfl q)))))) ?_
      refine own_by (fun t q => XS.istoreN X149.here hx rfl (hb hby d7_111) rfl (l' := #[rv r0, iv 4, iv 4]) rfl (oGo X149 hx hby 112 59 d7_112 (by decide) (by decide) (oIn X149 hx hby d7_59 rfl q))) ?_
      refine own_aF X149 hx hZ hown hw 36 rfl e149 f148 hby d7_60 rfl d7_61 fun T150 X150 e150 => ?_
      refine own_by (fun t q => oJy X150 hx hby 64 115 d7_64 (flt (by decide : ¬ ((4 : Int32) < (3 : Int32)))).2.1 (by decide) (by decide) q) ?_
      have f151 := (f123.keep K121 (ninS (Nat.ne_of_lt (Nat.lt_of_lt_of_le E_r0.lt (Nat.le_of_eq g4.symm))) (ninS (Nat.ne_of_lt (Nat.lt_of_lt_of_le f11.lt (Nat.le_of_eq g15.symm))) nin0)))
      have f152 := (f124.keep K121 (ninS (Nat.ne_of_lt (Nat.lt_of_lt_of_le E_r0.lt (Nat.le_of_eq g4.symm))) (ninS (Nat.ne_of_lt (Nat.lt_of_lt_of_le f11.lt (Nat.le_of_eq g15.symm))) nin0)))
      have f153 := (f127.keep K121 (ninS (Nat.ne_of_lt (Nat.lt_of_lt_of_le E_r0.lt (Nat.le_of_eq g4.symm))) (ninS (Nat.ne_of_lt (Nat.lt_of_lt_of_le f11.lt (Nat.le_of_eq g15.symm))) nin0)))
      have f154 := (((((((((F_limit_r0.ext E4).other W7 (Or.inr (sn_13 hw))).ext E15).other W18 (Or.inr (sn_14 hw))).other W24 (Or.inl (Nat.ne_of_lt (Nat.lt_of_lt_of_le E_r0.lt (Nat.le_of_eq g4.symm))))).other W29 (Or.inl (Nat.ne_of_lt (Nat.lt_of_lt_of_le E_r0.lt (Nat.le_of_eq g4.symm))))).other W34 (Or.inl (Nat.ne_of_lt (Nat.lt_of_lt_of_le E_r0.lt (Nat.le_of_eq g4.symm))))).keep K41 (ninS (Nat.ne_of_lt (Nat.lt_of_lt_of_le E_r0.lt (Nat.le_of_eq g4.symm))) (ninS (Nat.ne_of_lt (Nat.lt_of_lt_of_le f11.lt (Nat.le_of_eq g15.symm))) nin0))).keep K121 (ninS (Nat.ne_of_lt (Nat.lt_of_lt_of_le E_r0.lt (Nat.le_of_eq g4.symm))) (ninS (Nat.ne_of_lt (Nat.lt_of_lt_of_le f11.lt (Nat.le_of_eq g15.symm))) nin0)))
      have f155 := (((((((((F_maxNames_r0.ext E4).other W7 (Or.inr (sn_15 hw))).ext E15).other W18 (Or.inr (sn_16 hw))).other W24 (Or.inl (Nat.ne_of_lt (Nat.lt_of_lt_of_le E_r0.lt (Nat.le_of_eq g4.symm))))).other W29 (Or.inl (Nat.ne_of_lt (Nat.lt_of_lt_of_le E_r0.lt (Nat.le_of_eq g4.symm))))).other W34 (Or.inl (Nat.ne_of_lt (Nat.lt_of_lt_of_le E_r0.lt (Nat.le_of_eq g4.symm))))).keep K41 (ninS (Nat.ne_of_lt (Nat.lt_of_lt_of_le E_r0.lt (Nat.le_of_eq g4.symm))) (ninS (Nat.ne_of_lt (Nat.lt_of_lt_of_le f11.lt (Nat.le_of_eq g15.symm))) nin0))).keep K121 (ninS (Nat.ne_of_lt (Nat.lt_of_lt_of_le E_r0.lt (Nat.le_of_eq g4.symm))) (ninS (Nat.ne_of_lt (Nat.lt_of_lt_of_le f11.lt (Nat.le_of_eq g15.symm))) nin0)))
      have f156 := (((((((((F_maxBytes_r0.ext E4).other W7 (Or.inr (sn_17 hw))).ext E15).other W18 (Or.inr (sn_18 hw))).other W24 (Or.inl (Nat.ne_of_lt (Nat.lt_of_lt_of_le E_r0.lt (Nat.le_of_eq g4.symm))))).other W29 (Or.inl (Nat.ne_of_lt (Nat.lt_of_lt_of_le E_r0.lt (Nat.le_of_eq g4.symm))))).other W34 (Or.inl (Nat.ne_of_lt (Nat.lt_of_lt_of_le E_r0.lt (Nat.le_of_eq g4.symm))))).keep K41 (ninS (Nat.ne_of_lt (Nat.lt_of_lt_of_le E_r0.lt (Nat.le_of_eq g4.symm))) (ninS (Nat.ne_of_lt (Nat.lt_of_lt_of_le f11.lt (Nat.le_of_eq g15.symm))) nin0))).keep K121 (ninS (Nat.ne_of_lt (Nat.lt_of_lt_of_le E_r0.lt (Nat.le_of_eq g4.symm))) (ninS (Nat.ne_of_lt (Nat.lt_of_lt_of_le f11.lt (Nat.le_of_eq g15.symm))) nin0)))
      have f157 := (f130.keep K121 (ninS (Nat.ne_of_lt (Nat.lt_of_lt_of_le E_r0.lt (Nat.le_of_eq g4.symm))) (ninS (Nat.ne_of_lt (Nat.lt_of_lt_of_le f11.lt (Nat.le_of_eq g15.symm))) nin0)))
      have f158 := (f131.keep K121)
      have f159 := (f132.keep K121 (ninS (Nat.ne_of_lt (Nat.lt_of_lt_of_le E_r0.lt (Nat.le_of_eq g4.symm))) (ninS (Nat.ne_of_lt (Nat.lt_of_lt_of_le f11.lt (Nat.le_of_eq g15.symm))) nin0)))
      have f160 := (f133.keep K121)
      refine own_out X150 Bd.notSynchronized Bd.returns (none) (fun _ => rfl) (by decide) (by decide) ?_ fun fs hr => ?_
      · rw [e150]; exact Or.inr (Or.inr (Or.inr (Or.inr (Or.inl (⟨b4, k4, b15, k15, rfl, N121, ((((((((((Keep.refl h0 [r0]).ext E4).wr W7 (Or.inl (List.mem_of_getElem? (i := 0) rfl))).ext E15).wr W18 (Or.inl (List.mem_of_getElem? (i := 0) rfl))).wr W24 (Or.inr sz_b4)).wr W29 (Or.inr sz_b4)).wr W34 (Or.inr sz_b4)).trans K41 (allS (Or.inr sz_b4) (allS (Or.inr sz_b15) all0))).trans K121 (allS (Or.inr sz_b4) (allS (Or.inr sz_b15) all0))), sz_b4, sz_b15, (Nat.ne_of_lt (Nat.lt_of_lt_of_le f14.lt (Nat.le_of_eq g15.symm))), f148, f151, f152, f153, f154, f155, f156, f157, p121_0, f158, f159, p121_1, f160⟩)))))
      · exact X150.returnOut hx Bd.returns (hb hby d7_115) hr
    · have pl121 := (allS (P := fun x => ∃ cell : Cell, T41.heap[x]? = some cell ∧ cell.vm.isStatics = false) (own_ns f131) (allS (P := fun x => ∃ cell : Cell, T41.heap[x]? = some cell ∧ cell.vm.isStatics = false) (own_ns f133) all0))
      have N121 := Fr.app N120 N121q
      have f161 := (f115.keep K121 (ninS (Nat.ne_of_lt (Nat.lt_of_lt_of_le E_r0.lt (Nat.le_of_eq g4.symm))) (ninS (Nat.ne_of_lt (Nat.lt_of_lt_of_le f11.lt (Nat.le_of_eq g15.symm))) nin0)))
      refine own_by (fun t q => oIn X121 hx hby d7_99 rfl (oIc X121 hx hby d7_100 (oIn X121 hx hby d7_101 rfl (XS.imul X121.here hx rfl (hb hby d7_102) rfl (XS.iadd X121.here hx rfl (hb hby d7_103) rfl (XS.istoreN X121.here hx rfl (hb hby d7_104) rfl (l' := #[rv r0, iv 2, iv 4]) rfl q)))))) ?_
      refine own_by (fun t q => oGo X121 hx hby 105 69 d7_105 (by decide) (by decide) (oIn X121 hx hby d7_69 rfl q)) ?_
      refine own_aF X121 hx hZ hown hw 36 rfl rfl f161 hby d7_70 rfl d7_71 fun T162 X162 e162 => ?_
      refine own_by (fun t q => oIn X162 hx hby d7_74 rfl (XS.isub X162.here hx rfl (hb hby d7_75) rfl (oJy X162 hx hby 76 108 d7_76 (flt (by decide : ¬ ((4 : Int32) < (1 : Int32)))).2.1 (by decide) (by decide) (oIn X162 hx hby d7_108 rfl (oIc X162 hx hby d7_109 (XS.imul X162.here hx rfl (hb hby d7_110) rfl q)))))) ?_
      refine own_by (fun t q => XS.istoreN X162.here hx rfl (hb hby d7_111) rfl (l' := #[rv r0, iv 4, iv 4]) rfl (oGo X162 hx hby 112 59 d7_112 (by decide) (by decide) (oIn X162 hx hby d7_59 rfl q))) ?_
      refine own_aF X162 hx hZ hown hw 36 rfl e162 f161 hby d7_60 rfl d7_61 fun T163 X163 e163 => ?_
      refine own_by (fun t q => oJy X163 hx hby 64 115 d7_64 (flt (by decide : ¬ ((4 : Int32) < (3 : Int32)))).2.1 (by decide) (by decide) q) ?_
      have f164 := (f123.keep K121 (ninS (Nat.ne_of_lt (Nat.lt_of_lt_of_le E_r0.lt (Nat.le_of_eq g4.symm))) (ninS (Nat.ne_of_lt (Nat.lt_of_lt_of_le f11.lt (Nat.le_of_eq g15.symm))) nin0)))
      have f165 := (f124.keep K121 (ninS (Nat.ne_of_lt (Nat.lt_of_lt_of_le E_r0.lt (Nat.le_of_eq g4.symm))) (ninS (Nat.ne_of_lt (Nat.lt_of_lt_of_le f11.lt (Nat.le_of_eq g15.symm))) nin0)))
      have f166 := (f127.keep K121 (ninS (Nat.ne_of_lt (Nat.lt_of_lt_of_le E_r0.lt (Nat.le_of_eq g4.symm))) (ninS (Nat.ne_of_lt (Nat.lt_of_lt_of_le f11.lt (Nat.le_of_eq g15.symm))) nin0)))
      have f167 := (((((((((F_limit_r0.ext E4).other W7 (Or.inr (sn_13 hw))).ext E15).other W18 (Or.inr (sn_14 hw))).other W24 (Or.inl (Nat.ne_of_lt (Nat.lt_of_lt_of_le E_r0.lt (Nat.le_of_eq g4.symm))))).other W29 (Or.inl (Nat.ne_of_lt (Nat.lt_of_lt_of_le E_r0.lt (Nat.le_of_eq g4.symm))))).other W34 (Or.inl (Nat.ne_of_lt (Nat.lt_of_lt_of_le E_r0.lt (Nat.le_of_eq g4.symm))))).keep K41 (ninS (Nat.ne_of_lt (Nat.lt_of_lt_of_le E_r0.lt (Nat.le_of_eq g4.symm))) (ninS (Nat.ne_of_lt (Nat.lt_of_lt_of_le f11.lt (Nat.le_of_eq g15.symm))) nin0))).keep K121 (ninS (Nat.ne_of_lt (Nat.lt_of_lt_of_le E_r0.lt (Nat.le_of_eq g4.symm))) (ninS (Nat.ne_of_lt (Nat.lt_of_lt_of_le f11.lt (Nat.le_of_eq g15.symm))) nin0)))
      have f168 := (((((((((F_maxNames_r0.ext E4).other W7 (Or.inr (sn_15 hw))).ext E15).other W18 (Or.inr (sn_16 hw))).other W24 (Or.inl (Nat.ne_of_lt (Nat.lt_of_lt_of_le E_r0.lt (Nat.le_of_eq g4.symm))))).other W29 (Or.inl (Nat.ne_of_lt (Nat.lt_of_lt_of_le E_r0.lt (Nat.le_of_eq g4.symm))))).other W34 (Or.inl (Nat.ne_of_lt (Nat.lt_of_lt_of_le E_r0.lt (Nat.le_of_eq g4.symm))))).keep K41 (ninS (Nat.ne_of_lt (Nat.lt_of_lt_of_le E_r0.lt (Nat.le_of_eq g4.symm))) (ninS (Nat.ne_of_lt (Nat.lt_of_lt_of_le f11.lt (Nat.le_of_eq g15.symm))) nin0))).keep K121 (ninS (Nat.ne_of_lt (Nat.lt_of_lt_of_le E_r0.lt (Nat.le_of_eq g4.symm))) (ninS (Nat.ne_of_lt (Nat.lt_of_lt_of_le f11.lt (Nat.le_of_eq g15.symm))) nin0)))
      have f169 := (((((((((F_maxBytes_r0.ext E4).other W7 (Or.inr (sn_17 hw))).ext E15).other W18 (Or.inr (sn_18 hw))).other W24 (Or.inl (Nat.ne_of_lt (Nat.lt_of_lt_of_le E_r0.lt (Nat.le_of_eq g4.symm))))).other W29 (Or.inl (Nat.ne_of_lt (Nat.lt_of_lt_of_le E_r0.lt (Nat.le_of_eq g4.symm))))).other W34 (Or.inl (Nat.ne_of_lt (Nat.lt_of_lt_of_le E_r0.lt (Nat.le_of_eq g4.symm))))).keep K41 (ninS (Nat.ne_of_lt (Nat.lt_of_lt_of_le E_r0.lt (Nat.le_of_eq g4.symm))) (ninS (Nat.ne_of_lt (Nat.lt_of_lt_of_le f11.lt (Nat.le_of_eq g15.symm))) nin0))).keep K121 (ninS (Nat.ne_of_lt (Nat.lt_of_lt_of_le E_r0.lt (Nat.le_of_eq g4.symm))) (ninS (Nat.ne_of_lt (Nat.lt_of_lt_of_le f11.lt (Nat.le_of_eq g15.symm))) nin0)))
      have f170 := (f130.keep K121 (ninS (Nat.ne_of_lt (Nat.lt_of_lt_of_le E_r0.lt (Nat.le_of_eq g4.symm))) (ninS (Nat.ne_of_lt (Nat.lt_of_lt_of_le f11.lt (Nat.le_of_eq g15.symm))) nin0)))
      have f171 := (f131.keep K121)
      have f172 := (f132.keep K121 (ninS (Nat.ne_of_lt (Nat.lt_of_lt_of_le E_r0.lt (Nat.le_of_eq g4.symm))) (ninS (Nat.ne_of_lt (Nat.lt_of_lt_of_le f11.lt (Nat.le_of_eq g15.symm))) nin0)))
      have f173 := (f133.keep K121)
      refine own_out X163 Bd.notSynchronized Bd.returns (none) (fun _ => rfl) (by decide) (by decide) ?_ fun fs hr => ?_
      · rw [e163]; exact Or.inr (Or.inr (Or.inr (Or.inr (Or.inr ((⟨b4, k4, b15, k15, rfl, N121, ((((((((((Keep.refl h0 [r0]).ext E4).wr W7 (Or.inl (List.mem_of_getElem? (i := 0) rfl))).ext E15).wr W18 (Or.inl (List.mem_of_getElem? (i := 0) rfl))).wr W24 (Or.inr sz_b4)).wr W29 (Or.inr sz_b4)).wr W34 (Or.inr sz_b4)).trans K41 (allS (Or.inr sz_b4) (allS (Or.inr sz_b15) all0))).trans K121 (allS (Or.inr sz_b4) (allS (Or.inr sz_b15) all0))), sz_b4, sz_b15, (Nat.ne_of_lt (Nat.lt_of_lt_of_le f14.lt (Nat.le_of_eq g15.symm))), f161, f164, f165, f166, f167, f168, f169, f170, p121_0, f171, f172, p121_1, f173⟩))))))
      · exact X163.returnOut hx Bd.returns (hb hby d7_115) hr
def Q_7_2o (Z : State) (r0 bA sA : Addr) (kS : ClassId) (u s0 s1 s2 s3 mN mB : Int32) (oA : Addr) (kO : ClassId) (cA : Addr) (kC : ClassId) (o0 o1 c0 c1 : Int32) (lim0 : Addr) (h0 : Heap) (n0 : Nat) (v : Option Value) (h : Heap) (L : List Loc) : Prop := (v = none ∧ Fr n0 L ∧ Keep h0 h [r0, oA, cA] ∧ Fld Z h r0 cS0 "count" "I" (.int 2) ∧ Fld Z h r0 cS0 "used" "I" (.int u) ∧ Fld Z h r0 cS0 "bytes" "[B" (.ref bA) ∧ Fld Z h r0 cS0 "starts" "[I" (.ref sA) ∧ Fld Z h r0 cS0 "limit" "[B" (.ref lim0) ∧ Fld Z h r0 cS0 "maxNames" "I" (.int mN) ∧ Fld Z h r0 cS0 "maxBytes" "I" (.int mB) ∧ Fld Z h r0 cS0 "order" "[I" (.ref oA) ∧ Arv Z h oA kO .int (256 : Int32) [(.int 1), (.int 0)] (.int 0) ∧ Exa Z h oA "[I" ∧ Fld Z h r0 cS0 "scratch" "[I" (.ref cA) ∧ Arv Z h cA kC .int (256 : Int32) [(.int 0), (.int 1)] (.int 0) ∧ Exa Z h cA "[I") ∨ (v = none ∧ Fr n0 L ∧ Keep h0 h [r0, oA, cA] ∧ Fld Z h r0 cS0 "count" "I" (.int 2) ∧ Fld Z h r0 cS0 "used" "I" (.int u) ∧ Fld Z h r0 cS0 "bytes" "[B" (.ref bA) ∧ Fld Z h r0 cS0 "starts" "[I" (.ref sA) ∧ Fld Z h r0 cS0 "limit" "[B" (.ref lim0) ∧ Fld Z h r0 cS0 "maxNames" "I" (.int mN) ∧ Fld Z h r0 cS0 "maxBytes" "I" (.int mB) ∧ Fld Z h r0 cS0 "order" "[I" (.ref oA) ∧ Arv Z h oA kO .int (256 : Int32) [(.int 0), (.int 1)] (.int 0) ∧ Exa Z h oA "[I" ∧ Fld Z h r0 cS0 "scratch" "[I" (.ref cA) ∧ Arv Z h cA kC .int (256 : Int32) [(.int 0), (.int 1)] (.int 0) ∧ Exa Z h cA "[I")
theorem rm7_2o (l : Launch) (Z : State) (a0 : Array Value) (hw : own_HW a0 Z) (ws : List Jvm.Cond) (r0 bA sA : Addr) (kS : ClassId) (u s0 s1 s2 s3 mN mB : Int32) (oA : Addr) (kO : ClassId) (cA : Addr) (kC : ClassId) (o0 o1 c0 c1 : Int32) (lim0 : Addr) (h0 : Heap) (n0 : Nat) (Z0 : n0 ≤ h0.size) (E_r0 : Exa Z h0 r0 cS0) (F_count_r0 : Fld Z h0 r0 cS0 "count" "I" (.int 2)) (F_used_r0 : Fld Z h0 r0 cS0 "used" "I" (.int u)) (F_bytes_r0 : Fld Z h0 r0 cS0 "bytes" "[B" (.ref bA)) (B_bA : own_B Z h0 bA (4096 : Int32)) (E_bA : Exa Z h0 bA "[B") (F_starts_r0 : Fld Z h0 r0 cS0 "starts" "[I" (.ref sA)) (V_sA : Arv Z h0 sA kS .int (256 : Int32) [(.int s0), (.int s1), (.int s2), (.int s3)] (.int 0)) (E_sA : Exa Z h0 sA "[I") (F_maxNames_r0 : Fld Z h0 r0 cS0 "maxNames" "I" (.int mN)) (F_maxBytes_r0 : Fld Z h0 r0 cS0 "maxBytes" "I" (.int mB)) (F_order_r0 : Fld Z h0 r0 cS0 "order" "[I" (.ref oA)) (V_oA : Arv Z h0 oA kO .int (256 : Int32) [(.int o0), (.int o1)] (.int 0)) (E_oA : Exa Z h0 oA "[I") (F_scratch_r0 : Fld Z h0 r0 cS0 "scratch" "[I" (.ref cA)) (V_cA : Arv Z h0 cA kC .int (256 : Int32) [(.int c0), (.int c1)] (.int 0)) (E_cA : Exa Z h0 cA "[I") (F_limit_r0 : Fld Z h0 r0 cS0 "limit" "[B" (.ref lim0)) (hp0 : s0.toInt ≤ s1.toInt ∧ s1.toInt ≤ s0.toInt + 3 ∧ s1.toInt ≤ u.toInt ∧ u.toInt ≤ s1.toInt + 3 ∧ 0 ≤ s0.toInt ∧ u.toInt ≤ 50) (ge_oA : n0 ≤ oA) (ne_r0_oA : r0 ≠ oA) (ne_bA_oA : bA ≠ oA) (ne_sA_oA : sA ≠ oA) (ne_cA_oA : cA ≠ oA) (ge_cA : n0 ≤ cA) (ne_r0_cA : r0 ≠ cA) (ne_bA_cA : bA ≠ cA) (ne_sA_cA : sA ≠ cA) (ne_oA_cA : oA ≠ cA) :
    own_M l Z (⟨cS0, "sort", "()V"⟩ : MethodName) prog_6_method_6_code 3 none ws ({ frames := 5, cells := 0, slots := 0, locals := 78 } : Room) #[(.ref r0)] h0 (Q_7_2o Z r0 bA sA kS u s0 s1 s2 s3 mN mB oA kO cA kC o0 o1 c0 c1 lim0 h0 n0) := by
  refine own_in cS0 rfl (plainFor_of_name pn_com_example_measurewright_measurewright_cli_NameBatch) ?_
  intro p e s m below meth c s₁ Bd hml hZ hh hx hby hown X0 e0
  have N0 := Fr.nil n0
  refine own_start (ef_7 m r0) ?_
  refine own_aF X0 hx hZ hown hw 16 rfl e0 F_order_r0 hby d7_0 rfl d7_1 fun T1 X1 e1 => ?_
  refine own_by (fun t q => own_alen X1 hx hZ e1 V_oA hby d7_4 q) ?_
  refine own_aF X1 hx hZ hown hw 36 rfl e1 F_count_r0 hby d7_5 rfl d7_6 fun T2 X2 e2 => ?_
  refine own_by (fun t q => oJy X2 hx hby 9 34 d7_9 (flt (by decide : ¬ ((256 : Int32) < (2 : Int32)))).2.1 (by decide) (by decide) (oIc X2 hx hby d7_34 (XS.istoreN X2.here hx rfl (hb hby d7_35) rfl (l' := #[rv r0, iv 0, .unset]) rfl (oIn X2 hx hby d7_36 rfl q)))) ?_
  refine own_aF X2 hx hZ hown hw 36 rfl e2 F_count_r0 hby d7_37 rfl d7_38 fun T3 X3 e3 => ?_
  refine own_by (fun t q => oJn X3 hx hby d7_41 (tlt (by decide : (0 : Int32) < (2 : Int32))).2.1 q) ?_
  refine own_aF X3 hx hZ hown hw 16 rfl e3 F_order_r0 hby d7_44 rfl d7_45 fun T4 X4 e4 => ?_
  refine own_by (fun t q => oIn X4 hx hby d7_48 rfl (oIn X4 hx hby d7_49 rfl q)) ?_
  refine own_stI X4 hx hZ e4 V_oA hby ⟨by decide, by decide⟩ 0 rfl (Nat.le_of_ble_eq_true rfl) N0 ge_oA d7_50 fun T5 h5 X5 e5 W5 Vr5 N5 => ?_
  have V5 : Arv Z h5 oA kO .int (256 : Int32) [(.int 0), (.int o1)] (.int 0) := Vr5
  have f6 := (F_count_r0.other W5 (Or.inl ne_r0_oA))
  refine own_by (fun t q => XS.iinc X5.here hx rfl (hb hby d7_51) rfl (l' := #[rv r0, iv 1, .unset]) rfl (oGo X5 hx hby 54 36 d7_54 (by decide) (by decide) (oIn X5 hx hby d7_36 rfl q))) ?_
  refine own_aF X5 hx hZ hown hw 36 rfl e5 f6 hby d7_37 rfl d7_38 fun T7 X7 e7 => ?_
  have f8 := (F_order_r0.other W5 (Or.inl ne_r0_oA))
  refine own_by (fun t q => oJn X7 hx hby d7_41 (tlt (by decide : (1 : Int32) < (2 : Int32))).2.1 q) ?_
  refine own_aF X7 hx hZ hown hw 16 rfl e7 f8 hby d7_44 rfl d7_45 fun T9 X9 e9 => ?_
  refine own_by (fun t q => oIn X9 hx hby d7_48 rfl (oIn X9 hx hby d7_49 rfl q)) ?_
  refine own_stI X9 hx hZ e9 V5 hby ⟨by decide, by decide⟩ 1 rfl (Nat.le_of_ble_eq_true rfl) N5 ge_oA d7_50 fun T10 h10 X10 e10 W10 Vr10 N10 => ?_
  have V10 : Arv Z h10 oA kO .int (256 : Int32) [(.int 0), (.int 1)] (.int 0) := Vr10
  have f11 := (f6.other W10 (Or.inl ne_r0_oA))
  refine own_by (fun t q => XS.iinc X10.here hx rfl (hb hby d7_51) rfl (l' := #[rv r0, iv 2, .unset]) rfl (oGo X10 hx hby 54 36 d7_54 (by decide) (by decide) (oIn X10 hx hby d7_36 rfl q))) ?_
  refine own_aF X10 hx hZ hown hw 36 rfl e10 f11 hby d7_37 rfl d7_38 fun T12 X12 e12 => ?_
  refine own_by (fun t q => oJy X12 hx hby 41 57 d7_41 (flt (by decide : ¬ ((2 : Int32) < (2 : Int32)))).2.1 (by decide) (by decide) (oIc X12 hx hby d7_57 (XS.istoreN X12.here hx rfl (hb hby d7_58) rfl (l' := #[rv r0, iv 1, .unset]) rfl (oIn X12 hx hby d7_59 rfl q)))) ?_
  refine own_aF X12 hx hZ hown hw 36 rfl e12 f11 hby d7_60 rfl d7_61 fun T13 X13 e13 => ?_
  refine own_by (fun t q => oJn X13 hx hby d7_64 (tlt (by decide : (1 : Int32) < (2 : Int32))).2.1 (oIc X13 hx hby d7_67 (XS.istoreN X13.here hx rfl (hb hby d7_68) rfl (l' := #[rv r0, iv 1, iv 0]) rfl (oIn X13 hx hby d7_69 rfl q)))) ?_
  refine own_aF X13 hx hZ hown hw 36 rfl e13 f11 hby d7_70 rfl d7_71 fun T14 X14 e14 => ?_
  refine own_by (fun t q => oIn X14 hx hby d7_74 rfl (XS.isub X14.here hx rfl (hb hby d7_75) rfl (oJn X14 hx hby d7_76 (tlt (by decide : (0 : Int32) < (1 : Int32))).2.1 (oAn X14 hx hby d7_79 rfl rfl (oIn X14 hx hby d7_80 rfl (oIn X14 hx hby d7_81 rfl q)))))) ?_
  refine own_by (fun t q => oIn X14 hx hby d7_82 rfl (XS.iadd X14.here hx rfl (hb hby d7_83) rfl (oIn X14 hx hby d7_84 rfl (oIc X14 hx hby d7_85 (oIn X14 hx hby d7_86 rfl (XS.imul X14.here hx rfl (hb hby d7_87) rfl q)))))) ?_
  refine own_by (fun t q => XS.iadd X14.here hx rfl (hb hby d7_88) rfl q) ?_
  refine own_aF X14 hx hZ hown hw 36 rfl e14 f11 hby d7_89 rfl d7_90 fun T15 X15 e15 => ?_
  refine own_cK 3 (rm8_f l Z a0 hw [] (2 : Int32) (2 : Int32) h10 n0 (Nat.le_trans (Nat.le_trans Z0 (Keep.of_wr W5).1) (Keep.of_wr W10).1) (by decide : ¬ ((2 : Int32) < (2 : Int32)))) X15 hx hZ hown hw 58 59 60 61 rfl rfl rfl rfl [(.int 2), (.int 2)] [(.int 1), (.int 0), (.ref r0)] hby d7_93 hml (lenOf pd_2 rfl) e15 rfl (Nat.le_refl _) (by decide) fun _ T16 L16 X16 hQ16 => ?_
  obtain ⟨rfl, N16q, e16⟩ := hQ16
  have N16 := Fr.app N10 N16q
  have f18 := ((E_r0.wr W5).wr W10)
  have f19 := ((F_used_r0.other W5 (Or.inl ne_r0_oA)).other W10 (Or.inl ne_r0_oA))
  have f20 := ((F_bytes_r0.other W5 (Or.inl ne_r0_oA)).other W10 (Or.inl ne_r0_oA))
  have f21 := ((B_bA.other W5 ne_bA_oA).other W10 ne_bA_oA)
  have f22 := ((E_bA.wr W5).wr W10)
  have f23 := ((F_starts_r0.other W5 (Or.inl ne_r0_oA)).other W10 (Or.inl ne_r0_oA))
  have f24 := ((V_sA.other W5 ne_sA_oA).other W10 ne_sA_oA)
  have f25 := ((E_sA.wr W5).wr W10)
  have f26 := (f8.other W10 (Or.inl ne_r0_oA))
  have f27 := ((E_oA.wr W5).wr W10)
  have f28 := ((F_scratch_r0.other W5 (Or.inl ne_r0_oA)).other W10 (Or.inl ne_r0_oA))
  have f29 := ((V_cA.other W5 ne_cA_oA).other W10 ne_cA_oA)
  have f30 := ((E_cA.wr W5).wr W10)
  refine own_cP 0 (rm9_2 l Z a0 hw [] r0 bA sA kS u s0 s1 s2 s3 oA kO cA kC c0 c1 h10 n0 (Nat.le_trans (Nat.le_trans Z0 (Keep.of_wr W5).1) (Keep.of_wr W10).1) f18 f11 f19 f20 f21 f22 f23 f24 f25 f26 V10 f27 f28 f29 f30 hp0 ge_cA ne_r0_cA ne_bA_cA ne_sA_cA ne_oA_cA ge_oA ne_r0_oA ne_cA_oA) X16 hx hZ hown hw 62 63 3 64 4 65 rfl rfl rfl rfl rfl rfl r0 f18 [(.int 0), (.int 1), (.int 2)] [] hby d7_96 hml (lenOf pd_1 rfl) e16 rfl (Nat.le_refl _) (by decide) fun _ T17 L17 X17 hQ17 => ?_
  rcases hQ17 with ⟨rfl, N17q, K17, p17_0, p17_1⟩ | ⟨rfl, N17q, K17, p17_0, p17_1⟩
  · have pl17 := (allS (P := fun x => ∃ cell : Cell, h10[x]? = some cell ∧ cell.vm.isStatics = false) (own_ns f27) (allS (P := fun x => ∃ cell : Cell, h10[x]? = some cell ∧ cell.vm.isStatics = false) (own_ns f30) all0))
    have N17 := Fr.app N16 N17q
    have f31 := (f11.keep K17 (ninS ne_r0_oA (ninS ne_r0_cA nin0)))
    refine own_by (fun t q => oIn X17 hx hby d7_99 rfl (oIc X17 hx hby d7_100 (oIn X17 hx hby d7_101 rfl (XS.imul X17.here hx rfl (hb hby d7_102) rfl (XS.iadd X17.here hx rfl (hb hby d7_103) rfl (XS.istoreN X17.here hx rfl (hb hby d7_104) rfl (l' := #[rv r0, iv 1, iv 2]) rfl q)))))) ?_
    refine own_by (fun t q => oGo X17 hx hby 105 69 d7_105 (by decide) (by decide) (oIn X17 hx hby d7_69 rfl q)) ?_
    refine own_aF X17 hx hZ hown hw 36 rfl rfl f31 hby d7_70 rfl d7_71 fun T32 X32 e32 => ?_
    refine own_by (fun t q => oIn X32 hx hby d7_74 rfl (XS.isub X32.here hx rfl (hb hby d7_75) rfl (oJy X32 hx hby 76 108 d7_76 (flt (by decide : ¬ ((2 : Int32) < (1 : Int32)))).2.1 (by decide) (by decide) (oIn X32 hx hby d7_108 rfl (oIc X32 hx hby d7_109 (XS.imul X32.here hx rfl (hb hby d7_110) rfl q)))))) ?_
    refine own_by (fun t q => XS.istoreN X32.here hx rfl (hb hby d7_111) rfl (l' := #[rv r0, iv 2, iv 2]) rfl (oGo X32 hx hby 112 59 d7_112 (by decide) (by decide) (oIn X32 hx hby d7_59 rfl q))) ?_
    refine own_aF X32 hx hZ hown hw 36 rfl e32 f31 hby d7_60 rfl d7_61 fun T33 X33 e33 => ?_
    refine own_by (fun t q => oJy X33 hx hby 64 115 d7_64 (flt (by decide : ¬ ((2 : Int32) < (2 : Int32)))).2.1 (by decide) (by decide) q) ?_
    have f34 := (f19.keep K17 (ninS ne_r0_oA (ninS ne_r0_cA nin0)))
    have f35 := (f20.keep K17 (ninS ne_r0_oA (ninS ne_r0_cA nin0)))
    have f36 := (f23.keep K17 (ninS ne_r0_oA (ninS ne_r0_cA nin0)))
    have f37 := (((F_limit_r0.other W5 (Or.inl ne_r0_oA)).other W10 (Or.inl ne_r0_oA)).keep K17 (ninS ne_r0_oA (ninS ne_r0_cA nin0)))
    have f38 := (((F_maxNames_r0.other W5 (Or.inl ne_r0_oA)).other W10 (Or.inl ne_r0_oA)).keep K17 (ninS ne_r0_oA (ninS ne_r0_cA nin0)))
    have f39 := (((F_maxBytes_r0.other W5 (Or.inl ne_r0_oA)).other W10 (Or.inl ne_r0_oA)).keep K17 (ninS ne_r0_oA (ninS ne_r0_cA nin0)))
    have f40 := (f26.keep K17 (ninS ne_r0_oA (ninS ne_r0_cA nin0)))
    have f41 := (f27.keep K17)
    have f42 := (f28.keep K17 (ninS ne_r0_oA (ninS ne_r0_cA nin0)))
    have f43 := (f30.keep K17)
    refine own_out X33 Bd.notSynchronized Bd.returns (none) (fun _ => rfl) (by decide) (by decide) ?_ fun fs hr => ?_
    · rw [e33]; exact Or.inl (⟨rfl, N17, ((((Keep.refl h0 [r0, oA, cA]).wr W5 (Or.inl (List.mem_of_getElem? (i := 1) rfl))).wr W10 (Or.inl (List.mem_of_getElem? (i := 1) rfl))).trans K17 (allS (Or.inl (List.mem_of_getElem? (i := 1) rfl)) (allS (Or.inl (List.mem_of_getElem? (i := 2) rfl)) all0))), f31, f34, f35, f36, f37, f38, f39, f40, p17_0, f41, f42, p17_1, f43⟩)
    · exact X33.returnOut hx Bd.returns (hb hby d7_115) hr
  · have pl17 := (allS (P := fun x => ∃ cell : Cell, h10[x]? = some cell ∧ cell.vm.isStatics = false) (own_ns f27) (allS (P := fun x => ∃ cell : Cell, h10[x]? = some cell ∧ cell.vm.isStatics = false) (own_ns f30) all0))
    have N17 := Fr.app N16 N17q
    have f44 := (f11.keep K17 (ninS ne_r0_oA (ninS ne_r0_cA nin0)))
    refine own_by (fun t q => oIn X17 hx hby d7_99 rfl (oIc X17 hx hby d7_100 (oIn X17 hx hby d7_101 rfl (XS.imul X17.here hx rfl (hb hby d7_102) rfl (XS.iadd X17.here hx rfl (hb hby d7_103) rfl (XS.istoreN X17.here hx rfl (hb hby d7_104) rfl (l' := #[rv r0, iv 1, iv 2]) rfl q)))))) ?_
    refine own_by (fun t q => oGo X17 hx hby 105 69 d7_105 (by decide) (by decide) (oIn X17 hx hby d7_69 rfl q)) ?_
    refine own_aF X17 hx hZ hown hw 36 rfl rfl f44 hby d7_70 rfl d7_71 fun T45 X45 e45 => ?_
    refine own_by (fun t q => oIn X45 hx hby d7_74 rfl (XS.isub X45.here hx rfl (hb hby d7_75) rfl (oJy X45 hx hby 76 108 d7_76 (flt (by decide : ¬ ((2 : Int32) < (1 : Int32)))).2.1 (by decide) (by decide) (oIn X45 hx hby d7_108 rfl (oIc X45 hx hby d7_109 (XS.imul X45.here hx rfl (hb hby d7_110) rfl q)))))) ?_
    refine own_by (fun t q => XS.istoreN X45.here hx rfl (hb hby d7_111) rfl (l' := #[rv r0, iv 2, iv 2]) rfl (oGo X45 hx hby 112 59 d7_112 (by decide) (by decide) (oIn X45 hx hby d7_59 rfl q))) ?_
    refine own_aF X45 hx hZ hown hw 36 rfl e45 f44 hby d7_60 rfl d7_61 fun T46 X46 e46 => ?_
    refine own_by (fun t q => oJy X46 hx hby 64 115 d7_64 (flt (by decide : ¬ ((2 : Int32) < (2 : Int32)))).2.1 (by decide) (by decide) q) ?_
    have f47 := (f19.keep K17 (ninS ne_r0_oA (ninS ne_r0_cA nin0)))
    have f48 := (f20.keep K17 (ninS ne_r0_oA (ninS ne_r0_cA nin0)))
    have f49 := (f23.keep K17 (ninS ne_r0_oA (ninS ne_r0_cA nin0)))
    have f50 := (((F_limit_r0.other W5 (Or.inl ne_r0_oA)).other W10 (Or.inl ne_r0_oA)).keep K17 (ninS ne_r0_oA (ninS ne_r0_cA nin0)))
    have f51 := (((F_maxNames_r0.other W5 (Or.inl ne_r0_oA)).other W10 (Or.inl ne_r0_oA)).keep K17 (ninS ne_r0_oA (ninS ne_r0_cA nin0)))
    have f52 := (((F_maxBytes_r0.other W5 (Or.inl ne_r0_oA)).other W10 (Or.inl ne_r0_oA)).keep K17 (ninS ne_r0_oA (ninS ne_r0_cA nin0)))
    have f53 := (f26.keep K17 (ninS ne_r0_oA (ninS ne_r0_cA nin0)))
    have f54 := (f27.keep K17)
    have f55 := (f28.keep K17 (ninS ne_r0_oA (ninS ne_r0_cA nin0)))
    have f56 := (f30.keep K17)
    refine own_out X46 Bd.notSynchronized Bd.returns (none) (fun _ => rfl) (by decide) (by decide) ?_ fun fs hr => ?_
    · rw [e46]; exact Or.inr ((⟨rfl, N17, ((((Keep.refl h0 [r0, oA, cA]).wr W5 (Or.inl (List.mem_of_getElem? (i := 1) rfl))).wr W10 (Or.inl (List.mem_of_getElem? (i := 1) rfl))).trans K17 (allS (Or.inl (List.mem_of_getElem? (i := 1) rfl)) (allS (Or.inl (List.mem_of_getElem? (i := 2) rfl)) all0))), f44, f47, f48, f49, f50, f51, f52, f53, p17_0, f54, f55, p17_1, f56⟩))
    · exact X46.returnOut hx Bd.returns (hb hby d7_115) hr
theorem pd_9 : parseMethodDescriptor "()V" = some ⟨[], none⟩ := by decide +kernel
theorem sn_19 {Z : State} {a0 : Array Value} (hw : own_HW a0 Z) : Jvm.RoadKit.slotOf Z cS0 "count" "I" ≠ Jvm.RoadKit.slotOf Z cS0 "limit" "[B" := slot_ne (Or.inl (own_at hw 37 rfl)) (Or.inl (own_at hw 30 rfl)) (by decide) (t := .int) (t' := (.array .byte)) (by decide) (by decide)
theorem sn_20 {Z : State} {a0 : Array Value} (hw : own_HW a0 Z) : Jvm.RoadKit.slotOf Z cS0 "scratch" "[I" ≠ Jvm.RoadKit.slotOf Z cS0 "limit" "[B" := slot_ne (Or.inl (own_at hw 19 rfl)) (Or.inl (own_at hw 30 rfl)) (by decide) (t := (.array .int)) (t' := (.array .byte)) (by decide) (by decide)
theorem sn_21 {Z : State} {a0 : Array Value} (hw : own_HW a0 Z) : Jvm.RoadKit.slotOf Z cS0 "order" "[I" ≠ Jvm.RoadKit.slotOf Z cS0 "limit" "[B" := slot_ne (Or.inl (own_at hw 17 rfl)) (Or.inl (own_at hw 30 rfl)) (by decide) (t := (.array .int)) (t' := (.array .byte)) (by decide) (by decide)
theorem sn_22 {Z : State} {a0 : Array Value} (hw : own_HW a0 Z) : Jvm.RoadKit.slotOf Z cS0 "starts" "[I" ≠ Jvm.RoadKit.slotOf Z cS0 "limit" "[B" := slot_ne (Or.inl (own_at hw 15 rfl)) (Or.inl (own_at hw 30 rfl)) (by decide) (t := (.array .int)) (t' := (.array .byte)) (by decide) (by decide)
theorem sn_23 {Z : State} {a0 : Array Value} (hw : own_HW a0 Z) : Jvm.RoadKit.slotOf Z cS0 "used" "I" ≠ Jvm.RoadKit.slotOf Z cS0 "limit" "[B" := slot_ne (Or.inl (own_at hw 39 rfl)) (Or.inl (own_at hw 30 rfl)) (by decide) (t := .int) (t' := (.array .byte)) (by decide) (by decide)
theorem sn_24 {Z : State} {a0 : Array Value} (hw : own_HW a0 Z) : Jvm.RoadKit.slotOf Z cS0 "bytes" "[B" ≠ Jvm.RoadKit.slotOf Z cS0 "limit" "[B" := slot_ne (Or.inl (own_at hw 12 rfl)) (Or.inl (own_at hw 30 rfl)) (by decide) (t := (.array .byte)) (t' := (.array .byte)) (by decide) (by decide)
theorem sn_25 {Z : State} {a0 : Array Value} (hw : own_HW a0 Z) : Jvm.RoadKit.slotOf Z cS0 "count" "I" ≠ Jvm.RoadKit.slotOf Z cS0 "used" "I" := slot_ne (Or.inl (own_at hw 37 rfl)) (Or.inl (own_at hw 39 rfl)) (by decide) (t := .int) (t' := .int) (by decide) (by decide)
theorem sn_26 {Z : State} {a0 : Array Value} (hw : own_HW a0 Z) : Jvm.RoadKit.slotOf Z cS0 "bytes" "[B" ≠ Jvm.RoadKit.slotOf Z cS0 "count" "I" := slot_ne (Or.inl (own_at hw 12 rfl)) (Or.inl (own_at hw 37 rfl)) (by decide) (t := (.array .byte)) (t' := .int) (by decide) (by decide)
theorem sn_27 {Z : State} {a0 : Array Value} (hw : own_HW a0 Z) : Jvm.RoadKit.slotOf Z cS0 "bytes" "[B" ≠ Jvm.RoadKit.slotOf Z cS0 "used" "I" := slot_ne (Or.inl (own_at hw 12 rfl)) (Or.inl (own_at hw 39 rfl)) (by decide) (t := (.array .byte)) (t' := .int) (by decide) (by decide)
theorem sn_28 {Z : State} {a0 : Array Value} (hw : own_HW a0 Z) : Jvm.RoadKit.slotOf Z cS0 "starts" "[I" ≠ Jvm.RoadKit.slotOf Z cS0 "count" "I" := slot_ne (Or.inl (own_at hw 15 rfl)) (Or.inl (own_at hw 37 rfl)) (by decide) (t := (.array .int)) (t' := .int) (by decide) (by decide)
theorem sn_29 {Z : State} {a0 : Array Value} (hw : own_HW a0 Z) : Jvm.RoadKit.slotOf Z cS0 "starts" "[I" ≠ Jvm.RoadKit.slotOf Z cS0 "used" "I" := slot_ne (Or.inl (own_at hw 15 rfl)) (Or.inl (own_at hw 39 rfl)) (by decide) (t := (.array .int)) (t' := .int) (by decide) (by decide)
theorem sn_30 {Z : State} {a0 : Array Value} (hw : own_HW a0 Z) : Jvm.RoadKit.slotOf Z cS0 "maxNames" "I" ≠ Jvm.RoadKit.slotOf Z cS0 "limit" "[B" := slot_ne (Or.inr (own_at hw 21 rfl)) (Or.inl (own_at hw 30 rfl)) (by decide) (t := .int) (t' := (.array .byte)) (by decide) (by decide)
theorem sn_31 {Z : State} {a0 : Array Value} (hw : own_HW a0 Z) : Jvm.RoadKit.slotOf Z cS0 "maxNames" "I" ≠ Jvm.RoadKit.slotOf Z cS0 "count" "I" := slot_ne (Or.inr (own_at hw 21 rfl)) (Or.inl (own_at hw 37 rfl)) (by decide) (t := .int) (t' := .int) (by decide) (by decide)
theorem sn_32 {Z : State} {a0 : Array Value} (hw : own_HW a0 Z) : Jvm.RoadKit.slotOf Z cS0 "maxNames" "I" ≠ Jvm.RoadKit.slotOf Z cS0 "used" "I" := slot_ne (Or.inr (own_at hw 21 rfl)) (Or.inl (own_at hw 39 rfl)) (by decide) (t := .int) (t' := .int) (by decide) (by decide)
theorem sn_33 {Z : State} {a0 : Array Value} (hw : own_HW a0 Z) : Jvm.RoadKit.slotOf Z cS0 "maxBytes" "I" ≠ Jvm.RoadKit.slotOf Z cS0 "limit" "[B" := slot_ne (Or.inr (own_at hw 23 rfl)) (Or.inl (own_at hw 30 rfl)) (by decide) (t := .int) (t' := (.array .byte)) (by decide) (by decide)
theorem sn_34 {Z : State} {a0 : Array Value} (hw : own_HW a0 Z) : Jvm.RoadKit.slotOf Z cS0 "maxBytes" "I" ≠ Jvm.RoadKit.slotOf Z cS0 "count" "I" := slot_ne (Or.inr (own_at hw 23 rfl)) (Or.inl (own_at hw 37 rfl)) (by decide) (t := .int) (t' := .int) (by decide) (by decide)
theorem sn_35 {Z : State} {a0 : Array Value} (hw : own_HW a0 Z) : Jvm.RoadKit.slotOf Z cS0 "maxBytes" "I" ≠ Jvm.RoadKit.slotOf Z cS0 "used" "I" := slot_ne (Or.inr (own_at hw 23 rfl)) (Or.inl (own_at hw 39 rfl)) (by decide) (t := .int) (t' := .int) (by decide) (by decide)
theorem sn_36 {Z : State} {a0 : Array Value} (hw : own_HW a0 Z) : Jvm.RoadKit.slotOf Z cS0 "order" "[I" ≠ Jvm.RoadKit.slotOf Z cS0 "count" "I" := slot_ne (Or.inl (own_at hw 17 rfl)) (Or.inl (own_at hw 37 rfl)) (by decide) (t := (.array .int)) (t' := .int) (by decide) (by decide)
theorem sn_37 {Z : State} {a0 : Array Value} (hw : own_HW a0 Z) : Jvm.RoadKit.slotOf Z cS0 "order" "[I" ≠ Jvm.RoadKit.slotOf Z cS0 "used" "I" := slot_ne (Or.inl (own_at hw 17 rfl)) (Or.inl (own_at hw 39 rfl)) (by decide) (t := (.array .int)) (t' := .int) (by decide) (by decide)
theorem sn_38 {Z : State} {a0 : Array Value} (hw : own_HW a0 Z) : Jvm.RoadKit.slotOf Z cS0 "scratch" "[I" ≠ Jvm.RoadKit.slotOf Z cS0 "count" "I" := slot_ne (Or.inl (own_at hw 19 rfl)) (Or.inl (own_at hw 37 rfl)) (by decide) (t := (.array .int)) (t' := .int) (by decide) (by decide)
theorem sn_39 {Z : State} {a0 : Array Value} (hw : own_HW a0 Z) : Jvm.RoadKit.slotOf Z cS0 "scratch" "[I" ≠ Jvm.RoadKit.slotOf Z cS0 "used" "I" := slot_ne (Or.inl (own_at hw 19 rfl)) (Or.inl (own_at hw 39 rfl)) (by decide) (t := (.array .int)) (t' := .int) (by decide) (by decide)
theorem d6_0 : decode prog_6_method_8_code 0 = .ok (.aload_n 0, 1) := by decide +kernel
theorem d6_1 : decode prog_6_method_8_code 1 = .ok (.invokevirtual 82, 3) := by decide +kernel
theorem d6_4 : decode prog_6_method_8_code 4 = .ok (.aload_n 0, 1) := by decide +kernel
theorem d6_5 : decode prog_6_method_8_code 5 = .ok (.getfield 30, 3) := by decide +kernel
theorem d6_8 : decode prog_6_method_8_code 8 = .ok (.iconst 2, 1) := by decide +kernel
theorem d6_9 : decode prog_6_method_8_code 9 = .ok (.idiv, 1) := by decide +kernel
theorem d6_10 : decode prog_6_method_8_code 10 = .ok (.istore_n 1, 1) := by decide +kernel
theorem d6_11 : decode prog_6_method_8_code 11 = .ok (.aload_n 0, 1) := by decide +kernel
theorem d6_12 : decode prog_6_method_8_code 12 = .ok (.aload_n 0, 1) := by decide +kernel
theorem d6_13 : decode prog_6_method_8_code 13 = .ok (.getfield 7, 3) := by decide +kernel
theorem d6_16 : decode prog_6_method_8_code 16 = .ok (.aload_n 0, 1) := by decide +kernel
theorem d6_17 : decode prog_6_method_8_code 17 = .ok (.getfield 13, 3) := by decide +kernel
theorem d6_20 : decode prog_6_method_8_code 20 = .ok (.aload_n 0, 1) := by decide +kernel
theorem d6_21 : decode prog_6_method_8_code 21 = .ok (.getfield 17, 3) := by decide +kernel
theorem d6_24 : decode prog_6_method_8_code 24 = .ok (.iload_n 1, 1) := by decide +kernel
theorem d6_25 : decode prog_6_method_8_code 25 = .ok (.iaload, 1) := by decide +kernel
theorem d6_26 : decode prog_6_method_8_code 26 = .ok (.iaload, 1) := by decide +kernel
theorem d6_27 : decode prog_6_method_8_code 27 = .ok (.aload_n 0, 1) := by decide +kernel
theorem d6_28 : decode prog_6_method_8_code 28 = .ok (.aload_n 0, 1) := by decide +kernel
theorem d6_29 : decode prog_6_method_8_code 29 = .ok (.getfield 17, 3) := by decide +kernel
theorem d6_32 : decode prog_6_method_8_code 32 = .ok (.iload_n 1, 1) := by decide +kernel
theorem d6_33 : decode prog_6_method_8_code 33 = .ok (.iaload, 1) := by decide +kernel
theorem d6_34 : decode prog_6_method_8_code 34 = .ok (.invokevirtual 74, 3) := by decide +kernel
theorem d6_37 : decode prog_6_method_8_code 37 = .ok (.invokestatic 78, 3) := by decide +kernel
theorem d6_40 : decode prog_6_method_8_code 40 = .ok (.putfield 36, 3) := by decide +kernel
theorem d6_43 : decode prog_6_method_8_code 43 = .ok (.iconst 0, 1) := by decide +kernel
theorem d6_44 : decode prog_6_method_8_code 44 = .ok (.istore_n 2, 1) := by decide +kernel
theorem d6_45 : decode prog_6_method_8_code 45 = .ok (.iload_n 2, 1) := by decide +kernel
theorem d6_46 : decode prog_6_method_8_code 46 = .ok (.aload_n 0, 1) := by decide +kernel
theorem d6_47 : decode prog_6_method_8_code 47 = .ok (.getfield 30, 3) := by decide +kernel
theorem d6_50 : decode prog_6_method_8_code 50 = .ok (.if_icmp .ge 21, 3) := by decide +kernel
theorem d6_53 : decode prog_6_method_8_code 53 = .ok (.aload_n 0, 1) := by decide +kernel
theorem d6_54 : decode prog_6_method_8_code 54 = .ok (.getfield 20, 3) := by decide +kernel
theorem d6_57 : decode prog_6_method_8_code 57 = .ok (.aload_n 0, 1) := by decide +kernel
theorem d6_58 : decode prog_6_method_8_code 58 = .ok (.getfield 17, 3) := by decide +kernel
theorem d6_61 : decode prog_6_method_8_code 61 = .ok (.iload_n 2, 1) := by decide +kernel
theorem d6_62 : decode prog_6_method_8_code 62 = .ok (.iaload, 1) := by decide +kernel
theorem d6_63 : decode prog_6_method_8_code 63 = .ok (.iload_n 2, 1) := by decide +kernel
theorem d6_64 : decode prog_6_method_8_code 64 = .ok (.iastore, 1) := by decide +kernel
theorem d6_65 : decode prog_6_method_8_code 65 = .ok (.iinc 2 1, 3) := by decide +kernel
theorem d6_68 : decode prog_6_method_8_code 68 = .ok (.goto (-23), 3) := by decide +kernel
theorem d6_71 : decode prog_6_method_8_code 71 = .ok (.iconst 0, 1) := by decide +kernel
theorem d6_72 : decode prog_6_method_8_code 72 = .ok (.istore_n 2, 1) := by decide +kernel
theorem d6_73 : decode prog_6_method_8_code 73 = .ok (.iconst 0, 1) := by decide +kernel
theorem d6_74 : decode prog_6_method_8_code 74 = .ok (.istore_n 3, 1) := by decide +kernel
theorem d6_75 : decode prog_6_method_8_code 75 = .ok (.iconst 0, 1) := by decide +kernel
theorem d6_76 : decode prog_6_method_8_code 76 = .ok (.istore 4, 2) := by decide +kernel
theorem d6_78 : decode prog_6_method_8_code 78 = .ok (.iload 4, 2) := by decide +kernel
theorem d6_80 : decode prog_6_method_8_code 80 = .ok (.aload_n 0, 1) := by decide +kernel
theorem d6_81 : decode prog_6_method_8_code 81 = .ok (.getfield 30, 3) := by decide +kernel
theorem d6_84 : decode prog_6_method_8_code 84 = .ok (.if_icmp .ge 71, 3) := by decide +kernel
theorem d6_87 : decode prog_6_method_8_code 87 = .ok (.aload_n 0, 1) := by decide +kernel
theorem d6_88 : decode prog_6_method_8_code 88 = .ok (.getfield 20, 3) := by decide +kernel
theorem d6_91 : decode prog_6_method_8_code 91 = .ok (.iload 4, 2) := by decide +kernel
theorem d6_93 : decode prog_6_method_8_code 93 = .ok (.iaload, 1) := by decide +kernel
theorem d6_94 : decode prog_6_method_8_code 94 = .ok (.iload_n 1, 1) := by decide +kernel
theorem d6_95 : decode prog_6_method_8_code 95 = .ok (.if_icmp .ge 54, 3) := by decide +kernel
theorem d6_98 : decode prog_6_method_8_code 98 = .ok (.aload_n 0, 1) := by decide +kernel
theorem d6_99 : decode prog_6_method_8_code 99 = .ok (.getfield 13, 3) := by decide +kernel
theorem d6_102 : decode prog_6_method_8_code 102 = .ok (.iload 4, 2) := by decide +kernel
theorem d6_104 : decode prog_6_method_8_code 104 = .ok (.iaload, 1) := by decide +kernel
theorem d6_105 : decode prog_6_method_8_code 105 = .ok (.istore 5, 2) := by decide +kernel
theorem d6_107 : decode prog_6_method_8_code 107 = .ok (.aload_n 0, 1) := by decide +kernel
theorem d6_108 : decode prog_6_method_8_code 108 = .ok (.iload 4, 2) := by decide +kernel
theorem d6_110 : decode prog_6_method_8_code 110 = .ok (.invokevirtual 74, 3) := by decide +kernel
theorem d6_113 : decode prog_6_method_8_code 113 = .ok (.iload 5, 2) := by decide +kernel
theorem d6_115 : decode prog_6_method_8_code 115 = .ok (.isub, 1) := by decide +kernel
theorem d6_116 : decode prog_6_method_8_code 116 = .ok (.istore 6, 2) := by decide +kernel
theorem d6_118 : decode prog_6_method_8_code 118 = .ok (.aload_n 0, 1) := by decide +kernel
theorem d6_119 : decode prog_6_method_8_code 119 = .ok (.getfield 7, 3) := by decide +kernel
theorem d6_122 : decode prog_6_method_8_code 122 = .ok (.iload 5, 2) := by decide +kernel
theorem d6_124 : decode prog_6_method_8_code 124 = .ok (.aload_n 0, 1) := by decide +kernel
theorem d6_125 : decode prog_6_method_8_code 125 = .ok (.getfield 7, 3) := by decide +kernel
theorem d6_128 : decode prog_6_method_8_code 128 = .ok (.iload_n 3, 1) := by decide +kernel
theorem d6_129 : decode prog_6_method_8_code 129 = .ok (.iload 6, 2) := by decide +kernel
theorem d6_131 : decode prog_6_method_8_code 131 = .ok (.invokestatic 64, 3) := by decide +kernel
theorem d6_134 : decode prog_6_method_8_code 134 = .ok (.aload_n 0, 1) := by decide +kernel
theorem d6_135 : decode prog_6_method_8_code 135 = .ok (.getfield 13, 3) := by decide +kernel
theorem d6_138 : decode prog_6_method_8_code 138 = .ok (.iload_n 2, 1) := by decide +kernel
theorem d6_139 : decode prog_6_method_8_code 139 = .ok (.iinc 2 1, 3) := by decide +kernel
theorem d6_142 : decode prog_6_method_8_code 142 = .ok (.iload_n 3, 1) := by decide +kernel
theorem d6_143 : decode prog_6_method_8_code 143 = .ok (.iastore, 1) := by decide +kernel
theorem d6_144 : decode prog_6_method_8_code 144 = .ok (.iload_n 3, 1) := by decide +kernel
theorem d6_145 : decode prog_6_method_8_code 145 = .ok (.iload 6, 2) := by decide +kernel
theorem d6_147 : decode prog_6_method_8_code 147 = .ok (.iadd, 1) := by decide +kernel
theorem d6_148 : decode prog_6_method_8_code 148 = .ok (.istore_n 3, 1) := by decide +kernel
theorem d6_149 : decode prog_6_method_8_code 149 = .ok (.iinc 4 1, 3) := by decide +kernel
theorem d6_152 : decode prog_6_method_8_code 152 = .ok (.goto (-74), 3) := by decide +kernel
theorem d6_155 : decode prog_6_method_8_code 155 = .ok (.aload_n 0, 1) := by decide +kernel
theorem d6_156 : decode prog_6_method_8_code 156 = .ok (.iload_n 2, 1) := by decide +kernel
theorem d6_157 : decode prog_6_method_8_code 157 = .ok (.putfield 30, 3) := by decide +kernel
theorem d6_160 : decode prog_6_method_8_code 160 = .ok (.aload_n 0, 1) := by decide +kernel
theorem d6_161 : decode prog_6_method_8_code 161 = .ok (.iload_n 3, 1) := by decide +kernel
theorem d6_162 : decode prog_6_method_8_code 162 = .ok (.putfield 33, 3) := by decide +kernel
theorem d6_165 : decode prog_6_method_8_code 165 = .ok (.return_, 1) := by decide +kernel
theorem ef_6 (m : MethodId) (x0 : Addr) : entryFrame m #[(.ref x0)] 7 = mkF m 0 #[.val (.ref x0), .unset, .unset, .unset, .unset, .unset, .unset] [] := by first | (simp [entryFrame, mkF, argsToLocals, Value.category]; done) | rfl
def Q_6_2 (Z : State) (r0 bA sA : Addr) (kS : ClassId) (u s0 s1 s2 s3 mN mB : Int32) (oZ : Addr) (kZ : ClassId) (cZ : Addr) (h0 : Heap) (n0 : Nat) (v : Option Value) (h : Heap) (L : List Loc) : Prop := ∃ lim : Addr, ∃ zl : Int32, ∃ u2 : Int32, ∃ g0 : Int32, ∃ g1 : Int32, ∃ d0 : Int32, ∃ d1 : Int32, ∃ oA : Addr, ∃ kO : ClassId, ∃ cA : Addr, ∃ kC : ClassId, v = none ∧ Fr n0 L ∧ Keep h0 h [r0, bA, sA] ∧ h0.size ≤ lim ∧ h0.size ≤ oA ∧ h0.size ≤ cA ∧ oA ≠ cA ∧ lim ≠ oA ∧ lim ≠ cA ∧ Exa Z h r0 cS0 ∧ Fld Z h r0 cS0 "count" "I" (.int 1) ∧ Fld Z h r0 cS0 "used" "I" (.int u2) ∧ Fld Z h r0 cS0 "limit" "[B" (.ref lim) ∧ Fld Z h r0 cS0 "bytes" "[B" (.ref bA) ∧ own_B Z h bA (4096 : Int32) ∧ Exa Z h bA "[B" ∧ Fld Z h r0 cS0 "starts" "[I" (.ref sA) ∧ Arv Z h sA kS .int (256 : Int32) [(.int 0), (.int s1), (.int s2), (.int s3)] (.int 0) ∧ Exa Z h sA "[I" ∧ Fld Z h r0 cS0 "maxNames" "I" (.int mN) ∧ Fld Z h r0 cS0 "maxBytes" "I" (.int mB) ∧ own_B Z h lim zl ∧ Exa Z h lim "[B" ∧ Fld Z h r0 cS0 "order" "[I" (.ref oA) ∧ Arv Z h oA kO .int (256 : Int32) [(.int g0), (.int g1)] (.int 0) ∧ Exa Z h oA "[I" ∧ Fld Z h r0 cS0 "scratch" "[I" (.ref cA) ∧ Arv Z h cA kC .int (256 : Int32) [(.int d0), (.int d1)] (.int 0) ∧ Exa Z h cA "[I" ∧ (0 ≤ u2.toInt ∧ u2.toInt ≤ 3) ∧ 0 ≤ zl.toInt ∧ zl.toInt ≤ 3
theorem rm6_2 (l : Launch) (Z : State) (a0 : Array Value) (hw : own_HW a0 Z) (ws : List Jvm.Cond) (r0 bA sA : Addr) (kS : ClassId) (u s0 s1 s2 s3 mN mB : Int32) (oZ : Addr) (kZ : ClassId) (cZ : Addr) (h0 : Heap) (n0 : Nat) (Z0 : n0 ≤ h0.size) (E_r0 : Exa Z h0 r0 cS0) (F_count_r0 : Fld Z h0 r0 cS0 "count" "I" (.int 2)) (F_used_r0 : Fld Z h0 r0 cS0 "used" "I" (.int u)) (F_bytes_r0 : Fld Z h0 r0 cS0 "bytes" "[B" (.ref bA)) (B_bA : own_B Z h0 bA (4096 : Int32)) (E_bA : Exa Z h0 bA "[B") (F_starts_r0 : Fld Z h0 r0 cS0 "starts" "[I" (.ref sA)) (V_sA : Arv Z h0 sA kS .int (256 : Int32) [(.int s0), (.int s1), (.int s2), (.int s3)] (.int 0)) (E_sA : Exa Z h0 sA "[I") (F_maxNames_r0 : Fld Z h0 r0 cS0 "maxNames" "I" (.int mN)) (F_maxBytes_r0 : Fld Z h0 r0 cS0 "maxBytes" "I" (.int mB)) (F_limit_r0 : Fld Z h0 r0 cS0 "limit" "[B" .null) (F_order_r0 : Fld Z h0 r0 cS0 "order" "[I" (.ref oZ)) (V_oZ : Arv Z h0 oZ kZ .int (0 : Int32) [] (.int 0)) (F_scratch_r0 : Fld Z h0 r0 cS0 "scratch" "[I" (.ref cZ)) (hp0 : s0.toInt ≤ s1.toInt ∧ s1.toInt ≤ s0.toInt + 3 ∧ s1.toInt ≤ u.toInt ∧ u.toInt ≤ s1.toInt + 3 ∧ 0 ≤ s0.toInt ∧ u.toInt ≤ 50) (ge_r0 : n0 ≤ r0) (ne_sA_r0 : sA ≠ r0) (ne_bA_r0 : bA ≠ r0) (ne_oZ_r0 : oZ ≠ r0) (ge_bA : n0 ≤ bA) (ne_r0_bA : r0 ≠ bA) (ne_sA_bA : sA ≠ bA) (ge_sA : n0 ≤ sA) (ne_r0_sA : r0 ≠ sA) (ne_bA_sA : bA ≠ sA) :
    own_M l Z (⟨cS0, "halve", "()V"⟩ : MethodName) prog_6_method_8_code 7 none ws ({ frames := 6, cells := 3, slots := 515, locals := 92 } : Room) #[(.ref r0)] h0 (Q_6_2 Z r0 bA sA kS u s0 s1 s2 s3 mN mB oZ kZ cZ h0 n0) := by
  refine own_in cS0 rfl (plainFor_of_name pn_com_example_measurewright_measurewright_cli_NameBatch) ?_
  intro p e s m below meth c s₁ Bd hml hZ hh hx hby hown X0 e0
  have N0 := Fr.nil n0
  refine own_start (ef_6 m r0) ?_
  refine own_by (fun t q => oAn X0 hx hby d6_0 rfl rfl q) ?_
  refine own_cW 0 (rm7_2 l Z a0 hw [] r0 bA sA kS u s0 s1 s2 s3 mN mB oZ kZ cZ h0 n0 Z0 E_r0 F_count_r0 F_used_r0 F_bytes_r0 B_bA E_bA F_starts_r0 V_sA E_sA F_maxNames_r0 F_maxBytes_r0 F_limit_r0 F_order_r0 V_oZ F_scratch_r0 hp0 ge_r0 ne_sA_r0 ne_bA_r0 ne_oZ_r0) X0 hx hZ hown hw 53 54 56 55 4 57 rfl rfl rfl rfl rfl rfl r0 E_r0 [] [] hby d6_1 hml (lenOf pd_9 rfl) e0 rfl (Nat.le_refl _) (by decide) fun _ T1 L1 X1 hQ1 => ?_
  rcases hQ1 with ⟨oA_1, kO_1, cA_1, kC_1, rfl, N1q, K1, p1_0, p1_1, p1_2, p1_3, p1_4, p1_5, p1_6, p1_7, p1_8, p1_9, p1_10, p1_11, p1_12, p1_13, p1_14, p1_15⟩ | ⟨oA_1, kO_1, cA_1, kC_1, rfl, N1q, K1, p1_0, p1_1, p1_2, p1_3, p1_4, p1_5, p1_6, p1_7, p1_8, p1_9, p1_10, p1_11, p1_12, p1_13, p1_14, p1_15⟩
  · have pl1 := (allS (P := fun x => ∃ cell : Cell, h0[x]? = some cell ∧ cell.vm.isStatics = false) (own_ns E_r0) all0)
    have g_oA_1 : n0 ≤ oA_1 := Nat.le_trans Z0 p1_0
    have sz_oA_1 : h0.size ≤ oA_1 := Nat.le_trans (Keep.refl h0 []).1 p1_0
    have g_cA_1 : n0 ≤ cA_1 := Nat.le_trans Z0 p1_1
    have sz_cA_1 : h0.size ≤ cA_1 := Nat.le_trans (Keep.refl h0 []).1 p1_1
    have N1 := Fr.app N0 N1q
    refine own_aF X1 hx hZ hown hw 36 rfl rfl p1_3 hby d6_4 rfl d6_5 fun T2 X2 e2 => ?_
    refine own_by (fun t q => oIc X2 hx hby d6_8 (XS.idiv X2.here hx rfl (hb hby d6_9) rfl (by decide) (XS.istoreN X2.here hx rfl (hb hby d6_10) rfl (l' := #[rv r0, iv 1, .unset, .unset, .unset, .unset, .unset]) rfl (oAn X2 hx hby d6_11 rfl rfl q)))) ?_
    refine own_aF X2 hx hZ hown hw 11 rfl e2 p1_5 hby d6_12 rfl d6_13 fun T3 X3 e3 => ?_
    refine own_aF X3 hx hZ hown hw 14 rfl e3 p1_6 hby d6_16 rfl d6_17 fun T4 X4 e4 => ?_
    refine own_aF X4 hx hZ hown hw 16 rfl e4 p1_10 hby d6_20 rfl d6_21 fun T5 X5 e5 => ?_
    have f6 := (V_sA.keep K1 (ninS ne_sA_r0 nin0))
    refine own_by (fun t q => oIn X5 hx hby d6_24 rfl (own_ldI X5 hx hZ e5 p1_11 hby ⟨by decide, by decide⟩ (v := (.int 0)) rfl d6_25 (own_ldI X5 hx hZ e5 f6 hby ⟨by decide, by decide⟩ (v := (.int s0)) rfl d6_26 (oAn X5 hx hby d6_27 rfl rfl q)))) ?_
    refine own_aF X5 hx hZ hown hw 16 rfl e5 p1_10 hby d6_28 rfl d6_29 fun T7 X7 e7 => ?_
    have f9 := (E_r0.keep K1)
    have f10 := (E_sA.keep K1)
    refine own_by (fun t q => oIn X7 hx hby d6_32 rfl (own_ldI X7 hx hZ e7 p1_11 hby ⟨by decide, by decide⟩ (v := (.int 0)) rfl d6_33 q)) ?_
    refine own_cP 3 (rm11_20 l Z a0 hw [] r0 sA kS u s0 s1 s2 s3 T1.heap n0 (Nat.le_trans Z0 K1.1) f9 p1_3 p1_4 p1_6 f6 f10) X7 hx hZ hown hw 70 71 3 72 4 73 rfl rfl rfl rfl rfl rfl r0 f9 [(.int 0)] [(.int s0), (.ref bA), (.ref r0)] hby d6_34 hml (lenOf pd_7 rfl) e7 rfl (Nat.le_refl _) (by decide) fun _ T8 L8 X8 hQ8 => ?_
    obtain ⟨rfl, N8q, e8⟩ := hQ8
    have N8 := Fr.app N1 N8q
    have f12 := (B_bA.keep K1 (ninS ne_bA_r0 nin0))
    refine own_cK 1 (rm15 l Z a0 hw [] bA s0 s1 (4096 : Int32) T1.heap n0 (Nat.le_trans Z0 K1.1) f12 (by have w0 := own_lits; omega) (by have w0 := own_lits; omega)) X8 hx hZ hown hw 86 87 76 88 rfl rfl rfl rfl [(.ref bA), (.int s0), (.int s1)] [(.ref r0)] hby d6_37 hml (lenOf pd_6 rfl) e8 rfl (Nat.le_refl _) (by decide) fun _ T11 L11 X11 hQ11 => ?_
    have f13 := (V_oZ.keep K1 (ninS ne_oZ_r0 nin0))
    obtain ⟨ar_11, rfl, N11q, K11, p11_0, p11_1, p11_2⟩ := hQ11
    have g_ar_11 : n0 ≤ ar_11 := Nat.le_trans (Nat.le_trans Z0 K1.1) p11_0
    have sz_ar_11 : h0.size ≤ ar_11 := Nat.le_trans ((Keep.refl h0 [r0]).trans K1 (allS (Or.inl (List.mem_of_getElem? (i := 0) rfl)) all0)).1 p11_0
    have N11 := Fr.app N8 N11q
    have f14 := (f9.keep K11)
    have f15 := (p1_7.keep K11 nin0)
    refine own_pF X11 hx hZ hown hw 29 30 3 rfl rfl rfl rfl f15 f14 (ty := (.array .byte)) (by decide) rfl rfl N11 ge_r0 hby d6_40 fun T16 h16 X16 e16 W16 Fw16 N16 => ?_
    have f17 := ((p1_3.keep K11 nin0).other W16 (Or.inr (sn_19 hw)))
    refine own_by (fun t q => oIc X16 hx hby d6_43 (XS.istoreN X16.here hx rfl (hb hby d6_44) rfl (l' := #[rv r0, iv 1, iv 0, .unset, .unset, .unset, .unset]) rfl (oIn X16 hx hby d6_45 rfl q))) ?_
    refine own_aF X16 hx hZ hown hw 36 rfl e16 f17 hby d6_46 rfl d6_47 fun T18 X18 e18 => ?_
    have f19 := ((p1_13.keep K11 nin0).other W16 (Or.inr (sn_20 hw)))
    refine own_by (fun t q => oJn X18 hx hby d6_50 (tlt (by decide : (0 : Int32) < (2 : Int32))).2.1 q) ?_
    refine own_aF X18 hx hZ hown hw 18 rfl e18 f19 hby d6_53 rfl d6_54 fun T20 X20 e20 => ?_
    have f21 := ((p1_10.keep K11 nin0).other W16 (Or.inr (sn_21 hw)))
    refine own_aF X20 hx hZ hown hw 16 rfl e20 f21 hby d6_57 rfl d6_58 fun T22 X22 e22 => ?_
    have f23 := ((p1_11.keep K11 nin0).other W16 (Ne.symm (Nat.ne_of_lt (Nat.lt_of_lt_of_le E_r0.lt p1_0))))
    have f24 := ((p1_14.keep K11 nin0).other W16 (Ne.symm (Nat.ne_of_lt (Nat.lt_of_lt_of_le E_r0.lt p1_1))))
    refine own_by (fun t q => oIn X22 hx hby d6_61 rfl (own_ldI X22 hx hZ e22 f23 hby ⟨by decide, by decide⟩ (v := (.int 1)) rfl d6_62 (oIn X22 hx hby d6_63 rfl q))) ?_
    refine own_stI X22 hx hZ e22 f24 hby ⟨by decide, by decide⟩ 1 rfl (Nat.le_of_ble_eq_true rfl) N16 g_cA_1 d6_64 fun T25 h25 X25 e25 W25 Vr25 N25 => ?_
    have V25 : Arv Z h25 cA_1 kC_1 .int (256 : Int32) [(.int 0), (.int 0)] (.int 0) := Vr25
    have f26 := (f17.other W25 (Or.inl (Nat.ne_of_lt (Nat.lt_of_lt_of_le E_r0.lt p1_1))))
    refine own_by (fun t q => XS.iinc X25.here hx rfl (hb hby d6_65) rfl (l' := #[rv r0, iv 1, iv 1, .unset, .unset, .unset, .unset]) rfl (oGo X25 hx hby 68 45 d6_68 (by decide) (by decide) (oIn X25 hx hby d6_45 rfl q))) ?_
    refine own_aF X25 hx hZ hown hw 36 rfl e25 f26 hby d6_46 rfl d6_47 fun T27 X27 e27 => ?_
    have f28 := (f19.other W25 (Or.inl (Nat.ne_of_lt (Nat.lt_of_lt_of_le E_r0.lt p1_1))))
    refine own_by (fun t q => oJn X27 hx hby d6_50 (tlt (by decide : (1 : Int32) < (2 : Int32))).2.1 q) ?_
    refine own_aF X27 hx hZ hown hw 18 rfl e27 f28 hby d6_53 rfl d6_54 fun T29 X29 e29 => ?_
    have f30 := (f21.other W25 (Or.inl (Nat.ne_of_lt (Nat.lt_of_lt_of_le E_r0.lt p1_1))))
    refine own_aF X29 hx hZ hown hw 16 rfl e29 f30 hby d6_57 rfl d6_58 fun T31 X31 e31 => ?_
    have f32 := (f23.other W25 p1_2)
    refine own_by (fun t q => oIn X31 hx hby d6_61 rfl (own_ldI X31 hx hZ e31 f32 hby ⟨by decide, by decide⟩ (v := (.int 0)) rfl d6_62 (oIn X31 hx hby d6_63 rfl q))) ?_
    refine own_stI X31 hx hZ e31 V25 hby ⟨by decide, by decide⟩ 0 rfl (Nat.le_of_ble_eq_true rfl) N25 g_cA_1 d6_64 fun T33 h33 X33 e33 W33 Vr33 N33 => ?_
    have V33 : Arv Z h33 cA_1 kC_1 .int (256 : Int32) [(.int 1), (.int 0)] (.int 0) := Vr33
    have f34 := (f26.other W33 (Or.inl (Nat.ne_of_lt (Nat.lt_of_lt_of_le E_r0.lt p1_1))))
    refine own_by (fun t q => XS.iinc X33.here hx rfl (hb hby d6_65) rfl (l' := #[rv r0, iv 1, iv 2, .unset, .unset, .unset, .unset]) rfl (oGo X33 hx hby 68 45 d6_68 (by decide) (by decide) (oIn X33 hx hby d6_45 rfl q))) ?_
    refine own_aF X33 hx hZ hown hw 36 rfl e33 f34 hby d6_46 rfl d6_47 fun T35 X35 e35 => ?_
    refine own_by (fun t q => oJy X35 hx hby 50 71 d6_50 (flt (by decide : ¬ ((2 : Int32) < (2 : Int32)))).2.1 (by decide) (by decide) (oIc X35 hx hby d6_71 (XS.istoreN X35.here hx rfl (hb hby d6_72) rfl (l' := #[rv r0, iv 1, iv 0, .unset, .unset, .unset, .unset]) rfl (oIc X35 hx hby d6_73 (XS.istoreN X35.here hx rfl (hb hby d6_74) rfl (l' := #[rv r0, iv 1, iv 0, iv 0, .unset, .unset, .unset]) rfl (oIc X35 hx hby d6_75 q)))))) ?_
    refine own_by (fun t q => XS.istore X35.here hx rfl (hb hby d6_76) rfl (l' := #[rv r0, iv 1, iv 0, iv 0, iv 0, .unset, .unset]) rfl (oIl X35 hx hby d6_78 rfl q)) ?_
    refine own_aF X35 hx hZ hown hw 36 rfl e35 f34 hby d6_80 rfl d6_81 fun T36 X36 e36 => ?_
    have f37 := (f28.other W33 (Or.inl (Nat.ne_of_lt (Nat.lt_of_lt_of_le E_r0.lt p1_1))))
    refine own_by (fun t q => oJn X36 hx hby d6_84 (tlt (by decide : (0 : Int32) < (2 : Int32))).2.1 q) ?_
    refine own_aF X36 hx hZ hown hw 18 rfl e36 f37 hby d6_87 rfl d6_88 fun T38 X38 e38 => ?_
    refine own_by (fun t q => oIl X38 hx hby d6_91 rfl (own_ldI X38 hx hZ e38 V33 hby ⟨by decide, by decide⟩ (v := (.int 1)) rfl d6_93 (oIn X38 hx hby d6_94 rfl (oJy X38 hx hby 95 149 d6_95 (flt (by decide : ¬ ((1 : Int32) < (1 : Int32)))).2.1 (by decide) (by decide) (XS.iinc X38.here hx rfl (hb hby d6_149) rfl (l' := #[rv r0, iv 1, iv 0, iv 0, iv 1, .unset, .unset]) rfl (oGo X38 hx hby 152 78 d6_152 (by decide) (by decide) q)))))) ?_
    refine own_by (fun t q => oIl X38 hx hby d6_78 rfl q) ?_
    refine own_aF X38 hx hZ hown hw 36 rfl e38 f34 hby d6_80 rfl d6_81 fun T39 X39 e39 => ?_
    refine own_by (fun t q => oJn X39 hx hby d6_84 (tlt (by decide : (1 : Int32) < (2 : Int32))).2.1 q) ?_
    refine own_aF X39 hx hZ hown hw 18 rfl e39 f37 hby d6_87 rfl d6_88 fun T40 X40 e40 => ?_
    have f41 := ((((p1_6.keep K11 nin0).other W16 (Or.inr (sn_22 hw))).other W25 (Or.inl (Nat.ne_of_lt (Nat.lt_of_lt_of_le E_r0.lt p1_1)))).other W33 (Or.inl (Nat.ne_of_lt (Nat.lt_of_lt_of_le E_r0.lt p1_1))))
    refine own_by (fun t q => oIl X40 hx hby d6_91 rfl (own_ldI X40 hx hZ e40 V33 hby ⟨by decide, by decide⟩ (v := (.int 0)) rfl d6_93 (oIn X40 hx hby d6_94 rfl (oJn X40 hx hby d6_95 (tlt (by decide : (0 : Int32) < (1 : Int32))).2.1 q)))) ?_
    refine own_aF X40 hx hZ hown hw 14 rfl e40 f41 hby d6_98 rfl d6_99 fun T42 X42 e42 => ?_
    have f43 := ((((f6.keep K11 nin0).other W16 ne_sA_r0).other W25 (Nat.ne_of_lt (Nat.lt_of_lt_of_le V_sA.lt p1_1))).other W33 (Nat.ne_of_lt (Nat.lt_of_lt_of_le V_sA.lt p1_1)))
    have f45 := (((f14.wr W16).wr W25).wr W33)
    have f46 := ((((p1_4.keep K11 nin0).other W16 (Or.inr (sn_23 hw))).other W25 (Or.inl (Nat.ne_of_lt (Nat.lt_of_lt_of_le E_r0.lt p1_1)))).other W33 (Or.inl (Nat.ne_of_lt (Nat.lt_of_lt_of_le E_r0.lt p1_1))))
    have f47 := ((((f10.keep K11).wr W16).wr W25).wr W33)
    refine own_by (fun t q => oIl X42 hx hby d6_102 rfl (own_ldI X42 hx hZ e42 f43 hby ⟨by decide, by decide⟩ (v := (.int s1)) rfl d6_104 (XS.istore X42.here hx rfl (hb hby d6_105) rfl (l' := #[rv r0, iv 1, iv 0, iv 0, iv 1, iv s1, .unset]) rfl (oAn X42 hx hby d6_107 rfl rfl (oIl X42 hx hby d6_108 rfl q))))) ?_
    refine own_cP 0 (rm11_21 l Z a0 hw [] r0 sA kS u s0 s1 s2 s3 h33 n0 (Nat.le_trans (Nat.le_trans (Nat.le_trans (Nat.le_trans (Nat.le_trans Z0 K1.1) K11.1) (Keep.of_wr W16).1) (Keep.of_wr W25).1) (Keep.of_wr W33).1) f45 f34 f46 f41 f43 f47) X42 hx hZ hown hw 70 71 3 72 4 73 rfl rfl rfl rfl rfl rfl r0 f45 [(.int 1)] [] hby d6_110 hml (lenOf pd_7 rfl) e42 rfl (Nat.le_refl _) (by decide) fun _ T44 L44 X44 hQ44 => ?_
    obtain ⟨rfl, N44q, e44⟩ := hQ44
    have N44 := Fr.app N33 N44q
    have f48 := ((((p1_5.keep K11 nin0).other W16 (Or.inr (sn_24 hw))).other W25 (Or.inl (Nat.ne_of_lt (Nat.lt_of_lt_of_le E_r0.lt p1_1)))).other W33 (Or.inl (Nat.ne_of_lt (Nat.lt_of_lt_of_le E_r0.lt p1_1))))
    refine own_by (fun t q => oIl X44 hx hby d6_113 rfl (XS.isub X44.here hx rfl (hb hby d6_115) rfl (XS.istore X44.here hx rfl (hb hby d6_116) rfl (l' := #[rv r0, iv 1, iv 0, iv 0, iv 1, iv s1, iv (u - s1)]) rfl q))) ?_
    refine own_aF X44 hx hZ hown hw 11 rfl e44 f48 hby d6_118 rfl d6_119 fun T49 X49 e49 => ?_
    refine own_by (fun t q => oIl X49 hx hby d6_122 rfl q) ?_
    refine own_aF X49 hx hZ hown hw 11 rfl e49 f48 hby d6_124 rfl d6_125 fun T50 X50 e50 => ?_
    have f51 := ((((f12.keep K11 nin0).other W16 ne_bA_r0).other W25 (Nat.ne_of_lt (Nat.lt_of_lt_of_le B_bA.lt p1_1))).other W33 (Nat.ne_of_lt (Nat.lt_of_lt_of_le B_bA.lt p1_1)))
    have f52 := (((((E_bA.keep K1).keep K11).wr W16).wr W25).wr W33)
    obtain ⟨T53, h53, L53, X53, e53, N53, K53, Vr53, st53⟩ := own_bcp X50 hx hZ hown (own_at hw 45 rfl) (own_at hw 48 rfl) (own_at hw 46 rfl) (own_at hw 47 rfl) e50 f51 f51 (sp := s1) (dp := (0 : Int32)) (nn := (u - s1)) (by have w0 := own_lits; have w1a := c_isub u s1; have w1b := rng32 (u - s1); omega) N44 ge_bA (g := (mkF m 131 #[rv r0, iv 1, iv 0, iv 0, iv 1, iv s1, iv (u - s1)] [(.int (u - s1)), (.int 0), (.ref bA), (.int s1), (.ref bA)])) rfl (by rw [hml]; rfl) rfl (hb hby d6_131) (by decide) (W := 0) (Nat.le_refl _) (by decide)
    have pl53 := (allS (P := fun x => ∃ cell : Cell, h33[x]? = some cell ∧ cell.vm.isStatics = false) (own_ns f52) all0)
    have f54 := (f41.keep K53 (ninS ne_r0_bA nin0))
    refine own_by (fun t q => oIn X50 hx hby d6_128 rfl (oIl X50 hx hby d6_129 rfl (st53 _ q))) ?_
    refine own_aF X53 hx hZ hown hw 14 rfl e53 f54 hby d6_134 rfl d6_135 fun T55 X55 e55 => ?_
    have f56 := (f43.keep K53 (ninS ne_sA_bA nin0))
    refine own_by (fun t q => oIn X55 hx hby d6_138 rfl (XS.iinc X55.here hx rfl (hb hby d6_139) rfl (l' := #[rv r0, iv 1, iv 1, iv 0, iv 1, iv s1, iv (u - s1)]) rfl (oIn X55 hx hby d6_142 rfl q))) ?_
    refine own_stI X55 hx hZ e55 f56 hby ⟨by decide, by decide⟩ 0 rfl (Nat.le_of_ble_eq_true rfl) N53 ge_sA d6_143 fun T57 h57 X57 e57 W57 Vr57 N57 => ?_
    have V57 : Arv Z h57 sA kS .int (256 : Int32) [(.int 0), (.int s1), (.int s2), (.int s3)] (.int 0) := Vr57
    have f58 := ((f34.keep K53 (ninS ne_r0_bA nin0)).other W57 (Or.inl ne_r0_sA))
    refine own_by (fun t q => oIn X57 hx hby d6_144 rfl (oIl X57 hx hby d6_145 rfl (XS.iadd X57.here hx rfl (hb hby d6_147) rfl (XS.istoreN X57.here hx rfl (hb hby d6_148) rfl (l' := #[rv r0, iv 1, iv 1, iv ((0 : Int32) + (u - s1)), iv 1, iv s1, iv (u - s1)]) rfl (XS.iinc X57.here hx rfl (hb hby d6_149) rfl (l' := #[rv r0, iv 1, iv 1, iv ((0 : Int32) + (u - s1)), iv 2, iv s1, iv (u - s1)]) rfl (oGo X57 hx hby 152 78 d6_152 (by decide) (by decide) q)))))) ?_
    refine own_by (fun t q => oIl X57 hx hby d6_78 rfl q) ?_
    refine own_aF X57 hx hZ hown hw 36 rfl e57 f58 hby d6_80 rfl d6_81 fun T59 X59 e59 => ?_
    have f60 := ((f45.keep K53).wr W57)
    refine own_by (fun t q => oJy X59 hx hby 84 155 d6_84 (flt (by decide : ¬ ((2 : Int32) < (2 : Int32)))).2.1 (by decide) (by decide) (oAn X59 hx hby d6_155 rfl rfl (oIn X59 hx hby d6_156 rfl q))) ?_
    refine own_pF X59 hx hZ hown hw 36 37 3 rfl rfl rfl e59 f58 f60 (ty := .int) (by decide) rfl rfl N57 ge_r0 hby d6_157 fun T61 h61 X61 e61 W61 Fw61 N61 => ?_
    have f62 := (f60.wr W61)
    have f63 := (((f46.keep K53 (ninS ne_r0_bA nin0)).other W57 (Or.inl ne_r0_sA)).other W61 (Or.inr (sn_0 hw)))
    refine own_by (fun t q => oAn X61 hx hby d6_160 rfl rfl (oIn X61 hx hby d6_161 rfl q)) ?_
    refine own_pF X61 hx hZ hown hw 38 39 3 rfl rfl rfl e61 f63 f62 (ty := .int) (by decide) rfl rfl N61 ge_r0 hby d6_162 fun T64 h64 X64 e64 W64 Fw64 N64 => ?_
    have f65 := (f62.wr W64)
    have f66 := (Fw61.other W64 (Or.inr (sn_25 hw)))
    have f67 := ((((((Fw16.other W25 (Or.inl (Nat.ne_of_lt (Nat.lt_of_lt_of_le E_r0.lt p1_1)))).other W33 (Or.inl (Nat.ne_of_lt (Nat.lt_of_lt_of_le E_r0.lt p1_1)))).keep K53 (ninS ne_r0_bA nin0)).other W57 (Or.inl ne_r0_sA)).other W61 (Or.inr (sn_1 hw))).other W64 (Or.inr (sn_2 hw)))
    have f68 := ((((f48.keep K53 (ninS ne_r0_bA nin0)).other W57 (Or.inl ne_r0_sA)).other W61 (Or.inr (sn_26 hw))).other W64 (Or.inr (sn_27 hw)))
    have f69 := (((Vr53.other W57 ne_bA_sA).other W61 ne_bA_r0).other W64 ne_bA_r0)
    have f70 := ((((f52.keep K53).wr W57).wr W61).wr W64)
    have f71 := (((f54.other W57 (Or.inl ne_r0_sA)).other W61 (Or.inr (sn_28 hw))).other W64 (Or.inr (sn_29 hw)))
    have f72 := ((V57.other W61 ne_sA_r0).other W64 ne_sA_r0)
    have f73 := ((((f47.keep K53).wr W57).wr W61).wr W64)
    have f74 := ((((((((p1_8.keep K11 nin0).other W16 (Or.inr (sn_30 hw))).other W25 (Or.inl (Nat.ne_of_lt (Nat.lt_of_lt_of_le E_r0.lt p1_1)))).other W33 (Or.inl (Nat.ne_of_lt (Nat.lt_of_lt_of_le E_r0.lt p1_1)))).keep K53 (ninS ne_r0_bA nin0)).other W57 (Or.inl ne_r0_sA)).other W61 (Or.inr (sn_31 hw))).other W64 (Or.inr (sn_32 hw)))
    have f75 := ((((((((p1_9.keep K11 nin0).other W16 (Or.inr (sn_33 hw))).other W25 (Or.inl (Nat.ne_of_lt (Nat.lt_of_lt_of_le E_r0.lt p1_1)))).other W33 (Or.inl (Nat.ne_of_lt (Nat.lt_of_lt_of_le E_r0.lt p1_1)))).keep K53 (ninS ne_r0_bA nin0)).other W57 (Or.inl ne_r0_sA)).other W61 (Or.inr (sn_34 hw))).other W64 (Or.inr (sn_35 hw)))
    have f76 := (((((((p11_1.other W16 (Ne.symm (Nat.ne_of_lt (Nat.lt_of_lt_of_le f9.lt p11_0)))).other W25 (Ne.symm (Nat.ne_of_lt (Nat.lt_of_lt_of_le p1_14.lt p11_0)))).other W33 (Ne.symm (Nat.ne_of_lt (Nat.lt_of_lt_of_le p1_14.lt p11_0)))).keep K53 (ninS (Ne.symm (Nat.ne_of_lt (Nat.lt_of_lt_of_le f12.lt p11_0))) nin0)).other W57 (Ne.symm (Nat.ne_of_lt (Nat.lt_of_lt_of_le f6.lt p11_0)))).other W61 (Ne.symm (Nat.ne_of_lt (Nat.lt_of_lt_of_le f9.lt p11_0)))).other W64 (Ne.symm (Nat.ne_of_lt (Nat.lt_of_lt_of_le f9.lt p11_0))))
    have f77 := (((((((p11_2.wr W16).wr W25).wr W33).keep K53).wr W57).wr W61).wr W64)
    have f78 := (((((f30.other W33 (Or.inl (Nat.ne_of_lt (Nat.lt_of_lt_of_le E_r0.lt p1_1)))).keep K53 (ninS ne_r0_bA nin0)).other W57 (Or.inl ne_r0_sA)).other W61 (Or.inr (sn_36 hw))).other W64 (Or.inr (sn_37 hw)))
    have f79 := (((((f32.other W33 p1_2).keep K53 (ninS (Ne.symm (Nat.ne_of_lt (Nat.lt_of_lt_of_le B_bA.lt p1_0))) nin0)).other W57 (Ne.symm (Nat.ne_of_lt (Nat.lt_of_lt_of_le V_sA.lt p1_0)))).other W61 (Ne.symm (Nat.ne_of_lt (Nat.lt_of_lt_of_le E_r0.lt p1_0)))).other W64 (Ne.symm (Nat.ne_of_lt (Nat.lt_of_lt_of_le E_r0.lt p1_0))))
    have f80 := ((((((((p1_12.keep K11).wr W16).wr W25).wr W33).keep K53).wr W57).wr W61).wr W64)
    have f81 := ((((f37.keep K53 (ninS ne_r0_bA nin0)).other W57 (Or.inl ne_r0_sA)).other W61 (Or.inr (sn_38 hw))).other W64 (Or.inr (sn_39 hw)))
    have f82 := ((((V33.keep K53 (ninS (Ne.symm (Nat.ne_of_lt (Nat.lt_of_lt_of_le B_bA.lt p1_1))) nin0)).other W57 (Ne.symm (Nat.ne_of_lt (Nat.lt_of_lt_of_le V_sA.lt p1_1)))).other W61 (Ne.symm (Nat.ne_of_lt (Nat.lt_of_lt_of_le E_r0.lt p1_1)))).other W64 (Ne.symm (Nat.ne_of_lt (Nat.lt_of_lt_of_le E_r0.lt p1_1))))
    have f83 := ((((((((p1_15.keep K11).wr W16).wr W25).wr W33).keep K53).wr W57).wr W61).wr W64)
    refine own_out X64 Bd.notSynchronized Bd.returns (none) (fun _ => rfl) (by decide) (by decide) ?_ fun fs hr => ?_
    · rw [e64]; exact ⟨ar_11, (s1 - s0), ((0 : Int32) + (u - s1)), (1 : Int32), (0 : Int32), (1 : Int32), (0 : Int32), oA_1, kO_1, cA_1, kC_1, rfl, N64, ((((((((((Keep.refl h0 [r0, bA, sA]).trans K1 (allS (Or.inl (List.mem_of_getElem? (i := 0) rfl)) all0)).trans K11 all0).wr W16 (Or.inl (List.mem_of_getElem? (i := 0) rfl))).wr W25 (Or.inr sz_cA_1)).wr W33 (Or.inr sz_cA_1)).trans K53 (allS (Or.inl (List.mem_of_getElem? (i := 1) rfl)) all0)).wr W57 (Or.inl (List.mem_of_getElem? (i := 2) rfl))).wr W61 (Or.inl (List.mem_of_getElem? (i := 0) rfl))).wr W64 (Or.inl (List.mem_of_getElem? (i := 0) rfl))), sz_ar_11, sz_oA_1, sz_cA_1, p1_2, (Ne.symm (Nat.ne_of_lt (Nat.lt_of_lt_of_le p1_11.lt p11_0))), (Ne.symm (Nat.ne_of_lt (Nat.lt_of_lt_of_le p1_14.lt p11_0))), f65, f66, Fw64, f67, f68, f69, f70, f71, f72, f73, f74, f75, f76, f77, f78, f79, f80, f81, f82, f83, (by have w0 := own_lits; have w1a := c_isub u s1; have w1b := rng32 (u - s1); have w2a := c_iadd (0 : Int32) (u - s1); have w2b := rng32 ((0 : Int32) + (u - s1)); have w3a := c_isub s1 s0; have w3b := rng32 (s1 - s0); omega)⟩
    · exact X64.returnOut hx Bd.returns (hb hby d6_165) hr
  · have pl1 := (allS (P := fun x => ∃ cell : Cell, h0[x]? = some cell ∧ cell.vm.isStatics = false) (own_ns E_r0) all0)
    have g_oA_1 : n0 ≤ oA_1 := Nat.le_trans Z0 p1_0
    have sz_oA_1 : h0.size ≤ oA_1 := Nat.le_trans (Keep.refl h0 []).1 p1_0
    have g_cA_1 : n0 ≤ cA_1 := Nat.le_trans Z0 p1_1
    have sz_cA_1 : h0.size ≤ cA_1 := Nat.le_trans (Keep.refl h0 []).1 p1_1
    have N1 := Fr.app N0 N1q
    refine own_aF X1 hx hZ hown hw 36 rfl rfl p1_3 hby d6_4 rfl d6_5 fun T84 X84 e84 => ?_
    refine own_by (fun t q => oIc X84 hx hby d6_8 (XS.idiv X84.here hx rfl (hb hby d6_9) rfl (by decide) (XS.istoreN X84.here hx rfl (hb hby d6_10) rfl (l' := #[rv r0, iv 1, .unset, .unset, .unset, .unset, .unset]) rfl (oAn X84 hx hby d6_11 rfl rfl q)))) ?_
    refine own_aF X84 hx hZ hown hw 11 rfl e84 p1_5 hby d6_12 rfl d6_13 fun T85 X85 e85 => ?_
    refine own_aF X85 hx hZ hown hw 14 rfl e85 p1_6 hby d6_16 rfl d6_17 fun T86 X86 e86 => ?_
    refine own_aF X86 hx hZ hown hw 16 rfl e86 p1_10 hby d6_20 rfl d6_21 fun T87 X87 e87 => ?_
    have f88 := (V_sA.keep K1 (ninS ne_sA_r0 nin0))
    refine own_by (fun t q => oIn X87 hx hby d6_24 rfl (own_ldI X87 hx hZ e87 p1_11 hby ⟨by decide, by decide⟩ (v := (.int 1)) rfl d6_25 (own_ldI X87 hx hZ e87 f88 hby ⟨by decide, by decide⟩ (v := (.int s1)) rfl d6_26 (oAn X87 hx hby d6_27 rfl rfl q)))) ?_
    refine own_aF X87 hx hZ hown hw 16 rfl e87 p1_10 hby d6_28 rfl d6_29 fun T89 X89 e89 => ?_
    have f91 := (E_r0.keep K1)
    have f92 := (E_sA.keep K1)
    refine own_by (fun t q => oIn X89 hx hby d6_32 rfl (own_ldI X89 hx hZ e89 p1_11 hby ⟨by decide, by decide⟩ (v := (.int 1)) rfl d6_33 q)) ?_
    refine own_cP 3 (rm11_21 l Z a0 hw [] r0 sA kS u s0 s1 s2 s3 T1.heap n0 (Nat.le_trans Z0 K1.1) f91 p1_3 p1_4 p1_6 f88 f92) X89 hx hZ hown hw 70 71 3 72 4 73 rfl rfl rfl rfl rfl rfl r0 f91 [(.int 1)] [(.int s1), (.ref bA), (.ref r0)] hby d6_34 hml (lenOf pd_7 rfl) e89 rfl (Nat.le_refl _) (by decide) fun _ T90 L90 X90 hQ90 => ?_
    obtain ⟨rfl, N90q, e90⟩ := hQ90
    have N90 := Fr.app N1 N90q
    have f94 := (B_bA.keep K1 (ninS ne_bA_r0 nin0))
    refine own_cK 1 (rm15 l Z a0 hw [] bA s1 u (4096 : Int32) T1.heap n0 (Nat.le_trans Z0 K1.1) f94 (by have w0 := own_lits; omega) (by have w0 := own_lits; omega)) X90 hx hZ hown hw 86 87 76 88 rfl rfl rfl rfl [(.ref bA), (.int s1), (.int u)] [(.ref r0)] hby d6_37 hml (lenOf pd_6 rfl) e90 rfl (Nat.le_refl _) (by decide) fun _ T93 L93 X93 hQ93 => ?_
    have f95 := (V_oZ.keep K1 (ninS ne_oZ_r0 nin0))
    obtain ⟨ar_93, rfl, N93q, K93, p93_0, p93_1, p93_2⟩ := hQ93
    have g_ar_93 : n0 ≤ ar_93 := Nat.le_trans (Nat.le_trans Z0 K1.1) p93_0
    have sz_ar_93 : h0.size ≤ ar_93 := Nat.le_trans ((Keep.refl h0 [r0]).trans K1 (allS (Or.inl (List.mem_of_getElem? (i := 0) rfl)) all0)).1 p93_0
    have N93 := Fr.app N90 N93q
    have f96 := (f91.keep K93)
    have f97 := (p1_7.keep K93 nin0)
    refine own_pF X93 hx hZ hown hw 29 30 3 rfl rfl rfl rfl f97 f96 (ty := (.array .byte)) (by decide) rfl rfl N93 ge_r0 hby d6_40 fun T98 h98 X98 e98 W98 Fw98 N98 => ?_
    have f99 := ((p1_3.keep K93 nin0).other W98 (Or.inr (sn_19 hw)))
    refine own_by (fun t q => oIc X98 hx hby d6_43 (XS.istoreN X98.here hx rfl (hb hby d6_44) rfl (l' := #[rv r0, iv 1, iv 0, .unset, .unset, .unset, .unset]) rfl (oIn X98 hx hby d6_45 rfl q))) ?_
    refine own_aF X98 hx hZ hown hw 36 rfl e98 f99 hby d6_46 rfl d6_47 fun T100 X100 e100 => ?_
    have f101 := ((p1_13.keep K93 nin0).other W98 (Or.inr (sn_20 hw)))
    refine own_by (fun t q => oJn X100 hx hby d6_50 (tlt (by decide : (0 : Int32) < (2 : Int32))).2.1 q) ?_
    refine own_aF X100 hx hZ hown hw 18 rfl e100 f101 hby d6_53 rfl d6_54 fun T102 X102 e102 => ?_
    have f103 := ((p1_10.keep K93 nin0).other W98 (Or.inr (sn_21 hw)))
    refine own_aF X102 hx hZ hown hw 16 rfl e102 f103 hby d6_57 rfl d6_58 fun T104 X104 e104 => ?_
    have f105 := ((p1_11.keep K93 nin0).other W98 (Ne.symm (Nat.ne_of_lt (Nat.lt_of_lt_of_le E_r0.lt p1_0))))
    have f106 := ((p1_14.keep K93 nin0).other W98 (Ne.symm (Nat.ne_of_lt (Nat.lt_of_lt_of_le E_r0.lt p1_1))))
    refine own_by (fun t q => oIn X104 hx hby d6_61 rfl (own_ldI X104 hx hZ e104 f105 hby ⟨by decide, by decide⟩ (v := (.int 0)) rfl d6_62 (oIn X104 hx hby d6_63 rfl q))) ?_
    refine own_stI X104 hx hZ e104 f106 hby ⟨by decide, by decide⟩ 0 rfl (Nat.le_of_ble_eq_true rfl) N98 g_cA_1 d6_64 fun T107 h107 X107 e107 W107 Vr107 N107 => ?_
    have V107 : Arv Z h107 cA_1 kC_1 .int (256 : Int32) [(.int 0), (.int 1)] (.int 0) := Vr107
    have f108 := (f99.other W107 (Or.inl (Nat.ne_of_lt (Nat.lt_of_lt_of_le E_r0.lt p1_1))))
    refine own_by (fun t q => XS.iinc X107.here hx rfl (hb hby d6_65) rfl (l' := #[rv r0, iv 1, iv 1, .unset, .unset, .unset, .unset]) rfl (oGo X107 hx hby 68 45 d6_68 (by decide) (by decide) (oIn X107 hx hby d6_45 rfl q))) ?_
    refine own_aF X107 hx hZ hown hw 36 rfl e107 f108 hby d6_46 rfl d6_47 fun T109 X109 e109 => ?_
    have f110 := (f101.other W107 (Or.inl (Nat.ne_of_lt (Nat.lt_of_lt_of_le E_r0.lt p1_1))))
    refine own_by (fun t q => oJn X109 hx hby d6_50 (tlt (by decide : (1 : Int32) < (2 : Int32))).2.1 q) ?_
    refine own_aF X109 hx hZ hown hw 18 rfl e109 f110 hby d6_53 rfl d6_54 fun T111 X111 e111 => ?_
    have f112 := (f103.other W107 (Or.inl (Nat.ne_of_lt (Nat.lt_of_lt_of_le E_r0.lt p1_1))))
    refine own_aF X111 hx hZ hown hw 16 rfl e111 f112 hby d6_57 rfl d6_58 fun T113 X113 e113 => ?_
    have f114 := (f105.other W107 p1_2)
    refine own_by (fun t q => oIn X113 hx hby d6_61 rfl (own_ldI X113 hx hZ e113 f114 hby ⟨by decide, by decide⟩ (v := (.int 1)) rfl d6_62 (oIn X113 hx hby d6_63 rfl q))) ?_
    refine own_stI X113 hx hZ e113 V107 hby ⟨by decide, by decide⟩ 1 rfl (Nat.le_of_ble_eq_true rfl) N107 g_cA_1 d6_64 fun T115 h115 X115 e115 W115 Vr115 N115 => ?_
    have V115 : Arv Z h115 cA_1 kC_1 .int (256 : Int32) [(.int 0), (.int 1)] (.int 0) := Vr115
    have f116 := (f108.other W115 (Or.inl (Nat.ne_of_lt (Nat.lt_of_lt_of_le E_r0.lt p1_1))))
    refine own_by (fun t q => XS.iinc X115.here hx rfl (hb hby d6_65) rfl (l' := #[rv r0, iv 1, iv 2, .unset, .unset, .unset, .unset]) rfl (oGo X115 hx hby 68 45 d6_68 (by decide) (by decide) (oIn X115 hx hby d6_45 rfl q))) ?_
    refine own_aF X115 hx hZ hown hw 36 rfl e115 f116 hby d6_46 rfl d6_47 fun T117 X117 e117 => ?_
    refine own_by (fun t q => oJy X117 hx hby 50 71 d6_50 (flt (by decide : ¬ ((2 : Int32) < (2 : Int32)))).2.1 (by decide) (by decide) (oIc X117 hx hby d6_71 (XS.istoreN X117.here hx rfl (hb hby d6_72) rfl (l' := #[rv r0, iv 1, iv 0, .unset, .unset, .unset, .unset]) rfl (oIc X117 hx hby d6_73 (XS.istoreN X117.here hx rfl (hb hby d6_74) rfl (l' := #[rv r0, iv 1, iv 0, iv 0, .unset, .unset, .unset]) rfl (oIc X117 hx hby d6_75 q)))))) ?_
    refine own_by (fun t q => XS.istore X117.here hx rfl (hb hby d6_76) rfl (l' := #[rv r0, iv 1, iv 0, iv 0, iv 0, .unset, .unset]) rfl (oIl X117 hx hby d6_78 rfl q)) ?_
    refine own_aF X117 hx hZ hown hw 36 rfl e117 f116 hby d6_80 rfl d6_81 fun T118 X118 e118 => ?_
    have f119 := (f110.other W115 (Or.inl (Nat.ne_of_lt (Nat.lt_of_lt_of_le E_r0.lt p1_1))))
    refine own_by (fun t q => oJn X118 hx hby d6_84 (tlt (by decide : (0 : Int32) < (2 : Int32))).2.1 q) ?_
    refine own_aF X118 hx hZ hown hw 18 rfl e118 f119 hby d6_87 rfl d6_88 fun T120 X120 e120 => ?_
    have f121 := ((((p1_6.keep K93 nin0).other W98 (Or.inr (sn_22 hw))).other W107 (Or.inl (Nat.ne_of_lt (Nat.lt_of_lt_of_le E_r0.lt p1_1)))).other W115 (Or.inl (Nat.ne_of_lt (Nat.lt_of_lt_of_le E_r0.lt p1_1))))
    refine own_by (fun t q => oIl X120 hx hby d6_91 rfl (own_ldI X120 hx hZ e120 V115 hby ⟨by decide, by decide⟩ (v := (.int 0)) rfl d6_93 (oIn X120 hx hby d6_94 rfl (oJn X120 hx hby d6_95 (tlt (by decide : (0 : Int32) < (1 : Int32))).2.1 q)))) ?_
    refine own_aF X120 hx hZ hown hw 14 rfl e120 f121 hby d6_98 rfl d6_99 fun T122 X122 e122 => ?_
    have f123 := ((((f88.keep K93 nin0).other W98 ne_sA_r0).other W107 (Nat.ne_of_lt (Nat.lt_of_lt_of_le V_sA.lt p1_1))).other W115 (Nat.ne_of_lt (Nat.lt_of_lt_of_le V_sA.lt p1_1)))
    have f125 := (((f96.wr W98).wr W107).wr W115)
    have f126 := ((((p1_4.keep K93 nin0).other W98 (Or.inr (sn_23 hw))).other W107 (Or.inl (Nat.ne_of_lt (Nat.lt_of_lt_of_le E_r0.lt p1_1)))).other W115 (Or.inl (Nat.ne_of_lt (Nat.lt_of_lt_of_le E_r0.lt p1_1))))
    have f127 := ((((f92.keep K93).wr W98).wr W107).wr W115)
    refine own_by (fun t q => oIl X122 hx hby d6_102 rfl (own_ldI X122 hx hZ e122 f123 hby ⟨by decide, by decide⟩ (v := (.int s0)) rfl d6_104 (XS.istore X122.here hx rfl (hb hby d6_105) rfl (l' := #[rv r0, iv 1, iv 0, iv 0, iv 0, iv s0, .unset]) rfl (oAn X122 hx hby d6_107 rfl rfl (oIl X122 hx hby d6_108 rfl q))))) ?_
    refine own_cP 0 (rm11_20 l Z a0 hw [] r0 sA kS u s0 s1 s2 s3 h115 n0 (Nat.le_trans (Nat.le_trans (Nat.le_trans (Nat.le_trans (Nat.le_trans Z0 K1.1) K93.1) (Keep.of_wr W98).1) (Keep.of_wr W107).1) (Keep.of_wr W115).1) f125 f116 f126 f121 f123 f127) X122 hx hZ hown hw 70 71 3 72 4 73 rfl rfl rfl rfl rfl rfl r0 f125 [(.int 0)] [] hby d6_110 hml (lenOf pd_7 rfl) e122 rfl (Nat.le_refl _) (by decide) fun _ T124 L124 X124 hQ124 => ?_
    obtain ⟨rfl, N124q, e124⟩ := hQ124
    have N124 := Fr.app N115 N124q
    have f128 := ((((p1_5.keep K93 nin0).other W98 (Or.inr (sn_24 hw))).other W107 (Or.inl (Nat.ne_of_lt (Nat.lt_of_lt_of_le E_r0.lt p1_1)))).other W115 (Or.inl (Nat.ne_of_lt (Nat.lt_of_lt_of_le E_r0.lt p1_1))))
    refine own_by (fun t q => oIl X124 hx hby d6_113 rfl (XS.isub X124.here hx rfl (hb hby d6_115) rfl (XS.istore X124.here hx rfl (hb hby d6_116) rfl (l' := #[rv r0, iv 1, iv 0, iv 0, iv 0, iv s0, iv (s1 - s0)]) rfl q))) ?_
    refine own_aF X124 hx hZ hown hw 11 rfl e124 f128 hby d6_118 rfl d6_119 fun T129 X129 e129 => ?_
    refine own_by (fun t q => oIl X129 hx hby d6_122 rfl q) ?_
    refine own_aF X129 hx hZ hown hw 11 rfl e129 f128 hby d6_124 rfl d6_125 fun T130 X130 e130 => ?_
    have f131 := ((((f94.keep K93 nin0).other W98 ne_bA_r0).other W107 (Nat.ne_of_lt (Nat.lt_of_lt_of_le B_bA.lt p1_1))).other W115 (Nat.ne_of_lt (Nat.lt_of_lt_of_le B_bA.lt p1_1)))
    have f132 := (((((E_bA.keep K1).keep K93).wr W98).wr W107).wr W115)
    obtain ⟨T133, h133, L133, X133, e133, N133, K133, Vr133, st133⟩ := own_bcp X130 hx hZ hown (own_at hw 45 rfl) (own_at hw 48 rfl) (own_at hw 46 rfl) (own_at hw 47 rfl) e130 f131 f131 (sp := s0) (dp := (0 : Int32)) (nn := (s1 - s0)) (by have w0 := own_lits; have w1a := c_isub s1 s0; have w1b := rng32 (s1 - s0); omega) N124 ge_bA (g := (mkF m 131 #[rv r0, iv 1, iv 0, iv 0, iv 0, iv s0, iv (s1 - s0)] [(.int (s1 - s0)), (.int 0), (.ref bA), (.int s0), (.ref bA)])) rfl (by rw [hml]; rfl) rfl (hb hby d6_131) (by decide) (W := 0) (Nat.le_refl _) (by decide)
    have pl133 := (allS (P := fun x => ∃ cell : Cell, h115[x]? = some cell ∧ cell.vm.isStatics = false) (own_ns f132) all0)
    have f134 := (f121.keep K133 (ninS ne_r0_bA nin0))
    refine own_by (fun t q => oIn X130 hx hby d6_128 rfl (oIl X130 hx hby d6_129 rfl (st133 _ q))) ?_
    refine own_aF X133 hx hZ hown hw 14 rfl e133 f134 hby d6_134 rfl d6_135 fun T135 X135 e135 => ?_
    have f136 := (f123.keep K133 (ninS ne_sA_bA nin0))
    refine own_by (fun t q => oIn X135 hx hby d6_138 rfl (XS.iinc X135.here hx rfl (hb hby d6_139) rfl (l' := #[rv r0, iv 1, iv 1, iv 0, iv 0, iv s0, iv (s1 - s0)]) rfl (oIn X135 hx hby d6_142 rfl q))) ?_
    refine own_stI X135 hx hZ e135 f136 hby ⟨by decide, by decide⟩ 0 rfl (Nat.le_of_ble_eq_true rfl) N133 ge_sA d6_143 fun T137 h137 X137 e137 W137 Vr137 N137 => ?_
    have V137 : Arv Z h137 sA kS .int (256 : Int32) [(.int 0), (.int s1), (.int s2), (.int s3)] (.int 0) := Vr137
    have f138 := ((f116.keep K133 (ninS ne_r0_bA nin0)).other W137 (Or.inl ne_r0_sA))
    refine own_by (fun t q => oIn X137 hx hby d6_144 rfl (oIl X137 hx hby d6_145 rfl (XS.iadd X137.here hx rfl (hb hby d6_147) rfl (XS.istoreN X137.here hx rfl (hb hby d6_148) rfl (l' := #[rv r0, iv 1, iv 1, iv ((0 : Int32) + (s1 - s0)), iv 0, iv s0, iv (s1 - s0)]) rfl (XS.iinc X137.here hx rfl (hb hby d6_149) rfl (l' := #[rv r0, iv 1, iv 1, iv ((0 : Int32) + (s1 - s0)), iv 1, iv s0, iv (s1 - s0)]) rfl (oGo X137 hx hby 152 78 d6_152 (by decide) (by decide) q)))))) ?_
    refine own_by (fun t q => oIl X137 hx hby d6_78 rfl q) ?_
    refine own_aF X137 hx hZ hown hw 36 rfl e137 f138 hby d6_80 rfl d6_81 fun T139 X139 e139 => ?_
    have f140 := ((f119.keep K133 (ninS ne_r0_bA nin0)).other W137 (Or.inl ne_r0_sA))
    refine own_by (fun t q => oJn X139 hx hby d6_84 (tlt (by decide : (1 : Int32) < (2 : Int32))).2.1 q) ?_
    refine own_aF X139 hx hZ hown hw 18 rfl e139 f140 hby d6_87 rfl d6_88 fun T141 X141 e141 => ?_
    have f142 := ((V115.keep K133 (ninS (Ne.symm (Nat.ne_of_lt (Nat.lt_of_lt_of_le B_bA.lt p1_1))) nin0)).other W137 (Ne.symm (Nat.ne_of_lt (Nat.lt_of_lt_of_le V_sA.lt p1_1))))
    refine own_by (fun t q => oIl X141 hx hby d6_91 rfl (own_ldI X141 hx hZ e141 f142 hby ⟨by decide, by decide⟩ (v := (.int 1)) rfl d6_93 (oIn X141 hx hby d6_94 rfl (oJy X141 hx hby 95 149 d6_95 (flt (by decide : ¬ ((1 : Int32) < (1 : Int32)))).2.1 (by decide) (by decide) (XS.iinc X141.here hx rfl (hb hby d6_149) rfl (l' := #[rv r0, iv 1, iv 1, iv ((0 : Int32) + (s1 - s0)), iv 2, iv s0, iv (s1 - s0)]) rfl (oGo X141 hx hby 152 78 d6_152 (by decide) (by decide) q)))))) ?_
    refine own_by (fun t q => oIl X141 hx hby d6_78 rfl q) ?_
    refine own_aF X141 hx hZ hown hw 36 rfl e141 f138 hby d6_80 rfl d6_81 fun T143 X143 e143 => ?_
    have f144 := ((f125.keep K133).wr W137)
    refine own_by (fun t q => oJy X143 hx hby 84 155 d6_84 (flt (by decide : ¬ ((2 : Int32) < (2 : Int32)))).2.1 (by decide) (by decide) (oAn X143 hx hby d6_155 rfl rfl (oIn X143 hx hby d6_156 rfl q))) ?_
    refine own_pF X143 hx hZ hown hw 36 37 3 rfl rfl rfl e143 f138 f144 (ty := .int) (by decide) rfl rfl N137 ge_r0 hby d6_157 fun T145 h145 X145 e145 W145 Fw145 N145 => ?_
    have f146 := (f144.wr W145)
    have f147 := (((f126.keep K133 (ninS ne_r0_bA nin0)).other W137 (Or.inl ne_r0_sA)).other W145 (Or.inr (sn_0 hw)))
    refine own_by (fun t q => oAn X145 hx hby d6_160 rfl rfl (oIn X145 hx hby d6_161 rfl q)) ?_
    refine own_pF X145 hx hZ hown hw 38 39 3 rfl rfl rfl e145 f147 f146 (ty := .int) (by decide) rfl rfl N145 ge_r0 hby d6_162 fun T148 h148 X148 e148 W148 Fw148 N148 => ?_
    have f149 := (f146.wr W148)
    have f150 := (Fw145.other W148 (Or.inr (sn_25 hw)))
    have f151 := ((((((Fw98.other W107 (Or.inl (Nat.ne_of_lt (Nat.lt_of_lt_of_le E_r0.lt p1_1)))).other W115 (Or.inl (Nat.ne_of_lt (Nat.lt_of_lt_of_le E_r0.lt p1_1)))).keep K133 (ninS ne_r0_bA nin0)).other W137 (Or.inl ne_r0_sA)).other W145 (Or.inr (sn_1 hw))).other W148 (Or.inr (sn_2 hw)))
    have f152 := ((((f128.keep K133 (ninS ne_r0_bA nin0)).other W137 (Or.inl ne_r0_sA)).other W145 (Or.inr (sn_26 hw))).other W148 (Or.inr (sn_27 hw)))
    have f153 := (((Vr133.other W137 ne_bA_sA).other W145 ne_bA_r0).other W148 ne_bA_r0)
    have f154 := ((((f132.keep K133).wr W137).wr W145).wr W148)
    have f155 := (((f134.other W137 (Or.inl ne_r0_sA)).other W145 (Or.inr (sn_28 hw))).other W148 (Or.inr (sn_29 hw)))
    have f156 := ((V137.other W145 ne_sA_r0).other W148 ne_sA_r0)
    have f157 := ((((f127.keep K133).wr W137).wr W145).wr W148)
    have f158 := ((((((((p1_8.keep K93 nin0).other W98 (Or.inr (sn_30 hw))).other W107 (Or.inl (Nat.ne_of_lt (Nat.lt_of_lt_of_le E_r0.lt p1_1)))).other W115 (Or.inl (Nat.ne_of_lt (Nat.lt_of_lt_of_le E_r0.lt p1_1)))).keep K133 (ninS ne_r0_bA nin0)).other W137 (Or.inl ne_r0_sA)).other W145 (Or.inr (sn_31 hw))).other W148 (Or.inr (sn_32 hw)))
    have f159 := ((((((((p1_9.keep K93 nin0).other W98 (Or.inr (sn_33 hw))).other W107 (Or.inl (Nat.ne_of_lt (Nat.lt_of_lt_of_le E_r0.lt p1_1)))).other W115 (Or.inl (Nat.ne_of_lt (Nat.lt_of_lt_of_le E_r0.lt p1_1)))).keep K133 (ninS ne_r0_bA nin0)).other W137 (Or.inl ne_r0_sA)).other W145 (Or.inr (sn_34 hw))).other W148 (Or.inr (sn_35 hw)))
    have f160 := (((((((p93_1.other W98 (Ne.symm (Nat.ne_of_lt (Nat.lt_of_lt_of_le f91.lt p93_0)))).other W107 (Ne.symm (Nat.ne_of_lt (Nat.lt_of_lt_of_le p1_14.lt p93_0)))).other W115 (Ne.symm (Nat.ne_of_lt (Nat.lt_of_lt_of_le p1_14.lt p93_0)))).keep K133 (ninS (Ne.symm (Nat.ne_of_lt (Nat.lt_of_lt_of_le f94.lt p93_0))) nin0)).other W137 (Ne.symm (Nat.ne_of_lt (Nat.lt_of_lt_of_le f88.lt p93_0)))).other W145 (Ne.symm (Nat.ne_of_lt (Nat.lt_of_lt_of_le f91.lt p93_0)))).other W148 (Ne.symm (Nat.ne_of_lt (Nat.lt_of_lt_of_le f91.lt p93_0))))
    have f161 := (((((((p93_2.wr W98).wr W107).wr W115).keep K133).wr W137).wr W145).wr W148)
    have f162 := (((((f112.other W115 (Or.inl (Nat.ne_of_lt (Nat.lt_of_lt_of_le E_r0.lt p1_1)))).keep K133 (ninS ne_r0_bA nin0)).other W137 (Or.inl ne_r0_sA)).other W145 (Or.inr (sn_36 hw))).other W148 (Or.inr (sn_37 hw)))
    have f163 := (((((f114.other W115 p1_2).keep K133 (ninS (Ne.symm (Nat.ne_of_lt (Nat.lt_of_lt_of_le B_bA.lt p1_0))) nin0)).other W137 (Ne.symm (Nat.ne_of_lt (Nat.lt_of_lt_of_le V_sA.lt p1_0)))).other W145 (Ne.symm (Nat.ne_of_lt (Nat.lt_of_lt_of_le E_r0.lt p1_0)))).other W148 (Ne.symm (Nat.ne_of_lt (Nat.lt_of_lt_of_le E_r0.lt p1_0))))
    have f164 := ((((((((p1_12.keep K93).wr W98).wr W107).wr W115).keep K133).wr W137).wr W145).wr W148)
    have f165 := ((f140.other W145 (Or.inr (sn_38 hw))).other W148 (Or.inr (sn_39 hw)))
    have f166 := ((f142.other W145 (Ne.symm (Nat.ne_of_lt (Nat.lt_of_lt_of_le E_r0.lt p1_1)))).other W148 (Ne.symm (Nat.ne_of_lt (Nat.lt_of_lt_of_le E_r0.lt p1_1))))
    have f167 := ((((((((p1_15.keep K93).wr W98).wr W107).wr W115).keep K133).wr W137).wr W145).wr W148)
    refine own_out X148 Bd.notSynchronized Bd.returns (none) (fun _ => rfl) (by decide) (by decide) ?_ fun fs hr => ?_
    · rw [e148]; exact ⟨ar_93, (u - s1), ((0 : Int32) + (s1 - s0)), (0 : Int32), (1 : Int32), (0 : Int32), (1 : Int32), oA_1, kO_1, cA_1, kC_1, rfl, N148, ((((((((((Keep.refl h0 [r0, bA, sA]).trans K1 (allS (Or.inl (List.mem_of_getElem? (i := 0) rfl)) all0)).trans K93 all0).wr W98 (Or.inl (List.mem_of_getElem? (i := 0) rfl))).wr W107 (Or.inr sz_cA_1)).wr W115 (Or.inr sz_cA_1)).trans K133 (allS (Or.inl (List.mem_of_getElem? (i := 1) rfl)) all0)).wr W137 (Or.inl (List.mem_of_getElem? (i := 2) rfl))).wr W145 (Or.inl (List.mem_of_getElem? (i := 0) rfl))).wr W148 (Or.inl (List.mem_of_getElem? (i := 0) rfl))), sz_ar_93, sz_oA_1, sz_cA_1, p1_2, (Ne.symm (Nat.ne_of_lt (Nat.lt_of_lt_of_le p1_11.lt p93_0))), (Ne.symm (Nat.ne_of_lt (Nat.lt_of_lt_of_le p1_14.lt p93_0))), f149, f150, Fw148, f151, f152, f153, f154, f155, f156, f157, f158, f159, f160, f161, f162, f163, f164, f165, f166, f167, (by have w0 := own_lits; have w1a := c_isub s1 s0; have w1b := rng32 (s1 - s0); have w2a := c_iadd (0 : Int32) (s1 - s0); have w2b := rng32 ((0 : Int32) + (s1 - s0)); have w3a := c_isub u s1; have w3b := rng32 (u - s1); omega)⟩
    · exact X148.returnOut hx Bd.returns (hb hby d6_165) hr
def Q_6_3 (Z : State) (r0 bA sA : Addr) (kS : ClassId) (u s0 s1 s2 s3 mN mB : Int32) (oZ : Addr) (kZ : ClassId) (cZ : Addr) (h0 : Heap) (n0 : Nat) (v : Option Value) (h : Heap) (L : List Loc) : Prop := ∃ lim : Addr, ∃ zl : Int32, ∃ u2 : Int32, ∃ g0 : Int32, ∃ g1 : Int32, ∃ g2 : Int32, ∃ d0 : Int32, ∃ d1 : Int32, ∃ d2 : Int32, ∃ oA : Addr, ∃ kO : ClassId, ∃ cA : Addr, ∃ kC : ClassId, v = none ∧ Fr n0 L ∧ Keep h0 h [r0, bA, sA] ∧ h0.size ≤ lim ∧ h0.size ≤ oA ∧ h0.size ≤ cA ∧ oA ≠ cA ∧ lim ≠ oA ∧ lim ≠ cA ∧ Exa Z h r0 cS0 ∧ Fld Z h r0 cS0 "count" "I" (.int 1) ∧ Fld Z h r0 cS0 "used" "I" (.int u2) ∧ Fld Z h r0 cS0 "limit" "[B" (.ref lim) ∧ Fld Z h r0 cS0 "bytes" "[B" (.ref bA) ∧ own_B Z h bA (4096 : Int32) ∧ Exa Z h bA "[B" ∧ Fld Z h r0 cS0 "starts" "[I" (.ref sA) ∧ Arv Z h sA kS .int (256 : Int32) [(.int 0), (.int s1), (.int s2), (.int s3)] (.int 0) ∧ Exa Z h sA "[I" ∧ Fld Z h r0 cS0 "maxNames" "I" (.int mN) ∧ Fld Z h r0 cS0 "maxBytes" "I" (.int mB) ∧ own_B Z h lim zl ∧ Exa Z h lim "[B" ∧ Fld Z h r0 cS0 "order" "[I" (.ref oA) ∧ Arv Z h oA kO .int (256 : Int32) [(.int g0), (.int g1), (.int g2)] (.int 0) ∧ Exa Z h oA "[I" ∧ Fld Z h r0 cS0 "scratch" "[I" (.ref cA) ∧ Arv Z h cA kC .int (256 : Int32) [(.int d0), (.int d1), (.int d2)] (.int 0) ∧ Exa Z h cA "[I" ∧ (0 ≤ u2.toInt ∧ u2.toInt ≤ 3) ∧ 0 ≤ zl.toInt ∧ zl.toInt ≤ 3
theorem rm6_3 (l : Launch) (Z : State) (a0 : Array Value) (hw : own_HW a0 Z) (ws : List Jvm.Cond) (r0 bA sA : Addr) (kS : ClassId) (u s0 s1 s2 s3 mN mB : Int32) (oZ : Addr) (kZ : ClassId) (cZ : Addr) (h0 : Heap) (n0 : Nat) (Z0 : n0 ≤ h0.size) (E_r0 : Exa Z h0 r0 cS0) (F_count_r0 : Fld Z h0 r0 cS0 "count" "I" (.int 3)) (F_used_r0 : Fld Z h0 r0 cS0 "used" "I" (.int u)) (F_bytes_r0 : Fld Z h0 r0 cS0 "bytes" "[B" (.ref bA)) (B_bA : own_B Z h0 bA (4096 : Int32)) (E_bA : Exa Z h0 bA "[B") (F_starts_r0 : Fld Z h0 r0 cS0 "starts" "[I" (.ref sA)) (V_sA : Arv Z h0 sA kS .int (256 : Int32) [(.int s0), (.int s1), (.int s2), (.int s3)] (.int 0)) (E_sA : Exa Z h0 sA "[I") (F_maxNames_r0 : Fld Z h0 r0 cS0 "maxNames" "I" (.int mN)) (F_maxBytes_r0 : Fld Z h0 r0 cS0 "maxBytes" "I" (.int mB)) (F_limit_r0 : Fld Z h0 r0 cS0 "limit" "[B" .null) (F_order_r0 : Fld Z h0 r0 cS0 "order" "[I" (.ref oZ)) (V_oZ : Arv Z h0 oZ kZ .int (0 : Int32) [] (.int 0)) (F_scratch_r0 : Fld Z h0 r0 cS0 "scratch" "[I" (.ref cZ)) (hp0 : s0.toInt ≤ s1.toInt ∧ s1.toInt ≤ s0.toInt + 3 ∧ s1.toInt ≤ s2.toInt ∧ s2.toInt ≤ s1.toInt + 3 ∧ s2.toInt ≤ u.toInt ∧ u.toInt ≤ s2.toInt + 3 ∧ 0 ≤ s0.toInt ∧ u.toInt ≤ 50) (ge_r0 : n0 ≤ r0) (ne_sA_r0 : sA ≠ r0) (ne_bA_r0 : bA ≠ r0) (ne_oZ_r0 : oZ ≠ r0) (ge_bA : n0 ≤ bA) (ne_r0_bA : r0 ≠ bA) (ne_sA_bA : sA ≠ bA) (ge_sA : n0 ≤ sA) (ne_r0_sA : r0 ≠ sA) (ne_bA_sA : bA ≠ sA) :
    own_M l Z (⟨cS0, "halve", "()V"⟩ : MethodName) prog_6_method_8_code 7 none ws ({ frames := 6, cells := 3, slots := 515, locals := 92 } : Room) #[(.ref r0)] h0 (Q_6_3 Z r0 bA sA kS u s0 s1 s2 s3 mN mB oZ kZ cZ h0 n0) := by
  refine own_in cS0 rfl (plainFor_of_name pn_com_example_measurewright_measurewright_cli_NameBatch) ?_
  intro p e s m below meth c s₁ Bd hml hZ hh hx hby hown X0 e0
  have N0 := Fr.nil n0
  refine own_start (ef_6 m r0) ?_
  refine own_by (fun t q => oAn X0 hx hby d6_0 rfl rfl q) ?_
  refine own_cW 0 (rm7_3 l Z a0 hw [] r0 bA sA kS u s0 s1 s2 s3 mN mB oZ kZ cZ h0 n0 Z0 E_r0 F_count_r0 F_used_r0 F_bytes_r0 B_bA E_bA F_starts_r0 V_sA E_sA F_maxNames_r0 F_maxBytes_r0 F_limit_r0 F_order_r0 V_oZ F_scratch_r0 hp0 ge_r0 ne_sA_r0 ne_bA_r0 ne_oZ_r0) X0 hx hZ hown hw 53 54 56 55 4 57 rfl rfl rfl rfl rfl rfl r0 E_r0 [] [] hby d6_1 hml (lenOf pd_9 rfl) e0 rfl (Nat.le_refl _) (by decide) fun _ T1 L1 X1 hQ1 => ?_
  rcases hQ1 with ⟨oA_1, kO_1, cA_1, kC_1, rfl, N1q, K1, p1_0, p1_1, p1_2, p1_3, p1_4, p1_5, p1_6, p1_7, p1_8, p1_9, p1_10, p1_11, p1_12, p1_13, p1_14, p1_15⟩ | ⟨oA_1, kO_1, cA_1, kC_1, rfl, N1q, K1, p1_0, p1_1, p1_2, p1_3, p1_4, p1_5, p1_6, p1_7, p1_8, p1_9, p1_10, p1_11, p1_12, p1_13, p1_14, p1_15⟩ | ⟨oA_1, kO_1, cA_1, kC_1, rfl, N1q, K1, p1_0, p1_1, p1_2, p1_3, p1_4, p1_5, p1_6, p1_7, p1_8, p1_9, p1_10, p1_11, p1_12, p1_13, p1_14, p1_15⟩ | ⟨oA_1, kO_1, cA_1, kC_1, rfl, N1q, K1, p1_0, p1_1, p1_2, p1_3, p1_4, p1_5, p1_6, p1_7, p1_8, p1_9, p1_10, p1_11, p1_12, p1_13, p1_14, p1_15⟩ | ⟨oA_1, kO_1, cA_1, kC_1, rfl, N1q, K1, p1_0, p1_1, p1_2, p1_3, p1_4, p1_5, p1_6, p1_7, p1_8, p1_9, p1_10, p1_11, p1_12, p1_13, p1_14, p1_15⟩ | ⟨oA_1, kO_1, cA_1, kC_1, rfl, N1q, K1, p1_0, p1_1, p1_2, p1_3, p1_4, p1_5, p1_6, p1_7, p1_8, p1_9, p1_10, p1_11, p1_12, p1_13, p1_14, p1_15⟩
  · have pl1 := (allS (P := fun x => ∃ cell : Cell, h0[x]? = some cell ∧ cell.vm.isStatics = false) (own_ns E_r0) all0)
    have g_oA_1 : n0 ≤ oA_1 := Nat.le_trans Z0 p1_0
    have sz_oA_1 : h0.size ≤ oA_1 := Nat.le_trans (Keep.refl h0 []).1 p1_0
    have g_cA_1 : n0 ≤ cA_1 := Nat.le_trans Z0 p1_1
    have sz_cA_1 : h0.size ≤ cA_1 := Nat.le_trans (Keep.refl h0 []).1 p1_1
    have N1 := Fr.app N0 N1q
    refine own_aF X1 hx hZ hown hw 36 rfl rfl p1_3 hby d6_4 rfl d6_5 fun T2 X2 e2 => ?_
    refine own_by (fun t q => oIc X2 hx hby d6_8 (XS.idiv X2.here hx rfl (hb hby d6_9) rfl (by decide) (XS.istoreN X2.here hx rfl (hb hby d6_10) rfl (l' := #[rv r0, iv 1, .unset, .unset, .unset, .unset, .unset]) rfl (oAn X2 hx hby d6_11 rfl rfl q)))) ?_
    refine own_aF X2 hx hZ hown hw 11 rfl e2 p1_5 hby d6_12 rfl d6_13 fun T3 X3 e3 => ?_
    refine own_aF X3 hx hZ hown hw 14 rfl e3 p1_6 hby d6_16 rfl d6_17 fun T4 X4 e4 => ?_
    refine own_aF X4 hx hZ hown hw 16 rfl e4 p1_10 hby d6_20 rfl d6_21 fun T5 X5 e5 => ?_
    have f6 := (V_sA.keep K1 (ninS ne_sA_r0 nin0))
    refine own_by (fun t q => oIn X5 hx hby d6_24 rfl (own_ldI X5 hx hZ e5 p1_11 hby ⟨by decide, by decide⟩ (v := (.int 1)) rfl d6_25 (own_ldI X5 hx hZ e5 f6 hby ⟨by decide, by decide⟩ (v := (.int s1)) rfl d6_26 (oAn X5 hx hby d6_27 rfl rfl q)))) ?_
    refine own_aF X5 hx hZ hown hw 16 rfl e5 p1_10 hby d6_28 rfl d6_29 fun T7 X7 e7 => ?_
    have f9 := (E_r0.keep K1)
    have f10 := (E_sA.keep K1)
    refine own_by (fun t q => oIn X7 hx hby d6_32 rfl (own_ldI X7 hx hZ e7 p1_11 hby ⟨by decide, by decide⟩ (v := (.int 1)) rfl d6_33 q)) ?_
    refine own_cP 3 (rm11_31 l Z a0 hw [] r0 sA kS u s0 s1 s2 s3 T1.heap n0 (Nat.le_trans Z0 K1.1) f9 p1_3 p1_4 p1_6 f6 f10) X7 hx hZ hown hw 70 71 3 72 4 73 rfl rfl rfl rfl rfl rfl r0 f9 [(.int 1)] [(.int s1), (.ref bA), (.ref r0)] hby d6_34 hml (lenOf pd_7 rfl) e7 rfl (Nat.le_refl _) (by decide) fun _ T8 L8 X8 hQ8 => ?_
    obtain ⟨rfl, N8q, e8⟩ := hQ8
    have N8 := Fr.app N1 N8q
    have f12 := (B_bA.keep K1 (ninS ne_bA_r0 nin0))
    refine own_cK 1 (rm15 l Z a0 hw [] bA s1 s2 (4096 : Int32) T1.heap n0 (Nat.le_trans Z0 K1.1) f12 (by have w0 := own_lits; omega) (by have w0 := own_lits; omega)) X8 hx hZ hown hw 86 87 76 88 rfl rfl rfl rfl [(.ref bA), (.int s1), (.int s2)] [(.ref r0)] hby d6_37 hml (lenOf pd_6 rfl) e8 rfl (Nat.le_refl _) (by decide) fun _ T11 L11 X11 hQ11 => ?_
    have f13 := (V_oZ.keep K1 (ninS ne_oZ_r0 nin0))
    obtain ⟨ar_11, rfl, N11q, K11, p11_0, p11_1, p11_2⟩ := hQ11
    have g_ar_11 : n0 ≤ ar_11 := Nat.le_trans (Nat.le_trans Z0 K1.1) p11_0
    have sz_ar_11 : h0.size ≤ ar_11 := Nat.le_trans ((Keep.refl h0 [r0]).trans K1 (allS (Or.inl (List.mem_of_getElem? (i := 0) rfl)) all0)).1 p11_0
    have N11 := Fr.app N8 N11q
    have f14 := (f9.keep K11)
    have f15 := (p1_7.keep K11 nin0)
    refine own_pF X11 hx hZ hown hw 29 30 3 rfl rfl rfl rfl f15 f14 (ty := (.array .byte)) (by decide) rfl rfl N11 ge_r0 hby d6_40 fun T16 h16 X16 e16 W16 Fw16 N16 => ?_
    have f17 := ((p1_3.keep K11 nin0).other W16 (Or.inr (sn_19 hw)))
    refine own_by (fun t q => oIc X16 hx hby d6_43 (XS.istoreN X16.here hx rfl (hb hby d6_44) rfl (l' := #[rv r0, iv 1, iv 0, .unset, .unset, .unset, .unset]) rfl (oIn X16 hx hby d6_45 rfl q))) ?_
    refine own_aF X16 hx hZ hown hw 36 rfl e16 f17 hby d6_46 rfl d6_47 fun T18 X18 e18 => ?_
    have f19 := ((p1_13.keep K11 nin0).other W16 (Or.inr (sn_20 hw)))
    refine own_by (fun t q => oJn X18 hx hby d6_50 (tlt (by decide : (0 : Int32) < (3 : Int32))).2.1 q) ?_
    refine own_aF X18 hx hZ hown hw 18 rfl e18 f19 hby d6_53 rfl d6_54 fun T20 X20 e20 => ?_
    have f21 := ((p1_10.keep K11 nin0).other W16 (Or.inr (sn_21 hw)))
    refine own_aF X20 hx hZ hown hw 16 rfl e20 f21 hby d6_57 rfl d6_58 fun T22 X22 e22 => ?_
    have f23 := ((p1_11.keep K11 nin0).other W16 (Ne.symm (Nat.ne_of_lt (Nat.lt_of_lt_of_le E_r0.lt p1_0))))
    have f24 := ((p1_14.keep K11 nin0).other W16 (Ne.symm (Nat.ne_of_lt (Nat.lt_of_lt_of_le E_r0.lt p1_1))))
    refine own_by (fun t q => oIn X22 hx hby d6_61 rfl (own_ldI X22 hx hZ e22 f23 hby ⟨by decide, by decide⟩ (v := (.int 2)) rfl d6_62 (oIn X22 hx hby d6_63 rfl q))) ?_
    refine own_stI X22 hx hZ e22 f24 hby ⟨by decide, by decide⟩ 2 rfl (Nat.le_of_ble_eq_true rfl) N16 g_cA_1 d6_64 fun T25 h25 X25 e25 W25 Vr25 N25 => ?_
    have V25 : Arv Z h25 cA_1 kC_1 .int (256 : Int32) [(.int 1), (.int 0), (.int 0)] (.int 0) := Vr25
    have f26 := (f17.other W25 (Or.inl (Nat.ne_of_lt (Nat.lt_of_lt_of_le E_r0.lt p1_1))))
    refine own_by (fun t q => XS.iinc X25.here hx rfl (hb hby d6_65) rfl (l' := #[rv r0, iv 1, iv 1, .unset, .unset, .unset, .unset]) rfl (oGo X25 hx hby 68 45 d6_68 (by decide) (by decide) (oIn X25 hx hby d6_45 rfl q))) ?_
    refine own_aF X25 hx hZ hown hw 36 rfl e25 f26 hby d6_46 rfl d6_47 fun T27 X27 e27 => ?_
    have f28 := (f19.other W25 (Or.inl (Nat.ne_of_lt (Nat.lt_of_lt_of_le E_r0.lt p1_1))))
    refine own_by (fun t q => oJn X27 hx hby d6_50 (tlt (by decide : (1 : Int32) < (3 : Int32))).2.1 q) ?_
    refine own_aF X27 hx hZ hown hw 18 rfl e27 f28 hby d6_53 rfl d6_54 fun T29 X29 e29 => ?_
    have f30 := (f21.other W25 (Or.inl (Nat.ne_of_lt (Nat.lt_of_lt_of_le E_r0.lt p1_1))))
    refine own_aF X29 hx hZ hown hw 16 rfl e29 f30 hby d6_57 rfl d6_58 fun T31 X31 e31 => ?_
    have f32 := (f23.other W25 p1_2)
    refine own_by (fun t q => oIn X31 hx hby d6_61 rfl (own_ldI X31 hx hZ e31 f32 hby ⟨by decide, by decide⟩ (v := (.int 1)) rfl d6_62 (oIn X31 hx hby d6_63 rfl q))) ?_
    refine own_stI X31 hx hZ e31 V25 hby ⟨by decide, by decide⟩ 1 rfl (Nat.le_of_ble_eq_true rfl) N25 g_cA_1 d6_64 fun T33 h33 X33 e33 W33 Vr33 N33 => ?_
    have V33 : Arv Z h33 cA_1 kC_1 .int (256 : Int32) [(.int 1), (.int 1), (.int 0)] (.int 0) := Vr33
    have f34 := (f26.other W33 (Or.inl (Nat.ne_of_lt (Nat.lt_of_lt_of_le E_r0.lt p1_1))))
    refine own_by (fun t q => XS.iinc X33.here hx rfl (hb hby d6_65) rfl (l' := #[rv r0, iv 1, iv 2, .unset, .unset, .unset, .unset]) rfl (oGo X33 hx hby 68 45 d6_68 (by decide) (by decide) (oIn X33 hx hby d6_45 rfl q))) ?_
    refine own_aF X33 hx hZ hown hw 36 rfl e33 f34 hby d6_46 rfl d6_47 fun T35 X35 e35 => ?_
    have f36 := (f28.other W33 (Or.inl (Nat.ne_of_lt (Nat.lt_of_lt_of_le E_r0.lt p1_1))))
    refine own_by (fun t q => oJn X35 hx hby d6_50 (tlt (by decide : (2 : Int32) < (3 : Int32))).2.1 q) ?_
    refine own_aF X35 hx hZ hown hw 18 rfl e35 f36 hby d6_53 rfl d6_54 fun T37 X37 e37 => ?_
    have f38 := (f30.other W33 (Or.inl (Nat.ne_of_lt (Nat.lt_of_lt_of_le E_r0.lt p1_1))))
    refine own_aF X37 hx hZ hown hw 16 rfl e37 f38 hby d6_57 rfl d6_58 fun T39 X39 e39 => ?_
    have f40 := (f32.other W33 p1_2)
    refine own_by (fun t q => oIn X39 hx hby d6_61 rfl (own_ldI X39 hx hZ e39 f40 hby ⟨by decide, by decide⟩ (v := (.int 0)) rfl d6_62 (oIn X39 hx hby d6_63 rfl q))) ?_
    refine own_stI X39 hx hZ e39 V33 hby ⟨by decide, by decide⟩ 0 rfl (Nat.le_of_ble_eq_true rfl) N33 g_cA_1 d6_64 fun T41 h41 X41 e41 W41 Vr41 N41 => ?_
    have V41 : Arv Z h41 cA_1 kC_1 .int (256 : Int32) [(.int 2), (.int 1), (.int 0)] (.int 0) := Vr41
    have f42 := (f34.other W41 (Or.inl (Nat.ne_of_lt (Nat.lt_of_lt_of_le E_r0.lt p1_1))))
    refine own_by (fun t q => XS.iinc X41.here hx rfl (hb hby d6_65) rfl (l' := #[rv r0, iv 1, iv 3, .unset, .unset, .unset, .unset]) rfl (oGo X41 hx hby 68 45 d6_68 (by decide) (by decide) (oIn X41 hx hby d6_45 rfl q))) ?_
    refine own_aF X41 hx hZ hown hw 36 rfl e41 f42 hby d6_46 rfl d6_47 fun T43 X43 e43 => ?_
    refine own_by (fun t q => oJy X43 hx hby 50 71 d6_50 (flt (by decide : ¬ ((3 : Int32) < (3 : Int32)))).2.1 (by decide) (by decide) (oIc X43 hx hby d6_71 (XS.istoreN X43.here hx rfl (hb hby d6_72) rfl (l' := #[rv r0, iv 1, iv 0, .unset, .unset, .unset, .unset]) rfl (oIc X43 hx hby d6_73 (XS.istoreN X43.here hx rfl (hb hby d6_74) rfl (l' := #[rv r0, iv 1, iv 0, iv 0, .unset, .unset, .unset]) rfl (oIc X43 hx hby d6_75 q)))))) ?_
    refine own_by (fun t q => XS.istore X43.here hx rfl (hb hby d6_76) rfl (l' := #[rv r0, iv 1, iv 0, iv 0, iv 0, .unset, .unset]) rfl (oIl X43 hx hby d6_78 rfl q)) ?_
    refine own_aF X43 hx hZ hown hw 36 rfl e43 f42 hby d6_80 rfl d6_81 fun T44 X44 e44 => ?_
    have f45 := (f36.other W41 (Or.inl (Nat.ne_of_lt (Nat.lt_of_lt_of_le E_r0.lt p1_1))))
    refine own_by (fun t q => oJn X44 hx hby d6_84 (tlt (by decide : (0 : Int32) < (3 : Int32))).2.1 q) ?_
    refine own_aF X44 hx hZ hown hw 18 rfl e44 f45 hby d6_87 rfl d6_88 fun T46 X46 e46 => ?_
    refine own_by (fun t q => oIl X46 hx hby d6_91 rfl (own_ldI X46 hx hZ e46 V41 hby ⟨by decide, by decide⟩ (v := (.int 2)) rfl d6_93 (oIn X46 hx hby d6_94 rfl (oJy X46 hx hby 95 149 d6_95 (flt (by decide : ¬ ((2 : Int32) < (1 : Int32)))).2.1 (by decide) (by decide) (XS.iinc X46.here hx rfl (hb hby d6_149) rfl (l' := #[rv r0, iv 1, iv 0, iv 0, iv 1, .unset, .unset]) rfl (oGo X46 hx hby 152 78 d6_152 (by decide) (by decide) q)))))) ?_
    refine own_by (fun t q => oIl X46 hx hby d6_78 rfl q) ?_
    refine own_aF X46 hx hZ hown hw 36 rfl e46 f42 hby d6_80 rfl d6_81 fun T47 X47 e47 => ?_
    refine own_by (fun t q => oJn X47 hx hby d6_84 (tlt (by decide : (1 : Int32) < (3 : Int32))).2.1 q) ?_
    refine own_aF X47 hx hZ hown hw 18 rfl e47 f45 hby d6_87 rfl d6_88 fun T48 X48 e48 => ?_
    refine own_by (fun t q => oIl X48 hx hby d6_91 rfl (own_ldI X48 hx hZ e48 V41 hby ⟨by decide, by decide⟩ (v := (.int 1)) rfl d6_93 (oIn X48 hx hby d6_94 rfl (oJy X48 hx hby 95 149 d6_95 (flt (by decide : ¬ ((1 : Int32) < (1 : Int32)))).2.1 (by decide) (by decide) (XS.iinc X48.here hx rfl (hb hby d6_149) rfl (l' := #[rv r0, iv 1, iv 0, iv 0, iv 2, .unset, .unset]) rfl (oGo X48 hx hby 152 78 d6_152 (by decide) (by decide) q)))))) ?_
    refine own_by (fun t q => oIl X48 hx hby d6_78 rfl q) ?_
    refine own_aF X48 hx hZ hown hw 36 rfl e48 f42 hby d6_80 rfl d6_81 fun T49 X49 e49 => ?_
    refine own_by (fun t q => oJn X49 hx hby d6_84 (tlt (by decide : (2 : Int32) < (3 : Int32))).2.1 q) ?_
    refine own_aF X49 hx hZ hown hw 18 rfl e49 f45 hby d6_87 rfl d6_88 fun T50 X50 e50 => ?_
    have f51 := (((((p1_6.keep K11 nin0).other W16 (Or.inr (sn_22 hw))).other W25 (Or.inl (Nat.ne_of_lt (Nat.lt_of_lt_of_le E_r0.lt p1_1)))).other W33 (Or.inl (Nat.ne_of_lt (Nat.lt_of_lt_of_le E_r0.lt p1_1)))).other W41 (Or.inl (Nat.ne_of_lt (Nat.lt_of_lt_of_le E_r0.lt p1_1))))
    refine own_by (fun t q => oIl X50 hx hby d6_91 rfl (own_ldI X50 hx hZ e50 V41 hby ⟨by decide, by decide⟩ (v := (.int 0)) rfl d6_93 (oIn X50 hx hby d6_94 rfl (oJn X50 hx hby d6_95 (tlt (by decide : (0 : Int32) < (1 : Int32))).2.1 q)))) ?_
    refine own_aF X50 hx hZ hown hw 14 rfl e50 f51 hby d6_98 rfl d6_99 fun T52 X52 e52 => ?_
    have f53 := (((((f6.keep K11 nin0).other W16 ne_sA_r0).other W25 (Nat.ne_of_lt (Nat.lt_of_lt_of_le V_sA.lt p1_1))).other W33 (Nat.ne_of_lt (Nat.lt_of_lt_of_le V_sA.lt p1_1))).other W41 (Nat.ne_of_lt (Nat.lt_of_lt_of_le V_sA.lt p1_1)))
    have f55 := ((((f14.wr W16).wr W25).wr W33).wr W41)
    have f56 := (((((p1_4.keep K11 nin0).other W16 (Or.inr (sn_23 hw))).other W25 (Or.inl (Nat.ne_of_lt (Nat.lt_of_lt_of_le E_r0.lt p1_1)))).other W33 (Or.inl (Nat.ne_of_lt (Nat.lt_of_lt_of_le E_r0.lt p1_1)))).other W41 (Or.inl (Nat.ne_of_lt (Nat.lt_of_lt_of_le E_r0.lt p1_1))))
    have f57 := (((((f10.keep K11).wr W16).wr W25).wr W33).wr W41)
    refine own_by (fun t q => oIl X52 hx hby d6_102 rfl (own_ldI X52 hx hZ e52 f53 hby ⟨by decide, by decide⟩ (v := (.int s2)) rfl d6_104 (XS.istore X52.here hx rfl (hb hby d6_105) rfl (l' := #[rv r0, iv 1, iv 0, iv 0, iv 2, iv s2, .unset]) rfl (oAn X52 hx hby d6_107 rfl rfl (oIl X52 hx hby d6_108 rfl q))))) ?_
    refine own_cP 0 (rm11_32 l Z a0 hw [] r0 sA kS u s0 s1 s2 s3 h41 n0 (Nat.le_trans (Nat.le_trans (Nat.le_trans (Nat.le_trans (Nat.le_trans (Nat.le_trans Z0 K1.1) K11.1) (Keep.of_wr W16).1) (Keep.of_wr W25).1) (Keep.of_wr W33).1) (Keep.of_wr W41).1) f55 f42 f56 f51 f53 f57) X52 hx hZ hown hw 70 71 3 72 4 73 rfl rfl rfl rfl rfl rfl r0 f55 [(.int 2)] [] hby d6_110 hml (lenOf pd_7 rfl) e52 rfl (Nat.le_refl _) (by decide) fun _ T54 L54 X54 hQ54 => ?_
    obtain ⟨rfl, N54q, e54⟩ := hQ54
    have N54 := Fr.app N41 N54q
    have f58 := (((((p1_5.keep K11 nin0).other W16 (Or.inr (sn_24 hw))).other W25 (Or.inl (Nat.ne_of_lt (Nat.lt_of_lt_of_le E_r0.lt p1_1)))).other W33 (Or.inl (Nat.ne_of_lt (Nat.lt_of_lt_of_le E_r0.lt p1_1)))).other W41 (Or.inl (Nat.ne_of_lt (Nat.lt_of_lt_of_le E_r0.lt p1_1))))
    refine own_by (fun t q => oIl X54 hx hby d6_113 rfl (XS.isub X54.here hx rfl (hb hby d6_115) rfl (XS.istore X54.here hx rfl (hb hby d6_116) rfl (l' := #[rv r0, iv 1, iv 0, iv 0, iv 2, iv s2, iv (u - s2)]) rfl q))) ?_
    refine own_aF X54 hx hZ hown hw 11 rfl e54 f58 hby d6_118 rfl d6_119 fun T59 X59 e59 => ?_
    refine own_by (fun t q => oIl X59 hx hby d6_122 rfl q) ?_
    refine own_aF X59 hx hZ hown hw 11 rfl e59 f58 hby d6_124 rfl d6_125 fun T60 X60 e60 => ?_
    have f61 := (((((f12.keep K11 nin0).other W16 ne_bA_r0).other W25 (Nat.ne_of_lt (Nat.lt_of_lt_of_le B_bA.lt p1_1))).other W33 (Nat.ne_of_lt (Nat.lt_of_lt_of_le B_bA.lt p1_1))).other W41 (Nat.ne_of_lt (Nat.lt_of_lt_of_le B_bA.lt p1_1)))
    have f62 := ((((((E_bA.keep K1).keep K11).wr W16).wr W25).wr W33).wr W41)
    obtain ⟨T63, h63, L63, X63, e63, N63, K63, Vr63, st63⟩ := own_bcp X60 hx hZ hown (own_at hw 45 rfl) (own_at hw 48 rfl) (own_at hw 46 rfl) (own_at hw 47 rfl) e60 f61 f61 (sp := s2) (dp := (0 : Int32)) (nn := (u - s2)) (by have w0 := own_lits; have w1a := c_isub u s2; have w1b := rng32 (u - s2); omega) N54 ge_bA (g := (mkF m 131 #[rv r0, iv 1, iv 0, iv 0, iv 2, iv s2, iv (u - s2)] [(.int (u - s2)), (.int 0), (.ref bA), (.int s2), (.ref bA)])) rfl (by rw [hml]; rfl) rfl (hb hby d6_131) (by decide) (W := 0) (Nat.le_refl _) (by decide)
    have pl63 := (allS (P := fun x => ∃ cell : Cell, h41[x]? = some cell ∧ cell.vm.isStatics = false) (own_ns f62) all0)
    have f64 := (f51.keep K63 (ninS ne_r0_bA nin0))
    refine own_by (fun t q => oIn X60 hx hby d6_128 rfl (oIl X60 hx hby d6_129 rfl (st63 _ q))) ?_
    refine own_aF X63 hx hZ hown hw 14 rfl e63 f64 hby d6_134 rfl d6_135 fun T65 X65 e65 => ?_
    have f66 := (f53.keep K63 (ninS ne_sA_bA nin0))
    refine own_by (fun t q => oIn X65 hx hby d6_138 rfl (XS.iinc X65.here hx rfl (hb hby d6_139) rfl (l' := #[rv r0, iv 1, iv 1, iv 0, iv 2, iv s2, iv (u - s2)]) rfl (oIn X65 hx hby d6_142 rfl q))) ?_
    refine own_stI X65 hx hZ e65 f66 hby ⟨by decide, by decide⟩ 0 rfl (Nat.le_of_ble_eq_true rfl) N63 ge_sA d6_143 fun T67 h67 X67 e67 W67 Vr67 N67 => ?_
    have V67 : Arv Z h67 sA kS .int (256 : Int32) [(.int 0), (.int s1), (.int s2), (.int s3)] (.int 0) := Vr67
    have f68 := ((f42.keep K63 (ninS ne_r0_bA nin0)).other W67 (Or.inl ne_r0_sA))
    refine own_by (fun t q => oIn X67 hx hby d6_144 rfl (oIl X67 hx hby d6_145 rfl (XS.iadd X67.here hx rfl (hb hby d6_147) rfl (XS.istoreN X67.here hx rfl (hb hby d6_148) rfl (l' := #[rv r0, iv 1, iv 1, iv ((0 : Int32) + (u - s2)), iv 2, iv s2, iv (u - s2)]) rfl (XS.iinc X67.here hx rfl (hb hby d6_149) rfl (l' := #[rv r0, iv 1, iv 1, iv ((0 : Int32) + (u - s2)), iv 3, iv s2, iv (u - s2)]) rfl (oGo X67 hx hby 152 78 d6_152 (by decide) (by decide) q)))))) ?_
    refine own_by (fun t q => oIl X67 hx hby d6_78 rfl q) ?_
    refine own_aF X67 hx hZ hown hw 36 rfl e67 f68 hby d6_80 rfl d6_81 fun T69 X69 e69 => ?_
    have f70 := ((f55.keep K63).wr W67)
    refine own_by (fun t q => oJy X69 hx hby 84 155 d6_84 (flt (by decide : ¬ ((3 : Int32) < (3 : Int32)))).2.1 (by decide) (by decide) (oAn X69 hx hby d6_155 rfl rfl (oIn X69 hx hby d6_156 rfl q))) ?_
    refine own_pF X69 hx hZ hown hw 36 37 3 rfl rfl rfl e69 f68 f70 (ty := .int) (by decide) rfl rfl N67 ge_r0 hby d6_157 fun T71 h71 X71 e71 W71 Fw71 N71 => ?_
    have f72 := (f70.wr W71)
    have f73 := (((f56.keep K63 (ninS ne_r0_bA nin0)).other W67 (Or.inl ne_r0_sA)).other W71 (Or.inr (sn_0 hw)))
    refine own_by (fun t q => oAn X71 hx hby d6_160 rfl rfl (oIn X71 hx hby d6_161 rfl q)) ?_
    refine own_pF X71 hx hZ hown hw 38 39 3 rfl rfl rfl e71 f73 f72 (ty := .int) (by decide) rfl rfl N71 ge_r0 hby d6_162 fun T74 h74 X74 e74 W74 Fw74 N74 => ?_
    have f75 := (f72.wr W74)
    have f76 := (Fw71.other W74 (Or.inr (sn_25 hw)))
    have f77 := (((((((Fw16.other W25 (Or.inl (Nat.ne_of_lt (Nat.lt_of_lt_of_le E_r0.lt p1_1)))).other W33 (Or.inl (Nat.ne_of_lt (Nat.lt_of_lt_of_le E_r0.lt p1_1)))).other W41 (Or.inl (Nat.ne_of_lt (Nat.lt_of_lt_of_le E_r0.lt p1_1)))).keep K63 (ninS ne_r0_bA nin0)).other W67 (Or.inl ne_r0_sA)).other W71 (Or.inr (sn_1 hw))).other W74 (Or.inr (sn_2 hw)))
    have f78 := ((((f58.keep K63 (ninS ne_r0_bA nin0)).other W67 (Or.inl ne_r0_sA)).other W71 (Or.inr (sn_26 hw))).other W74 (Or.inr (sn_27 hw)))
    have f79 := (((Vr63.other W67 ne_bA_sA).other W71 ne_bA_r0).other W74 ne_bA_r0)
    have f80 := ((((f62.keep K63).wr W67).wr W71).wr W74)
    have f81 := (((f64.other W67 (Or.inl ne_r0_sA)).other W71 (Or.inr (sn_28 hw))).other W74 (Or.inr (sn_29 hw)))
    have f82 := ((V67.other W71 ne_sA_r0).other W74 ne_sA_r0)
    have f83 := ((((f57.keep K63).wr W67).wr W71).wr W74)
    have f84 := (((((((((p1_8.keep K11 nin0).other W16 (Or.inr (sn_30 hw))).other W25 (Or.inl (Nat.ne_of_lt (Nat.lt_of_lt_of_le E_r0.lt p1_1)))).other W33 (Or.inl (Nat.ne_of_lt (Nat.lt_of_lt_of_le E_r0.lt p1_1)))).other W41 (Or.inl (Nat.ne_of_lt (Nat.lt_of_lt_of_le E_r0.lt p1_1)))).keep K63 (ninS ne_r0_bA nin0)).other W67 (Or.inl ne_r0_sA)).other W71 (Or.inr (sn_31 hw))).other W74 (Or.inr (sn_32 hw)))
    have f85 := (((((((((p1_9.keep K11 nin0).other W16 (Or.inr (sn_33 hw))).other W25 (Or.inl (Nat.ne_of_lt (Nat.lt_of_lt_of_le E_r0.lt p1_1)))).other W33 (Or.inl (Nat.ne_of_lt (Nat.lt_of_lt_of_le E_r0.lt p1_1)))).other W41 (Or.inl (Nat.ne_of_lt (Nat.lt_of_lt_of_le E_r0.lt p1_1)))).keep K63 (ninS ne_r0_bA nin0)).other W67 (Or.inl ne_r0_sA)).other W71 (Or.inr (sn_34 hw))).other W74 (Or.inr (sn_35 hw)))
    have f86 := ((((((((p11_1.other W16 (Ne.symm (Nat.ne_of_lt (Nat.lt_of_lt_of_le f9.lt p11_0)))).other W25 (Ne.symm (Nat.ne_of_lt (Nat.lt_of_lt_of_le p1_14.lt p11_0)))).other W33 (Ne.symm (Nat.ne_of_lt (Nat.lt_of_lt_of_le p1_14.lt p11_0)))).other W41 (Ne.symm (Nat.ne_of_lt (Nat.lt_of_lt_of_le p1_14.lt p11_0)))).keep K63 (ninS (Ne.symm (Nat.ne_of_lt (Nat.lt_of_lt_of_le f12.lt p11_0))) nin0)).other W67 (Ne.symm (Nat.ne_of_lt (Nat.lt_of_lt_of_le f6.lt p11_0)))).other W71 (Ne.symm (Nat.ne_of_lt (Nat.lt_of_lt_of_le f9.lt p11_0)))).other W74 (Ne.symm (Nat.ne_of_lt (Nat.lt_of_lt_of_le f9.lt p11_0))))
    have f87 := ((((((((p11_2.wr W16).wr W25).wr W33).wr W41).keep K63).wr W67).wr W71).wr W74)
    have f88 := (((((f38.other W41 (Or.inl (Nat.ne_of_lt (Nat.lt_of_lt_of_le E_r0.lt p1_1)))).keep K63 (ninS ne_r0_bA nin0)).other W67 (Or.inl ne_r0_sA)).other W71 (Or.inr (sn_36 hw))).other W74 (Or.inr (sn_37 hw)))
    have f89 := (((((f40.other W41 p1_2).keep K63 (ninS (Ne.symm (Nat.ne_of_lt (Nat.lt_of_lt_of_le B_bA.lt p1_0))) nin0)).other W67 (Ne.symm (Nat.ne_of_lt (Nat.lt_of_lt_of_le V_sA.lt p1_0)))).other W71 (Ne.symm (Nat.ne_of_lt (Nat.lt_of_lt_of_le E_r0.lt p1_0)))).other W74 (Ne.symm (Nat.ne_of_lt (Nat.lt_of_lt_of_le E_r0.lt p1_0))))
    have f90 := (((((((((p1_12.keep K11).wr W16).wr W25).wr W33).wr W41).keep K63).wr W67).wr W71).wr W74)
    have f91 := ((((f45.keep K63 (ninS ne_r0_bA nin0)).other W67 (Or.inl ne_r0_sA)).other W71 (Or.inr (sn_38 hw))).other W74 (Or.inr (sn_39 hw)))
    have f92 := ((((V41.keep K63 (ninS (Ne.symm (Nat.ne_of_lt (Nat.lt_of_lt_of_le B_bA.lt p1_1))) nin0)).other W67 (Ne.symm (Nat.ne_of_lt (Nat.lt_of_lt_of_le V_sA.lt p1_1)))).other W71 (Ne.symm (Nat.ne_of_lt (Nat.lt_of_lt_of_le E_r0.lt p1_1)))).other W74 (Ne.symm (Nat.ne_of_lt (Nat.lt_of_lt_of_le E_r0.lt p1_1))))
    have f93 := (((((((((p1_15.keep K11).wr W16).wr W25).wr W33).wr W41).keep K63).wr W67).wr W71).wr W74)
    refine own_out X74 Bd.notSynchronized Bd.returns (none) (fun _ => rfl) (by decide) (by decide) ?_ fun fs hr => ?_
    · rw [e74]; exact ⟨ar_11, (s2 - s1), ((0 : Int32) + (u - s2)), (2 : Int32), (1 : Int32), (0 : Int32), (2 : Int32), (1 : Int32), (0 : Int32), oA_1, kO_1, cA_1, kC_1, rfl, N74, (((((((((((Keep.refl h0 [r0, bA, sA]).trans K1 (allS (Or.inl (List.mem_of_getElem? (i := 0) rfl)) all0)).trans K11 all0).wr W16 (Or.inl (List.mem_of_getElem? (i := 0) rfl))).wr W25 (Or.inr sz_cA_1)).wr W33 (Or.inr sz_cA_1)).wr W41 (Or.inr sz_cA_1)).trans K63 (allS (Or.inl (List.mem_of_getElem? (i := 1) rfl)) all0)).wr W67 (Or.inl (List.mem_of_getElem? (i := 2) rfl))).wr W71 (Or.inl (List.mem_of_getElem? (i := 0) rfl))).wr W74 (Or.inl (List.mem_of_getElem? (i := 0) rfl))), sz_ar_11, sz_oA_1, sz_cA_1, p1_2, (Ne.symm (Nat.ne_of_lt (Nat.lt_of_lt_of_le p1_11.lt p11_0))), (Ne.symm (Nat.ne_of_lt (Nat.lt_of_lt_of_le p1_14.lt p11_0))), f75, f76, Fw74, f77, f78, f79, f80, f81, f82, f83, f84, f85, f86, f87, f88, f89, f90, f91, f92, f93, (by have w0 := own_lits; have w1a := c_isub u s2; have w1b := rng32 (u - s2); have w2a := c_iadd (0 : Int32) (u - s2); have w2b := rng32 ((0 : Int32) + (u - s2)); have w3a := c_isub s2 s1; have w3b := rng32 (s2 - s1); omega)⟩
    · exact X74.returnOut hx Bd.returns (hb hby d6_165) hr
  · have pl1 := (allS (P := fun x => ∃ cell : Cell, h0[x]? = some cell ∧ cell.vm.isStatics = false) (own_ns E_r0) all0)
    have g_oA_1 : n0 ≤ oA_1 := Nat.le_trans Z0 p1_0
    have sz_oA_1 : h0.size ≤ oA_1 := Nat.le_trans (Keep.refl h0 []).1 p1_0
    have g_cA_1 : n0 ≤ cA_1 := Nat.le_trans Z0 p1_1
    have sz_cA_1 : h0.size ≤ cA_1 := Nat.le_trans (Keep.refl h0 []).1 p1_1
    have N1 := Fr.app N0 N1q
    refine own_aF X1 hx hZ hown hw 36 rfl rfl p1_3 hby d6_4 rfl d6_5 fun T94 X94 e94 => ?_
    refine own_by (fun t q => oIc X94 hx hby d6_8 (XS.idiv X94.here hx rfl (hb hby d6_9) rfl (by decide) (XS.istoreN X94.here hx rfl (hb hby d6_10) rfl (l' := #[rv r0, iv 1, .unset, .unset, .unset, .unset, .unset]) rfl (oAn X94 hx hby d6_11 rfl rfl q)))) ?_
    refine own_aF X94 hx hZ hown hw 11 rfl e94 p1_5 hby d6_12 rfl d6_13 fun T95 X95 e95 => ?_
    refine own_aF X95 hx hZ hown hw 14 rfl e95 p1_6 hby d6_16 rfl d6_17 fun T96 X96 e96 => ?_
    refine own_aF X96 hx hZ hown hw 16 rfl e96 p1_10 hby d6_20 rfl d6_21 fun T97 X97 e97 => ?_
    have f98 := (V_sA.keep K1 (ninS ne_sA_r0 nin0))
    refine own_by (fun t q => oIn X97 hx hby d6_24 rfl (own_ldI X97 hx hZ e97 p1_11 hby ⟨by decide, by decide⟩ (v := (.int 2)) rfl d6_25 (own_ldI X97 hx hZ e97 f98 hby ⟨by decide, by decide⟩ (v := (.int s2)) rfl d6_26 (oAn X97 hx hby d6_27 rfl rfl q)))) ?_
    refine own_aF X97 hx hZ hown hw 16 rfl e97 p1_10 hby d6_28 rfl d6_29 fun T99 X99 e99 => ?_
    have f101 := (E_r0.keep K1)
    have f102 := (E_sA.keep K1)
    refine own_by (fun t q => oIn X99 hx hby d6_32 rfl (own_ldI X99 hx hZ e99 p1_11 hby ⟨by decide, by decide⟩ (v := (.int 2)) rfl d6_33 q)) ?_
    refine own_cP 3 (rm11_32 l Z a0 hw [] r0 sA kS u s0 s1 s2 s3 T1.heap n0 (Nat.le_trans Z0 K1.1) f101 p1_3 p1_4 p1_6 f98 f102) X99 hx hZ hown hw 70 71 3 72 4 73 rfl rfl rfl rfl rfl rfl r0 f101 [(.int 2)] [(.int s2), (.ref bA), (.ref r0)] hby d6_34 hml (lenOf pd_7 rfl) e99 rfl (Nat.le_refl _) (by decide) fun _ T100 L100 X100 hQ100 => ?_
    obtain ⟨rfl, N100q, e100⟩ := hQ100
    have N100 := Fr.app N1 N100q
    have f104 := (B_bA.keep K1 (ninS ne_bA_r0 nin0))
    refine own_cK 1 (rm15 l Z a0 hw [] bA s2 u (4096 : Int32) T1.heap n0 (Nat.le_trans Z0 K1.1) f104 (by have w0 := own_lits; omega) (by have w0 := own_lits; omega)) X100 hx hZ hown hw 86 87 76 88 rfl rfl rfl rfl [(.ref bA), (.int s2), (.int u)] [(.ref r0)] hby d6_37 hml (lenOf pd_6 rfl) e100 rfl (Nat.le_refl _) (by decide) fun _ T103 L103 X103 hQ103 => ?_
    have f105 := (V_oZ.keep K1 (ninS ne_oZ_r0 nin0))
    obtain ⟨ar_103, rfl, N103q, K103, p103_0, p103_1, p103_2⟩ := hQ103
    have g_ar_103 : n0 ≤ ar_103 := Nat.le_trans (Nat.le_trans Z0 K1.1) p103_0
    have sz_ar_103 : h0.size ≤ ar_103 := Nat.le_trans ((Keep.refl h0 [r0]).trans K1 (allS (Or.inl (List.mem_of_getElem? (i := 0) rfl)) all0)).1 p103_0
    have N103 := Fr.app N100 N103q
    have f106 := (f101.keep K103)
    have f107 := (p1_7.keep K103 nin0)
    refine own_pF X103 hx hZ hown hw 29 30 3 rfl rfl rfl rfl f107 f106 (ty := (.array .byte)) (by decide) rfl rfl N103 ge_r0 hby d6_40 fun T108 h108 X108 e108 W108 Fw108 N108 => ?_
    have f109 := ((p1_3.keep K103 nin0).other W108 (Or.inr (sn_19 hw)))
    refine own_by (fun t q => oIc X108 hx hby d6_43 (XS.istoreN X108.here hx rfl (hb hby d6_44) rfl (l' := #[rv r0, iv 1, iv 0, .unset, .unset, .unset, .unset]) rfl (oIn X108 hx hby d6_45 rfl q))) ?_
    refine own_aF X108 hx hZ hown hw 36 rfl e108 f109 hby d6_46 rfl d6_47 fun T110 X110 e110 => ?_
    have f111 := ((p1_13.keep K103 nin0).other W108 (Or.inr (sn_20 hw)))
    refine own_by (fun t q => oJn X110 hx hby d6_50 (tlt (by decide : (0 : Int32) < (3 : Int32))).2.1 q) ?_
    refine own_aF X110 hx hZ hown hw 18 rfl e110 f111 hby d6_53 rfl d6_54 fun T112 X112 e112 => ?_
    have f113 := ((p1_10.keep K103 nin0).other W108 (Or.inr (sn_21 hw)))
    refine own_aF X112 hx hZ hown hw 16 rfl e112 f113 hby d6_57 rfl d6_58 fun T114 X114 e114 => ?_
    have f115 := ((p1_11.keep K103 nin0).other W108 (Ne.symm (Nat.ne_of_lt (Nat.lt_of_lt_of_le E_r0.lt p1_0))))
    have f116 := ((p1_14.keep K103 nin0).other W108 (Ne.symm (Nat.ne_of_lt (Nat.lt_of_lt_of_le E_r0.lt p1_1))))
    refine own_by (fun t q => oIn X114 hx hby d6_61 rfl (own_ldI X114 hx hZ e114 f115 hby ⟨by decide, by decide⟩ (v := (.int 1)) rfl d6_62 (oIn X114 hx hby d6_63 rfl q))) ?_
    refine own_stI X114 hx hZ e114 f116 hby ⟨by decide, by decide⟩ 1 rfl (Nat.le_of_ble_eq_true rfl) N108 g_cA_1 d6_64 fun T117 h117 X117 e117 W117 Vr117 N117 => ?_
    have V117 : Arv Z h117 cA_1 kC_1 .int (256 : Int32) [(.int 1), (.int 0), (.int 2)] (.int 0) := Vr117
    have f118 := (f109.other W117 (Or.inl (Nat.ne_of_lt (Nat.lt_of_lt_of_le E_r0.lt p1_1))))
    refine own_by (fun t q => XS.iinc X117.here hx rfl (hb hby d6_65) rfl (l' := #[rv r0, iv 1, iv 1, .unset, .unset, .unset, .unset]) rfl (oGo X117 hx hby 68 45 d6_68 (by decide) (by decide) (oIn X117 hx hby d6_45 rfl q))) ?_
    refine own_aF X117 hx hZ hown hw 36 rfl e117 f118 hby d6_46 rfl d6_47 fun T119 X119 e119 => ?_
    have f120 := (f111.other W117 (Or.inl (Nat.ne_of_lt (Nat.lt_of_lt_of_le E_r0.lt p1_1))))
    refine own_by (fun t q => oJn X119 hx hby d6_50 (tlt (by decide : (1 : Int32) < (3 : Int32))).2.1 q) ?_
    refine own_aF X119 hx hZ hown hw 18 rfl e119 f120 hby d6_53 rfl d6_54 fun T121 X121 e121 => ?_
    have f122 := (f113.other W117 (Or.inl (Nat.ne_of_lt (Nat.lt_of_lt_of_le E_r0.lt p1_1))))
    refine own_aF X121 hx hZ hown hw 16 rfl e121 f122 hby d6_57 rfl d6_58 fun T123 X123 e123 => ?_
    have f124 := (f115.other W117 p1_2)
    refine own_by (fun t q => oIn X123 hx hby d6_61 rfl (own_ldI X123 hx hZ e123 f124 hby ⟨by decide, by decide⟩ (v := (.int 2)) rfl d6_62 (oIn X123 hx hby d6_63 rfl q))) ?_
    refine own_stI X123 hx hZ e123 V117 hby ⟨by decide, by decide⟩ 2 rfl (Nat.le_of_ble_eq_true rfl) N117 g_cA_1 d6_64 fun T125 h125 X125 e125 W125 Vr125 N125 => ?_
    have V125 : Arv Z h125 cA_1 kC_1 .int (256 : Int32) [(.int 1), (.int 0), (.int 1)] (.int 0) := Vr125
    have f126 := (f118.other W125 (Or.inl (Nat.ne_of_lt (Nat.lt_of_lt_of_le E_r0.lt p1_1))))
    refine own_by (fun t q => XS.iinc X125.here hx rfl (hb hby d6_65) rfl (l' := #[rv r0, iv 1, iv 2, .unset, .unset, .unset, .unset]) rfl (oGo X125 hx hby 68 45 d6_68 (by decide) (by decide) (oIn X125 hx hby d6_45 rfl q))) ?_
    refine own_aF X125 hx hZ hown hw 36 rfl e125 f126 hby d6_46 rfl d6_47 fun T127 X127 e127 => ?_
    have f128 := (f120.other W125 (Or.inl (Nat.ne_of_lt (Nat.lt_of_lt_of_le E_r0.lt p1_1))))
    refine own_by (fun t q => oJn X127 hx hby d6_50 (tlt (by decide : (2 : Int32) < (3 : Int32))).2.1 q) ?_
    refine own_aF X127 hx hZ hown hw 18 rfl e127 f128 hby d6_53 rfl d6_54 fun T129 X129 e129 => ?_
    have f130 := (f122.other W125 (Or.inl (Nat.ne_of_lt (Nat.lt_of_lt_of_le E_r0.lt p1_1))))
    refine own_aF X129 hx hZ hown hw 16 rfl e129 f130 hby d6_57 rfl d6_58 fun T131 X131 e131 => ?_
    have f132 := (f124.other W125 p1_2)
    refine own_by (fun t q => oIn X131 hx hby d6_61 rfl (own_ldI X131 hx hZ e131 f132 hby ⟨by decide, by decide⟩ (v := (.int 0)) rfl d6_62 (oIn X131 hx hby d6_63 rfl q))) ?_
    refine own_stI X131 hx hZ e131 V125 hby ⟨by decide, by decide⟩ 0 rfl (Nat.le_of_ble_eq_true rfl) N125 g_cA_1 d6_64 fun T133 h133 X133 e133 W133 Vr133 N133 => ?_
    have V133 : Arv Z h133 cA_1 kC_1 .int (256 : Int32) [(.int 2), (.int 0), (.int 1)] (.int 0) := Vr133
    have f134 := (f126.other W133 (Or.inl (Nat.ne_of_lt (Nat.lt_of_lt_of_le E_r0.lt p1_1))))
    refine own_by (fun t q => XS.iinc X133.here hx rfl (hb hby d6_65) rfl (l' := #[rv r0, iv 1, iv 3, .unset, .unset, .unset, .unset]) rfl (oGo X133 hx hby 68 45 d6_68 (by decide) (by decide) (oIn X133 hx hby d6_45 rfl q))) ?_
    refine own_aF X133 hx hZ hown hw 36 rfl e133 f134 hby d6_46 rfl d6_47 fun T135 X135 e135 => ?_
    refine own_by (fun t q => oJy X135 hx hby 50 71 d6_50 (flt (by decide : ¬ ((3 : Int32) < (3 : Int32)))).2.1 (by decide) (by decide) (oIc X135 hx hby d6_71 (XS.istoreN X135.here hx rfl (hb hby d6_72) rfl (l' := #[rv r0, iv 1, iv 0, .unset, .unset, .unset, .unset]) rfl (oIc X135 hx hby d6_73 (XS.istoreN X135.here hx rfl (hb hby d6_74) rfl (l' := #[rv r0, iv 1, iv 0, iv 0, .unset, .unset, .unset]) rfl (oIc X135 hx hby d6_75 q)))))) ?_
    refine own_by (fun t q => XS.istore X135.here hx rfl (hb hby d6_76) rfl (l' := #[rv r0, iv 1, iv 0, iv 0, iv 0, .unset, .unset]) rfl (oIl X135 hx hby d6_78 rfl q)) ?_
    refine own_aF X135 hx hZ hown hw 36 rfl e135 f134 hby d6_80 rfl d6_81 fun T136 X136 e136 => ?_
    have f137 := (f128.other W133 (Or.inl (Nat.ne_of_lt (Nat.lt_of_lt_of_le E_r0.lt p1_1))))
    refine own_by (fun t q => oJn X136 hx hby d6_84 (tlt (by decide : (0 : Int32) < (3 : Int32))).2.1 q) ?_
    refine own_aF X136 hx hZ hown hw 18 rfl e136 f137 hby d6_87 rfl d6_88 fun T138 X138 e138 => ?_
    refine own_by (fun t q => oIl X138 hx hby d6_91 rfl (own_ldI X138 hx hZ e138 V133 hby ⟨by decide, by decide⟩ (v := (.int 2)) rfl d6_93 (oIn X138 hx hby d6_94 rfl (oJy X138 hx hby 95 149 d6_95 (flt (by decide : ¬ ((2 : Int32) < (1 : Int32)))).2.1 (by decide) (by decide) (XS.iinc X138.here hx rfl (hb hby d6_149) rfl (l' := #[rv r0, iv 1, iv 0, iv 0, iv 1, .unset, .unset]) rfl (oGo X138 hx hby 152 78 d6_152 (by decide) (by decide) q)))))) ?_
    refine own_by (fun t q => oIl X138 hx hby d6_78 rfl q) ?_
    refine own_aF X138 hx hZ hown hw 36 rfl e138 f134 hby d6_80 rfl d6_81 fun T139 X139 e139 => ?_
    refine own_by (fun t q => oJn X139 hx hby d6_84 (tlt (by decide : (1 : Int32) < (3 : Int32))).2.1 q) ?_
    refine own_aF X139 hx hZ hown hw 18 rfl e139 f137 hby d6_87 rfl d6_88 fun T140 X140 e140 => ?_
    have f141 := (((((p1_6.keep K103 nin0).other W108 (Or.inr (sn_22 hw))).other W117 (Or.inl (Nat.ne_of_lt (Nat.lt_of_lt_of_le E_r0.lt p1_1)))).other W125 (Or.inl (Nat.ne_of_lt (Nat.lt_of_lt_of_le E_r0.lt p1_1)))).other W133 (Or.inl (Nat.ne_of_lt (Nat.lt_of_lt_of_le E_r0.lt p1_1))))
    refine own_by (fun t q => oIl X140 hx hby d6_91 rfl (own_ldI X140 hx hZ e140 V133 hby ⟨by decide, by decide⟩ (v := (.int 0)) rfl d6_93 (oIn X140 hx hby d6_94 rfl (oJn X140 hx hby d6_95 (tlt (by decide : (0 : Int32) < (1 : Int32))).2.1 q)))) ?_
    refine own_aF X140 hx hZ hown hw 14 rfl e140 f141 hby d6_98 rfl d6_99 fun T142 X142 e142 => ?_
    have f143 := (((((f98.keep K103 nin0).other W108 ne_sA_r0).other W117 (Nat.ne_of_lt (Nat.lt_of_lt_of_le V_sA.lt p1_1))).other W125 (Nat.ne_of_lt (Nat.lt_of_lt_of_le V_sA.lt p1_1))).other W133 (Nat.ne_of_lt (Nat.lt_of_lt_of_le V_sA.lt p1_1)))
    have f145 := ((((f106.wr W108).wr W117).wr W125).wr W133)
    have f146 := (((((p1_4.keep K103 nin0).other W108 (Or.inr (sn_23 hw))).other W117 (Or.inl (Nat.ne_of_lt (Nat.lt_of_lt_of_le E_r0.lt p1_1)))).other W125 (Or.inl (Nat.ne_of_lt (Nat.lt_of_lt_of_le E_r0.lt p1_1)))).other W133 (Or.inl (Nat.ne_of_lt (Nat.lt_of_lt_of_le E_r0.lt p1_1))))
    have f147 := (((((f102.keep K103).wr W108).wr W117).wr W125).wr W133)
    refine own_by (fun t q => oIl X142 hx hby d6_102 rfl (own_ldI X142 hx hZ e142 f143 hby ⟨by decide, by decide⟩ (v := (.int s1)) rfl d6_104 (XS.istore X142.here hx rfl (hb hby d6_105) rfl (l' := #[rv r0, iv 1, iv 0, iv 0, iv 1, iv s1, .unset]) rfl (oAn X142 hx hby d6_107 rfl rfl (oIl X142 hx hby d6_108 rfl q))))) ?_
    refine own_cP 0 (rm11_31 l Z a0 hw [] r0 sA kS u s0 s1 s2 s3 h133 n0 (Nat.le_trans (Nat.le_trans (Nat.le_trans (Nat.le_trans (Nat.le_trans (Nat.le_trans Z0 K1.1) K103.1) (Keep.of_wr W108).1) (Keep.of_wr W117).1) (Keep.of_wr W125).1) (Keep.of_wr W133).1) f145 f134 f146 f141 f143 f147) X142 hx hZ hown hw 70 71 3 72 4 73 rfl rfl rfl rfl rfl rfl r0 f145 [(.int 1)] [] hby d6_110 hml (lenOf pd_7 rfl) e142 rfl (Nat.le_refl _) (by decide) fun _ T144 L144 X144 hQ144 => ?_
    obtain ⟨rfl, N144q, e144⟩ := hQ144
    have N144 := Fr.app N133 N144q
    have f148 := (((((p1_5.keep K103 nin0).other W108 (Or.inr (sn_24 hw))).other W117 (Or.inl (Nat.ne_of_lt (Nat.lt_of_lt_of_le E_r0.lt p1_1)))).other W125 (Or.inl (Nat.ne_of_lt (Nat.lt_of_lt_of_le E_r0.lt p1_1)))).other W133 (Or.inl (Nat.ne_of_lt (Nat.lt_of_lt_of_le E_r0.lt p1_1))))
    refine own_by (fun t q => oIl X144 hx hby d6_113 rfl (XS.isub X144.here hx rfl (hb hby d6_115) rfl (XS.istore X144.here hx rfl (hb hby d6_116) rfl (l' := #[rv r0, iv 1, iv 0, iv 0, iv 1, iv s1, iv (s2 - s1)]) rfl q))) ?_
    refine own_aF X144 hx hZ hown hw 11 rfl e144 f148 hby d6_118 rfl d6_119 fun T149 X149 e149 => ?_
    refine own_by (fun t q => oIl X149 hx hby d6_122 rfl q) ?_
    refine own_aF X149 hx hZ hown hw 11 rfl e149 f148 hby d6_124 rfl d6_125 fun T150 X150 e150 => ?_
    have f151 := (((((f104.keep K103 nin0).other W108 ne_bA_r0).other W117 (Nat.ne_of_lt (Nat.lt_of_lt_of_le B_bA.lt p1_1))).other W125 (Nat.ne_of_lt (Nat.lt_of_lt_of_le B_bA.lt p1_1))).other W133 (Nat.ne_of_lt (Nat.lt_of_lt_of_le B_bA.lt p1_1)))
    have f152 := ((((((E_bA.keep K1).keep K103).wr W108).wr W117).wr W125).wr W133)
    obtain ⟨T153, h153, L153, X153, e153, N153, K153, Vr153, st153⟩ := own_bcp X150 hx hZ hown (own_at hw 45 rfl) (own_at hw 48 rfl) (own_at hw 46 rfl) (own_at hw 47 rfl) e150 f151 f151 (sp := s1) (dp := (0 : Int32)) (nn := (s2 - s1)) (by have w0 := own_lits; have w1a := c_isub s2 s1; have w1b := rng32 (s2 - s1); omega) N144 ge_bA (g := (mkF m 131 #[rv r0, iv 1, iv 0, iv 0, iv 1, iv s1, iv (s2 - s1)] [(.int (s2 - s1)), (.int 0), (.ref bA), (.int s1), (.ref bA)])) rfl (by rw [hml]; rfl) rfl (hb hby d6_131) (by decide) (W := 0) (Nat.le_refl _) (by decide)
    have pl153 := (allS (P := fun x => ∃ cell : Cell, h133[x]? = some cell ∧ cell.vm.isStatics = false) (own_ns f152) all0)
    have f154 := (f141.keep K153 (ninS ne_r0_bA nin0))
    refine own_by (fun t q => oIn X150 hx hby d6_128 rfl (oIl X150 hx hby d6_129 rfl (st153 _ q))) ?_
    refine own_aF X153 hx hZ hown hw 14 rfl e153 f154 hby d6_134 rfl d6_135 fun T155 X155 e155 => ?_
    have f156 := (f143.keep K153 (ninS ne_sA_bA nin0))
    refine own_by (fun t q => oIn X155 hx hby d6_138 rfl (XS.iinc X155.here hx rfl (hb hby d6_139) rfl (l' := #[rv r0, iv 1, iv 1, iv 0, iv 1, iv s1, iv (s2 - s1)]) rfl (oIn X155 hx hby d6_142 rfl q))) ?_
    refine own_stI X155 hx hZ e155 f156 hby ⟨by decide, by decide⟩ 0 rfl (Nat.le_of_ble_eq_true rfl) N153 ge_sA d6_143 fun T157 h157 X157 e157 W157 Vr157 N157 => ?_
    have V157 : Arv Z h157 sA kS .int (256 : Int32) [(.int 0), (.int s1), (.int s2), (.int s3)] (.int 0) := Vr157
    have f158 := ((f134.keep K153 (ninS ne_r0_bA nin0)).other W157 (Or.inl ne_r0_sA))
    refine own_by (fun t q => oIn X157 hx hby d6_144 rfl (oIl X157 hx hby d6_145 rfl (XS.iadd X157.here hx rfl (hb hby d6_147) rfl (XS.istoreN X157.here hx rfl (hb hby d6_148) rfl (l' := #[rv r0, iv 1, iv 1, iv ((0 : Int32) + (s2 - s1)), iv 1, iv s1, iv (s2 - s1)]) rfl (XS.iinc X157.here hx rfl (hb hby d6_149) rfl (l' := #[rv r0, iv 1, iv 1, iv ((0 : Int32) + (s2 - s1)), iv 2, iv s1, iv (s2 - s1)]) rfl (oGo X157 hx hby 152 78 d6_152 (by decide) (by decide) q)))))) ?_
    refine own_by (fun t q => oIl X157 hx hby d6_78 rfl q) ?_
    refine own_aF X157 hx hZ hown hw 36 rfl e157 f158 hby d6_80 rfl d6_81 fun T159 X159 e159 => ?_
    have f160 := ((f137.keep K153 (ninS ne_r0_bA nin0)).other W157 (Or.inl ne_r0_sA))
    refine own_by (fun t q => oJn X159 hx hby d6_84 (tlt (by decide : (2 : Int32) < (3 : Int32))).2.1 q) ?_
    refine own_aF X159 hx hZ hown hw 18 rfl e159 f160 hby d6_87 rfl d6_88 fun T161 X161 e161 => ?_
    have f162 := ((V133.keep K153 (ninS (Ne.symm (Nat.ne_of_lt (Nat.lt_of_lt_of_le B_bA.lt p1_1))) nin0)).other W157 (Ne.symm (Nat.ne_of_lt (Nat.lt_of_lt_of_le V_sA.lt p1_1))))
    refine own_by (fun t q => oIl X161 hx hby d6_91 rfl (own_ldI X161 hx hZ e161 f162 hby ⟨by decide, by decide⟩ (v := (.int 1)) rfl d6_93 (oIn X161 hx hby d6_94 rfl (oJy X161 hx hby 95 149 d6_95 (flt (by decide : ¬ ((1 : Int32) < (1 : Int32)))).2.1 (by decide) (by decide) (XS.iinc X161.here hx rfl (hb hby d6_149) rfl (l' := #[rv r0, iv 1, iv 1, iv ((0 : Int32) + (s2 - s1)), iv 3, iv s1, iv (s2 - s1)]) rfl (oGo X161 hx hby 152 78 d6_152 (by decide) (by decide) q)))))) ?_
    refine own_by (fun t q => oIl X161 hx hby d6_78 rfl q) ?_
    refine own_aF X161 hx hZ hown hw 36 rfl e161 f158 hby d6_80 rfl d6_81 fun T163 X163 e163 => ?_
    have f164 := ((f145.keep K153).wr W157)
    refine own_by (fun t q => oJy X163 hx hby 84 155 d6_84 (flt (by decide : ¬ ((3 : Int32) < (3 : Int32)))).2.1 (by decide) (by decide) (oAn X163 hx hby d6_155 rfl rfl (oIn X163 hx hby d6_156 rfl q))) ?_
    refine own_pF X163 hx hZ hown hw 36 37 3 rfl rfl rfl e163 f158 f164 (ty := .int) (by decide) rfl rfl N157 ge_r0 hby d6_157 fun T165 h165 X165 e165 W165 Fw165 N165 => ?_
    have f166 := (f164.wr W165)
    have f167 := (((f146.keep K153 (ninS ne_r0_bA nin0)).other W157 (Or.inl ne_r0_sA)).other W165 (Or.inr (sn_0 hw)))
    refine own_by (fun t q => oAn X165 hx hby d6_160 rfl rfl (oIn X165 hx hby d6_161 rfl q)) ?_
    refine own_pF X165 hx hZ hown hw 38 39 3 rfl rfl rfl e165 f167 f166 (ty := .int) (by decide) rfl rfl N165 ge_r0 hby d6_162 fun T168 h168 X168 e168 W168 Fw168 N168 => ?_
    have f169 := (f166.wr W168)
    have f170 := (Fw165.other W168 (Or.inr (sn_25 hw)))
    have f171 := (((((((Fw108.other W117 (Or.inl (Nat.ne_of_lt (Nat.lt_of_lt_of_le E_r0.lt p1_1)))).other W125 (Or.inl (Nat.ne_of_lt (Nat.lt_of_lt_of_le E_r0.lt p1_1)))).other W133 (Or.inl (Nat.ne_of_lt (Nat.lt_of_lt_of_le E_r0.lt p1_1)))).keep K153 (ninS ne_r0_bA nin0)).other W157 (Or.inl ne_r0_sA)).other W165 (Or.inr (sn_1 hw))).other W168 (Or.inr (sn_2 hw)))
    have f172 := ((((f148.keep K153 (ninS ne_r0_bA nin0)).other W157 (Or.inl ne_r0_sA)).other W165 (Or.inr (sn_26 hw))).other W168 (Or.inr (sn_27 hw)))
    have f173 := (((Vr153.other W157 ne_bA_sA).other W165 ne_bA_r0).other W168 ne_bA_r0)
    have f174 := ((((f152.keep K153).wr W157).wr W165).wr W168)
    have f175 := (((f154.other W157 (Or.inl ne_r0_sA)).other W165 (Or.inr (sn_28 hw))).other W168 (Or.inr (sn_29 hw)))
    have f176 := ((V157.other W165 ne_sA_r0).other W168 ne_sA_r0)
    have f177 := ((((f147.keep K153).wr W157).wr W165).wr W168)
    have f178 := (((((((((p1_8.keep K103 nin0).other W108 (Or.inr (sn_30 hw))).other W117 (Or.inl (Nat.ne_of_lt (Nat.lt_of_lt_of_le E_r0.lt p1_1)))).other W125 (Or.inl (Nat.ne_of_lt (Nat.lt_of_lt_of_le E_r0.lt p1_1)))).other W133 (Or.inl (Nat.ne_of_lt (Nat.lt_of_lt_of_le E_r0.lt p1_1)))).keep K153 (ninS ne_r0_bA nin0)).other W157 (Or.inl ne_r0_sA)).other W165 (Or.inr (sn_31 hw))).other W168 (Or.inr (sn_32 hw)))
    have f179 := (((((((((p1_9.keep K103 nin0).other W108 (Or.inr (sn_33 hw))).other W117 (Or.inl (Nat.ne_of_lt (Nat.lt_of_lt_of_le E_r0.lt p1_1)))).other W125 (Or.inl (Nat.ne_of_lt (Nat.lt_of_lt_of_le E_r0.lt p1_1)))).other W133 (Or.inl (Nat.ne_of_lt (Nat.lt_of_lt_of_le E_r0.lt p1_1)))).keep K153 (ninS ne_r0_bA nin0)).other W157 (Or.inl ne_r0_sA)).other W165 (Or.inr (sn_34 hw))).other W168 (Or.inr (sn_35 hw)))
    have f180 := ((((((((p103_1.other W108 (Ne.symm (Nat.ne_of_lt (Nat.lt_of_lt_of_le f101.lt p103_0)))).other W117 (Ne.symm (Nat.ne_of_lt (Nat.lt_of_lt_of_le p1_14.lt p103_0)))).other W125 (Ne.symm (Nat.ne_of_lt (Nat.lt_of_lt_of_le p1_14.lt p103_0)))).other W133 (Ne.symm (Nat.ne_of_lt (Nat.lt_of_lt_of_le p1_14.lt p103_0)))).keep K153 (ninS (Ne.symm (Nat.ne_of_lt (Nat.lt_of_lt_of_le f104.lt p103_0))) nin0)).other W157 (Ne.symm (Nat.ne_of_lt (Nat.lt_of_lt_of_le f98.lt p103_0)))).other W165 (Ne.symm (Nat.ne_of_lt (Nat.lt_of_lt_of_le f101.lt p103_0)))).other W168 (Ne.symm (Nat.ne_of_lt (Nat.lt_of_lt_of_le f101.lt p103_0))))
    have f181 := ((((((((p103_2.wr W108).wr W117).wr W125).wr W133).keep K153).wr W157).wr W165).wr W168)
    have f182 := (((((f130.other W133 (Or.inl (Nat.ne_of_lt (Nat.lt_of_lt_of_le E_r0.lt p1_1)))).keep K153 (ninS ne_r0_bA nin0)).other W157 (Or.inl ne_r0_sA)).other W165 (Or.inr (sn_36 hw))).other W168 (Or.inr (sn_37 hw)))
    have f183 := (((((f132.other W133 p1_2).keep K153 (ninS (Ne.symm (Nat.ne_of_lt (Nat.lt_of_lt_of_le B_bA.lt p1_0))) nin0)).other W157 (Ne.symm (Nat.ne_of_lt (Nat.lt_of_lt_of_le V_sA.lt p1_0)))).other W165 (Ne.symm (Nat.ne_of_lt (Nat.lt_of_lt_of_le E_r0.lt p1_0)))).other W168 (Ne.symm (Nat.ne_of_lt (Nat.lt_of_lt_of_le E_r0.lt p1_0))))
    have f184 := (((((((((p1_12.keep K103).wr W108).wr W117).wr W125).wr W133).keep K153).wr W157).wr W165).wr W168)
    have f185 := ((f160.other W165 (Or.inr (sn_38 hw))).other W168 (Or.inr (sn_39 hw)))
    have f186 := ((f162.other W165 (Ne.symm (Nat.ne_of_lt (Nat.lt_of_lt_of_le E_r0.lt p1_1)))).other W168 (Ne.symm (Nat.ne_of_lt (Nat.lt_of_lt_of_le E_r0.lt p1_1))))
    have f187 := (((((((((p1_15.keep K103).wr W108).wr W117).wr W125).wr W133).keep K153).wr W157).wr W165).wr W168)
    refine own_out X168 Bd.notSynchronized Bd.returns (none) (fun _ => rfl) (by decide) (by decide) ?_ fun fs hr => ?_
    · rw [e168]; exact ⟨ar_103, (u - s2), ((0 : Int32) + (s2 - s1)), (1 : Int32), (2 : Int32), (0 : Int32), (2 : Int32), (0 : Int32), (1 : Int32), oA_1, kO_1, cA_1, kC_1, rfl, N168, (((((((((((Keep.refl h0 [r0, bA, sA]).trans K1 (allS (Or.inl (List.mem_of_getElem? (i := 0) rfl)) all0)).trans K103 all0).wr W108 (Or.inl (List.mem_of_getElem? (i := 0) rfl))).wr W117 (Or.inr sz_cA_1)).wr W125 (Or.inr sz_cA_1)).wr W133 (Or.inr sz_cA_1)).trans K153 (allS (Or.inl (List.mem_of_getElem? (i := 1) rfl)) all0)).wr W157 (Or.inl (List.mem_of_getElem? (i := 2) rfl))).wr W165 (Or.inl (List.mem_of_getElem? (i := 0) rfl))).wr W168 (Or.inl (List.mem_of_getElem? (i := 0) rfl))), sz_ar_103, sz_oA_1, sz_cA_1, p1_2, (Ne.symm (Nat.ne_of_lt (Nat.lt_of_lt_of_le p1_11.lt p103_0))), (Ne.symm (Nat.ne_of_lt (Nat.lt_of_lt_of_le p1_14.lt p103_0))), f169, f170, Fw168, f171, f172, f173, f174, f175, f176, f177, f178, f179, f180, f181, f182, f183, f184, f185, f186, f187, (by have w0 := own_lits; have w1a := c_isub s2 s1; have w1b := rng32 (s2 - s1); have w2a := c_iadd (0 : Int32) (s2 - s1); have w2b := rng32 ((0 : Int32) + (s2 - s1)); have w3a := c_isub u s2; have w3b := rng32 (u - s2); omega)⟩
    · exact X168.returnOut hx Bd.returns (hb hby d6_165) hr
  · have pl1 := (allS (P := fun x => ∃ cell : Cell, h0[x]? = some cell ∧ cell.vm.isStatics = false) (own_ns E_r0) all0)
    have g_oA_1 : n0 ≤ oA_1 := Nat.le_trans Z0 p1_0
    have sz_oA_1 : h0.size ≤ oA_1 := Nat.le_trans (Keep.refl h0 []).1 p1_0
    have g_cA_1 : n0 ≤ cA_1 := Nat.le_trans Z0 p1_1
    have sz_cA_1 : h0.size ≤ cA_1 := Nat.le_trans (Keep.refl h0 []).1 p1_1
    have N1 := Fr.app N0 N1q
    refine own_aF X1 hx hZ hown hw 36 rfl rfl p1_3 hby d6_4 rfl d6_5 fun T188 X188 e188 => ?_
    refine own_by (fun t q => oIc X188 hx hby d6_8 (XS.idiv X188.here hx rfl (hb hby d6_9) rfl (by decide) (XS.istoreN X188.here hx rfl (hb hby d6_10) rfl (l' := #[rv r0, iv 1, .unset, .unset, .unset, .unset, .unset]) rfl (oAn X188 hx hby d6_11 rfl rfl q)))) ?_
    refine own_aF X188 hx hZ hown hw 11 rfl e188 p1_5 hby d6_12 rfl d6_13 fun T189 X189 e189 => ?_
    refine own_aF X189 hx hZ hown hw 14 rfl e189 p1_6 hby d6_16 rfl d6_17 fun T190 X190 e190 => ?_
    refine own_aF X190 hx hZ hown hw 16 rfl e190 p1_10 hby d6_20 rfl d6_21 fun T191 X191 e191 => ?_
    have f192 := (V_sA.keep K1 (ninS ne_sA_r0 nin0))
    refine own_by (fun t q => oIn X191 hx hby d6_24 rfl (own_ldI X191 hx hZ e191 p1_11 hby ⟨by decide, by decide⟩ (v := (.int 0)) rfl d6_25 (own_ldI X191 hx hZ e191 f192 hby ⟨by decide, by decide⟩ (v := (.int s0)) rfl d6_26 (oAn X191 hx hby d6_27 rfl rfl q)))) ?_
    refine own_aF X191 hx hZ hown hw 16 rfl e191 p1_10 hby d6_28 rfl d6_29 fun T193 X193 e193 => ?_
    have f195 := (E_r0.keep K1)
    have f196 := (E_sA.keep K1)
    refine own_by (fun t q => oIn X193 hx hby d6_32 rfl (own_ldI X193 hx hZ e193 p1_11 hby ⟨by decide, by decide⟩ (v := (.int 0)) rfl d6_33 q)) ?_
    refine own_cP 3 (rm11_30 l Z a0 hw [] r0 sA kS u s0 s1 s2 s3 T1.heap n0 (Nat.le_trans Z0 K1.1) f195 p1_3 p1_4 p1_6 f192 f196) X193 hx hZ hown hw 70 71 3 72 4 73 rfl rfl rfl rfl rfl rfl r0 f195 [(.int 0)] [(.int s0), (.ref bA), (.ref r0)] hby d6_34 hml (lenOf pd_7 rfl) e193 rfl (Nat.le_refl _) (by decide) fun _ T194 L194 X194 hQ194 => ?_
    obtain ⟨rfl, N194q, e194⟩ := hQ194
    have N194 := Fr.app N1 N194q
    have f198 := (B_bA.keep K1 (ninS ne_bA_r0 nin0))
    refine own_cK 1 (rm15 l Z a0 hw [] bA s0 s1 (4096 : Int32) T1.heap n0 (Nat.le_trans Z0 K1.1) f198 (by have w0 := own_lits; omega) (by have w0 := own_lits; omega)) X194 hx hZ hown hw 86 87 76 88 rfl rfl rfl rfl [(.ref bA), (.int s0), (.int s1)] [(.ref r0)] hby d6_37 hml (lenOf pd_6 rfl) e194 rfl (Nat.le_refl _) (by decide) fun _ T197 L197 X197 hQ197 => ?_
    have f199 := (V_oZ.keep K1 (ninS ne_oZ_r0 nin0))
    obtain ⟨ar_197, rfl, N197q, K197, p197_0, p197_1, p197_2⟩ := hQ197
    have g_ar_197 : n0 ≤ ar_197 := Nat.le_trans (Nat.le_trans Z0 K1.1) p197_0
    have sz_ar_197 : h0.size ≤ ar_197 := Nat.le_trans ((Keep.refl h0 [r0]).trans K1 (allS (Or.inl (List.mem_of_getElem? (i := 0) rfl)) all0)).1 p197_0
    have N197 := Fr.app N194 N197q
    have f200 := (f195.keep K197)
    have f201 := (p1_7.keep K197 nin0)
    refine own_pF X197 hx hZ hown hw 29 30 3 rfl rfl rfl rfl f201 f200 (ty := (.array .byte)) (by decide) rfl rfl N197 ge_r0 hby d6_40 fun T202 h202 X202 e202 W202 Fw202 N202 => ?_
    have f203 := ((p1_3.keep K197 nin0).other W202 (Or.inr (sn_19 hw)))
    refine own_by (fun t q => oIc X202 hx hby d6_43 (XS.istoreN X202.here hx rfl (hb hby d6_44) rfl (l' := #[rv r0, iv 1, iv 0, .unset, .unset, .unset, .unset]) rfl (oIn X202 hx hby d6_45 rfl q))) ?_
    refine own_aF X202 hx hZ hown hw 36 rfl e202 f203 hby d6_46 rfl d6_47 fun T204 X204 e204 => ?_
    have f205 := ((p1_13.keep K197 nin0).other W202 (Or.inr (sn_20 hw)))
    refine own_by (fun t q => oJn X204 hx hby d6_50 (tlt (by decide : (0 : Int32) < (3 : Int32))).2.1 q) ?_
    refine own_aF X204 hx hZ hown hw 18 rfl e204 f205 hby d6_53 rfl d6_54 fun T206 X206 e206 => ?_
    have f207 := ((p1_10.keep K197 nin0).other W202 (Or.inr (sn_21 hw)))
    refine own_aF X206 hx hZ hown hw 16 rfl e206 f207 hby d6_57 rfl d6_58 fun T208 X208 e208 => ?_
    have f209 := ((p1_11.keep K197 nin0).other W202 (Ne.symm (Nat.ne_of_lt (Nat.lt_of_lt_of_le E_r0.lt p1_0))))
    have f210 := ((p1_14.keep K197 nin0).other W202 (Ne.symm (Nat.ne_of_lt (Nat.lt_of_lt_of_le E_r0.lt p1_1))))
    refine own_by (fun t q => oIn X208 hx hby d6_61 rfl (own_ldI X208 hx hZ e208 f209 hby ⟨by decide, by decide⟩ (v := (.int 1)) rfl d6_62 (oIn X208 hx hby d6_63 rfl q))) ?_
    refine own_stI X208 hx hZ e208 f210 hby ⟨by decide, by decide⟩ 1 rfl (Nat.le_of_ble_eq_true rfl) N202 g_cA_1 d6_64 fun T211 h211 X211 e211 W211 Vr211 N211 => ?_
    have V211 : Arv Z h211 cA_1 kC_1 .int (256 : Int32) [(.int 1), (.int 0), (.int 2)] (.int 0) := Vr211
    have f212 := (f203.other W211 (Or.inl (Nat.ne_of_lt (Nat.lt_of_lt_of_le E_r0.lt p1_1))))
    refine own_by (fun t q => XS.iinc X211.here hx rfl (hb hby d6_65) rfl (l' := #[rv r0, iv 1, iv 1, .unset, .unset, .unset, .unset]) rfl (oGo X211 hx hby 68 45 d6_68 (by decide) (by decide) (oIn X211 hx hby d6_45 rfl q))) ?_
    refine own_aF X211 hx hZ hown hw 36 rfl e211 f212 hby d6_46 rfl d6_47 fun T213 X213 e213 => ?_
    have f214 := (f205.other W211 (Or.inl (Nat.ne_of_lt (Nat.lt_of_lt_of_le E_r0.lt p1_1))))
    refine own_by (fun t q => oJn X213 hx hby d6_50 (tlt (by decide : (1 : Int32) < (3 : Int32))).2.1 q) ?_
    refine own_aF X213 hx hZ hown hw 18 rfl e213 f214 hby d6_53 rfl d6_54 fun T215 X215 e215 => ?_
    have f216 := (f207.other W211 (Or.inl (Nat.ne_of_lt (Nat.lt_of_lt_of_le E_r0.lt p1_1))))
    refine own_aF X215 hx hZ hown hw 16 rfl e215 f216 hby d6_57 rfl d6_58 fun T217 X217 e217 => ?_
    have f218 := (f209.other W211 p1_2)
    refine own_by (fun t q => oIn X217 hx hby d6_61 rfl (own_ldI X217 hx hZ e217 f218 hby ⟨by decide, by decide⟩ (v := (.int 0)) rfl d6_62 (oIn X217 hx hby d6_63 rfl q))) ?_
    refine own_stI X217 hx hZ e217 V211 hby ⟨by decide, by decide⟩ 0 rfl (Nat.le_of_ble_eq_true rfl) N211 g_cA_1 d6_64 fun T219 h219 X219 e219 W219 Vr219 N219 => ?_
    have V219 : Arv Z h219 cA_1 kC_1 .int (256 : Int32) [(.int 1), (.int 0), (.int 2)] (.int 0) := Vr219
    have f220 := (f212.other W219 (Or.inl (Nat.ne_of_lt (Nat.lt_of_lt_of_le E_r0.lt p1_1))))
    refine own_by (fun t q => XS.iinc X219.here hx rfl (hb hby d6_65) rfl (l' := #[rv r0, iv 1, iv 2, .unset, .unset, .unset, .unset]) rfl (oGo X219 hx hby 68 45 d6_68 (by decide) (by decide) (oIn X219 hx hby d6_45 rfl q))) ?_
    refine own_aF X219 hx hZ hown hw 36 rfl e219 f220 hby d6_46 rfl d6_47 fun T221 X221 e221 => ?_
    have f222 := (f214.other W219 (Or.inl (Nat.ne_of_lt (Nat.lt_of_lt_of_le E_r0.lt p1_1))))
    refine own_by (fun t q => oJn X221 hx hby d6_50 (tlt (by decide : (2 : Int32) < (3 : Int32))).2.1 q) ?_
    refine own_aF X221 hx hZ hown hw 18 rfl e221 f222 hby d6_53 rfl d6_54 fun T223 X223 e223 => ?_
    have f224 := (f216.other W219 (Or.inl (Nat.ne_of_lt (Nat.lt_of_lt_of_le E_r0.lt p1_1))))
    refine own_aF X223 hx hZ hown hw 16 rfl e223 f224 hby d6_57 rfl d6_58 fun T225 X225 e225 => ?_
    have f226 := (f218.other W219 p1_2)
    refine own_by (fun t q => oIn X225 hx hby d6_61 rfl (own_ldI X225 hx hZ e225 f226 hby ⟨by decide, by decide⟩ (v := (.int 2)) rfl d6_62 (oIn X225 hx hby d6_63 rfl q))) ?_
    refine own_stI X225 hx hZ e225 V219 hby ⟨by decide, by decide⟩ 2 rfl (Nat.le_of_ble_eq_true rfl) N219 g_cA_1 d6_64 fun T227 h227 X227 e227 W227 Vr227 N227 => ?_
    have V227 : Arv Z h227 cA_1 kC_1 .int (256 : Int32) [(.int 1), (.int 0), (.int 2)] (.int 0) := Vr227
    have f228 := (f220.other W227 (Or.inl (Nat.ne_of_lt (Nat.lt_of_lt_of_le E_r0.lt p1_1))))
    refine own_by (fun t q => XS.iinc X227.here hx rfl (hb hby d6_65) rfl (l' := #[rv r0, iv 1, iv 3, .unset, .unset, .unset, .unset]) rfl (oGo X227 hx hby 68 45 d6_68 (by decide) (by decide) (oIn X227 hx hby d6_45 rfl q))) ?_
    refine own_aF X227 hx hZ hown hw 36 rfl e227 f228 hby d6_46 rfl d6_47 fun T229 X229 e229 => ?_
    refine own_by (fun t q => oJy X229 hx hby 50 71 d6_50 (flt (by decide : ¬ ((3 : Int32) < (3 : Int32)))).2.1 (by decide) (by decide) (oIc X229 hx hby d6_71 (XS.istoreN X229.here hx rfl (hb hby d6_72) rfl (l' := #[rv r0, iv 1, iv 0, .unset, .unset, .unset, .unset]) rfl (oIc X229 hx hby d6_73 (XS.istoreN X229.here hx rfl (hb hby d6_74) rfl (l' := #[rv r0, iv 1, iv 0, iv 0, .unset, .unset, .unset]) rfl (oIc X229 hx hby d6_75 q)))))) ?_
    refine own_by (fun t q => XS.istore X229.here hx rfl (hb hby d6_76) rfl (l' := #[rv r0, iv 1, iv 0, iv 0, iv 0, .unset, .unset]) rfl (oIl X229 hx hby d6_78 rfl q)) ?_
    refine own_aF X229 hx hZ hown hw 36 rfl e229 f228 hby d6_80 rfl d6_81 fun T230 X230 e230 => ?_
    have f231 := (f222.other W227 (Or.inl (Nat.ne_of_lt (Nat.lt_of_lt_of_le E_r0.lt p1_1))))
    refine own_by (fun t q => oJn X230 hx hby d6_84 (tlt (by decide : (0 : Int32) < (3 : Int32))).2.1 q) ?_
    refine own_aF X230 hx hZ hown hw 18 rfl e230 f231 hby d6_87 rfl d6_88 fun T232 X232 e232 => ?_
    refine own_by (fun t q => oIl X232 hx hby d6_91 rfl (own_ldI X232 hx hZ e232 V227 hby ⟨by decide, by decide⟩ (v := (.int 1)) rfl d6_93 (oIn X232 hx hby d6_94 rfl (oJy X232 hx hby 95 149 d6_95 (flt (by decide : ¬ ((1 : Int32) < (1 : Int32)))).2.1 (by decide) (by decide) (XS.iinc X232.here hx rfl (hb hby d6_149) rfl (l' := #[rv r0, iv 1, iv 0, iv 0, iv 1, .unset, .unset]) rfl (oGo X232 hx hby 152 78 d6_152 (by decide) (by decide) q)))))) ?_
    refine own_by (fun t q => oIl X232 hx hby d6_78 rfl q) ?_
    refine own_aF X232 hx hZ hown hw 36 rfl e232 f228 hby d6_80 rfl d6_81 fun T233 X233 e233 => ?_
    refine own_by (fun t q => oJn X233 hx hby d6_84 (tlt (by decide : (1 : Int32) < (3 : Int32))).2.1 q) ?_
    refine own_aF X233 hx hZ hown hw 18 rfl e233 f231 hby d6_87 rfl d6_88 fun T234 X234 e234 => ?_
    have f235 := (((((p1_6.keep K197 nin0).other W202 (Or.inr (sn_22 hw))).other W211 (Or.inl (Nat.ne_of_lt (Nat.lt_of_lt_of_le E_r0.lt p1_1)))).other W219 (Or.inl (Nat.ne_of_lt (Nat.lt_of_lt_of_le E_r0.lt p1_1)))).other W227 (Or.inl (Nat.ne_of_lt (Nat.lt_of_lt_of_le E_r0.lt p1_1))))
    refine own_by (fun t q => oIl X234 hx hby d6_91 rfl (own_ldI X234 hx hZ e234 V227 hby ⟨by decide, by decide⟩ (v := (.int 0)) rfl d6_93 (oIn X234 hx hby d6_94 rfl (oJn X234 hx hby d6_95 (tlt (by decide : (0 : Int32) < (1 : Int32))).2.1 q)))) ?_
    refine own_aF X234 hx hZ hown hw 14 rfl e234 f235 hby d6_98 rfl d6_99 fun T236 X236 e236 => ?_
    have f237 := (((((f192.keep K197 nin0).other W202 ne_sA_r0).other W211 (Nat.ne_of_lt (Nat.lt_of_lt_of_le V_sA.lt p1_1))).other W219 (Nat.ne_of_lt (Nat.lt_of_lt_of_le V_sA.lt p1_1))).other W227 (Nat.ne_of_lt (Nat.lt_of_lt_of_le V_sA.lt p1_1)))
    have f239 := ((((f200.wr W202).wr W211).wr W219).wr W227)
    have f240 := (((((p1_4.keep K197 nin0).other W202 (Or.inr (sn_23 hw))).other W211 (Or.inl (Nat.ne_of_lt (Nat.lt_of_lt_of_le E_r0.lt p1_1)))).other W219 (Or.inl (Nat.ne_of_lt (Nat.lt_of_lt_of_le E_r0.lt p1_1)))).other W227 (Or.inl (Nat.ne_of_lt (Nat.lt_of_lt_of_le E_r0.lt p1_1))))
    have f241 := (((((f196.keep K197).wr W202).wr W211).wr W219).wr W227)
    refine own_by (fun t q => oIl X236 hx hby d6_102 rfl (own_ldI X236 hx hZ e236 f237 hby ⟨by decide, by decide⟩ (v := (.int s1)) rfl d6_104 (XS.istore X236.here hx rfl (hb hby d6_105) rfl (l' := #[rv r0, iv 1, iv 0, iv 0, iv 1, iv s1, .unset]) rfl (oAn X236 hx hby d6_107 rfl rfl (oIl X236 hx hby d6_108 rfl q))))) ?_
    refine own_cP 0 (rm11_31 l Z a0 hw [] r0 sA kS u s0 s1 s2 s3 h227 n0 (Nat.le_trans (Nat.le_trans (Nat.le_trans (Nat.le_trans (Nat.le_trans (Nat.le_trans Z0 K1.1) K197.1) (Keep.of_wr W202).1) (Keep.of_wr W211).1) (Keep.of_wr W219).1) (Keep.of_wr W227).1) f239 f228 f240 f235 f237 f241) X236 hx hZ hown hw 70 71 3 72 4 73 rfl rfl rfl rfl rfl rfl r0 f239 [(.int 1)] [] hby d6_110 hml (lenOf pd_7 rfl) e236 rfl (Nat.le_refl _) (by decide) fun _ T238 L238 X238 hQ238 => ?_
    obtain ⟨rfl, N238q, e238⟩ := hQ238
    have N238 := Fr.app N227 N238q
    have f242 := (((((p1_5.keep K197 nin0).other W202 (Or.inr (sn_24 hw))).other W211 (Or.inl (Nat.ne_of_lt (Nat.lt_of_lt_of_le E_r0.lt p1_1)))).other W219 (Or.inl (Nat.ne_of_lt (Nat.lt_of_lt_of_le E_r0.lt p1_1)))).other W227 (Or.inl (Nat.ne_of_lt (Nat.lt_of_lt_of_le E_r0.lt p1_1))))
    refine own_by (fun t q => oIl X238 hx hby d6_113 rfl (XS.isub X238.here hx rfl (hb hby d6_115) rfl (XS.istore X238.here hx rfl (hb hby d6_116) rfl (l' := #[rv r0, iv 1, iv 0, iv 0, iv 1, iv s1, iv (s2 - s1)]) rfl q))) ?_
    refine own_aF X238 hx hZ hown hw 11 rfl e238 f242 hby d6_118 rfl d6_119 fun T243 X243 e243 => ?_
    refine own_by (fun t q => oIl X243 hx hby d6_122 rfl q) ?_
    refine own_aF X243 hx hZ hown hw 11 rfl e243 f242 hby d6_124 rfl d6_125 fun T244 X244 e244 => ?_
    have f245 := (((((f198.keep K197 nin0).other W202 ne_bA_r0).other W211 (Nat.ne_of_lt (Nat.lt_of_lt_of_le B_bA.lt p1_1))).other W219 (Nat.ne_of_lt (Nat.lt_of_lt_of_le B_bA.lt p1_1))).other W227 (Nat.ne_of_lt (Nat.lt_of_lt_of_le B_bA.lt p1_1)))
    have f246 := ((((((E_bA.keep K1).keep K197).wr W202).wr W211).wr W219).wr W227)
    obtain ⟨T247, h247, L247, X247, e247, N247, K247, Vr247, st247⟩ := own_bcp X244 hx hZ hown (own_at hw 45 rfl) (own_at hw 48 rfl) (own_at hw 46 rfl) (own_at hw 47 rfl) e244 f245 f245 (sp := s1) (dp := (0 : Int32)) (nn := (s2 - s1)) (by have w0 := own_lits; have w1a := c_isub s2 s1; have w1b := rng32 (s2 - s1); omega) N238 ge_bA (g := (mkF m 131 #[rv r0, iv 1, iv 0, iv 0, iv 1, iv s1, iv (s2 - s1)] [(.int (s2 - s1)), (.int 0), (.ref bA), (.int s1), (.ref bA)])) rfl (by rw [hml]; rfl) rfl (hb hby d6_131) (by decide) (W := 0) (Nat.le_refl _) (by decide)
    have pl247 := (allS (P := fun x => ∃ cell : Cell, h227[x]? = some cell ∧ cell.vm.isStatics = false) (own_ns f246) all0)
    have f248 := (f235.keep K247 (ninS ne_r0_bA nin0))
    refine own_by (fun t q => oIn X244 hx hby d6_128 rfl (oIl X244 hx hby d6_129 rfl (st247 _ q))) ?_
    refine own_aF X247 hx hZ hown hw 14 rfl e247 f248 hby d6_134 rfl d6_135 fun T249 X249 e249 => ?_
    have f250 := (f237.keep K247 (ninS ne_sA_bA nin0))
    refine own_by (fun t q => oIn X249 hx hby d6_138 rfl (XS.iinc X249.here hx rfl (hb hby d6_139) rfl (l' := #[rv r0, iv 1, iv 1, iv 0, iv 1, iv s1, iv (s2 - s1)]) rfl (oIn X249 hx hby d6_142 rfl q))) ?_
    refine own_stI X249 hx hZ e249 f250 hby ⟨by decide, by decide⟩ 0 rfl (Nat.le_of_ble_eq_true rfl) N247 ge_sA d6_143 fun T251 h251 X251 e251 W251 Vr251 N251 => ?_
    have V251 : Arv Z h251 sA kS .int (256 : Int32) [(.int 0), (.int s1), (.int s2), (.int s3)] (.int 0) := Vr251
    have f252 := ((f228.keep K247 (ninS ne_r0_bA nin0)).other W251 (Or.inl ne_r0_sA))
    refine own_by (fun t q => oIn X251 hx hby d6_144 rfl (oIl X251 hx hby d6_145 rfl (XS.iadd X251.here hx rfl (hb hby d6_147) rfl (XS.istoreN X251.here hx rfl (hb hby d6_148) rfl (l' := #[rv r0, iv 1, iv 1, iv ((0 : Int32) + (s2 - s1)), iv 1, iv s1, iv (s2 - s1)]) rfl (XS.iinc X251.here hx rfl (hb hby d6_149) rfl (l' := #[rv r0, iv 1, iv 1, iv ((0 : Int32) + (s2 - s1)), iv 2, iv s1, iv (s2 - s1)]) rfl (oGo X251 hx hby 152 78 d6_152 (by decide) (by decide) q)))))) ?_
    refine own_by (fun t q => oIl X251 hx hby d6_78 rfl q) ?_
    refine own_aF X251 hx hZ hown hw 36 rfl e251 f252 hby d6_80 rfl d6_81 fun T253 X253 e253 => ?_
    have f254 := ((f231.keep K247 (ninS ne_r0_bA nin0)).other W251 (Or.inl ne_r0_sA))
    refine own_by (fun t q => oJn X253 hx hby d6_84 (tlt (by decide : (2 : Int32) < (3 : Int32))).2.1 q) ?_
    refine own_aF X253 hx hZ hown hw 18 rfl e253 f254 hby d6_87 rfl d6_88 fun T255 X255 e255 => ?_
    have f256 := ((V227.keep K247 (ninS (Ne.symm (Nat.ne_of_lt (Nat.lt_of_lt_of_le B_bA.lt p1_1))) nin0)).other W251 (Ne.symm (Nat.ne_of_lt (Nat.lt_of_lt_of_le V_sA.lt p1_1))))
    refine own_by (fun t q => oIl X255 hx hby d6_91 rfl (own_ldI X255 hx hZ e255 f256 hby ⟨by decide, by decide⟩ (v := (.int 2)) rfl d6_93 (oIn X255 hx hby d6_94 rfl (oJy X255 hx hby 95 149 d6_95 (flt (by decide : ¬ ((2 : Int32) < (1 : Int32)))).2.1 (by decide) (by decide) (XS.iinc X255.here hx rfl (hb hby d6_149) rfl (l' := #[rv r0, iv 1, iv 1, iv ((0 : Int32) + (s2 - s1)), iv 3, iv s1, iv (s2 - s1)]) rfl (oGo X255 hx hby 152 78 d6_152 (by decide) (by decide) q)))))) ?_
    refine own_by (fun t q => oIl X255 hx hby d6_78 rfl q) ?_
    refine own_aF X255 hx hZ hown hw 36 rfl e255 f252 hby d6_80 rfl d6_81 fun T257 X257 e257 => ?_
    have f258 := ((f239.keep K247).wr W251)
    refine own_by (fun t q => oJy X257 hx hby 84 155 d6_84 (flt (by decide : ¬ ((3 : Int32) < (3 : Int32)))).2.1 (by decide) (by decide) (oAn X257 hx hby d6_155 rfl rfl (oIn X257 hx hby d6_156 rfl q))) ?_
    refine own_pF X257 hx hZ hown hw 36 37 3 rfl rfl rfl e257 f252 f258 (ty := .int) (by decide) rfl rfl N251 ge_r0 hby d6_157 fun T259 h259 X259 e259 W259 Fw259 N259 => ?_
    have f260 := (f258.wr W259)
    have f261 := (((f240.keep K247 (ninS ne_r0_bA nin0)).other W251 (Or.inl ne_r0_sA)).other W259 (Or.inr (sn_0 hw)))
    refine own_by (fun t q => oAn X259 hx hby d6_160 rfl rfl (oIn X259 hx hby d6_161 rfl q)) ?_
    refine own_pF X259 hx hZ hown hw 38 39 3 rfl rfl rfl e259 f261 f260 (ty := .int) (by decide) rfl rfl N259 ge_r0 hby d6_162 fun T262 h262 X262 e262 W262 Fw262 N262 => ?_
    have f263 := (f260.wr W262)
    have f264 := (Fw259.other W262 (Or.inr (sn_25 hw)))
    have f265 := (((((((Fw202.other W211 (Or.inl (Nat.ne_of_lt (Nat.lt_of_lt_of_le E_r0.lt p1_1)))).other W219 (Or.inl (Nat.ne_of_lt (Nat.lt_of_lt_of_le E_r0.lt p1_1)))).other W227 (Or.inl (Nat.ne_of_lt (Nat.lt_of_lt_of_le E_r0.lt p1_1)))).keep K247 (ninS ne_r0_bA nin0)).other W251 (Or.inl ne_r0_sA)).other W259 (Or.inr (sn_1 hw))).other W262 (Or.inr (sn_2 hw)))
    have f266 := ((((f242.keep K247 (ninS ne_r0_bA nin0)).other W251 (Or.inl ne_r0_sA)).other W259 (Or.inr (sn_26 hw))).other W262 (Or.inr (sn_27 hw)))
    have f267 := (((Vr247.other W251 ne_bA_sA).other W259 ne_bA_r0).other W262 ne_bA_r0)
    have f268 := ((((f246.keep K247).wr W251).wr W259).wr W262)
    have f269 := (((f248.other W251 (Or.inl ne_r0_sA)).other W259 (Or.inr (sn_28 hw))).other W262 (Or.inr (sn_29 hw)))
    have f270 := ((V251.other W259 ne_sA_r0).other W262 ne_sA_r0)
    have f271 := ((((f241.keep K247).wr W251).wr W259).wr W262)
    have f272 := (((((((((p1_8.keep K197 nin0).other W202 (Or.inr (sn_30 hw))).other W211 (Or.inl (Nat.ne_of_lt (Nat.lt_of_lt_of_le E_r0.lt p1_1)))).other W219 (Or.inl (Nat.ne_of_lt (Nat.lt_of_lt_of_le E_r0.lt p1_1)))).other W227 (Or.inl (Nat.ne_of_lt (Nat.lt_of_lt_of_le E_r0.lt p1_1)))).keep K247 (ninS ne_r0_bA nin0)).other W251 (Or.inl ne_r0_sA)).other W259 (Or.inr (sn_31 hw))).other W262 (Or.inr (sn_32 hw)))
    have f273 := (((((((((p1_9.keep K197 nin0).other W202 (Or.inr (sn_33 hw))).other W211 (Or.inl (Nat.ne_of_lt (Nat.lt_of_lt_of_le E_r0.lt p1_1)))).other W219 (Or.inl (Nat.ne_of_lt (Nat.lt_of_lt_of_le E_r0.lt p1_1)))).other W227 (Or.inl (Nat.ne_of_lt (Nat.lt_of_lt_of_le E_r0.lt p1_1)))).keep K247 (ninS ne_r0_bA nin0)).other W251 (Or.inl ne_r0_sA)).other W259 (Or.inr (sn_34 hw))).other W262 (Or.inr (sn_35 hw)))
    have f274 := ((((((((p197_1.other W202 (Ne.symm (Nat.ne_of_lt (Nat.lt_of_lt_of_le f195.lt p197_0)))).other W211 (Ne.symm (Nat.ne_of_lt (Nat.lt_of_lt_of_le p1_14.lt p197_0)))).other W219 (Ne.symm (Nat.ne_of_lt (Nat.lt_of_lt_of_le p1_14.lt p197_0)))).other W227 (Ne.symm (Nat.ne_of_lt (Nat.lt_of_lt_of_le p1_14.lt p197_0)))).keep K247 (ninS (Ne.symm (Nat.ne_of_lt (Nat.lt_of_lt_of_le f198.lt p197_0))) nin0)).other W251 (Ne.symm (Nat.ne_of_lt (Nat.lt_of_lt_of_le f192.lt p197_0)))).other W259 (Ne.symm (Nat.ne_of_lt (Nat.lt_of_lt_of_le f195.lt p197_0)))).other W262 (Ne.symm (Nat.ne_of_lt (Nat.lt_of_lt_of_le f195.lt p197_0))))
    have f275 := ((((((((p197_2.wr W202).wr W211).wr W219).wr W227).keep K247).wr W251).wr W259).wr W262)
    have f276 := (((((f224.other W227 (Or.inl (Nat.ne_of_lt (Nat.lt_of_lt_of_le E_r0.lt p1_1)))).keep K247 (ninS ne_r0_bA nin0)).other W251 (Or.inl ne_r0_sA)).other W259 (Or.inr (sn_36 hw))).other W262 (Or.inr (sn_37 hw)))
    have f277 := (((((f226.other W227 p1_2).keep K247 (ninS (Ne.symm (Nat.ne_of_lt (Nat.lt_of_lt_of_le B_bA.lt p1_0))) nin0)).other W251 (Ne.symm (Nat.ne_of_lt (Nat.lt_of_lt_of_le V_sA.lt p1_0)))).other W259 (Ne.symm (Nat.ne_of_lt (Nat.lt_of_lt_of_le E_r0.lt p1_0)))).other W262 (Ne.symm (Nat.ne_of_lt (Nat.lt_of_lt_of_le E_r0.lt p1_0))))
    have f278 := (((((((((p1_12.keep K197).wr W202).wr W211).wr W219).wr W227).keep K247).wr W251).wr W259).wr W262)
    have f279 := ((f254.other W259 (Or.inr (sn_38 hw))).other W262 (Or.inr (sn_39 hw)))
    have f280 := ((f256.other W259 (Ne.symm (Nat.ne_of_lt (Nat.lt_of_lt_of_le E_r0.lt p1_1)))).other W262 (Ne.symm (Nat.ne_of_lt (Nat.lt_of_lt_of_le E_r0.lt p1_1))))
    have f281 := (((((((((p1_15.keep K197).wr W202).wr W211).wr W219).wr W227).keep K247).wr W251).wr W259).wr W262)
    refine own_out X262 Bd.notSynchronized Bd.returns (none) (fun _ => rfl) (by decide) (by decide) ?_ fun fs hr => ?_
    · rw [e262]; exact ⟨ar_197, (s1 - s0), ((0 : Int32) + (s2 - s1)), (1 : Int32), (0 : Int32), (2 : Int32), (1 : Int32), (0 : Int32), (2 : Int32), oA_1, kO_1, cA_1, kC_1, rfl, N262, (((((((((((Keep.refl h0 [r0, bA, sA]).trans K1 (allS (Or.inl (List.mem_of_getElem? (i := 0) rfl)) all0)).trans K197 all0).wr W202 (Or.inl (List.mem_of_getElem? (i := 0) rfl))).wr W211 (Or.inr sz_cA_1)).wr W219 (Or.inr sz_cA_1)).wr W227 (Or.inr sz_cA_1)).trans K247 (allS (Or.inl (List.mem_of_getElem? (i := 1) rfl)) all0)).wr W251 (Or.inl (List.mem_of_getElem? (i := 2) rfl))).wr W259 (Or.inl (List.mem_of_getElem? (i := 0) rfl))).wr W262 (Or.inl (List.mem_of_getElem? (i := 0) rfl))), sz_ar_197, sz_oA_1, sz_cA_1, p1_2, (Ne.symm (Nat.ne_of_lt (Nat.lt_of_lt_of_le p1_11.lt p197_0))), (Ne.symm (Nat.ne_of_lt (Nat.lt_of_lt_of_le p1_14.lt p197_0))), f263, f264, Fw262, f265, f266, f267, f268, f269, f270, f271, f272, f273, f274, f275, f276, f277, f278, f279, f280, f281, (by have w0 := own_lits; have w1a := c_isub s2 s1; have w1b := rng32 (s2 - s1); have w2a := c_iadd (0 : Int32) (s2 - s1); have w2b := rng32 ((0 : Int32) + (s2 - s1)); have w3a := c_isub s1 s0; have w3b := rng32 (s1 - s0); omega)⟩
    · exact X262.returnOut hx Bd.returns (hb hby d6_165) hr
  · have pl1 := (allS (P := fun x => ∃ cell : Cell, h0[x]? = some cell ∧ cell.vm.isStatics = false) (own_ns E_r0) all0)
    have g_oA_1 : n0 ≤ oA_1 := Nat.le_trans Z0 p1_0
    have sz_oA_1 : h0.size ≤ oA_1 := Nat.le_trans (Keep.refl h0 []).1 p1_0
    have g_cA_1 : n0 ≤ cA_1 := Nat.le_trans Z0 p1_1
    have sz_cA_1 : h0.size ≤ cA_1 := Nat.le_trans (Keep.refl h0 []).1 p1_1
    have N1 := Fr.app N0 N1q
    refine own_aF X1 hx hZ hown hw 36 rfl rfl p1_3 hby d6_4 rfl d6_5 fun T282 X282 e282 => ?_
    refine own_by (fun t q => oIc X282 hx hby d6_8 (XS.idiv X282.here hx rfl (hb hby d6_9) rfl (by decide) (XS.istoreN X282.here hx rfl (hb hby d6_10) rfl (l' := #[rv r0, iv 1, .unset, .unset, .unset, .unset, .unset]) rfl (oAn X282 hx hby d6_11 rfl rfl q)))) ?_
    refine own_aF X282 hx hZ hown hw 11 rfl e282 p1_5 hby d6_12 rfl d6_13 fun T283 X283 e283 => ?_
    refine own_aF X283 hx hZ hown hw 14 rfl e283 p1_6 hby d6_16 rfl d6_17 fun T284 X284 e284 => ?_
    refine own_aF X284 hx hZ hown hw 16 rfl e284 p1_10 hby d6_20 rfl d6_21 fun T285 X285 e285 => ?_
    have f286 := (V_sA.keep K1 (ninS ne_sA_r0 nin0))
    refine own_by (fun t q => oIn X285 hx hby d6_24 rfl (own_ldI X285 hx hZ e285 p1_11 hby ⟨by decide, by decide⟩ (v := (.int 0)) rfl d6_25 (own_ldI X285 hx hZ e285 f286 hby ⟨by decide, by decide⟩ (v := (.int s0)) rfl d6_26 (oAn X285 hx hby d6_27 rfl rfl q)))) ?_
    refine own_aF X285 hx hZ hown hw 16 rfl e285 p1_10 hby d6_28 rfl d6_29 fun T287 X287 e287 => ?_
    have f289 := (E_r0.keep K1)
    have f290 := (E_sA.keep K1)
    refine own_by (fun t q => oIn X287 hx hby d6_32 rfl (own_ldI X287 hx hZ e287 p1_11 hby ⟨by decide, by decide⟩ (v := (.int 0)) rfl d6_33 q)) ?_
    refine own_cP 3 (rm11_30 l Z a0 hw [] r0 sA kS u s0 s1 s2 s3 T1.heap n0 (Nat.le_trans Z0 K1.1) f289 p1_3 p1_4 p1_6 f286 f290) X287 hx hZ hown hw 70 71 3 72 4 73 rfl rfl rfl rfl rfl rfl r0 f289 [(.int 0)] [(.int s0), (.ref bA), (.ref r0)] hby d6_34 hml (lenOf pd_7 rfl) e287 rfl (Nat.le_refl _) (by decide) fun _ T288 L288 X288 hQ288 => ?_
    obtain ⟨rfl, N288q, e288⟩ := hQ288
    have N288 := Fr.app N1 N288q
    have f292 := (B_bA.keep K1 (ninS ne_bA_r0 nin0))
    refine own_cK 1 (rm15 l Z a0 hw [] bA s0 s1 (4096 : Int32) T1.heap n0 (Nat.le_trans Z0 K1.1) f292 (by have w0 := own_lits; omega) (by have w0 := own_lits; omega)) X288 hx hZ hown hw 86 87 76 88 rfl rfl rfl rfl [(.ref bA), (.int s0), (.int s1)] [(.ref r0)] hby d6_37 hml (lenOf pd_6 rfl) e288 rfl (Nat.le_refl _) (by decide) fun _ T291 L291 X291 hQ291 => ?_
    have f293 := (V_oZ.keep K1 (ninS ne_oZ_r0 nin0))
    obtain ⟨ar_291, rfl, N291q, K291, p291_0, p291_1, p291_2⟩ := hQ291
    have g_ar_291 : n0 ≤ ar_291 := Nat.le_trans (Nat.le_trans Z0 K1.1) p291_0
    have sz_ar_291 : h0.size ≤ ar_291 := Nat.le_trans ((Keep.refl h0 [r0]).trans K1 (allS (Or.inl (List.mem_of_getElem? (i := 0) rfl)) all0)).1 p291_0
    have N291 := Fr.app N288 N291q
    have f294 := (f289.keep K291)
    have f295 := (p1_7.keep K291 nin0)
    refine own_pF X291 hx hZ hown hw 29 30 3 rfl rfl rfl rfl f295 f294 (ty := (.array .byte)) (by decide) rfl rfl N291 ge_r0 hby d6_40 fun T296 h296 X296 e296 W296 Fw296 N296 => ?_
    have f297 := ((p1_3.keep K291 nin0).other W296 (Or.inr (sn_19 hw)))
    refine own_by (fun t q => oIc X296 hx hby d6_43 (XS.istoreN X296.here hx rfl (hb hby d6_44) rfl (l' := #[rv r0, iv 1, iv 0, .unset, .unset, .unset, .unset]) rfl (oIn X296 hx hby d6_45 rfl q))) ?_
    refine own_aF X296 hx hZ hown hw 36 rfl e296 f297 hby d6_46 rfl d6_47 fun T298 X298 e298 => ?_
    have f299 := ((p1_13.keep K291 nin0).other W296 (Or.inr (sn_20 hw)))
    refine own_by (fun t q => oJn X298 hx hby d6_50 (tlt (by decide : (0 : Int32) < (3 : Int32))).2.1 q) ?_
    refine own_aF X298 hx hZ hown hw 18 rfl e298 f299 hby d6_53 rfl d6_54 fun T300 X300 e300 => ?_
    have f301 := ((p1_10.keep K291 nin0).other W296 (Or.inr (sn_21 hw)))
    refine own_aF X300 hx hZ hown hw 16 rfl e300 f301 hby d6_57 rfl d6_58 fun T302 X302 e302 => ?_
    have f303 := ((p1_11.keep K291 nin0).other W296 (Ne.symm (Nat.ne_of_lt (Nat.lt_of_lt_of_le E_r0.lt p1_0))))
    have f304 := ((p1_14.keep K291 nin0).other W296 (Ne.symm (Nat.ne_of_lt (Nat.lt_of_lt_of_le E_r0.lt p1_1))))
    refine own_by (fun t q => oIn X302 hx hby d6_61 rfl (own_ldI X302 hx hZ e302 f303 hby ⟨by decide, by decide⟩ (v := (.int 2)) rfl d6_62 (oIn X302 hx hby d6_63 rfl q))) ?_
    refine own_stI X302 hx hZ e302 f304 hby ⟨by decide, by decide⟩ 2 rfl (Nat.le_of_ble_eq_true rfl) N296 g_cA_1 d6_64 fun T305 h305 X305 e305 W305 Vr305 N305 => ?_
    have V305 : Arv Z h305 cA_1 kC_1 .int (256 : Int32) [(.int 0), (.int 1), (.int 0)] (.int 0) := Vr305
    have f306 := (f297.other W305 (Or.inl (Nat.ne_of_lt (Nat.lt_of_lt_of_le E_r0.lt p1_1))))
    refine own_by (fun t q => XS.iinc X305.here hx rfl (hb hby d6_65) rfl (l' := #[rv r0, iv 1, iv 1, .unset, .unset, .unset, .unset]) rfl (oGo X305 hx hby 68 45 d6_68 (by decide) (by decide) (oIn X305 hx hby d6_45 rfl q))) ?_
    refine own_aF X305 hx hZ hown hw 36 rfl e305 f306 hby d6_46 rfl d6_47 fun T307 X307 e307 => ?_
    have f308 := (f299.other W305 (Or.inl (Nat.ne_of_lt (Nat.lt_of_lt_of_le E_r0.lt p1_1))))
    refine own_by (fun t q => oJn X307 hx hby d6_50 (tlt (by decide : (1 : Int32) < (3 : Int32))).2.1 q) ?_
    refine own_aF X307 hx hZ hown hw 18 rfl e307 f308 hby d6_53 rfl d6_54 fun T309 X309 e309 => ?_
    have f310 := (f301.other W305 (Or.inl (Nat.ne_of_lt (Nat.lt_of_lt_of_le E_r0.lt p1_1))))
    refine own_aF X309 hx hZ hown hw 16 rfl e309 f310 hby d6_57 rfl d6_58 fun T311 X311 e311 => ?_
    have f312 := (f303.other W305 p1_2)
    refine own_by (fun t q => oIn X311 hx hby d6_61 rfl (own_ldI X311 hx hZ e311 f312 hby ⟨by decide, by decide⟩ (v := (.int 0)) rfl d6_62 (oIn X311 hx hby d6_63 rfl q))) ?_
    refine own_stI X311 hx hZ e311 V305 hby ⟨by decide, by decide⟩ 0 rfl (Nat.le_of_ble_eq_true rfl) N305 g_cA_1 d6_64 fun T313 h313 X313 e313 W313 Vr313 N313 => ?_
    have V313 : Arv Z h313 cA_1 kC_1 .int (256 : Int32) [(.int 1), (.int 1), (.int 0)] (.int 0) := Vr313
    have f314 := (f306.other W313 (Or.inl (Nat.ne_of_lt (Nat.lt_of_lt_of_le E_r0.lt p1_1))))
    refine own_by (fun t q => XS.iinc X313.here hx rfl (hb hby d6_65) rfl (l' := #[rv r0, iv 1, iv 2, .unset, .unset, .unset, .unset]) rfl (oGo X313 hx hby 68 45 d6_68 (by decide) (by decide) (oIn X313 hx hby d6_45 rfl q))) ?_
    refine own_aF X313 hx hZ hown hw 36 rfl e313 f314 hby d6_46 rfl d6_47 fun T315 X315 e315 => ?_
    have f316 := (f308.other W313 (Or.inl (Nat.ne_of_lt (Nat.lt_of_lt_of_le E_r0.lt p1_1))))
    refine own_by (fun t q => oJn X315 hx hby d6_50 (tlt (by decide : (2 : Int32) < (3 : Int32))).2.1 q) ?_
    refine own_aF X315 hx hZ hown hw 18 rfl e315 f316 hby d6_53 rfl d6_54 fun T317 X317 e317 => ?_
    have f318 := (f310.other W313 (Or.inl (Nat.ne_of_lt (Nat.lt_of_lt_of_le E_r0.lt p1_1))))
    refine own_aF X317 hx hZ hown hw 16 rfl e317 f318 hby d6_57 rfl d6_58 fun T319 X319 e319 => ?_
    have f320 := (f312.other W313 p1_2)
    refine own_by (fun t q => oIn X319 hx hby d6_61 rfl (own_ldI X319 hx hZ e319 f320 hby ⟨by decide, by decide⟩ (v := (.int 1)) rfl d6_62 (oIn X319 hx hby d6_63 rfl q))) ?_
    refine own_stI X319 hx hZ e319 V313 hby ⟨by decide, by decide⟩ 1 rfl (Nat.le_of_ble_eq_true rfl) N313 g_cA_1 d6_64 fun T321 h321 X321 e321 W321 Vr321 N321 => ?_
    have V321 : Arv Z h321 cA_1 kC_1 .int (256 : Int32) [(.int 1), (.int 2), (.int 0)] (.int 0) := Vr321
    have f322 := (f314.other W321 (Or.inl (Nat.ne_of_lt (Nat.lt_of_lt_of_le E_r0.lt p1_1))))
    refine own_by (fun t q => XS.iinc X321.here hx rfl (hb hby d6_65) rfl (l' := #[rv r0, iv 1, iv 3, .unset, .unset, .unset, .unset]) rfl (oGo X321 hx hby 68 45 d6_68 (by decide) (by decide) (oIn X321 hx hby d6_45 rfl q))) ?_
    refine own_aF X321 hx hZ hown hw 36 rfl e321 f322 hby d6_46 rfl d6_47 fun T323 X323 e323 => ?_
    refine own_by (fun t q => oJy X323 hx hby 50 71 d6_50 (flt (by decide : ¬ ((3 : Int32) < (3 : Int32)))).2.1 (by decide) (by decide) (oIc X323 hx hby d6_71 (XS.istoreN X323.here hx rfl (hb hby d6_72) rfl (l' := #[rv r0, iv 1, iv 0, .unset, .unset, .unset, .unset]) rfl (oIc X323 hx hby d6_73 (XS.istoreN X323.here hx rfl (hb hby d6_74) rfl (l' := #[rv r0, iv 1, iv 0, iv 0, .unset, .unset, .unset]) rfl (oIc X323 hx hby d6_75 q)))))) ?_
    refine own_by (fun t q => XS.istore X323.here hx rfl (hb hby d6_76) rfl (l' := #[rv r0, iv 1, iv 0, iv 0, iv 0, .unset, .unset]) rfl (oIl X323 hx hby d6_78 rfl q)) ?_
    refine own_aF X323 hx hZ hown hw 36 rfl e323 f322 hby d6_80 rfl d6_81 fun T324 X324 e324 => ?_
    have f325 := (f316.other W321 (Or.inl (Nat.ne_of_lt (Nat.lt_of_lt_of_le E_r0.lt p1_1))))
    refine own_by (fun t q => oJn X324 hx hby d6_84 (tlt (by decide : (0 : Int32) < (3 : Int32))).2.1 q) ?_
    refine own_aF X324 hx hZ hown hw 18 rfl e324 f325 hby d6_87 rfl d6_88 fun T326 X326 e326 => ?_
    refine own_by (fun t q => oIl X326 hx hby d6_91 rfl (own_ldI X326 hx hZ e326 V321 hby ⟨by decide, by decide⟩ (v := (.int 1)) rfl d6_93 (oIn X326 hx hby d6_94 rfl (oJy X326 hx hby 95 149 d6_95 (flt (by decide : ¬ ((1 : Int32) < (1 : Int32)))).2.1 (by decide) (by decide) (XS.iinc X326.here hx rfl (hb hby d6_149) rfl (l' := #[rv r0, iv 1, iv 0, iv 0, iv 1, .unset, .unset]) rfl (oGo X326 hx hby 152 78 d6_152 (by decide) (by decide) q)))))) ?_
    refine own_by (fun t q => oIl X326 hx hby d6_78 rfl q) ?_
    refine own_aF X326 hx hZ hown hw 36 rfl e326 f322 hby d6_80 rfl d6_81 fun T327 X327 e327 => ?_
    refine own_by (fun t q => oJn X327 hx hby d6_84 (tlt (by decide : (1 : Int32) < (3 : Int32))).2.1 q) ?_
    refine own_aF X327 hx hZ hown hw 18 rfl e327 f325 hby d6_87 rfl d6_88 fun T328 X328 e328 => ?_
    refine own_by (fun t q => oIl X328 hx hby d6_91 rfl (own_ldI X328 hx hZ e328 V321 hby ⟨by decide, by decide⟩ (v := (.int 2)) rfl d6_93 (oIn X328 hx hby d6_94 rfl (oJy X328 hx hby 95 149 d6_95 (flt (by decide : ¬ ((2 : Int32) < (1 : Int32)))).2.1 (by decide) (by decide) (XS.iinc X328.here hx rfl (hb hby d6_149) rfl (l' := #[rv r0, iv 1, iv 0, iv 0, iv 2, .unset, .unset]) rfl (oGo X328 hx hby 152 78 d6_152 (by decide) (by decide) q)))))) ?_
    refine own_by (fun t q => oIl X328 hx hby d6_78 rfl q) ?_
    refine own_aF X328 hx hZ hown hw 36 rfl e328 f322 hby d6_80 rfl d6_81 fun T329 X329 e329 => ?_
    refine own_by (fun t q => oJn X329 hx hby d6_84 (tlt (by decide : (2 : Int32) < (3 : Int32))).2.1 q) ?_
    refine own_aF X329 hx hZ hown hw 18 rfl e329 f325 hby d6_87 rfl d6_88 fun T330 X330 e330 => ?_
    have f331 := (((((p1_6.keep K291 nin0).other W296 (Or.inr (sn_22 hw))).other W305 (Or.inl (Nat.ne_of_lt (Nat.lt_of_lt_of_le E_r0.lt p1_1)))).other W313 (Or.inl (Nat.ne_of_lt (Nat.lt_of_lt_of_le E_r0.lt p1_1)))).other W321 (Or.inl (Nat.ne_of_lt (Nat.lt_of_lt_of_le E_r0.lt p1_1))))
    refine own_by (fun t q => oIl X330 hx hby d6_91 rfl (own_ldI X330 hx hZ e330 V321 hby ⟨by decide, by decide⟩ (v := (.int 0)) rfl d6_93 (oIn X330 hx hby d6_94 rfl (oJn X330 hx hby d6_95 (tlt (by decide : (0 : Int32) < (1 : Int32))).2.1 q)))) ?_
    refine own_aF X330 hx hZ hown hw 14 rfl e330 f331 hby d6_98 rfl d6_99 fun T332 X332 e332 => ?_
    have f333 := (((((f286.keep K291 nin0).other W296 ne_sA_r0).other W305 (Nat.ne_of_lt (Nat.lt_of_lt_of_le V_sA.lt p1_1))).other W313 (Nat.ne_of_lt (Nat.lt_of_lt_of_le V_sA.lt p1_1))).other W321 (Nat.ne_of_lt (Nat.lt_of_lt_of_le V_sA.lt p1_1)))
    have f335 := ((((f294.wr W296).wr W305).wr W313).wr W321)
    have f336 := (((((p1_4.keep K291 nin0).other W296 (Or.inr (sn_23 hw))).other W305 (Or.inl (Nat.ne_of_lt (Nat.lt_of_lt_of_le E_r0.lt p1_1)))).other W313 (Or.inl (Nat.ne_of_lt (Nat.lt_of_lt_of_le E_r0.lt p1_1)))).other W321 (Or.inl (Nat.ne_of_lt (Nat.lt_of_lt_of_le E_r0.lt p1_1))))
    have f337 := (((((f290.keep K291).wr W296).wr W305).wr W313).wr W321)
    refine own_by (fun t q => oIl X332 hx hby d6_102 rfl (own_ldI X332 hx hZ e332 f333 hby ⟨by decide, by decide⟩ (v := (.int s2)) rfl d6_104 (XS.istore X332.here hx rfl (hb hby d6_105) rfl (l' := #[rv r0, iv 1, iv 0, iv 0, iv 2, iv s2, .unset]) rfl (oAn X332 hx hby d6_107 rfl rfl (oIl X332 hx hby d6_108 rfl q))))) ?_
    refine own_cP 0 (rm11_32 l Z a0 hw [] r0 sA kS u s0 s1 s2 s3 h321 n0 (Nat.le_trans (Nat.le_trans (Nat.le_trans (Nat.le_trans (Nat.le_trans (Nat.le_trans Z0 K1.1) K291.1) (Keep.of_wr W296).1) (Keep.of_wr W305).1) (Keep.of_wr W313).1) (Keep.of_wr W321).1) f335 f322 f336 f331 f333 f337) X332 hx hZ hown hw 70 71 3 72 4 73 rfl rfl rfl rfl rfl rfl r0 f335 [(.int 2)] [] hby d6_110 hml (lenOf pd_7 rfl) e332 rfl (Nat.le_refl _) (by decide) fun _ T334 L334 X334 hQ334 => ?_
    obtain ⟨rfl, N334q, e334⟩ := hQ334
    have N334 := Fr.app N321 N334q
    have f338 := (((((p1_5.keep K291 nin0).other W296 (Or.inr (sn_24 hw))).other W305 (Or.inl (Nat.ne_of_lt (Nat.lt_of_lt_of_le E_r0.lt p1_1)))).other W313 (Or.inl (Nat.ne_of_lt (Nat.lt_of_lt_of_le E_r0.lt p1_1)))).other W321 (Or.inl (Nat.ne_of_lt (Nat.lt_of_lt_of_le E_r0.lt p1_1))))
    refine own_by (fun t q => oIl X334 hx hby d6_113 rfl (XS.isub X334.here hx rfl (hb hby d6_115) rfl (XS.istore X334.here hx rfl (hb hby d6_116) rfl (l' := #[rv r0, iv 1, iv 0, iv 0, iv 2, iv s2, iv (u - s2)]) rfl q))) ?_
    refine own_aF X334 hx hZ hown hw 11 rfl e334 f338 hby d6_118 rfl d6_119 fun T339 X339 e339 => ?_
    refine own_by (fun t q => oIl X339 hx hby d6_122 rfl q) ?_
    refine own_aF X339 hx hZ hown hw 11 rfl e339 f338 hby d6_124 rfl d6_125 fun T340 X340 e340 => ?_
    have f341 := (((((f292.keep K291 nin0).other W296 ne_bA_r0).other W305 (Nat.ne_of_lt (Nat.lt_of_lt_of_le B_bA.lt p1_1))).other W313 (Nat.ne_of_lt (Nat.lt_of_lt_of_le B_bA.lt p1_1))).other W321 (Nat.ne_of_lt (Nat.lt_of_lt_of_le B_bA.lt p1_1)))
    have f342 := ((((((E_bA.keep K1).keep K291).wr W296).wr W305).wr W313).wr W321)
    obtain ⟨T343, h343, L343, X343, e343, N343, K343, Vr343, st343⟩ := own_bcp X340 hx hZ hown (own_at hw 45 rfl) (own_at hw 48 rfl) (own_at hw 46 rfl) (own_at hw 47 rfl) e340 f341 f341 (sp := s2) (dp := (0 : Int32)) (nn := (u - s2)) (by have w0 := own_lits; have w1a := c_isub u s2; have w1b := rng32 (u - s2); omega) N334 ge_bA (g := (mkF m 131 #[rv r0, iv 1, iv 0, iv 0, iv 2, iv s2, iv (u - s2)] [(.int (u - s2)), (.int 0), (.ref bA), (.int s2), (.ref bA)])) rfl (by rw [hml]; rfl) rfl (hb hby d6_131) (by decide) (W := 0) (Nat.le_refl _) (by decide)
    have pl343 := (allS (P := fun x => ∃ cell : Cell, h321[x]? = some cell ∧ cell.vm.isStatics = false) (own_ns f342) all0)
    have f344 := (f331.keep K343 (ninS ne_r0_bA nin0))
    refine own_by (fun t q => oIn X340 hx hby d6_128 rfl (oIl X340 hx hby d6_129 rfl (st343 _ q))) ?_
    refine own_aF X343 hx hZ hown hw 14 rfl e343 f344 hby d6_134 rfl d6_135 fun T345 X345 e345 => ?_
    have f346 := (f333.keep K343 (ninS ne_sA_bA nin0))
    refine own_by (fun t q => oIn X345 hx hby d6_138 rfl (XS.iinc X345.here hx rfl (hb hby d6_139) rfl (l' := #[rv r0, iv 1, iv 1, iv 0, iv 2, iv s2, iv (u - s2)]) rfl (oIn X345 hx hby d6_142 rfl q))) ?_
    refine own_stI X345 hx hZ e345 f346 hby ⟨by decide, by decide⟩ 0 rfl (Nat.le_of_ble_eq_true rfl) N343 ge_sA d6_143 fun T347 h347 X347 e347 W347 Vr347 N347 => ?_
    have V347 : Arv Z h347 sA kS .int (256 : Int32) [(.int 0), (.int s1), (.int s2), (.int s3)] (.int 0) := Vr347
    have f348 := ((f322.keep K343 (ninS ne_r0_bA nin0)).other W347 (Or.inl ne_r0_sA))
    refine own_by (fun t q => oIn X347 hx hby d6_144 rfl (oIl X347 hx hby d6_145 rfl (XS.iadd X347.here hx rfl (hb hby d6_147) rfl (XS.istoreN X347.here hx rfl (hb hby d6_148) rfl (l' := #[rv r0, iv 1, iv 1, iv ((0 : Int32) + (u - s2)), iv 2, iv s2, iv (u - s2)]) rfl (XS.iinc X347.here hx rfl (hb hby d6_149) rfl (l' := #[rv r0, iv 1, iv 1, iv ((0 : Int32) + (u - s2)), iv 3, iv s2, iv (u - s2)]) rfl (oGo X347 hx hby 152 78 d6_152 (by decide) (by decide) q)))))) ?_
    refine own_by (fun t q => oIl X347 hx hby d6_78 rfl q) ?_
    refine own_aF X347 hx hZ hown hw 36 rfl e347 f348 hby d6_80 rfl d6_81 fun T349 X349 e349 => ?_
    have f350 := ((f335.keep K343).wr W347)
    refine own_by (fun t q => oJy X349 hx hby 84 155 d6_84 (flt (by decide : ¬ ((3 : Int32) < (3 : Int32)))).2.1 (by decide) (by decide) (oAn X349 hx hby d6_155 rfl rfl (oIn X349 hx hby d6_156 rfl q))) ?_
    refine own_pF X349 hx hZ hown hw 36 37 3 rfl rfl rfl e349 f348 f350 (ty := .int) (by decide) rfl rfl N347 ge_r0 hby d6_157 fun T351 h351 X351 e351 W351 Fw351 N351 => ?_
    have f352 := (f350.wr W351)
    have f353 := (((f336.keep K343 (ninS ne_r0_bA nin0)).other W347 (Or.inl ne_r0_sA)).other W351 (Or.inr (sn_0 hw)))
    refine own_by (fun t q => oAn X351 hx hby d6_160 rfl rfl (oIn X351 hx hby d6_161 rfl q)) ?_
    refine own_pF X351 hx hZ hown hw 38 39 3 rfl rfl rfl e351 f353 f352 (ty := .int) (by decide) rfl rfl N351 ge_r0 hby d6_162 fun T354 h354 X354 e354 W354 Fw354 N354 => ?_
    have f355 := (f352.wr W354)
    have f356 := (Fw351.other W354 (Or.inr (sn_25 hw)))
    have f357 := (((((((Fw296.other W305 (Or.inl (Nat.ne_of_lt (Nat.lt_of_lt_of_le E_r0.lt p1_1)))).other W313 (Or.inl (Nat.ne_of_lt (Nat.lt_of_lt_of_le E_r0.lt p1_1)))).other W321 (Or.inl (Nat.ne_of_lt (Nat.lt_of_lt_of_le E_r0.lt p1_1)))).keep K343 (ninS ne_r0_bA nin0)).other W347 (Or.inl ne_r0_sA)).other W351 (Or.inr (sn_1 hw))).other W354 (Or.inr (sn_2 hw)))
    have f358 := ((((f338.keep K343 (ninS ne_r0_bA nin0)).other W347 (Or.inl ne_r0_sA)).other W351 (Or.inr (sn_26 hw))).other W354 (Or.inr (sn_27 hw)))
    have f359 := (((Vr343.other W347 ne_bA_sA).other W351 ne_bA_r0).other W354 ne_bA_r0)
    have f360 := ((((f342.keep K343).wr W347).wr W351).wr W354)
    have f361 := (((f344.other W347 (Or.inl ne_r0_sA)).other W351 (Or.inr (sn_28 hw))).other W354 (Or.inr (sn_29 hw)))
    have f362 := ((V347.other W351 ne_sA_r0).other W354 ne_sA_r0)
    have f363 := ((((f337.keep K343).wr W347).wr W351).wr W354)
    have f364 := (((((((((p1_8.keep K291 nin0).other W296 (Or.inr (sn_30 hw))).other W305 (Or.inl (Nat.ne_of_lt (Nat.lt_of_lt_of_le E_r0.lt p1_1)))).other W313 (Or.inl (Nat.ne_of_lt (Nat.lt_of_lt_of_le E_r0.lt p1_1)))).other W321 (Or.inl (Nat.ne_of_lt (Nat.lt_of_lt_of_le E_r0.lt p1_1)))).keep K343 (ninS ne_r0_bA nin0)).other W347 (Or.inl ne_r0_sA)).other W351 (Or.inr (sn_31 hw))).other W354 (Or.inr (sn_32 hw)))
    have f365 := (((((((((p1_9.keep K291 nin0).other W296 (Or.inr (sn_33 hw))).other W305 (Or.inl (Nat.ne_of_lt (Nat.lt_of_lt_of_le E_r0.lt p1_1)))).other W313 (Or.inl (Nat.ne_of_lt (Nat.lt_of_lt_of_le E_r0.lt p1_1)))).other W321 (Or.inl (Nat.ne_of_lt (Nat.lt_of_lt_of_le E_r0.lt p1_1)))).keep K343 (ninS ne_r0_bA nin0)).other W347 (Or.inl ne_r0_sA)).other W351 (Or.inr (sn_34 hw))).other W354 (Or.inr (sn_35 hw)))
    have f366 := ((((((((p291_1.other W296 (Ne.symm (Nat.ne_of_lt (Nat.lt_of_lt_of_le f289.lt p291_0)))).other W305 (Ne.symm (Nat.ne_of_lt (Nat.lt_of_lt_of_le p1_14.lt p291_0)))).other W313 (Ne.symm (Nat.ne_of_lt (Nat.lt_of_lt_of_le p1_14.lt p291_0)))).other W321 (Ne.symm (Nat.ne_of_lt (Nat.lt_of_lt_of_le p1_14.lt p291_0)))).keep K343 (ninS (Ne.symm (Nat.ne_of_lt (Nat.lt_of_lt_of_le f292.lt p291_0))) nin0)).other W347 (Ne.symm (Nat.ne_of_lt (Nat.lt_of_lt_of_le f286.lt p291_0)))).other W351 (Ne.symm (Nat.ne_of_lt (Nat.lt_of_lt_of_le f289.lt p291_0)))).other W354 (Ne.symm (Nat.ne_of_lt (Nat.lt_of_lt_of_le f289.lt p291_0))))
    have f367 := ((((((((p291_2.wr W296).wr W305).wr W313).wr W321).keep K343).wr W347).wr W351).wr W354)
    have f368 := (((((f318.other W321 (Or.inl (Nat.ne_of_lt (Nat.lt_of_lt_of_le E_r0.lt p1_1)))).keep K343 (ninS ne_r0_bA nin0)).other W347 (Or.inl ne_r0_sA)).other W351 (Or.inr (sn_36 hw))).other W354 (Or.inr (sn_37 hw)))
    have f369 := (((((f320.other W321 p1_2).keep K343 (ninS (Ne.symm (Nat.ne_of_lt (Nat.lt_of_lt_of_le B_bA.lt p1_0))) nin0)).other W347 (Ne.symm (Nat.ne_of_lt (Nat.lt_of_lt_of_le V_sA.lt p1_0)))).other W351 (Ne.symm (Nat.ne_of_lt (Nat.lt_of_lt_of_le E_r0.lt p1_0)))).other W354 (Ne.symm (Nat.ne_of_lt (Nat.lt_of_lt_of_le E_r0.lt p1_0))))
    have f370 := (((((((((p1_12.keep K291).wr W296).wr W305).wr W313).wr W321).keep K343).wr W347).wr W351).wr W354)
    have f371 := ((((f325.keep K343 (ninS ne_r0_bA nin0)).other W347 (Or.inl ne_r0_sA)).other W351 (Or.inr (sn_38 hw))).other W354 (Or.inr (sn_39 hw)))
    have f372 := ((((V321.keep K343 (ninS (Ne.symm (Nat.ne_of_lt (Nat.lt_of_lt_of_le B_bA.lt p1_1))) nin0)).other W347 (Ne.symm (Nat.ne_of_lt (Nat.lt_of_lt_of_le V_sA.lt p1_1)))).other W351 (Ne.symm (Nat.ne_of_lt (Nat.lt_of_lt_of_le E_r0.lt p1_1)))).other W354 (Ne.symm (Nat.ne_of_lt (Nat.lt_of_lt_of_le E_r0.lt p1_1))))
    have f373 := (((((((((p1_15.keep K291).wr W296).wr W305).wr W313).wr W321).keep K343).wr W347).wr W351).wr W354)
    refine own_out X354 Bd.notSynchronized Bd.returns (none) (fun _ => rfl) (by decide) (by decide) ?_ fun fs hr => ?_
    · rw [e354]; exact ⟨ar_291, (s1 - s0), ((0 : Int32) + (u - s2)), (2 : Int32), (0 : Int32), (1 : Int32), (1 : Int32), (2 : Int32), (0 : Int32), oA_1, kO_1, cA_1, kC_1, rfl, N354, (((((((((((Keep.refl h0 [r0, bA, sA]).trans K1 (allS (Or.inl (List.mem_of_getElem? (i := 0) rfl)) all0)).trans K291 all0).wr W296 (Or.inl (List.mem_of_getElem? (i := 0) rfl))).wr W305 (Or.inr sz_cA_1)).wr W313 (Or.inr sz_cA_1)).wr W321 (Or.inr sz_cA_1)).trans K343 (allS (Or.inl (List.mem_of_getElem? (i := 1) rfl)) all0)).wr W347 (Or.inl (List.mem_of_getElem? (i := 2) rfl))).wr W351 (Or.inl (List.mem_of_getElem? (i := 0) rfl))).wr W354 (Or.inl (List.mem_of_getElem? (i := 0) rfl))), sz_ar_291, sz_oA_1, sz_cA_1, p1_2, (Ne.symm (Nat.ne_of_lt (Nat.lt_of_lt_of_le p1_11.lt p291_0))), (Ne.symm (Nat.ne_of_lt (Nat.lt_of_lt_of_le p1_14.lt p291_0))), f355, f356, Fw354, f357, f358, f359, f360, f361, f362, f363, f364, f365, f366, f367, f368, f369, f370, f371, f372, f373, (by have w0 := own_lits; have w1a := c_isub u s2; have w1b := rng32 (u - s2); have w2a := c_iadd (0 : Int32) (u - s2); have w2b := rng32 ((0 : Int32) + (u - s2)); have w3a := c_isub s1 s0; have w3b := rng32 (s1 - s0); omega)⟩
    · exact X354.returnOut hx Bd.returns (hb hby d6_165) hr
  · have pl1 := (allS (P := fun x => ∃ cell : Cell, h0[x]? = some cell ∧ cell.vm.isStatics = false) (own_ns E_r0) all0)
    have g_oA_1 : n0 ≤ oA_1 := Nat.le_trans Z0 p1_0
    have sz_oA_1 : h0.size ≤ oA_1 := Nat.le_trans (Keep.refl h0 []).1 p1_0
    have g_cA_1 : n0 ≤ cA_1 := Nat.le_trans Z0 p1_1
    have sz_cA_1 : h0.size ≤ cA_1 := Nat.le_trans (Keep.refl h0 []).1 p1_1
    have N1 := Fr.app N0 N1q
    refine own_aF X1 hx hZ hown hw 36 rfl rfl p1_3 hby d6_4 rfl d6_5 fun T374 X374 e374 => ?_
    refine own_by (fun t q => oIc X374 hx hby d6_8 (XS.idiv X374.here hx rfl (hb hby d6_9) rfl (by decide) (XS.istoreN X374.here hx rfl (hb hby d6_10) rfl (l' := #[rv r0, iv 1, .unset, .unset, .unset, .unset, .unset]) rfl (oAn X374 hx hby d6_11 rfl rfl q)))) ?_
    refine own_aF X374 hx hZ hown hw 11 rfl e374 p1_5 hby d6_12 rfl d6_13 fun T375 X375 e375 => ?_
    refine own_aF X375 hx hZ hown hw 14 rfl e375 p1_6 hby d6_16 rfl d6_17 fun T376 X376 e376 => ?_
    refine own_aF X376 hx hZ hown hw 16 rfl e376 p1_10 hby d6_20 rfl d6_21 fun T377 X377 e377 => ?_
    have f378 := (V_sA.keep K1 (ninS ne_sA_r0 nin0))
    refine own_by (fun t q => oIn X377 hx hby d6_24 rfl (own_ldI X377 hx hZ e377 p1_11 hby ⟨by decide, by decide⟩ (v := (.int 2)) rfl d6_25 (own_ldI X377 hx hZ e377 f378 hby ⟨by decide, by decide⟩ (v := (.int s2)) rfl d6_26 (oAn X377 hx hby d6_27 rfl rfl q)))) ?_
    refine own_aF X377 hx hZ hown hw 16 rfl e377 p1_10 hby d6_28 rfl d6_29 fun T379 X379 e379 => ?_
    have f381 := (E_r0.keep K1)
    have f382 := (E_sA.keep K1)
    refine own_by (fun t q => oIn X379 hx hby d6_32 rfl (own_ldI X379 hx hZ e379 p1_11 hby ⟨by decide, by decide⟩ (v := (.int 2)) rfl d6_33 q)) ?_
    refine own_cP 3 (rm11_32 l Z a0 hw [] r0 sA kS u s0 s1 s2 s3 T1.heap n0 (Nat.le_trans Z0 K1.1) f381 p1_3 p1_4 p1_6 f378 f382) X379 hx hZ hown hw 70 71 3 72 4 73 rfl rfl rfl rfl rfl rfl r0 f381 [(.int 2)] [(.int s2), (.ref bA), (.ref r0)] hby d6_34 hml (lenOf pd_7 rfl) e379 rfl (Nat.le_refl _) (by decide) fun _ T380 L380 X380 hQ380 => ?_
    obtain ⟨rfl, N380q, e380⟩ := hQ380
    have N380 := Fr.app N1 N380q
    have f384 := (B_bA.keep K1 (ninS ne_bA_r0 nin0))
    refine own_cK 1 (rm15 l Z a0 hw [] bA s2 u (4096 : Int32) T1.heap n0 (Nat.le_trans Z0 K1.1) f384 (by have w0 := own_lits; omega) (by have w0 := own_lits; omega)) X380 hx hZ hown hw 86 87 76 88 rfl rfl rfl rfl [(.ref bA), (.int s2), (.int u)] [(.ref r0)] hby d6_37 hml (lenOf pd_6 rfl) e380 rfl (Nat.le_refl _) (by decide) fun _ T383 L383 X383 hQ383 => ?_
    have f385 := (V_oZ.keep K1 (ninS ne_oZ_r0 nin0))
    obtain ⟨ar_383, rfl, N383q, K383, p383_0, p383_1, p383_2⟩ := hQ383
    have g_ar_383 : n0 ≤ ar_383 := Nat.le_trans (Nat.le_trans Z0 K1.1) p383_0
    have sz_ar_383 : h0.size ≤ ar_383 := Nat.le_trans ((Keep.refl h0 [r0]).trans K1 (allS (Or.inl (List.mem_of_getElem? (i := 0) rfl)) all0)).1 p383_0
    have N383 := Fr.app N380 N383q
    have f386 := (f381.keep K383)
    have f387 := (p1_7.keep K383 nin0)
    refine own_pF X383 hx hZ hown hw 29 30 3 rfl rfl rfl rfl f387 f386 (ty := (.array .byte)) (by decide) rfl rfl N383 ge_r0 hby d6_40 fun T388 h388 X388 e388 W388 Fw388 N388 => ?_
    have f389 := ((p1_3.keep K383 nin0).other W388 (Or.inr (sn_19 hw)))
    refine own_by (fun t q => oIc X388 hx hby d6_43 (XS.istoreN X388.here hx rfl (hb hby d6_44) rfl (l' := #[rv r0, iv 1, iv 0, .unset, .unset, .unset, .unset]) rfl (oIn X388 hx hby d6_45 rfl q))) ?_
    refine own_aF X388 hx hZ hown hw 36 rfl e388 f389 hby d6_46 rfl d6_47 fun T390 X390 e390 => ?_
    have f391 := ((p1_13.keep K383 nin0).other W388 (Or.inr (sn_20 hw)))
    refine own_by (fun t q => oJn X390 hx hby d6_50 (tlt (by decide : (0 : Int32) < (3 : Int32))).2.1 q) ?_
    refine own_aF X390 hx hZ hown hw 18 rfl e390 f391 hby d6_53 rfl d6_54 fun T392 X392 e392 => ?_
    have f393 := ((p1_10.keep K383 nin0).other W388 (Or.inr (sn_21 hw)))
    refine own_aF X392 hx hZ hown hw 16 rfl e392 f393 hby d6_57 rfl d6_58 fun T394 X394 e394 => ?_
    have f395 := ((p1_11.keep K383 nin0).other W388 (Ne.symm (Nat.ne_of_lt (Nat.lt_of_lt_of_le E_r0.lt p1_0))))
    have f396 := ((p1_14.keep K383 nin0).other W388 (Ne.symm (Nat.ne_of_lt (Nat.lt_of_lt_of_le E_r0.lt p1_1))))
    refine own_by (fun t q => oIn X394 hx hby d6_61 rfl (own_ldI X394 hx hZ e394 f395 hby ⟨by decide, by decide⟩ (v := (.int 0)) rfl d6_62 (oIn X394 hx hby d6_63 rfl q))) ?_
    refine own_stI X394 hx hZ e394 f396 hby ⟨by decide, by decide⟩ 0 rfl (Nat.le_of_ble_eq_true rfl) N388 g_cA_1 d6_64 fun T397 h397 X397 e397 W397 Vr397 N397 => ?_
    have V397 : Arv Z h397 cA_1 kC_1 .int (256 : Int32) [(.int 0), (.int 1), (.int 2)] (.int 0) := Vr397
    have f398 := (f389.other W397 (Or.inl (Nat.ne_of_lt (Nat.lt_of_lt_of_le E_r0.lt p1_1))))
    refine own_by (fun t q => XS.iinc X397.here hx rfl (hb hby d6_65) rfl (l' := #[rv r0, iv 1, iv 1, .unset, .unset, .unset, .unset]) rfl (oGo X397 hx hby 68 45 d6_68 (by decide) (by decide) (oIn X397 hx hby d6_45 rfl q))) ?_
    refine own_aF X397 hx hZ hown hw 36 rfl e397 f398 hby d6_46 rfl d6_47 fun T399 X399 e399 => ?_
    have f400 := (f391.other W397 (Or.inl (Nat.ne_of_lt (Nat.lt_of_lt_of_le E_r0.lt p1_1))))
    refine own_by (fun t q => oJn X399 hx hby d6_50 (tlt (by decide : (1 : Int32) < (3 : Int32))).2.1 q) ?_
    refine own_aF X399 hx hZ hown hw 18 rfl e399 f400 hby d6_53 rfl d6_54 fun T401 X401 e401 => ?_
    have f402 := (f393.other W397 (Or.inl (Nat.ne_of_lt (Nat.lt_of_lt_of_le E_r0.lt p1_1))))
    refine own_aF X401 hx hZ hown hw 16 rfl e401 f402 hby d6_57 rfl d6_58 fun T403 X403 e403 => ?_
    have f404 := (f395.other W397 p1_2)
    refine own_by (fun t q => oIn X403 hx hby d6_61 rfl (own_ldI X403 hx hZ e403 f404 hby ⟨by decide, by decide⟩ (v := (.int 2)) rfl d6_62 (oIn X403 hx hby d6_63 rfl q))) ?_
    refine own_stI X403 hx hZ e403 V397 hby ⟨by decide, by decide⟩ 2 rfl (Nat.le_of_ble_eq_true rfl) N397 g_cA_1 d6_64 fun T405 h405 X405 e405 W405 Vr405 N405 => ?_
    have V405 : Arv Z h405 cA_1 kC_1 .int (256 : Int32) [(.int 0), (.int 1), (.int 1)] (.int 0) := Vr405
    have f406 := (f398.other W405 (Or.inl (Nat.ne_of_lt (Nat.lt_of_lt_of_le E_r0.lt p1_1))))
    refine own_by (fun t q => XS.iinc X405.here hx rfl (hb hby d6_65) rfl (l' := #[rv r0, iv 1, iv 2, .unset, .unset, .unset, .unset]) rfl (oGo X405 hx hby 68 45 d6_68 (by decide) (by decide) (oIn X405 hx hby d6_45 rfl q))) ?_
    refine own_aF X405 hx hZ hown hw 36 rfl e405 f406 hby d6_46 rfl d6_47 fun T407 X407 e407 => ?_
    have f408 := (f400.other W405 (Or.inl (Nat.ne_of_lt (Nat.lt_of_lt_of_le E_r0.lt p1_1))))
    refine own_by (fun t q => oJn X407 hx hby d6_50 (tlt (by decide : (2 : Int32) < (3 : Int32))).2.1 q) ?_
    refine own_aF X407 hx hZ hown hw 18 rfl e407 f408 hby d6_53 rfl d6_54 fun T409 X409 e409 => ?_
    have f410 := (f402.other W405 (Or.inl (Nat.ne_of_lt (Nat.lt_of_lt_of_le E_r0.lt p1_1))))
    refine own_aF X409 hx hZ hown hw 16 rfl e409 f410 hby d6_57 rfl d6_58 fun T411 X411 e411 => ?_
    have f412 := (f404.other W405 p1_2)
    refine own_by (fun t q => oIn X411 hx hby d6_61 rfl (own_ldI X411 hx hZ e411 f412 hby ⟨by decide, by decide⟩ (v := (.int 1)) rfl d6_62 (oIn X411 hx hby d6_63 rfl q))) ?_
    refine own_stI X411 hx hZ e411 V405 hby ⟨by decide, by decide⟩ 1 rfl (Nat.le_of_ble_eq_true rfl) N405 g_cA_1 d6_64 fun T413 h413 X413 e413 W413 Vr413 N413 => ?_
    have V413 : Arv Z h413 cA_1 kC_1 .int (256 : Int32) [(.int 0), (.int 2), (.int 1)] (.int 0) := Vr413
    have f414 := (f406.other W413 (Or.inl (Nat.ne_of_lt (Nat.lt_of_lt_of_le E_r0.lt p1_1))))
    refine own_by (fun t q => XS.iinc X413.here hx rfl (hb hby d6_65) rfl (l' := #[rv r0, iv 1, iv 3, .unset, .unset, .unset, .unset]) rfl (oGo X413 hx hby 68 45 d6_68 (by decide) (by decide) (oIn X413 hx hby d6_45 rfl q))) ?_
    refine own_aF X413 hx hZ hown hw 36 rfl e413 f414 hby d6_46 rfl d6_47 fun T415 X415 e415 => ?_
    refine own_by (fun t q => oJy X415 hx hby 50 71 d6_50 (flt (by decide : ¬ ((3 : Int32) < (3 : Int32)))).2.1 (by decide) (by decide) (oIc X415 hx hby d6_71 (XS.istoreN X415.here hx rfl (hb hby d6_72) rfl (l' := #[rv r0, iv 1, iv 0, .unset, .unset, .unset, .unset]) rfl (oIc X415 hx hby d6_73 (XS.istoreN X415.here hx rfl (hb hby d6_74) rfl (l' := #[rv r0, iv 1, iv 0, iv 0, .unset, .unset, .unset]) rfl (oIc X415 hx hby d6_75 q)))))) ?_
    refine own_by (fun t q => XS.istore X415.here hx rfl (hb hby d6_76) rfl (l' := #[rv r0, iv 1, iv 0, iv 0, iv 0, .unset, .unset]) rfl (oIl X415 hx hby d6_78 rfl q)) ?_
    refine own_aF X415 hx hZ hown hw 36 rfl e415 f414 hby d6_80 rfl d6_81 fun T416 X416 e416 => ?_
    have f417 := (f408.other W413 (Or.inl (Nat.ne_of_lt (Nat.lt_of_lt_of_le E_r0.lt p1_1))))
    refine own_by (fun t q => oJn X416 hx hby d6_84 (tlt (by decide : (0 : Int32) < (3 : Int32))).2.1 q) ?_
    refine own_aF X416 hx hZ hown hw 18 rfl e416 f417 hby d6_87 rfl d6_88 fun T418 X418 e418 => ?_
    have f419 := (((((p1_6.keep K383 nin0).other W388 (Or.inr (sn_22 hw))).other W397 (Or.inl (Nat.ne_of_lt (Nat.lt_of_lt_of_le E_r0.lt p1_1)))).other W405 (Or.inl (Nat.ne_of_lt (Nat.lt_of_lt_of_le E_r0.lt p1_1)))).other W413 (Or.inl (Nat.ne_of_lt (Nat.lt_of_lt_of_le E_r0.lt p1_1))))
    refine own_by (fun t q => oIl X418 hx hby d6_91 rfl (own_ldI X418 hx hZ e418 V413 hby ⟨by decide, by decide⟩ (v := (.int 0)) rfl d6_93 (oIn X418 hx hby d6_94 rfl (oJn X418 hx hby d6_95 (tlt (by decide : (0 : Int32) < (1 : Int32))).2.1 q)))) ?_
    refine own_aF X418 hx hZ hown hw 14 rfl e418 f419 hby d6_98 rfl d6_99 fun T420 X420 e420 => ?_
    have f421 := (((((f378.keep K383 nin0).other W388 ne_sA_r0).other W397 (Nat.ne_of_lt (Nat.lt_of_lt_of_le V_sA.lt p1_1))).other W405 (Nat.ne_of_lt (Nat.lt_of_lt_of_le V_sA.lt p1_1))).other W413 (Nat.ne_of_lt (Nat.lt_of_lt_of_le V_sA.lt p1_1)))
    have f423 := ((((f386.wr W388).wr W397).wr W405).wr W413)
    have f424 := (((((p1_4.keep K383 nin0).other W388 (Or.inr (sn_23 hw))).other W397 (Or.inl (Nat.ne_of_lt (Nat.lt_of_lt_of_le E_r0.lt p1_1)))).other W405 (Or.inl (Nat.ne_of_lt (Nat.lt_of_lt_of_le E_r0.lt p1_1)))).other W413 (Or.inl (Nat.ne_of_lt (Nat.lt_of_lt_of_le E_r0.lt p1_1))))
    have f425 := (((((f382.keep K383).wr W388).wr W397).wr W405).wr W413)
    refine own_by (fun t q => oIl X420 hx hby d6_102 rfl (own_ldI X420 hx hZ e420 f421 hby ⟨by decide, by decide⟩ (v := (.int s0)) rfl d6_104 (XS.istore X420.here hx rfl (hb hby d6_105) rfl (l' := #[rv r0, iv 1, iv 0, iv 0, iv 0, iv s0, .unset]) rfl (oAn X420 hx hby d6_107 rfl rfl (oIl X420 hx hby d6_108 rfl q))))) ?_
    refine own_cP 0 (rm11_30 l Z a0 hw [] r0 sA kS u s0 s1 s2 s3 h413 n0 (Nat.le_trans (Nat.le_trans (Nat.le_trans (Nat.le_trans (Nat.le_trans (Nat.le_trans Z0 K1.1) K383.1) (Keep.of_wr W388).1) (Keep.of_wr W397).1) (Keep.of_wr W405).1) (Keep.of_wr W413).1) f423 f414 f424 f419 f421 f425) X420 hx hZ hown hw 70 71 3 72 4 73 rfl rfl rfl rfl rfl rfl r0 f423 [(.int 0)] [] hby d6_110 hml (lenOf pd_7 rfl) e420 rfl (Nat.le_refl _) (by decide) fun _ T422 L422 X422 hQ422 => ?_
    obtain ⟨rfl, N422q, e422⟩ := hQ422
    have N422 := Fr.app N413 N422q
    have f426 := (((((p1_5.keep K383 nin0).other W388 (Or.inr (sn_24 hw))).other W397 (Or.inl (Nat.ne_of_lt (Nat.lt_of_lt_of_le E_r0.lt p1_1)))).other W405 (Or.inl (Nat.ne_of_lt (Nat.lt_of_lt_of_le E_r0.lt p1_1)))).other W413 (Or.inl (Nat.ne_of_lt (Nat.lt_of_lt_of_le E_r0.lt p1_1))))
    refine own_by (fun t q => oIl X422 hx hby d6_113 rfl (XS.isub X422.here hx rfl (hb hby d6_115) rfl (XS.istore X422.here hx rfl (hb hby d6_116) rfl (l' := #[rv r0, iv 1, iv 0, iv 0, iv 0, iv s0, iv (s1 - s0)]) rfl q))) ?_
    refine own_aF X422 hx hZ hown hw 11 rfl e422 f426 hby d6_118 rfl d6_119 fun T427 X427 e427 => ?_
    refine own_by (fun t q => oIl X427 hx hby d6_122 rfl q) ?_
    refine own_aF X427 hx hZ hown hw 11 rfl e427 f426 hby d6_124 rfl d6_125 fun T428 X428 e428 => ?_
    have f429 := (((((f384.keep K383 nin0).other W388 ne_bA_r0).other W397 (Nat.ne_of_lt (Nat.lt_of_lt_of_le B_bA.lt p1_1))).other W405 (Nat.ne_of_lt (Nat.lt_of_lt_of_le B_bA.lt p1_1))).other W413 (Nat.ne_of_lt (Nat.lt_of_lt_of_le B_bA.lt p1_1)))
    have f430 := ((((((E_bA.keep K1).keep K383).wr W388).wr W397).wr W405).wr W413)
    obtain ⟨T431, h431, L431, X431, e431, N431, K431, Vr431, st431⟩ := own_bcp X428 hx hZ hown (own_at hw 45 rfl) (own_at hw 48 rfl) (own_at hw 46 rfl) (own_at hw 47 rfl) e428 f429 f429 (sp := s0) (dp := (0 : Int32)) (nn := (s1 - s0)) (by have w0 := own_lits; have w1a := c_isub s1 s0; have w1b := rng32 (s1 - s0); omega) N422 ge_bA (g := (mkF m 131 #[rv r0, iv 1, iv 0, iv 0, iv 0, iv s0, iv (s1 - s0)] [(.int (s1 - s0)), (.int 0), (.ref bA), (.int s0), (.ref bA)])) rfl (by rw [hml]; rfl) rfl (hb hby d6_131) (by decide) (W := 0) (Nat.le_refl _) (by decide)
    have pl431 := (allS (P := fun x => ∃ cell : Cell, h413[x]? = some cell ∧ cell.vm.isStatics = false) (own_ns f430) all0)
    have f432 := (f419.keep K431 (ninS ne_r0_bA nin0))
    refine own_by (fun t q => oIn X428 hx hby d6_128 rfl (oIl X428 hx hby d6_129 rfl (st431 _ q))) ?_
    refine own_aF X431 hx hZ hown hw 14 rfl e431 f432 hby d6_134 rfl d6_135 fun T433 X433 e433 => ?_
    have f434 := (f421.keep K431 (ninS ne_sA_bA nin0))
    refine own_by (fun t q => oIn X433 hx hby d6_138 rfl (XS.iinc X433.here hx rfl (hb hby d6_139) rfl (l' := #[rv r0, iv 1, iv 1, iv 0, iv 0, iv s0, iv (s1 - s0)]) rfl (oIn X433 hx hby d6_142 rfl q))) ?_
    refine own_stI X433 hx hZ e433 f434 hby ⟨by decide, by decide⟩ 0 rfl (Nat.le_of_ble_eq_true rfl) N431 ge_sA d6_143 fun T435 h435 X435 e435 W435 Vr435 N435 => ?_
    have V435 : Arv Z h435 sA kS .int (256 : Int32) [(.int 0), (.int s1), (.int s2), (.int s3)] (.int 0) := Vr435
    have f436 := ((f414.keep K431 (ninS ne_r0_bA nin0)).other W435 (Or.inl ne_r0_sA))
    refine own_by (fun t q => oIn X435 hx hby d6_144 rfl (oIl X435 hx hby d6_145 rfl (XS.iadd X435.here hx rfl (hb hby d6_147) rfl (XS.istoreN X435.here hx rfl (hb hby d6_148) rfl (l' := #[rv r0, iv 1, iv 1, iv ((0 : Int32) + (s1 - s0)), iv 0, iv s0, iv (s1 - s0)]) rfl (XS.iinc X435.here hx rfl (hb hby d6_149) rfl (l' := #[rv r0, iv 1, iv 1, iv ((0 : Int32) + (s1 - s0)), iv 1, iv s0, iv (s1 - s0)]) rfl (oGo X435 hx hby 152 78 d6_152 (by decide) (by decide) q)))))) ?_
    refine own_by (fun t q => oIl X435 hx hby d6_78 rfl q) ?_
    refine own_aF X435 hx hZ hown hw 36 rfl e435 f436 hby d6_80 rfl d6_81 fun T437 X437 e437 => ?_
    have f438 := ((f417.keep K431 (ninS ne_r0_bA nin0)).other W435 (Or.inl ne_r0_sA))
    refine own_by (fun t q => oJn X437 hx hby d6_84 (tlt (by decide : (1 : Int32) < (3 : Int32))).2.1 q) ?_
    refine own_aF X437 hx hZ hown hw 18 rfl e437 f438 hby d6_87 rfl d6_88 fun T439 X439 e439 => ?_
    have f440 := ((V413.keep K431 (ninS (Ne.symm (Nat.ne_of_lt (Nat.lt_of_lt_of_le B_bA.lt p1_1))) nin0)).other W435 (Ne.symm (Nat.ne_of_lt (Nat.lt_of_lt_of_le V_sA.lt p1_1))))
    refine own_by (fun t q => oIl X439 hx hby d6_91 rfl (own_ldI X439 hx hZ e439 f440 hby ⟨by decide, by decide⟩ (v := (.int 2)) rfl d6_93 (oIn X439 hx hby d6_94 rfl (oJy X439 hx hby 95 149 d6_95 (flt (by decide : ¬ ((2 : Int32) < (1 : Int32)))).2.1 (by decide) (by decide) (XS.iinc X439.here hx rfl (hb hby d6_149) rfl (l' := #[rv r0, iv 1, iv 1, iv ((0 : Int32) + (s1 - s0)), iv 2, iv s0, iv (s1 - s0)]) rfl (oGo X439 hx hby 152 78 d6_152 (by decide) (by decide) q)))))) ?_
    refine own_by (fun t q => oIl X439 hx hby d6_78 rfl q) ?_
    refine own_aF X439 hx hZ hown hw 36 rfl e439 f436 hby d6_80 rfl d6_81 fun T441 X441 e441 => ?_
    refine own_by (fun t q => oJn X441 hx hby d6_84 (tlt (by decide : (2 : Int32) < (3 : Int32))).2.1 q) ?_
    refine own_aF X441 hx hZ hown hw 18 rfl e441 f438 hby d6_87 rfl d6_88 fun T442 X442 e442 => ?_
    refine own_by (fun t q => oIl X442 hx hby d6_91 rfl (own_ldI X442 hx hZ e442 f440 hby ⟨by decide, by decide⟩ (v := (.int 1)) rfl d6_93 (oIn X442 hx hby d6_94 rfl (oJy X442 hx hby 95 149 d6_95 (flt (by decide : ¬ ((1 : Int32) < (1 : Int32)))).2.1 (by decide) (by decide) (XS.iinc X442.here hx rfl (hb hby d6_149) rfl (l' := #[rv r0, iv 1, iv 1, iv ((0 : Int32) + (s1 - s0)), iv 3, iv s0, iv (s1 - s0)]) rfl (oGo X442 hx hby 152 78 d6_152 (by decide) (by decide) q)))))) ?_
    refine own_by (fun t q => oIl X442 hx hby d6_78 rfl q) ?_
    refine own_aF X442 hx hZ hown hw 36 rfl e442 f436 hby d6_80 rfl d6_81 fun T443 X443 e443 => ?_
    have f444 := ((f423.keep K431).wr W435)
    refine own_by (fun t q => oJy X443 hx hby 84 155 d6_84 (flt (by decide : ¬ ((3 : Int32) < (3 : Int32)))).2.1 (by decide) (by decide) (oAn X443 hx hby d6_155 rfl rfl (oIn X443 hx hby d6_156 rfl q))) ?_
    refine own_pF X443 hx hZ hown hw 36 37 3 rfl rfl rfl e443 f436 f444 (ty := .int) (by decide) rfl rfl N435 ge_r0 hby d6_157 fun T445 h445 X445 e445 W445 Fw445 N445 => ?_
    have f446 := (f444.wr W445)
    have f447 := (((f424.keep K431 (ninS ne_r0_bA nin0)).other W435 (Or.inl ne_r0_sA)).other W445 (Or.inr (sn_0 hw)))
    refine own_by (fun t q => oAn X445 hx hby d6_160 rfl rfl (oIn X445 hx hby d6_161 rfl q)) ?_
    refine own_pF X445 hx hZ hown hw 38 39 3 rfl rfl rfl e445 f447 f446 (ty := .int) (by decide) rfl rfl N445 ge_r0 hby d6_162 fun T448 h448 X448 e448 W448 Fw448 N448 => ?_
    have f449 := (f446.wr W448)
    have f450 := (Fw445.other W448 (Or.inr (sn_25 hw)))
    have f451 := (((((((Fw388.other W397 (Or.inl (Nat.ne_of_lt (Nat.lt_of_lt_of_le E_r0.lt p1_1)))).other W405 (Or.inl (Nat.ne_of_lt (Nat.lt_of_lt_of_le E_r0.lt p1_1)))).other W413 (Or.inl (Nat.ne_of_lt (Nat.lt_of_lt_of_le E_r0.lt p1_1)))).keep K431 (ninS ne_r0_bA nin0)).other W435 (Or.inl ne_r0_sA)).other W445 (Or.inr (sn_1 hw))).other W448 (Or.inr (sn_2 hw)))
    have f452 := ((((f426.keep K431 (ninS ne_r0_bA nin0)).other W435 (Or.inl ne_r0_sA)).other W445 (Or.inr (sn_26 hw))).other W448 (Or.inr (sn_27 hw)))
    have f453 := (((Vr431.other W435 ne_bA_sA).other W445 ne_bA_r0).other W448 ne_bA_r0)
    have f454 := ((((f430.keep K431).wr W435).wr W445).wr W448)
    have f455 := (((f432.other W435 (Or.inl ne_r0_sA)).other W445 (Or.inr (sn_28 hw))).other W448 (Or.inr (sn_29 hw)))
    have f456 := ((V435.other W445 ne_sA_r0).other W448 ne_sA_r0)
    have f457 := ((((f425.keep K431).wr W435).wr W445).wr W448)
    have f458 := (((((((((p1_8.keep K383 nin0).other W388 (Or.inr (sn_30 hw))).other W397 (Or.inl (Nat.ne_of_lt (Nat.lt_of_lt_of_le E_r0.lt p1_1)))).other W405 (Or.inl (Nat.ne_of_lt (Nat.lt_of_lt_of_le E_r0.lt p1_1)))).other W413 (Or.inl (Nat.ne_of_lt (Nat.lt_of_lt_of_le E_r0.lt p1_1)))).keep K431 (ninS ne_r0_bA nin0)).other W435 (Or.inl ne_r0_sA)).other W445 (Or.inr (sn_31 hw))).other W448 (Or.inr (sn_32 hw)))
    have f459 := (((((((((p1_9.keep K383 nin0).other W388 (Or.inr (sn_33 hw))).other W397 (Or.inl (Nat.ne_of_lt (Nat.lt_of_lt_of_le E_r0.lt p1_1)))).other W405 (Or.inl (Nat.ne_of_lt (Nat.lt_of_lt_of_le E_r0.lt p1_1)))).other W413 (Or.inl (Nat.ne_of_lt (Nat.lt_of_lt_of_le E_r0.lt p1_1)))).keep K431 (ninS ne_r0_bA nin0)).other W435 (Or.inl ne_r0_sA)).other W445 (Or.inr (sn_34 hw))).other W448 (Or.inr (sn_35 hw)))
    have f460 := ((((((((p383_1.other W388 (Ne.symm (Nat.ne_of_lt (Nat.lt_of_lt_of_le f381.lt p383_0)))).other W397 (Ne.symm (Nat.ne_of_lt (Nat.lt_of_lt_of_le p1_14.lt p383_0)))).other W405 (Ne.symm (Nat.ne_of_lt (Nat.lt_of_lt_of_le p1_14.lt p383_0)))).other W413 (Ne.symm (Nat.ne_of_lt (Nat.lt_of_lt_of_le p1_14.lt p383_0)))).keep K431 (ninS (Ne.symm (Nat.ne_of_lt (Nat.lt_of_lt_of_le f384.lt p383_0))) nin0)).other W435 (Ne.symm (Nat.ne_of_lt (Nat.lt_of_lt_of_le f378.lt p383_0)))).other W445 (Ne.symm (Nat.ne_of_lt (Nat.lt_of_lt_of_le f381.lt p383_0)))).other W448 (Ne.symm (Nat.ne_of_lt (Nat.lt_of_lt_of_le f381.lt p383_0))))
    have f461 := ((((((((p383_2.wr W388).wr W397).wr W405).wr W413).keep K431).wr W435).wr W445).wr W448)
    have f462 := (((((f410.other W413 (Or.inl (Nat.ne_of_lt (Nat.lt_of_lt_of_le E_r0.lt p1_1)))).keep K431 (ninS ne_r0_bA nin0)).other W435 (Or.inl ne_r0_sA)).other W445 (Or.inr (sn_36 hw))).other W448 (Or.inr (sn_37 hw)))
    have f463 := (((((f412.other W413 p1_2).keep K431 (ninS (Ne.symm (Nat.ne_of_lt (Nat.lt_of_lt_of_le B_bA.lt p1_0))) nin0)).other W435 (Ne.symm (Nat.ne_of_lt (Nat.lt_of_lt_of_le V_sA.lt p1_0)))).other W445 (Ne.symm (Nat.ne_of_lt (Nat.lt_of_lt_of_le E_r0.lt p1_0)))).other W448 (Ne.symm (Nat.ne_of_lt (Nat.lt_of_lt_of_le E_r0.lt p1_0))))
    have f464 := (((((((((p1_12.keep K383).wr W388).wr W397).wr W405).wr W413).keep K431).wr W435).wr W445).wr W448)
    have f465 := ((f438.other W445 (Or.inr (sn_38 hw))).other W448 (Or.inr (sn_39 hw)))
    have f466 := ((f440.other W445 (Ne.symm (Nat.ne_of_lt (Nat.lt_of_lt_of_le E_r0.lt p1_1)))).other W448 (Ne.symm (Nat.ne_of_lt (Nat.lt_of_lt_of_le E_r0.lt p1_1))))
    have f467 := (((((((((p1_15.keep K383).wr W388).wr W397).wr W405).wr W413).keep K431).wr W435).wr W445).wr W448)
    refine own_out X448 Bd.notSynchronized Bd.returns (none) (fun _ => rfl) (by decide) (by decide) ?_ fun fs hr => ?_
    · rw [e448]; exact ⟨ar_383, (u - s2), ((0 : Int32) + (s1 - s0)), (0 : Int32), (2 : Int32), (1 : Int32), (0 : Int32), (2 : Int32), (1 : Int32), oA_1, kO_1, cA_1, kC_1, rfl, N448, (((((((((((Keep.refl h0 [r0, bA, sA]).trans K1 (allS (Or.inl (List.mem_of_getElem? (i := 0) rfl)) all0)).trans K383 all0).wr W388 (Or.inl (List.mem_of_getElem? (i := 0) rfl))).wr W397 (Or.inr sz_cA_1)).wr W405 (Or.inr sz_cA_1)).wr W413 (Or.inr sz_cA_1)).trans K431 (allS (Or.inl (List.mem_of_getElem? (i := 1) rfl)) all0)).wr W435 (Or.inl (List.mem_of_getElem? (i := 2) rfl))).wr W445 (Or.inl (List.mem_of_getElem? (i := 0) rfl))).wr W448 (Or.inl (List.mem_of_getElem? (i := 0) rfl))), sz_ar_383, sz_oA_1, sz_cA_1, p1_2, (Ne.symm (Nat.ne_of_lt (Nat.lt_of_lt_of_le p1_11.lt p383_0))), (Ne.symm (Nat.ne_of_lt (Nat.lt_of_lt_of_le p1_14.lt p383_0))), f449, f450, Fw448, f451, f452, f453, f454, f455, f456, f457, f458, f459, f460, f461, f462, f463, f464, f465, f466, f467, (by have w0 := own_lits; have w1a := c_isub s1 s0; have w1b := rng32 (s1 - s0); have w2a := c_iadd (0 : Int32) (s1 - s0); have w2b := rng32 ((0 : Int32) + (s1 - s0)); have w3a := c_isub u s2; have w3b := rng32 (u - s2); omega)⟩
    · exact X448.returnOut hx Bd.returns (hb hby d6_165) hr
  · have pl1 := (allS (P := fun x => ∃ cell : Cell, h0[x]? = some cell ∧ cell.vm.isStatics = false) (own_ns E_r0) all0)
    have g_oA_1 : n0 ≤ oA_1 := Nat.le_trans Z0 p1_0
    have sz_oA_1 : h0.size ≤ oA_1 := Nat.le_trans (Keep.refl h0 []).1 p1_0
    have g_cA_1 : n0 ≤ cA_1 := Nat.le_trans Z0 p1_1
    have sz_cA_1 : h0.size ≤ cA_1 := Nat.le_trans (Keep.refl h0 []).1 p1_1
    have N1 := Fr.app N0 N1q
    refine own_aF X1 hx hZ hown hw 36 rfl rfl p1_3 hby d6_4 rfl d6_5 fun T468 X468 e468 => ?_
    refine own_by (fun t q => oIc X468 hx hby d6_8 (XS.idiv X468.here hx rfl (hb hby d6_9) rfl (by decide) (XS.istoreN X468.here hx rfl (hb hby d6_10) rfl (l' := #[rv r0, iv 1, .unset, .unset, .unset, .unset, .unset]) rfl (oAn X468 hx hby d6_11 rfl rfl q)))) ?_
    refine own_aF X468 hx hZ hown hw 11 rfl e468 p1_5 hby d6_12 rfl d6_13 fun T469 X469 e469 => ?_
    refine own_aF X469 hx hZ hown hw 14 rfl e469 p1_6 hby d6_16 rfl d6_17 fun T470 X470 e470 => ?_
    refine own_aF X470 hx hZ hown hw 16 rfl e470 p1_10 hby d6_20 rfl d6_21 fun T471 X471 e471 => ?_
    have f472 := (V_sA.keep K1 (ninS ne_sA_r0 nin0))
    refine own_by (fun t q => oIn X471 hx hby d6_24 rfl (own_ldI X471 hx hZ e471 p1_11 hby ⟨by decide, by decide⟩ (v := (.int 1)) rfl d6_25 (own_ldI X471 hx hZ e471 f472 hby ⟨by decide, by decide⟩ (v := (.int s1)) rfl d6_26 (oAn X471 hx hby d6_27 rfl rfl q)))) ?_
    refine own_aF X471 hx hZ hown hw 16 rfl e471 p1_10 hby d6_28 rfl d6_29 fun T473 X473 e473 => ?_
    have f475 := (E_r0.keep K1)
    have f476 := (E_sA.keep K1)
    refine own_by (fun t q => oIn X473 hx hby d6_32 rfl (own_ldI X473 hx hZ e473 p1_11 hby ⟨by decide, by decide⟩ (v := (.int 1)) rfl d6_33 q)) ?_
    refine own_cP 3 (rm11_31 l Z a0 hw [] r0 sA kS u s0 s1 s2 s3 T1.heap n0 (Nat.le_trans Z0 K1.1) f475 p1_3 p1_4 p1_6 f472 f476) X473 hx hZ hown hw 70 71 3 72 4 73 rfl rfl rfl rfl rfl rfl r0 f475 [(.int 1)] [(.int s1), (.ref bA), (.ref r0)] hby d6_34 hml (lenOf pd_7 rfl) e473 rfl (Nat.le_refl _) (by decide) fun _ T474 L474 X474 hQ474 => ?_
    obtain ⟨rfl, N474q, e474⟩ := hQ474
    have N474 := Fr.app N1 N474q
    have f478 := (B_bA.keep K1 (ninS ne_bA_r0 nin0))
    refine own_cK 1 (rm15 l Z a0 hw [] bA s1 s2 (4096 : Int32) T1.heap n0 (Nat.le_trans Z0 K1.1) f478 (by have w0 := own_lits; omega) (by have w0 := own_lits; omega)) X474 hx hZ hown hw 86 87 76 88 rfl rfl rfl rfl [(.ref bA), (.int s1), (.int s2)] [(.ref r0)] hby d6_37 hml (lenOf pd_6 rfl) e474 rfl (Nat.le_refl _) (by decide) fun _ T477 L477 X477 hQ477 => ?_
    have f479 := (V_oZ.keep K1 (ninS ne_oZ_r0 nin0))
    obtain ⟨ar_477, rfl, N477q, K477, p477_0, p477_1, p477_2⟩ := hQ477
    have g_ar_477 : n0 ≤ ar_477 := Nat.le_trans (Nat.le_trans Z0 K1.1) p477_0
    have sz_ar_477 : h0.size ≤ ar_477 := Nat.le_trans ((Keep.refl h0 [r0]).trans K1 (allS (Or.inl (List.mem_of_getElem? (i := 0) rfl)) all0)).1 p477_0
    have N477 := Fr.app N474 N477q
    have f480 := (f475.keep K477)
    have f481 := (p1_7.keep K477 nin0)
    refine own_pF X477 hx hZ hown hw 29 30 3 rfl rfl rfl rfl f481 f480 (ty := (.array .byte)) (by decide) rfl rfl N477 ge_r0 hby d6_40 fun T482 h482 X482 e482 W482 Fw482 N482 => ?_
    have f483 := ((p1_3.keep K477 nin0).other W482 (Or.inr (sn_19 hw)))
    refine own_by (fun t q => oIc X482 hx hby d6_43 (XS.istoreN X482.here hx rfl (hb hby d6_44) rfl (l' := #[rv r0, iv 1, iv 0, .unset, .unset, .unset, .unset]) rfl (oIn X482 hx hby d6_45 rfl q))) ?_
    refine own_aF X482 hx hZ hown hw 36 rfl e482 f483 hby d6_46 rfl d6_47 fun T484 X484 e484 => ?_
    have f485 := ((p1_13.keep K477 nin0).other W482 (Or.inr (sn_20 hw)))
    refine own_by (fun t q => oJn X484 hx hby d6_50 (tlt (by decide : (0 : Int32) < (3 : Int32))).2.1 q) ?_
    refine own_aF X484 hx hZ hown hw 18 rfl e484 f485 hby d6_53 rfl d6_54 fun T486 X486 e486 => ?_
    have f487 := ((p1_10.keep K477 nin0).other W482 (Or.inr (sn_21 hw)))
    refine own_aF X486 hx hZ hown hw 16 rfl e486 f487 hby d6_57 rfl d6_58 fun T488 X488 e488 => ?_
    have f489 := ((p1_11.keep K477 nin0).other W482 (Ne.symm (Nat.ne_of_lt (Nat.lt_of_lt_of_le E_r0.lt p1_0))))
    have f490 := ((p1_14.keep K477 nin0).other W482 (Ne.symm (Nat.ne_of_lt (Nat.lt_of_lt_of_le E_r0.lt p1_1))))
    refine own_by (fun t q => oIn X488 hx hby d6_61 rfl (own_ldI X488 hx hZ e488 f489 hby ⟨by decide, by decide⟩ (v := (.int 0)) rfl d6_62 (oIn X488 hx hby d6_63 rfl q))) ?_
    refine own_stI X488 hx hZ e488 f490 hby ⟨by decide, by decide⟩ 0 rfl (Nat.le_of_ble_eq_true rfl) N482 g_cA_1 d6_64 fun T491 h491 X491 e491 W491 Vr491 N491 => ?_
    have V491 : Arv Z h491 cA_1 kC_1 .int (256 : Int32) [(.int 0), (.int 1), (.int 2)] (.int 0) := Vr491
    have f492 := (f483.other W491 (Or.inl (Nat.ne_of_lt (Nat.lt_of_lt_of_le E_r0.lt p1_1))))
    refine own_by (fun t q => XS.iinc X491.here hx rfl (hb hby d6_65) rfl (l' := #[rv r0, iv 1, iv 1, .unset, .unset, .unset, .unset]) rfl (oGo X491 hx hby 68 45 d6_68 (by decide) (by decide) (oIn X491 hx hby d6_45 rfl q))) ?_
    refine own_aF X491 hx hZ hown hw 36 rfl e491 f492 hby d6_46 rfl d6_47 fun T493 X493 e493 => ?_
    have f494 := (f485.other W491 (Or.inl (Nat.ne_of_lt (Nat.lt_of_lt_of_le E_r0.lt p1_1))))
    refine own_by (fun t q => oJn X493 hx hby d6_50 (tlt (by decide : (1 : Int32) < (3 : Int32))).2.1 q) ?_
    refine own_aF X493 hx hZ hown hw 18 rfl e493 f494 hby d6_53 rfl d6_54 fun T495 X495 e495 => ?_
    have f496 := (f487.other W491 (Or.inl (Nat.ne_of_lt (Nat.lt_of_lt_of_le E_r0.lt p1_1))))
    refine own_aF X495 hx hZ hown hw 16 rfl e495 f496 hby d6_57 rfl d6_58 fun T497 X497 e497 => ?_
    have f498 := (f489.other W491 p1_2)
    refine own_by (fun t q => oIn X497 hx hby d6_61 rfl (own_ldI X497 hx hZ e497 f498 hby ⟨by decide, by decide⟩ (v := (.int 1)) rfl d6_62 (oIn X497 hx hby d6_63 rfl q))) ?_
    refine own_stI X497 hx hZ e497 V491 hby ⟨by decide, by decide⟩ 1 rfl (Nat.le_of_ble_eq_true rfl) N491 g_cA_1 d6_64 fun T499 h499 X499 e499 W499 Vr499 N499 => ?_
    have V499 : Arv Z h499 cA_1 kC_1 .int (256 : Int32) [(.int 0), (.int 1), (.int 2)] (.int 0) := Vr499
    have f500 := (f492.other W499 (Or.inl (Nat.ne_of_lt (Nat.lt_of_lt_of_le E_r0.lt p1_1))))
    refine own_by (fun t q => XS.iinc X499.here hx rfl (hb hby d6_65) rfl (l' := #[rv r0, iv 1, iv 2, .unset, .unset, .unset, .unset]) rfl (oGo X499 hx hby 68 45 d6_68 (by decide) (by decide) (oIn X499 hx hby d6_45 rfl q))) ?_
    refine own_aF X499 hx hZ hown hw 36 rfl e499 f500 hby d6_46 rfl d6_47 fun T501 X501 e501 => ?_
    have f502 := (f494.other W499 (Or.inl (Nat.ne_of_lt (Nat.lt_of_lt_of_le E_r0.lt p1_1))))
    refine own_by (fun t q => oJn X501 hx hby d6_50 (tlt (by decide : (2 : Int32) < (3 : Int32))).2.1 q) ?_
    refine own_aF X501 hx hZ hown hw 18 rfl e501 f502 hby d6_53 rfl d6_54 fun T503 X503 e503 => ?_
    have f504 := (f496.other W499 (Or.inl (Nat.ne_of_lt (Nat.lt_of_lt_of_le E_r0.lt p1_1))))
    refine own_aF X503 hx hZ hown hw 16 rfl e503 f504 hby d6_57 rfl d6_58 fun T505 X505 e505 => ?_
    have f506 := (f498.other W499 p1_2)
    refine own_by (fun t q => oIn X505 hx hby d6_61 rfl (own_ldI X505 hx hZ e505 f506 hby ⟨by decide, by decide⟩ (v := (.int 2)) rfl d6_62 (oIn X505 hx hby d6_63 rfl q))) ?_
    refine own_stI X505 hx hZ e505 V499 hby ⟨by decide, by decide⟩ 2 rfl (Nat.le_of_ble_eq_true rfl) N499 g_cA_1 d6_64 fun T507 h507 X507 e507 W507 Vr507 N507 => ?_
    have V507 : Arv Z h507 cA_1 kC_1 .int (256 : Int32) [(.int 0), (.int 1), (.int 2)] (.int 0) := Vr507
    have f508 := (f500.other W507 (Or.inl (Nat.ne_of_lt (Nat.lt_of_lt_of_le E_r0.lt p1_1))))
    refine own_by (fun t q => XS.iinc X507.here hx rfl (hb hby d6_65) rfl (l' := #[rv r0, iv 1, iv 3, .unset, .unset, .unset, .unset]) rfl (oGo X507 hx hby 68 45 d6_68 (by decide) (by decide) (oIn X507 hx hby d6_45 rfl q))) ?_
    refine own_aF X507 hx hZ hown hw 36 rfl e507 f508 hby d6_46 rfl d6_47 fun T509 X509 e509 => ?_
    refine own_by (fun t q => oJy X509 hx hby 50 71 d6_50 (flt (by decide : ¬ ((3 : Int32) < (3 : Int32)))).2.1 (by decide) (by decide) (oIc X509 hx hby d6_71 (XS.istoreN X509.here hx rfl (hb hby d6_72) rfl (l' := #[rv r0, iv 1, iv 0, .unset, .unset, .unset, .unset]) rfl (oIc X509 hx hby d6_73 (XS.istoreN X509.here hx rfl (hb hby d6_74) rfl (l' := #[rv r0, iv 1, iv 0, iv 0, .unset, .unset, .unset]) rfl (oIc X509 hx hby d6_75 q)))))) ?_
    refine own_by (fun t q => XS.istore X509.here hx rfl (hb hby d6_76) rfl (l' := #[rv r0, iv 1, iv 0, iv 0, iv 0, .unset, .unset]) rfl (oIl X509 hx hby d6_78 rfl q)) ?_
    refine own_aF X509 hx hZ hown hw 36 rfl e509 f508 hby d6_80 rfl d6_81 fun T510 X510 e510 => ?_
    have f511 := (f502.other W507 (Or.inl (Nat.ne_of_lt (Nat.lt_of_lt_of_le E_r0.lt p1_1))))
    refine own_by (fun t q => oJn X510 hx hby d6_84 (tlt (by decide : (0 : Int32) < (3 : Int32))).2.1 q) ?_
    refine own_aF X510 hx hZ hown hw 18 rfl e510 f511 hby d6_87 rfl d6_88 fun T512 X512 e512 => ?_
    have f513 := (((((p1_6.keep K477 nin0).other W482 (Or.inr (sn_22 hw))).other W491 (Or.inl (Nat.ne_of_lt (Nat.lt_of_lt_of_le E_r0.lt p1_1)))).other W499 (Or.inl (Nat.ne_of_lt (Nat.lt_of_lt_of_le E_r0.lt p1_1)))).other W507 (Or.inl (Nat.ne_of_lt (Nat.lt_of_lt_of_le E_r0.lt p1_1))))
    refine own_by (fun t q => oIl X512 hx hby d6_91 rfl (own_ldI X512 hx hZ e512 V507 hby ⟨by decide, by decide⟩ (v := (.int 0)) rfl d6_93 (oIn X512 hx hby d6_94 rfl (oJn X512 hx hby d6_95 (tlt (by decide : (0 : Int32) < (1 : Int32))).2.1 q)))) ?_
    refine own_aF X512 hx hZ hown hw 14 rfl e512 f513 hby d6_98 rfl d6_99 fun T514 X514 e514 => ?_
    have f515 := (((((f472.keep K477 nin0).other W482 ne_sA_r0).other W491 (Nat.ne_of_lt (Nat.lt_of_lt_of_le V_sA.lt p1_1))).other W499 (Nat.ne_of_lt (Nat.lt_of_lt_of_le V_sA.lt p1_1))).other W507 (Nat.ne_of_lt (Nat.lt_of_lt_of_le V_sA.lt p1_1)))
    have f517 := ((((f480.wr W482).wr W491).wr W499).wr W507)
    have f518 := (((((p1_4.keep K477 nin0).other W482 (Or.inr (sn_23 hw))).other W491 (Or.inl (Nat.ne_of_lt (Nat.lt_of_lt_of_le E_r0.lt p1_1)))).other W499 (Or.inl (Nat.ne_of_lt (Nat.lt_of_lt_of_le E_r0.lt p1_1)))).other W507 (Or.inl (Nat.ne_of_lt (Nat.lt_of_lt_of_le E_r0.lt p1_1))))
    have f519 := (((((f476.keep K477).wr W482).wr W491).wr W499).wr W507)
    refine own_by (fun t q => oIl X514 hx hby d6_102 rfl (own_ldI X514 hx hZ e514 f515 hby ⟨by decide, by decide⟩ (v := (.int s0)) rfl d6_104 (XS.istore X514.here hx rfl (hb hby d6_105) rfl (l' := #[rv r0, iv 1, iv 0, iv 0, iv 0, iv s0, .unset]) rfl (oAn X514 hx hby d6_107 rfl rfl (oIl X514 hx hby d6_108 rfl q))))) ?_
    refine own_cP 0 (rm11_30 l Z a0 hw [] r0 sA kS u s0 s1 s2 s3 h507 n0 (Nat.le_trans (Nat.le_trans (Nat.le_trans (Nat.le_trans (Nat.le_trans (Nat.le_trans Z0 K1.1) K477.1) (Keep.of_wr W482).1) (Keep.of_wr W491).1) (Keep.of_wr W499).1) (Keep.of_wr W507).1) f517 f508 f518 f513 f515 f519) X514 hx hZ hown hw 70 71 3 72 4 73 rfl rfl rfl rfl rfl rfl r0 f517 [(.int 0)] [] hby d6_110 hml (lenOf pd_7 rfl) e514 rfl (Nat.le_refl _) (by decide) fun _ T516 L516 X516 hQ516 => ?_
    obtain ⟨rfl, N516q, e516⟩ := hQ516
    have N516 := Fr.app N507 N516q
    have f520 := (((((p1_5.keep K477 nin0).other W482 (Or.inr (sn_24 hw))).other W491 (Or.inl (Nat.ne_of_lt (Nat.lt_of_lt_of_le E_r0.lt p1_1)))).other W499 (Or.inl (Nat.ne_of_lt (Nat.lt_of_lt_of_le E_r0.lt p1_1)))).other W507 (Or.inl (Nat.ne_of_lt (Nat.lt_of_lt_of_le E_r0.lt p1_1))))
    refine own_by (fun t q => oIl X516 hx hby d6_113 rfl (XS.isub X516.here hx rfl (hb hby d6_115) rfl (XS.istore X516.here hx rfl (hb hby d6_116) rfl (l' := #[rv r0, iv 1, iv 0, iv 0, iv 0, iv s0, iv (s1 - s0)]) rfl q))) ?_
    refine own_aF X516 hx hZ hown hw 11 rfl e516 f520 hby d6_118 rfl d6_119 fun T521 X521 e521 => ?_
    refine own_by (fun t q => oIl X521 hx hby d6_122 rfl q) ?_
    refine own_aF X521 hx hZ hown hw 11 rfl e521 f520 hby d6_124 rfl d6_125 fun T522 X522 e522 => ?_
    have f523 := (((((f478.keep K477 nin0).other W482 ne_bA_r0).other W491 (Nat.ne_of_lt (Nat.lt_of_lt_of_le B_bA.lt p1_1))).other W499 (Nat.ne_of_lt (Nat.lt_of_lt_of_le B_bA.lt p1_1))).other W507 (Nat.ne_of_lt (Nat.lt_of_lt_of_le B_bA.lt p1_1)))
    have f524 := ((((((E_bA.keep K1).keep K477).wr W482).wr W491).wr W499).wr W507)
    obtain ⟨T525, h525, L525, X525, e525, N525, K525, Vr525, st525⟩ := own_bcp X522 hx hZ hown (own_at hw 45 rfl) (own_at hw 48 rfl) (own_at hw 46 rfl) (own_at hw 47 rfl) e522 f523 f523 (sp := s0) (dp := (0 : Int32)) (nn := (s1 - s0)) (by have w0 := own_lits; have w1a := c_isub s1 s0; have w1b := rng32 (s1 - s0); omega) N516 ge_bA (g := (mkF m 131 #[rv r0, iv 1, iv 0, iv 0, iv 0, iv s0, iv (s1 - s0)] [(.int (s1 - s0)), (.int 0), (.ref bA), (.int s0), (.ref bA)])) rfl (by rw [hml]; rfl) rfl (hb hby d6_131) (by decide) (W := 0) (Nat.le_refl _) (by decide)
    have pl525 := (allS (P := fun x => ∃ cell : Cell, h507[x]? = some cell ∧ cell.vm.isStatics = false) (own_ns f524) all0)
    have f526 := (f513.keep K525 (ninS ne_r0_bA nin0))
    refine own_by (fun t q => oIn X522 hx hby d6_128 rfl (oIl X522 hx hby d6_129 rfl (st525 _ q))) ?_
    refine own_aF X525 hx hZ hown hw 14 rfl e525 f526 hby d6_134 rfl d6_135 fun T527 X527 e527 => ?_
    have f528 := (f515.keep K525 (ninS ne_sA_bA nin0))
    refine own_by (fun t q => oIn X527 hx hby d6_138 rfl (XS.iinc X527.here hx rfl (hb hby d6_139) rfl (l' := #[rv r0, iv 1, iv 1, iv 0, iv 0, iv s0, iv (s1 - s0)]) rfl (oIn X527 hx hby d6_142 rfl q))) ?_
    refine own_stI X527 hx hZ e527 f528 hby ⟨by decide, by decide⟩ 0 rfl (Nat.le_of_ble_eq_true rfl) N525 ge_sA d6_143 fun T529 h529 X529 e529 W529 Vr529 N529 => ?_
    have V529 : Arv Z h529 sA kS .int (256 : Int32) [(.int 0), (.int s1), (.int s2), (.int s3)] (.int 0) := Vr529
    have f530 := ((f508.keep K525 (ninS ne_r0_bA nin0)).other W529 (Or.inl ne_r0_sA))
    refine own_by (fun t q => oIn X529 hx hby d6_144 rfl (oIl X529 hx hby d6_145 rfl (XS.iadd X529.here hx rfl (hb hby d6_147) rfl (XS.istoreN X529.here hx rfl (hb hby d6_148) rfl (l' := #[rv r0, iv 1, iv 1, iv ((0 : Int32) + (s1 - s0)), iv 0, iv s0, iv (s1 - s0)]) rfl (XS.iinc X529.here hx rfl (hb hby d6_149) rfl (l' := #[rv r0, iv 1, iv 1, iv ((0 : Int32) + (s1 - s0)), iv 1, iv s0, iv (s1 - s0)]) rfl (oGo X529 hx hby 152 78 d6_152 (by decide) (by decide) q)))))) ?_
    refine own_by (fun t q => oIl X529 hx hby d6_78 rfl q) ?_
    refine own_aF X529 hx hZ hown hw 36 rfl e529 f530 hby d6_80 rfl d6_81 fun T531 X531 e531 => ?_
    have f532 := ((f511.keep K525 (ninS ne_r0_bA nin0)).other W529 (Or.inl ne_r0_sA))
    refine own_by (fun t q => oJn X531 hx hby d6_84 (tlt (by decide : (1 : Int32) < (3 : Int32))).2.1 q) ?_
    refine own_aF X531 hx hZ hown hw 18 rfl e531 f532 hby d6_87 rfl d6_88 fun T533 X533 e533 => ?_
    have f534 := ((V507.keep K525 (ninS (Ne.symm (Nat.ne_of_lt (Nat.lt_of_lt_of_le B_bA.lt p1_1))) nin0)).other W529 (Ne.symm (Nat.ne_of_lt (Nat.lt_of_lt_of_le V_sA.lt p1_1))))
    refine own_by (fun t q => oIl X533 hx hby d6_91 rfl (own_ldI X533 hx hZ e533 f534 hby ⟨by decide, by decide⟩ (v := (.int 1)) rfl d6_93 (oIn X533 hx hby d6_94 rfl (oJy X533 hx hby 95 149 d6_95 (flt (by decide : ¬ ((1 : Int32) < (1 : Int32)))).2.1 (by decide) (by decide) (XS.iinc X533.here hx rfl (hb hby d6_149) rfl (l' := #[rv r0, iv 1, iv 1, iv ((0 : Int32) + (s1 - s0)), iv 2, iv s0, iv (s1 - s0)]) rfl (oGo X533 hx hby 152 78 d6_152 (by decide) (by decide) q)))))) ?_
    refine own_by (fun t q => oIl X533 hx hby d6_78 rfl q) ?_
    refine own_aF X533 hx hZ hown hw 36 rfl e533 f530 hby d6_80 rfl d6_81 fun T535 X535 e535 => ?_
    refine own_by (fun t q => oJn X535 hx hby d6_84 (tlt (by decide : (2 : Int32) < (3 : Int32))).2.1 q) ?_
    refine own_aF X535 hx hZ hown hw 18 rfl e535 f532 hby d6_87 rfl d6_88 fun T536 X536 e536 => ?_
    refine own_by (fun t q => oIl X536 hx hby d6_91 rfl (own_ldI X536 hx hZ e536 f534 hby ⟨by decide, by decide⟩ (v := (.int 2)) rfl d6_93 (oIn X536 hx hby d6_94 rfl (oJy X536 hx hby 95 149 d6_95 (flt (by decide : ¬ ((2 : Int32) < (1 : Int32)))).2.1 (by decide) (by decide) (XS.iinc X536.here hx rfl (hb hby d6_149) rfl (l' := #[rv r0, iv 1, iv 1, iv ((0 : Int32) + (s1 - s0)), iv 3, iv s0, iv (s1 - s0)]) rfl (oGo X536 hx hby 152 78 d6_152 (by decide) (by decide) q)))))) ?_
    refine own_by (fun t q => oIl X536 hx hby d6_78 rfl q) ?_
    refine own_aF X536 hx hZ hown hw 36 rfl e536 f530 hby d6_80 rfl d6_81 fun T537 X537 e537 => ?_
    have f538 := ((f517.keep K525).wr W529)
    refine own_by (fun t q => oJy X537 hx hby 84 155 d6_84 (flt (by decide : ¬ ((3 : Int32) < (3 : Int32)))).2.1 (by decide) (by decide) (oAn X537 hx hby d6_155 rfl rfl (oIn X537 hx hby d6_156 rfl q))) ?_
    refine own_pF X537 hx hZ hown hw 36 37 3 rfl rfl rfl e537 f530 f538 (ty := .int) (by decide) rfl rfl N529 ge_r0 hby d6_157 fun T539 h539 X539 e539 W539 Fw539 N539 => ?_
    have f540 := (f538.wr W539)
    have f541 := (((f518.keep K525 (ninS ne_r0_bA nin0)).other W529 (Or.inl ne_r0_sA)).other W539 (Or.inr (sn_0 hw)))
    refine own_by (fun t q => oAn X539 hx hby d6_160 rfl rfl (oIn X539 hx hby d6_161 rfl q)) ?_
    refine own_pF X539 hx hZ hown hw 38 39 3 rfl rfl rfl e539 f541 f540 (ty := .int) (by decide) rfl rfl N539 ge_r0 hby d6_162 fun T542 h542 X542 e542 W542 Fw542 N542 => ?_
    have f543 := (f540.wr W542)
    have f544 := (Fw539.other W542 (Or.inr (sn_25 hw)))
    have f545 := (((((((Fw482.other W491 (Or.inl (Nat.ne_of_lt (Nat.lt_of_lt_of_le E_r0.lt p1_1)))).other W499 (Or.inl (Nat.ne_of_lt (Nat.lt_of_lt_of_le E_r0.lt p1_1)))).other W507 (Or.inl (Nat.ne_of_lt (Nat.lt_of_lt_of_le E_r0.lt p1_1)))).keep K525 (ninS ne_r0_bA nin0)).other W529 (Or.inl ne_r0_sA)).other W539 (Or.inr (sn_1 hw))).other W542 (Or.inr (sn_2 hw)))
    have f546 := ((((f520.keep K525 (ninS ne_r0_bA nin0)).other W529 (Or.inl ne_r0_sA)).other W539 (Or.inr (sn_26 hw))).other W542 (Or.inr (sn_27 hw)))
    have f547 := (((Vr525.other W529 ne_bA_sA).other W539 ne_bA_r0).other W542 ne_bA_r0)
    have f548 := ((((f524.keep K525).wr W529).wr W539).wr W542)
    have f549 := (((f526.other W529 (Or.inl ne_r0_sA)).other W539 (Or.inr (sn_28 hw))).other W542 (Or.inr (sn_29 hw)))
    have f550 := ((V529.other W539 ne_sA_r0).other W542 ne_sA_r0)
    have f551 := ((((f519.keep K525).wr W529).wr W539).wr W542)
    have f552 := (((((((((p1_8.keep K477 nin0).other W482 (Or.inr (sn_30 hw))).other W491 (Or.inl (Nat.ne_of_lt (Nat.lt_of_lt_of_le E_r0.lt p1_1)))).other W499 (Or.inl (Nat.ne_of_lt (Nat.lt_of_lt_of_le E_r0.lt p1_1)))).other W507 (Or.inl (Nat.ne_of_lt (Nat.lt_of_lt_of_le E_r0.lt p1_1)))).keep K525 (ninS ne_r0_bA nin0)).other W529 (Or.inl ne_r0_sA)).other W539 (Or.inr (sn_31 hw))).other W542 (Or.inr (sn_32 hw)))
    have f553 := (((((((((p1_9.keep K477 nin0).other W482 (Or.inr (sn_33 hw))).other W491 (Or.inl (Nat.ne_of_lt (Nat.lt_of_lt_of_le E_r0.lt p1_1)))).other W499 (Or.inl (Nat.ne_of_lt (Nat.lt_of_lt_of_le E_r0.lt p1_1)))).other W507 (Or.inl (Nat.ne_of_lt (Nat.lt_of_lt_of_le E_r0.lt p1_1)))).keep K525 (ninS ne_r0_bA nin0)).other W529 (Or.inl ne_r0_sA)).other W539 (Or.inr (sn_34 hw))).other W542 (Or.inr (sn_35 hw)))
    have f554 := ((((((((p477_1.other W482 (Ne.symm (Nat.ne_of_lt (Nat.lt_of_lt_of_le f475.lt p477_0)))).other W491 (Ne.symm (Nat.ne_of_lt (Nat.lt_of_lt_of_le p1_14.lt p477_0)))).other W499 (Ne.symm (Nat.ne_of_lt (Nat.lt_of_lt_of_le p1_14.lt p477_0)))).other W507 (Ne.symm (Nat.ne_of_lt (Nat.lt_of_lt_of_le p1_14.lt p477_0)))).keep K525 (ninS (Ne.symm (Nat.ne_of_lt (Nat.lt_of_lt_of_le f478.lt p477_0))) nin0)).other W529 (Ne.symm (Nat.ne_of_lt (Nat.lt_of_lt_of_le f472.lt p477_0)))).other W539 (Ne.symm (Nat.ne_of_lt (Nat.lt_of_lt_of_le f475.lt p477_0)))).other W542 (Ne.symm (Nat.ne_of_lt (Nat.lt_of_lt_of_le f475.lt p477_0))))
    have f555 := ((((((((p477_2.wr W482).wr W491).wr W499).wr W507).keep K525).wr W529).wr W539).wr W542)
    have f556 := (((((f504.other W507 (Or.inl (Nat.ne_of_lt (Nat.lt_of_lt_of_le E_r0.lt p1_1)))).keep K525 (ninS ne_r0_bA nin0)).other W529 (Or.inl ne_r0_sA)).other W539 (Or.inr (sn_36 hw))).other W542 (Or.inr (sn_37 hw)))
    have f557 := (((((f506.other W507 p1_2).keep K525 (ninS (Ne.symm (Nat.ne_of_lt (Nat.lt_of_lt_of_le B_bA.lt p1_0))) nin0)).other W529 (Ne.symm (Nat.ne_of_lt (Nat.lt_of_lt_of_le V_sA.lt p1_0)))).other W539 (Ne.symm (Nat.ne_of_lt (Nat.lt_of_lt_of_le E_r0.lt p1_0)))).other W542 (Ne.symm (Nat.ne_of_lt (Nat.lt_of_lt_of_le E_r0.lt p1_0))))
    have f558 := (((((((((p1_12.keep K477).wr W482).wr W491).wr W499).wr W507).keep K525).wr W529).wr W539).wr W542)
    have f559 := ((f532.other W539 (Or.inr (sn_38 hw))).other W542 (Or.inr (sn_39 hw)))
    have f560 := ((f534.other W539 (Ne.symm (Nat.ne_of_lt (Nat.lt_of_lt_of_le E_r0.lt p1_1)))).other W542 (Ne.symm (Nat.ne_of_lt (Nat.lt_of_lt_of_le E_r0.lt p1_1))))
    have f561 := (((((((((p1_15.keep K477).wr W482).wr W491).wr W499).wr W507).keep K525).wr W529).wr W539).wr W542)
    refine own_out X542 Bd.notSynchronized Bd.returns (none) (fun _ => rfl) (by decide) (by decide) ?_ fun fs hr => ?_
    · rw [e542]; exact ⟨ar_477, (s2 - s1), ((0 : Int32) + (s1 - s0)), (0 : Int32), (1 : Int32), (2 : Int32), (0 : Int32), (1 : Int32), (2 : Int32), oA_1, kO_1, cA_1, kC_1, rfl, N542, (((((((((((Keep.refl h0 [r0, bA, sA]).trans K1 (allS (Or.inl (List.mem_of_getElem? (i := 0) rfl)) all0)).trans K477 all0).wr W482 (Or.inl (List.mem_of_getElem? (i := 0) rfl))).wr W491 (Or.inr sz_cA_1)).wr W499 (Or.inr sz_cA_1)).wr W507 (Or.inr sz_cA_1)).trans K525 (allS (Or.inl (List.mem_of_getElem? (i := 1) rfl)) all0)).wr W529 (Or.inl (List.mem_of_getElem? (i := 2) rfl))).wr W539 (Or.inl (List.mem_of_getElem? (i := 0) rfl))).wr W542 (Or.inl (List.mem_of_getElem? (i := 0) rfl))), sz_ar_477, sz_oA_1, sz_cA_1, p1_2, (Ne.symm (Nat.ne_of_lt (Nat.lt_of_lt_of_le p1_11.lt p477_0))), (Ne.symm (Nat.ne_of_lt (Nat.lt_of_lt_of_le p1_14.lt p477_0))), f543, f544, Fw542, f545, f546, f547, f548, f549, f550, f551, f552, f553, f554, f555, f556, f557, f558, f559, f560, f561, (by have w0 := own_lits; have w1a := c_isub s1 s0; have w1b := rng32 (s1 - s0); have w2a := c_iadd (0 : Int32) (s1 - s0); have w2b := rng32 ((0 : Int32) + (s1 - s0)); have w3a := c_isub s2 s1; have w3b := rng32 (s2 - s1); omega)⟩
    · exact X542.returnOut hx Bd.returns (hb hby d6_165) hr
def Q_6_2o (Z : State) (r0 bA sA : Addr) (kS : ClassId) (u s0 s1 s2 s3 mN mB : Int32) (oA : Addr) (kO : ClassId) (cA : Addr) (kC : ClassId) (o0 o1 c0 c1 : Int32) (lim0 : Addr) (h0 : Heap) (n0 : Nat) (v : Option Value) (h : Heap) (L : List Loc) : Prop := ∃ lim : Addr, ∃ zl : Int32, ∃ u2 : Int32, ∃ g0 : Int32, ∃ g1 : Int32, ∃ d0 : Int32, ∃ d1 : Int32, v = none ∧ Fr n0 L ∧ Keep h0 h [r0, bA, sA, oA, cA] ∧ h0.size ≤ lim ∧ Exa Z h r0 cS0 ∧ Fld Z h r0 cS0 "count" "I" (.int 1) ∧ Fld Z h r0 cS0 "used" "I" (.int u2) ∧ Fld Z h r0 cS0 "limit" "[B" (.ref lim) ∧ Fld Z h r0 cS0 "bytes" "[B" (.ref bA) ∧ own_B Z h bA (4096 : Int32) ∧ Exa Z h bA "[B" ∧ Fld Z h r0 cS0 "starts" "[I" (.ref sA) ∧ Arv Z h sA kS .int (256 : Int32) [(.int 0), (.int s1), (.int s2), (.int s3)] (.int 0) ∧ Exa Z h sA "[I" ∧ Fld Z h r0 cS0 "maxNames" "I" (.int mN) ∧ Fld Z h r0 cS0 "maxBytes" "I" (.int mB) ∧ own_B Z h lim zl ∧ Exa Z h lim "[B" ∧ Fld Z h r0 cS0 "order" "[I" (.ref oA) ∧ Arv Z h oA kO .int (256 : Int32) [(.int g0), (.int g1)] (.int 0) ∧ Exa Z h oA "[I" ∧ Fld Z h r0 cS0 "scratch" "[I" (.ref cA) ∧ Arv Z h cA kC .int (256 : Int32) [(.int d0), (.int d1)] (.int 0) ∧ Exa Z h cA "[I" ∧ (0 ≤ u2.toInt ∧ u2.toInt ≤ 3) ∧ 0 ≤ zl.toInt ∧ zl.toInt ≤ 3
theorem rm6_2o (l : Launch) (Z : State) (a0 : Array Value) (hw : own_HW a0 Z) (ws : List Jvm.Cond) (r0 bA sA : Addr) (kS : ClassId) (u s0 s1 s2 s3 mN mB : Int32) (oA : Addr) (kO : ClassId) (cA : Addr) (kC : ClassId) (o0 o1 c0 c1 : Int32) (lim0 : Addr) (h0 : Heap) (n0 : Nat) (Z0 : n0 ≤ h0.size) (E_r0 : Exa Z h0 r0 cS0) (F_count_r0 : Fld Z h0 r0 cS0 "count" "I" (.int 2)) (F_used_r0 : Fld Z h0 r0 cS0 "used" "I" (.int u)) (F_bytes_r0 : Fld Z h0 r0 cS0 "bytes" "[B" (.ref bA)) (B_bA : own_B Z h0 bA (4096 : Int32)) (E_bA : Exa Z h0 bA "[B") (F_starts_r0 : Fld Z h0 r0 cS0 "starts" "[I" (.ref sA)) (V_sA : Arv Z h0 sA kS .int (256 : Int32) [(.int s0), (.int s1), (.int s2), (.int s3)] (.int 0)) (E_sA : Exa Z h0 sA "[I") (F_maxNames_r0 : Fld Z h0 r0 cS0 "maxNames" "I" (.int mN)) (F_maxBytes_r0 : Fld Z h0 r0 cS0 "maxBytes" "I" (.int mB)) (F_order_r0 : Fld Z h0 r0 cS0 "order" "[I" (.ref oA)) (V_oA : Arv Z h0 oA kO .int (256 : Int32) [(.int o0), (.int o1)] (.int 0)) (E_oA : Exa Z h0 oA "[I") (F_scratch_r0 : Fld Z h0 r0 cS0 "scratch" "[I" (.ref cA)) (V_cA : Arv Z h0 cA kC .int (256 : Int32) [(.int c0), (.int c1)] (.int 0)) (E_cA : Exa Z h0 cA "[I") (F_limit_r0 : Fld Z h0 r0 cS0 "limit" "[B" (.ref lim0)) (hp0 : s0.toInt ≤ s1.toInt ∧ s1.toInt ≤ s0.toInt + 3 ∧ s1.toInt ≤ u.toInt ∧ u.toInt ≤ s1.toInt + 3 ∧ 0 ≤ s0.toInt ∧ u.toInt ≤ 50) (ge_oA : n0 ≤ oA) (ne_r0_oA : r0 ≠ oA) (ne_bA_oA : bA ≠ oA) (ne_sA_oA : sA ≠ oA) (ne_cA_oA : cA ≠ oA) (ge_cA : n0 ≤ cA) (ne_r0_cA : r0 ≠ cA) (ne_bA_cA : bA ≠ cA) (ne_sA_cA : sA ≠ cA) (ne_oA_cA : oA ≠ cA) (ne_sA_r0 : sA ≠ r0) (ne_bA_r0 : bA ≠ r0) (ge_r0 : n0 ≤ r0) (ne_oA_r0 : oA ≠ r0) (ne_cA_r0 : cA ≠ r0) (ge_bA : n0 ≤ bA) (ne_r0_bA : r0 ≠ bA) (ne_sA_bA : sA ≠ bA) (ge_sA : n0 ≤ sA) (ne_r0_sA : r0 ≠ sA) (ne_bA_sA : bA ≠ sA) (ne_oA_bA : oA ≠ bA) (ne_oA_sA : oA ≠ sA) (ne_cA_bA : cA ≠ bA) (ne_cA_sA : cA ≠ sA) :
    own_M l Z (⟨cS0, "halve", "()V"⟩ : MethodName) prog_6_method_8_code 7 none ws ({ frames := 6, cells := 1, slots := 3, locals := 92 } : Room) #[(.ref r0)] h0 (Q_6_2o Z r0 bA sA kS u s0 s1 s2 s3 mN mB oA kO cA kC o0 o1 c0 c1 lim0 h0 n0) := by
  refine own_in cS0 rfl (plainFor_of_name pn_com_example_measurewright_measurewright_cli_NameBatch) ?_
  intro p e s m below meth c s₁ Bd hml hZ hh hx hby hown X0 e0
  have N0 := Fr.nil n0
  refine own_start (ef_6 m r0) ?_
  refine own_by (fun t q => oAn X0 hx hby d6_0 rfl rfl q) ?_
  refine own_cW 0 (rm7_2o l Z a0 hw [] r0 bA sA kS u s0 s1 s2 s3 mN mB oA kO cA kC o0 o1 c0 c1 lim0 h0 n0 Z0 E_r0 F_count_r0 F_used_r0 F_bytes_r0 B_bA E_bA F_starts_r0 V_sA E_sA F_maxNames_r0 F_maxBytes_r0 F_order_r0 V_oA E_oA F_scratch_r0 V_cA E_cA F_limit_r0 hp0 ge_oA ne_r0_oA ne_bA_oA ne_sA_oA ne_cA_oA ge_cA ne_r0_cA ne_bA_cA ne_sA_cA ne_oA_cA) X0 hx hZ hown hw 53 54 56 55 4 57 rfl rfl rfl rfl rfl rfl r0 E_r0 [] [] hby d6_1 hml (lenOf pd_9 rfl) e0 rfl (Nat.le_refl _) (by decide) fun _ T1 L1 X1 hQ1 => ?_
  rcases hQ1 with ⟨rfl, N1q, K1, p1_0, p1_1, p1_2, p1_3, p1_4, p1_5, p1_6, p1_7, p1_8, p1_9, p1_10, p1_11, p1_12⟩ | ⟨rfl, N1q, K1, p1_0, p1_1, p1_2, p1_3, p1_4, p1_5, p1_6, p1_7, p1_8, p1_9, p1_10, p1_11, p1_12⟩
  · have pl1 := (allS (P := fun x => ∃ cell : Cell, h0[x]? = some cell ∧ cell.vm.isStatics = false) (own_ns E_r0) (allS (P := fun x => ∃ cell : Cell, h0[x]? = some cell ∧ cell.vm.isStatics = false) (own_ns E_oA) (allS (P := fun x => ∃ cell : Cell, h0[x]? = some cell ∧ cell.vm.isStatics = false) (own_ns E_cA) all0)))
    have N1 := Fr.app N0 N1q
    refine own_aF X1 hx hZ hown hw 36 rfl rfl p1_0 hby d6_4 rfl d6_5 fun T2 X2 e2 => ?_
    refine own_by (fun t q => oIc X2 hx hby d6_8 (XS.idiv X2.here hx rfl (hb hby d6_9) rfl (by decide) (XS.istoreN X2.here hx rfl (hb hby d6_10) rfl (l' := #[rv r0, iv 1, .unset, .unset, .unset, .unset, .unset]) rfl (oAn X2 hx hby d6_11 rfl rfl q)))) ?_
    refine own_aF X2 hx hZ hown hw 11 rfl e2 p1_2 hby d6_12 rfl d6_13 fun T3 X3 e3 => ?_
    refine own_aF X3 hx hZ hown hw 14 rfl e3 p1_3 hby d6_16 rfl d6_17 fun T4 X4 e4 => ?_
    refine own_aF X4 hx hZ hown hw 16 rfl e4 p1_7 hby d6_20 rfl d6_21 fun T5 X5 e5 => ?_
    have f6 := (V_sA.keep K1 (ninS ne_sA_r0 (ninS ne_sA_oA (ninS ne_sA_cA nin0))))
    refine own_by (fun t q => oIn X5 hx hby d6_24 rfl (own_ldI X5 hx hZ e5 p1_8 hby ⟨by decide, by decide⟩ (v := (.int 0)) rfl d6_25 (own_ldI X5 hx hZ e5 f6 hby ⟨by decide, by decide⟩ (v := (.int s0)) rfl d6_26 (oAn X5 hx hby d6_27 rfl rfl q)))) ?_
    refine own_aF X5 hx hZ hown hw 16 rfl e5 p1_7 hby d6_28 rfl d6_29 fun T7 X7 e7 => ?_
    have f9 := (E_r0.keep K1)
    have f10 := (E_sA.keep K1)
    refine own_by (fun t q => oIn X7 hx hby d6_32 rfl (own_ldI X7 hx hZ e7 p1_8 hby ⟨by decide, by decide⟩ (v := (.int 0)) rfl d6_33 q)) ?_
    refine own_cP 3 (rm11_20 l Z a0 hw [] r0 sA kS u s0 s1 s2 s3 T1.heap n0 (Nat.le_trans Z0 K1.1) f9 p1_0 p1_1 p1_3 f6 f10) X7 hx hZ hown hw 70 71 3 72 4 73 rfl rfl rfl rfl rfl rfl r0 f9 [(.int 0)] [(.int s0), (.ref bA), (.ref r0)] hby d6_34 hml (lenOf pd_7 rfl) e7 rfl (Nat.le_refl _) (by decide) fun _ T8 L8 X8 hQ8 => ?_
    obtain ⟨rfl, N8q, e8⟩ := hQ8
    have N8 := Fr.app N1 N8q
    have f12 := (B_bA.keep K1 (ninS ne_bA_r0 (ninS ne_bA_oA (ninS ne_bA_cA nin0))))
    refine own_cK 1 (rm15 l Z a0 hw [] bA s0 s1 (4096 : Int32) T1.heap n0 (Nat.le_trans Z0 K1.1) f12 (by have w0 := own_lits; omega) (by have w0 := own_lits; omega)) X8 hx hZ hown hw 86 87 76 88 rfl rfl rfl rfl [(.ref bA), (.int s0), (.int s1)] [(.ref r0)] hby d6_37 hml (lenOf pd_6 rfl) e8 rfl (Nat.le_refl _) (by decide) fun _ T11 L11 X11 hQ11 => ?_
    obtain ⟨ar_11, rfl, N11q, K11, p11_0, p11_1, p11_2⟩ := hQ11
    have g_ar_11 : n0 ≤ ar_11 := Nat.le_trans (Nat.le_trans Z0 K1.1) p11_0
    have sz_ar_11 : h0.size ≤ ar_11 := Nat.le_trans ((Keep.refl h0 [r0, oA, cA]).trans K1 (allS (Or.inl (List.mem_of_getElem? (i := 0) rfl)) (allS (Or.inl (List.mem_of_getElem? (i := 1) rfl)) (allS (Or.inl (List.mem_of_getElem? (i := 2) rfl)) all0)))).1 p11_0
    have N11 := Fr.app N8 N11q
    have f13 := (f9.keep K11)
    have f14 := (p1_4.keep K11 nin0)
    refine own_pF X11 hx hZ hown hw 29 30 3 rfl rfl rfl rfl f14 f13 (ty := (.array .byte)) (by decide) rfl rfl N11 ge_r0 hby d6_40 fun T15 h15 X15 e15 W15 Fw15 N15 => ?_
    have f16 := ((p1_0.keep K11 nin0).other W15 (Or.inr (sn_19 hw)))
    refine own_by (fun t q => oIc X15 hx hby d6_43 (XS.istoreN X15.here hx rfl (hb hby d6_44) rfl (l' := #[rv r0, iv 1, iv 0, .unset, .unset, .unset, .unset]) rfl (oIn X15 hx hby d6_45 rfl q))) ?_
    refine own_aF X15 hx hZ hown hw 36 rfl e15 f16 hby d6_46 rfl d6_47 fun T17 X17 e17 => ?_
    have f18 := ((p1_10.keep K11 nin0).other W15 (Or.inr (sn_20 hw)))
    refine own_by (fun t q => oJn X17 hx hby d6_50 (tlt (by decide : (0 : Int32) < (2 : Int32))).2.1 q) ?_
    refine own_aF X17 hx hZ hown hw 18 rfl e17 f18 hby d6_53 rfl d6_54 fun T19 X19 e19 => ?_
    have f20 := ((p1_7.keep K11 nin0).other W15 (Or.inr (sn_21 hw)))
    refine own_aF X19 hx hZ hown hw 16 rfl e19 f20 hby d6_57 rfl d6_58 fun T21 X21 e21 => ?_
    have f22 := ((p1_8.keep K11 nin0).other W15 ne_oA_r0)
    have f23 := ((p1_11.keep K11 nin0).other W15 ne_cA_r0)
    refine own_by (fun t q => oIn X21 hx hby d6_61 rfl (own_ldI X21 hx hZ e21 f22 hby ⟨by decide, by decide⟩ (v := (.int 1)) rfl d6_62 (oIn X21 hx hby d6_63 rfl q))) ?_
    refine own_stI X21 hx hZ e21 f23 hby ⟨by decide, by decide⟩ 1 rfl (Nat.le_of_ble_eq_true rfl) N15 ge_cA d6_64 fun T24 h24 X24 e24 W24 Vr24 N24 => ?_
    have V24 : Arv Z h24 cA kC .int (256 : Int32) [(.int 0), (.int 0)] (.int 0) := Vr24
    have f25 := (f16.other W24 (Or.inl ne_r0_cA))
    refine own_by (fun t q => XS.iinc X24.here hx rfl (hb hby d6_65) rfl (l' := #[rv r0, iv 1, iv 1, .unset, .unset, .unset, .unset]) rfl (oGo X24 hx hby 68 45 d6_68 (by decide) (by decide) (oIn X24 hx hby d6_45 rfl q))) ?_
    refine own_aF X24 hx hZ hown hw 36 rfl e24 f25 hby d6_46 rfl d6_47 fun T26 X26 e26 => ?_
    have f27 := (f18.other W24 (Or.inl ne_r0_cA))
    refine own_by (fun t q => oJn X26 hx hby d6_50 (tlt (by decide : (1 : Int32) < (2 : Int32))).2.1 q) ?_
    refine own_aF X26 hx hZ hown hw 18 rfl e26 f27 hby d6_53 rfl d6_54 fun T28 X28 e28 => ?_
    have f29 := (f20.other W24 (Or.inl ne_r0_cA))
    refine own_aF X28 hx hZ hown hw 16 rfl e28 f29 hby d6_57 rfl d6_58 fun T30 X30 e30 => ?_
    have f31 := (f22.other W24 ne_oA_cA)
    refine own_by (fun t q => oIn X30 hx hby d6_61 rfl (own_ldI X30 hx hZ e30 f31 hby ⟨by decide, by decide⟩ (v := (.int 0)) rfl d6_62 (oIn X30 hx hby d6_63 rfl q))) ?_
    refine own_stI X30 hx hZ e30 V24 hby ⟨by decide, by decide⟩ 0 rfl (Nat.le_of_ble_eq_true rfl) N24 ge_cA d6_64 fun T32 h32 X32 e32 W32 Vr32 N32 => ?_
    have V32 : Arv Z h32 cA kC .int (256 : Int32) [(.int 1), (.int 0)] (.int 0) := Vr32
    have f33 := (f25.other W32 (Or.inl ne_r0_cA))
    refine own_by (fun t q => XS.iinc X32.here hx rfl (hb hby d6_65) rfl (l' := #[rv r0, iv 1, iv 2, .unset, .unset, .unset, .unset]) rfl (oGo X32 hx hby 68 45 d6_68 (by decide) (by decide) (oIn X32 hx hby d6_45 rfl q))) ?_
    refine own_aF X32 hx hZ hown hw 36 rfl e32 f33 hby d6_46 rfl d6_47 fun T34 X34 e34 => ?_
    refine own_by (fun t q => oJy X34 hx hby 50 71 d6_50 (flt (by decide : ¬ ((2 : Int32) < (2 : Int32)))).2.1 (by decide) (by decide) (oIc X34 hx hby d6_71 (XS.istoreN X34.here hx rfl (hb hby d6_72) rfl (l' := #[rv r0, iv 1, iv 0, .unset, .unset, .unset, .unset]) rfl (oIc X34 hx hby d6_73 (XS.istoreN X34.here hx rfl (hb hby d6_74) rfl (l' := #[rv r0, iv 1, iv 0, iv 0, .unset, .unset, .unset]) rfl (oIc X34 hx hby d6_75 q)))))) ?_
    refine own_by (fun t q => XS.istore X34.here hx rfl (hb hby d6_76) rfl (l' := #[rv r0, iv 1, iv 0, iv 0, iv 0, .unset, .unset]) rfl (oIl X34 hx hby d6_78 rfl q)) ?_
    refine own_aF X34 hx hZ hown hw 36 rfl e34 f33 hby d6_80 rfl d6_81 fun T35 X35 e35 => ?_
    have f36 := (f27.other W32 (Or.inl ne_r0_cA))
    refine own_by (fun t q => oJn X35 hx hby d6_84 (tlt (by decide : (0 : Int32) < (2 : Int32))).2.1 q) ?_
    refine own_aF X35 hx hZ hown hw 18 rfl e35 f36 hby d6_87 rfl d6_88 fun T37 X37 e37 => ?_
    refine own_by (fun t q => oIl X37 hx hby d6_91 rfl (own_ldI X37 hx hZ e37 V32 hby ⟨by decide, by decide⟩ (v := (.int 1)) rfl d6_93 (oIn X37 hx hby d6_94 rfl (oJy X37 hx hby 95 149 d6_95 (flt (by decide : ¬ ((1 : Int32) < (1 : Int32)))).2.1 (by decide) (by decide) (XS.iinc X37.here hx rfl (hb hby d6_149) rfl (l' := #[rv r0, iv 1, iv 0, iv 0, iv 1, .unset, .unset]) rfl (oGo X37 hx hby 152 78 d6_152 (by decide) (by decide) q)))))) ?_
    refine own_by (fun t q => oIl X37 hx hby d6_78 rfl q) ?_
    refine own_aF X37 hx hZ hown hw 36 rfl e37 f33 hby d6_80 rfl d6_81 fun T38 X38 e38 => ?_
    refine own_by (fun t q => oJn X38 hx hby d6_84 (tlt (by decide : (1 : Int32) < (2 : Int32))).2.1 q) ?_
    refine own_aF X38 hx hZ hown hw 18 rfl e38 f36 hby d6_87 rfl d6_88 fun T39 X39 e39 => ?_
    have f40 := ((((p1_3.keep K11 nin0).other W15 (Or.inr (sn_22 hw))).other W24 (Or.inl ne_r0_cA)).other W32 (Or.inl ne_r0_cA))
    refine own_by (fun t q => oIl X39 hx hby d6_91 rfl (own_ldI X39 hx hZ e39 V32 hby ⟨by decide, by decide⟩ (v := (.int 0)) rfl d6_93 (oIn X39 hx hby d6_94 rfl (oJn X39 hx hby d6_95 (tlt (by decide : (0 : Int32) < (1 : Int32))).2.1 q)))) ?_
    refine own_aF X39 hx hZ hown hw 14 rfl e39 f40 hby d6_98 rfl d6_99 fun T41 X41 e41 => ?_
    have f42 := ((((f6.keep K11 nin0).other W15 ne_sA_r0).other W24 ne_sA_cA).other W32 ne_sA_cA)
    have f44 := (((f13.wr W15).wr W24).wr W32)
    have f45 := ((((p1_1.keep K11 nin0).other W15 (Or.inr (sn_23 hw))).other W24 (Or.inl ne_r0_cA)).other W32 (Or.inl ne_r0_cA))
    have f46 := ((((f10.keep K11).wr W15).wr W24).wr W32)
    refine own_by (fun t q => oIl X41 hx hby d6_102 rfl (own_ldI X41 hx hZ e41 f42 hby ⟨by decide, by decide⟩ (v := (.int s1)) rfl d6_104 (XS.istore X41.here hx rfl (hb hby d6_105) rfl (l' := #[rv r0, iv 1, iv 0, iv 0, iv 1, iv s1, .unset]) rfl (oAn X41 hx hby d6_107 rfl rfl (oIl X41 hx hby d6_108 rfl q))))) ?_
    refine own_cP 0 (rm11_21 l Z a0 hw [] r0 sA kS u s0 s1 s2 s3 h32 n0 (Nat.le_trans (Nat.le_trans (Nat.le_trans (Nat.le_trans (Nat.le_trans Z0 K1.1) K11.1) (Keep.of_wr W15).1) (Keep.of_wr W24).1) (Keep.of_wr W32).1) f44 f33 f45 f40 f42 f46) X41 hx hZ hown hw 70 71 3 72 4 73 rfl rfl rfl rfl rfl rfl r0 f44 [(.int 1)] [] hby d6_110 hml (lenOf pd_7 rfl) e41 rfl (Nat.le_refl _) (by decide) fun _ T43 L43 X43 hQ43 => ?_
    obtain ⟨rfl, N43q, e43⟩ := hQ43
    have N43 := Fr.app N32 N43q
    have f47 := ((((p1_2.keep K11 nin0).other W15 (Or.inr (sn_24 hw))).other W24 (Or.inl ne_r0_cA)).other W32 (Or.inl ne_r0_cA))
    refine own_by (fun t q => oIl X43 hx hby d6_113 rfl (XS.isub X43.here hx rfl (hb hby d6_115) rfl (XS.istore X43.here hx rfl (hb hby d6_116) rfl (l' := #[rv r0, iv 1, iv 0, iv 0, iv 1, iv s1, iv (u - s1)]) rfl q))) ?_
    refine own_aF X43 hx hZ hown hw 11 rfl e43 f47 hby d6_118 rfl d6_119 fun T48 X48 e48 => ?_
    refine own_by (fun t q => oIl X48 hx hby d6_122 rfl q) ?_
    refine own_aF X48 hx hZ hown hw 11 rfl e48 f47 hby d6_124 rfl d6_125 fun T49 X49 e49 => ?_
    have f50 := ((((f12.keep K11 nin0).other W15 ne_bA_r0).other W24 ne_bA_cA).other W32 ne_bA_cA)
    have f51 := (((((E_bA.keep K1).keep K11).wr W15).wr W24).wr W32)
    obtain ⟨T52, h52, L52, X52, e52, N52, K52, Vr52, st52⟩ := own_bcp X49 hx hZ hown (own_at hw 45 rfl) (own_at hw 48 rfl) (own_at hw 46 rfl) (own_at hw 47 rfl) e49 f50 f50 (sp := s1) (dp := (0 : Int32)) (nn := (u - s1)) (by have w0 := own_lits; have w1a := c_isub u s1; have w1b := rng32 (u - s1); omega) N43 ge_bA (g := (mkF m 131 #[rv r0, iv 1, iv 0, iv 0, iv 1, iv s1, iv (u - s1)] [(.int (u - s1)), (.int 0), (.ref bA), (.int s1), (.ref bA)])) rfl (by rw [hml]; rfl) rfl (hb hby d6_131) (by decide) (W := 0) (Nat.le_refl _) (by decide)
    have pl52 := (allS (P := fun x => ∃ cell : Cell, h32[x]? = some cell ∧ cell.vm.isStatics = false) (own_ns f51) all0)
    have f53 := (f40.keep K52 (ninS ne_r0_bA nin0))
    refine own_by (fun t q => oIn X49 hx hby d6_128 rfl (oIl X49 hx hby d6_129 rfl (st52 _ q))) ?_
    refine own_aF X52 hx hZ hown hw 14 rfl e52 f53 hby d6_134 rfl d6_135 fun T54 X54 e54 => ?_
    have f55 := (f42.keep K52 (ninS ne_sA_bA nin0))
    refine own_by (fun t q => oIn X54 hx hby d6_138 rfl (XS.iinc X54.here hx rfl (hb hby d6_139) rfl (l' := #[rv r0, iv 1, iv 1, iv 0, iv 1, iv s1, iv (u - s1)]) rfl (oIn X54 hx hby d6_142 rfl q))) ?_
    refine own_stI X54 hx hZ e54 f55 hby ⟨by decide, by decide⟩ 0 rfl (Nat.le_of_ble_eq_true rfl) N52 ge_sA d6_143 fun T56 h56 X56 e56 W56 Vr56 N56 => ?_
    have V56 : Arv Z h56 sA kS .int (256 : Int32) [(.int 0), (.int s1), (.int s2), (.int s3)] (.int 0) := Vr56
    have f57 := ((f33.keep K52 (ninS ne_r0_bA nin0)).other W56 (Or.inl ne_r0_sA))
    refine own_by (fun t q => oIn X56 hx hby d6_144 rfl (oIl X56 hx hby d6_145 rfl (XS.iadd X56.here hx rfl (hb hby d6_147) rfl (XS.istoreN X56.here hx rfl (hb hby d6_148) rfl (l' := #[rv r0, iv 1, iv 1, iv ((0 : Int32) + (u - s1)), iv 1, iv s1, iv (u - s1)]) rfl (XS.iinc X56.here hx rfl (hb hby d6_149) rfl (l' := #[rv r0, iv 1, iv 1, iv ((0 : Int32) + (u - s1)), iv 2, iv s1, iv (u - s1)]) rfl (oGo X56 hx hby 152 78 d6_152 (by decide) (by decide) q)))))) ?_
    refine own_by (fun t q => oIl X56 hx hby d6_78 rfl q) ?_
    refine own_aF X56 hx hZ hown hw 36 rfl e56 f57 hby d6_80 rfl d6_81 fun T58 X58 e58 => ?_
    have f59 := ((f44.keep K52).wr W56)
    refine own_by (fun t q => oJy X58 hx hby 84 155 d6_84 (flt (by decide : ¬ ((2 : Int32) < (2 : Int32)))).2.1 (by decide) (by decide) (oAn X58 hx hby d6_155 rfl rfl (oIn X58 hx hby d6_156 rfl q))) ?_
    refine own_pF X58 hx hZ hown hw 36 37 3 rfl rfl rfl e58 f57 f59 (ty := .int) (by decide) rfl rfl N56 ge_r0 hby d6_157 fun T60 h60 X60 e60 W60 Fw60 N60 => ?_
    have f61 := (f59.wr W60)
    have f62 := (((f45.keep K52 (ninS ne_r0_bA nin0)).other W56 (Or.inl ne_r0_sA)).other W60 (Or.inr (sn_0 hw)))
    refine own_by (fun t q => oAn X60 hx hby d6_160 rfl rfl (oIn X60 hx hby d6_161 rfl q)) ?_
    refine own_pF X60 hx hZ hown hw 38 39 3 rfl rfl rfl e60 f62 f61 (ty := .int) (by decide) rfl rfl N60 ge_r0 hby d6_162 fun T63 h63 X63 e63 W63 Fw63 N63 => ?_
    have f64 := (f61.wr W63)
    have f65 := (Fw60.other W63 (Or.inr (sn_25 hw)))
    have f66 := ((((((Fw15.other W24 (Or.inl ne_r0_cA)).other W32 (Or.inl ne_r0_cA)).keep K52 (ninS ne_r0_bA nin0)).other W56 (Or.inl ne_r0_sA)).other W60 (Or.inr (sn_1 hw))).other W63 (Or.inr (sn_2 hw)))
    have f67 := ((((f47.keep K52 (ninS ne_r0_bA nin0)).other W56 (Or.inl ne_r0_sA)).other W60 (Or.inr (sn_26 hw))).other W63 (Or.inr (sn_27 hw)))
    have f68 := (((Vr52.other W56 ne_bA_sA).other W60 ne_bA_r0).other W63 ne_bA_r0)
    have f69 := ((((f51.keep K52).wr W56).wr W60).wr W63)
    have f70 := (((f53.other W56 (Or.inl ne_r0_sA)).other W60 (Or.inr (sn_28 hw))).other W63 (Or.inr (sn_29 hw)))
    have f71 := ((V56.other W60 ne_sA_r0).other W63 ne_sA_r0)
    have f72 := ((((f46.keep K52).wr W56).wr W60).wr W63)
    have f73 := ((((((((p1_5.keep K11 nin0).other W15 (Or.inr (sn_30 hw))).other W24 (Or.inl ne_r0_cA)).other W32 (Or.inl ne_r0_cA)).keep K52 (ninS ne_r0_bA nin0)).other W56 (Or.inl ne_r0_sA)).other W60 (Or.inr (sn_31 hw))).other W63 (Or.inr (sn_32 hw)))
    have f74 := ((((((((p1_6.keep K11 nin0).other W15 (Or.inr (sn_33 hw))).other W24 (Or.inl ne_r0_cA)).other W32 (Or.inl ne_r0_cA)).keep K52 (ninS ne_r0_bA nin0)).other W56 (Or.inl ne_r0_sA)).other W60 (Or.inr (sn_34 hw))).other W63 (Or.inr (sn_35 hw)))
    have f75 := (((((((p11_1.other W15 (Ne.symm (Nat.ne_of_lt (Nat.lt_of_lt_of_le f9.lt p11_0)))).other W24 (Ne.symm (Nat.ne_of_lt (Nat.lt_of_lt_of_le p1_12.lt p11_0)))).other W32 (Ne.symm (Nat.ne_of_lt (Nat.lt_of_lt_of_le p1_12.lt p11_0)))).keep K52 (ninS (Ne.symm (Nat.ne_of_lt (Nat.lt_of_lt_of_le f12.lt p11_0))) nin0)).other W56 (Ne.symm (Nat.ne_of_lt (Nat.lt_of_lt_of_le f6.lt p11_0)))).other W60 (Ne.symm (Nat.ne_of_lt (Nat.lt_of_lt_of_le f9.lt p11_0)))).other W63 (Ne.symm (Nat.ne_of_lt (Nat.lt_of_lt_of_le f9.lt p11_0))))
    have f76 := (((((((p11_2.wr W15).wr W24).wr W32).keep K52).wr W56).wr W60).wr W63)
    have f77 := (((((f29.other W32 (Or.inl ne_r0_cA)).keep K52 (ninS ne_r0_bA nin0)).other W56 (Or.inl ne_r0_sA)).other W60 (Or.inr (sn_36 hw))).other W63 (Or.inr (sn_37 hw)))
    have f78 := (((((f31.other W32 ne_oA_cA).keep K52 (ninS ne_oA_bA nin0)).other W56 ne_oA_sA).other W60 ne_oA_r0).other W63 ne_oA_r0)
    have f79 := ((((((((p1_9.keep K11).wr W15).wr W24).wr W32).keep K52).wr W56).wr W60).wr W63)
    have f80 := ((((f36.keep K52 (ninS ne_r0_bA nin0)).other W56 (Or.inl ne_r0_sA)).other W60 (Or.inr (sn_38 hw))).other W63 (Or.inr (sn_39 hw)))
    have f81 := ((((V32.keep K52 (ninS ne_cA_bA nin0)).other W56 ne_cA_sA).other W60 ne_cA_r0).other W63 ne_cA_r0)
    have f82 := ((((((((p1_12.keep K11).wr W15).wr W24).wr W32).keep K52).wr W56).wr W60).wr W63)
    refine own_out X63 Bd.notSynchronized Bd.returns (none) (fun _ => rfl) (by decide) (by decide) ?_ fun fs hr => ?_
    · rw [e63]; exact ⟨ar_11, (s1 - s0), ((0 : Int32) + (u - s1)), (1 : Int32), (0 : Int32), (1 : Int32), (0 : Int32), rfl, N63, ((((((((((Keep.refl h0 [r0, bA, sA, oA, cA]).trans K1 (allS (Or.inl (List.mem_of_getElem? (i := 0) rfl)) (allS (Or.inl (List.mem_of_getElem? (i := 3) rfl)) (allS (Or.inl (List.mem_of_getElem? (i := 4) rfl)) all0)))).trans K11 all0).wr W15 (Or.inl (List.mem_of_getElem? (i := 0) rfl))).wr W24 (Or.inl (List.mem_of_getElem? (i := 4) rfl))).wr W32 (Or.inl (List.mem_of_getElem? (i := 4) rfl))).trans K52 (allS (Or.inl (List.mem_of_getElem? (i := 1) rfl)) all0)).wr W56 (Or.inl (List.mem_of_getElem? (i := 2) rfl))).wr W60 (Or.inl (List.mem_of_getElem? (i := 0) rfl))).wr W63 (Or.inl (List.mem_of_getElem? (i := 0) rfl))), sz_ar_11, f64, f65, Fw63, f66, f67, f68, f69, f70, f71, f72, f73, f74, f75, f76, f77, f78, f79, f80, f81, f82, (by have w0 := own_lits; have w1a := c_isub u s1; have w1b := rng32 (u - s1); have w2a := c_iadd (0 : Int32) (u - s1); have w2b := rng32 ((0 : Int32) + (u - s1)); have w3a := c_isub s1 s0; have w3b := rng32 (s1 - s0); omega)⟩
    · exact X63.returnOut hx Bd.returns (hb hby d6_165) hr
  · have pl1 := (allS (P := fun x => ∃ cell : Cell, h0[x]? = some cell ∧ cell.vm.isStatics = false) (own_ns E_r0) (allS (P := fun x => ∃ cell : Cell, h0[x]? = some cell ∧ cell.vm.isStatics = false) (own_ns E_oA) (allS (P := fun x => ∃ cell : Cell, h0[x]? = some cell ∧ cell.vm.isStatics = false) (own_ns E_cA) all0)))
    have N1 := Fr.app N0 N1q
    refine own_aF X1 hx hZ hown hw 36 rfl rfl p1_0 hby d6_4 rfl d6_5 fun T83 X83 e83 => ?_
    refine own_by (fun t q => oIc X83 hx hby d6_8 (XS.idiv X83.here hx rfl (hb hby d6_9) rfl (by decide) (XS.istoreN X83.here hx rfl (hb hby d6_10) rfl (l' := #[rv r0, iv 1, .unset, .unset, .unset, .unset, .unset]) rfl (oAn X83 hx hby d6_11 rfl rfl q)))) ?_
    refine own_aF X83 hx hZ hown hw 11 rfl e83 p1_2 hby d6_12 rfl d6_13 fun T84 X84 e84 => ?_
    refine own_aF X84 hx hZ hown hw 14 rfl e84 p1_3 hby d6_16 rfl d6_17 fun T85 X85 e85 => ?_
    refine own_aF X85 hx hZ hown hw 16 rfl e85 p1_7 hby d6_20 rfl d6_21 fun T86 X86 e86 => ?_
    have f87 := (V_sA.keep K1 (ninS ne_sA_r0 (ninS ne_sA_oA (ninS ne_sA_cA nin0))))
    refine own_by (fun t q => oIn X86 hx hby d6_24 rfl (own_ldI X86 hx hZ e86 p1_8 hby ⟨by decide, by decide⟩ (v := (.int 1)) rfl d6_25 (own_ldI X86 hx hZ e86 f87 hby ⟨by decide, by decide⟩ (v := (.int s1)) rfl d6_26 (oAn X86 hx hby d6_27 rfl rfl q)))) ?_
    refine own_aF X86 hx hZ hown hw 16 rfl e86 p1_7 hby d6_28 rfl d6_29 fun T88 X88 e88 => ?_
    have f90 := (E_r0.keep K1)
    have f91 := (E_sA.keep K1)
    refine own_by (fun t q => oIn X88 hx hby d6_32 rfl (own_ldI X88 hx hZ e88 p1_8 hby ⟨by decide, by decide⟩ (v := (.int 1)) rfl d6_33 q)) ?_
    refine own_cP 3 (rm11_21 l Z a0 hw [] r0 sA kS u s0 s1 s2 s3 T1.heap n0 (Nat.le_trans Z0 K1.1) f90 p1_0 p1_1 p1_3 f87 f91) X88 hx hZ hown hw 70 71 3 72 4 73 rfl rfl rfl rfl rfl rfl r0 f90 [(.int 1)] [(.int s1), (.ref bA), (.ref r0)] hby d6_34 hml (lenOf pd_7 rfl) e88 rfl (Nat.le_refl _) (by decide) fun _ T89 L89 X89 hQ89 => ?_
    obtain ⟨rfl, N89q, e89⟩ := hQ89
    have N89 := Fr.app N1 N89q
    have f93 := (B_bA.keep K1 (ninS ne_bA_r0 (ninS ne_bA_oA (ninS ne_bA_cA nin0))))
    refine own_cK 1 (rm15 l Z a0 hw [] bA s1 u (4096 : Int32) T1.heap n0 (Nat.le_trans Z0 K1.1) f93 (by have w0 := own_lits; omega) (by have w0 := own_lits; omega)) X89 hx hZ hown hw 86 87 76 88 rfl rfl rfl rfl [(.ref bA), (.int s1), (.int u)] [(.ref r0)] hby d6_37 hml (lenOf pd_6 rfl) e89 rfl (Nat.le_refl _) (by decide) fun _ T92 L92 X92 hQ92 => ?_
    obtain ⟨ar_92, rfl, N92q, K92, p92_0, p92_1, p92_2⟩ := hQ92
    have g_ar_92 : n0 ≤ ar_92 := Nat.le_trans (Nat.le_trans Z0 K1.1) p92_0
    have sz_ar_92 : h0.size ≤ ar_92 := Nat.le_trans ((Keep.refl h0 [r0, oA, cA]).trans K1 (allS (Or.inl (List.mem_of_getElem? (i := 0) rfl)) (allS (Or.inl (List.mem_of_getElem? (i := 1) rfl)) (allS (Or.inl (List.mem_of_getElem? (i := 2) rfl)) all0)))).1 p92_0
    have N92 := Fr.app N89 N92q
    have f94 := (f90.keep K92)
    have f95 := (p1_4.keep K92 nin0)
    refine own_pF X92 hx hZ hown hw 29 30 3 rfl rfl rfl rfl f95 f94 (ty := (.array .byte)) (by decide) rfl rfl N92 ge_r0 hby d6_40 fun T96 h96 X96 e96 W96 Fw96 N96 => ?_
    have f97 := ((p1_0.keep K92 nin0).other W96 (Or.inr (sn_19 hw)))
    refine own_by (fun t q => oIc X96 hx hby d6_43 (XS.istoreN X96.here hx rfl (hb hby d6_44) rfl (l' := #[rv r0, iv 1, iv 0, .unset, .unset, .unset, .unset]) rfl (oIn X96 hx hby d6_45 rfl q))) ?_
    refine own_aF X96 hx hZ hown hw 36 rfl e96 f97 hby d6_46 rfl d6_47 fun T98 X98 e98 => ?_
    have f99 := ((p1_10.keep K92 nin0).other W96 (Or.inr (sn_20 hw)))
    refine own_by (fun t q => oJn X98 hx hby d6_50 (tlt (by decide : (0 : Int32) < (2 : Int32))).2.1 q) ?_
    refine own_aF X98 hx hZ hown hw 18 rfl e98 f99 hby d6_53 rfl d6_54 fun T100 X100 e100 => ?_
    have f101 := ((p1_7.keep K92 nin0).other W96 (Or.inr (sn_21 hw)))
    refine own_aF X100 hx hZ hown hw 16 rfl e100 f101 hby d6_57 rfl d6_58 fun T102 X102 e102 => ?_
    have f103 := ((p1_8.keep K92 nin0).other W96 ne_oA_r0)
    have f104 := ((p1_11.keep K92 nin0).other W96 ne_cA_r0)
    refine own_by (fun t q => oIn X102 hx hby d6_61 rfl (own_ldI X102 hx hZ e102 f103 hby ⟨by decide, by decide⟩ (v := (.int 0)) rfl d6_62 (oIn X102 hx hby d6_63 rfl q))) ?_
    refine own_stI X102 hx hZ e102 f104 hby ⟨by decide, by decide⟩ 0 rfl (Nat.le_of_ble_eq_true rfl) N96 ge_cA d6_64 fun T105 h105 X105 e105 W105 Vr105 N105 => ?_
    have V105 : Arv Z h105 cA kC .int (256 : Int32) [(.int 0), (.int 1)] (.int 0) := Vr105
    have f106 := (f97.other W105 (Or.inl ne_r0_cA))
    refine own_by (fun t q => XS.iinc X105.here hx rfl (hb hby d6_65) rfl (l' := #[rv r0, iv 1, iv 1, .unset, .unset, .unset, .unset]) rfl (oGo X105 hx hby 68 45 d6_68 (by decide) (by decide) (oIn X105 hx hby d6_45 rfl q))) ?_
    refine own_aF X105 hx hZ hown hw 36 rfl e105 f106 hby d6_46 rfl d6_47 fun T107 X107 e107 => ?_
    have f108 := (f99.other W105 (Or.inl ne_r0_cA))
    refine own_by (fun t q => oJn X107 hx hby d6_50 (tlt (by decide : (1 : Int32) < (2 : Int32))).2.1 q) ?_
    refine own_aF X107 hx hZ hown hw 18 rfl e107 f108 hby d6_53 rfl d6_54 fun T109 X109 e109 => ?_
    have f110 := (f101.other W105 (Or.inl ne_r0_cA))
    refine own_aF X109 hx hZ hown hw 16 rfl e109 f110 hby d6_57 rfl d6_58 fun T111 X111 e111 => ?_
    have f112 := (f103.other W105 ne_oA_cA)
    refine own_by (fun t q => oIn X111 hx hby d6_61 rfl (own_ldI X111 hx hZ e111 f112 hby ⟨by decide, by decide⟩ (v := (.int 1)) rfl d6_62 (oIn X111 hx hby d6_63 rfl q))) ?_
    refine own_stI X111 hx hZ e111 V105 hby ⟨by decide, by decide⟩ 1 rfl (Nat.le_of_ble_eq_true rfl) N105 ge_cA d6_64 fun T113 h113 X113 e113 W113 Vr113 N113 => ?_
    have V113 : Arv Z h113 cA kC .int (256 : Int32) [(.int 0), (.int 1)] (.int 0) := Vr113
    have f114 := (f106.other W113 (Or.inl ne_r0_cA))
    refine own_by (fun t q => XS.iinc X113.here hx rfl (hb hby d6_65) rfl (l' := #[rv r0, iv 1, iv 2, .unset, .unset, .unset, .unset]) rfl (oGo X113 hx hby 68 45 d6_68 (by decide) (by decide) (oIn X113 hx hby d6_45 rfl q))) ?_
    refine own_aF X113 hx hZ hown hw 36 rfl e113 f114 hby d6_46 rfl d6_47 fun T115 X115 e115 => ?_
    refine own_by (fun t q => oJy X115 hx hby 50 71 d6_50 (flt (by decide : ¬ ((2 : Int32) < (2 : Int32)))).2.1 (by decide) (by decide) (oIc X115 hx hby d6_71 (XS.istoreN X115.here hx rfl (hb hby d6_72) rfl (l' := #[rv r0, iv 1, iv 0, .unset, .unset, .unset, .unset]) rfl (oIc X115 hx hby d6_73 (XS.istoreN X115.here hx rfl (hb hby d6_74) rfl (l' := #[rv r0, iv 1, iv 0, iv 0, .unset, .unset, .unset]) rfl (oIc X115 hx hby d6_75 q)))))) ?_
    refine own_by (fun t q => XS.istore X115.here hx rfl (hb hby d6_76) rfl (l' := #[rv r0, iv 1, iv 0, iv 0, iv 0, .unset, .unset]) rfl (oIl X115 hx hby d6_78 rfl q)) ?_
    refine own_aF X115 hx hZ hown hw 36 rfl e115 f114 hby d6_80 rfl d6_81 fun T116 X116 e116 => ?_
    have f117 := (f108.other W113 (Or.inl ne_r0_cA))
    refine own_by (fun t q => oJn X116 hx hby d6_84 (tlt (by decide : (0 : Int32) < (2 : Int32))).2.1 q) ?_
    refine own_aF X116 hx hZ hown hw 18 rfl e116 f117 hby d6_87 rfl d6_88 fun T118 X118 e118 => ?_
    have f119 := ((((p1_3.keep K92 nin0).other W96 (Or.inr (sn_22 hw))).other W105 (Or.inl ne_r0_cA)).other W113 (Or.inl ne_r0_cA))
    refine own_by (fun t q => oIl X118 hx hby d6_91 rfl (own_ldI X118 hx hZ e118 V113 hby ⟨by decide, by decide⟩ (v := (.int 0)) rfl d6_93 (oIn X118 hx hby d6_94 rfl (oJn X118 hx hby d6_95 (tlt (by decide : (0 : Int32) < (1 : Int32))).2.1 q)))) ?_
    refine own_aF X118 hx hZ hown hw 14 rfl e118 f119 hby d6_98 rfl d6_99 fun T120 X120 e120 => ?_
    have f121 := ((((f87.keep K92 nin0).other W96 ne_sA_r0).other W105 ne_sA_cA).other W113 ne_sA_cA)
    have f123 := (((f94.wr W96).wr W105).wr W113)
    have f124 := ((((p1_1.keep K92 nin0).other W96 (Or.inr (sn_23 hw))).other W105 (Or.inl ne_r0_cA)).other W113 (Or.inl ne_r0_cA))
    have f125 := ((((f91.keep K92).wr W96).wr W105).wr W113)
    refine own_by (fun t q => oIl X120 hx hby d6_102 rfl (own_ldI X120 hx hZ e120 f121 hby ⟨by decide, by decide⟩ (v := (.int s0)) rfl d6_104 (XS.istore X120.here hx rfl (hb hby d6_105) rfl (l' := #[rv r0, iv 1, iv 0, iv 0, iv 0, iv s0, .unset]) rfl (oAn X120 hx hby d6_107 rfl rfl (oIl X120 hx hby d6_108 rfl q))))) ?_
    refine own_cP 0 (rm11_20 l Z a0 hw [] r0 sA kS u s0 s1 s2 s3 h113 n0 (Nat.le_trans (Nat.le_trans (Nat.le_trans (Nat.le_trans (Nat.le_trans Z0 K1.1) K92.1) (Keep.of_wr W96).1) (Keep.of_wr W105).1) (Keep.of_wr W113).1) f123 f114 f124 f119 f121 f125) X120 hx hZ hown hw 70 71 3 72 4 73 rfl rfl rfl rfl rfl rfl r0 f123 [(.int 0)] [] hby d6_110 hml (lenOf pd_7 rfl) e120 rfl (Nat.le_refl _) (by decide) fun _ T122 L122 X122 hQ122 => ?_
    obtain ⟨rfl, N122q, e122⟩ := hQ122
    have N122 := Fr.app N113 N122q
    have f126 := ((((p1_2.keep K92 nin0).other W96 (Or.inr (sn_24 hw))).other W105 (Or.inl ne_r0_cA)).other W113 (Or.inl ne_r0_cA))
    refine own_by (fun t q => oIl X122 hx hby d6_113 rfl (XS.isub X122.here hx rfl (hb hby d6_115) rfl (XS.istore X122.here hx rfl (hb hby d6_116) rfl (l' := #[rv r0, iv 1, iv 0, iv 0, iv 0, iv s0, iv (s1 - s0)]) rfl q))) ?_
    refine own_aF X122 hx hZ hown hw 11 rfl e122 f126 hby d6_118 rfl d6_119 fun T127 X127 e127 => ?_
    refine own_by (fun t q => oIl X127 hx hby d6_122 rfl q) ?_
    refine own_aF X127 hx hZ hown hw 11 rfl e127 f126 hby d6_124 rfl d6_125 fun T128 X128 e128 => ?_
    have f129 := ((((f93.keep K92 nin0).other W96 ne_bA_r0).other W105 ne_bA_cA).other W113 ne_bA_cA)
    have f130 := (((((E_bA.keep K1).keep K92).wr W96).wr W105).wr W113)
    obtain ⟨T131, h131, L131, X131, e131, N131, K131, Vr131, st131⟩ := own_bcp X128 hx hZ hown (own_at hw 45 rfl) (own_at hw 48 rfl) (own_at hw 46 rfl) (own_at hw 47 rfl) e128 f129 f129 (sp := s0) (dp := (0 : Int32)) (nn := (s1 - s0)) (by have w0 := own_lits; have w1a := c_isub s1 s0; have w1b := rng32 (s1 - s0); omega) N122 ge_bA (g := (mkF m 131 #[rv r0, iv 1, iv 0, iv 0, iv 0, iv s0, iv (s1 - s0)] [(.int (s1 - s0)), (.int 0), (.ref bA), (.int s0), (.ref bA)])) rfl (by rw [hml]; rfl) rfl (hb hby d6_131) (by decide) (W := 0) (Nat.le_refl _) (by decide)
    have pl131 := (allS (P := fun x => ∃ cell : Cell, h113[x]? = some cell ∧ cell.vm.isStatics = false) (own_ns f130) all0)
    have f132 := (f119.keep K131 (ninS ne_r0_bA nin0))
    refine own_by (fun t q => oIn X128 hx hby d6_128 rfl (oIl X128 hx hby d6_129 rfl (st131 _ q))) ?_
    refine own_aF X131 hx hZ hown hw 14 rfl e131 f132 hby d6_134 rfl d6_135 fun T133 X133 e133 => ?_
    have f134 := (f121.keep K131 (ninS ne_sA_bA nin0))
    refine own_by (fun t q => oIn X133 hx hby d6_138 rfl (XS.iinc X133.here hx rfl (hb hby d6_139) rfl (l' := #[rv r0, iv 1, iv 1, iv 0, iv 0, iv s0, iv (s1 - s0)]) rfl (oIn X133 hx hby d6_142 rfl q))) ?_
    refine own_stI X133 hx hZ e133 f134 hby ⟨by decide, by decide⟩ 0 rfl (Nat.le_of_ble_eq_true rfl) N131 ge_sA d6_143 fun T135 h135 X135 e135 W135 Vr135 N135 => ?_
    have V135 : Arv Z h135 sA kS .int (256 : Int32) [(.int 0), (.int s1), (.int s2), (.int s3)] (.int 0) := Vr135
    have f136 := ((f114.keep K131 (ninS ne_r0_bA nin0)).other W135 (Or.inl ne_r0_sA))
    refine own_by (fun t q => oIn X135 hx hby d6_144 rfl (oIl X135 hx hby d6_145 rfl (XS.iadd X135.here hx rfl (hb hby d6_147) rfl (XS.istoreN X135.here hx rfl (hb hby d6_148) rfl (l' := #[rv r0, iv 1, iv 1, iv ((0 : Int32) + (s1 - s0)), iv 0, iv s0, iv (s1 - s0)]) rfl (XS.iinc X135.here hx rfl (hb hby d6_149) rfl (l' := #[rv r0, iv 1, iv 1, iv ((0 : Int32) + (s1 - s0)), iv 1, iv s0, iv (s1 - s0)]) rfl (oGo X135 hx hby 152 78 d6_152 (by decide) (by decide) q)))))) ?_
    refine own_by (fun t q => oIl X135 hx hby d6_78 rfl q) ?_
    refine own_aF X135 hx hZ hown hw 36 rfl e135 f136 hby d6_80 rfl d6_81 fun T137 X137 e137 => ?_
    have f138 := ((f117.keep K131 (ninS ne_r0_bA nin0)).other W135 (Or.inl ne_r0_sA))
    refine own_by (fun t q => oJn X137 hx hby d6_84 (tlt (by decide : (1 : Int32) < (2 : Int32))).2.1 q) ?_
    refine own_aF X137 hx hZ hown hw 18 rfl e137 f138 hby d6_87 rfl d6_88 fun T139 X139 e139 => ?_
    have f140 := ((V113.keep K131 (ninS ne_cA_bA nin0)).other W135 ne_cA_sA)
    refine own_by (fun t q => oIl X139 hx hby d6_91 rfl (own_ldI X139 hx hZ e139 f140 hby ⟨by decide, by decide⟩ (v := (.int 1)) rfl d6_93 (oIn X139 hx hby d6_94 rfl (oJy X139 hx hby 95 149 d6_95 (flt (by decide : ¬ ((1 : Int32) < (1 : Int32)))).2.1 (by decide) (by decide) (XS.iinc X139.here hx rfl (hb hby d6_149) rfl (l' := #[rv r0, iv 1, iv 1, iv ((0 : Int32) + (s1 - s0)), iv 2, iv s0, iv (s1 - s0)]) rfl (oGo X139 hx hby 152 78 d6_152 (by decide) (by decide) q)))))) ?_
    refine own_by (fun t q => oIl X139 hx hby d6_78 rfl q) ?_
    refine own_aF X139 hx hZ hown hw 36 rfl e139 f136 hby d6_80 rfl d6_81 fun T141 X141 e141 => ?_
    have f142 := ((f123.keep K131).wr W135)
    refine own_by (fun t q => oJy X141 hx hby 84 155 d6_84 (flt (by decide : ¬ ((2 : Int32) < (2 : Int32)))).2.1 (by decide) (by decide) (oAn X141 hx hby d6_155 rfl rfl (oIn X141 hx hby d6_156 rfl q))) ?_
    refine own_pF X141 hx hZ hown hw 36 37 3 rfl rfl rfl e141 f136 f142 (ty := .int) (by decide) rfl rfl N135 ge_r0 hby d6_157 fun T143 h143 X143 e143 W143 Fw143 N143 => ?_
    have f144 := (f142.wr W143)
    have f145 := (((f124.keep K131 (ninS ne_r0_bA nin0)).other W135 (Or.inl ne_r0_sA)).other W143 (Or.inr (sn_0 hw)))
    refine own_by (fun t q => oAn X143 hx hby d6_160 rfl rfl (oIn X143 hx hby d6_161 rfl q)) ?_
    refine own_pF X143 hx hZ hown hw 38 39 3 rfl rfl rfl e143 f145 f144 (ty := .int) (by decide) rfl rfl N143 ge_r0 hby d6_162 fun T146 h146 X146 e146 W146 Fw146 N146 => ?_
    have f147 := (f144.wr W146)
    have f148 := (Fw143.other W146 (Or.inr (sn_25 hw)))
    have f149 := ((((((Fw96.other W105 (Or.inl ne_r0_cA)).other W113 (Or.inl ne_r0_cA)).keep K131 (ninS ne_r0_bA nin0)).other W135 (Or.inl ne_r0_sA)).other W143 (Or.inr (sn_1 hw))).other W146 (Or.inr (sn_2 hw)))
    have f150 := ((((f126.keep K131 (ninS ne_r0_bA nin0)).other W135 (Or.inl ne_r0_sA)).other W143 (Or.inr (sn_26 hw))).other W146 (Or.inr (sn_27 hw)))
    have f151 := (((Vr131.other W135 ne_bA_sA).other W143 ne_bA_r0).other W146 ne_bA_r0)
    have f152 := ((((f130.keep K131).wr W135).wr W143).wr W146)
    have f153 := (((f132.other W135 (Or.inl ne_r0_sA)).other W143 (Or.inr (sn_28 hw))).other W146 (Or.inr (sn_29 hw)))
    have f154 := ((V135.other W143 ne_sA_r0).other W146 ne_sA_r0)
    have f155 := ((((f125.keep K131).wr W135).wr W143).wr W146)
    have f156 := ((((((((p1_5.keep K92 nin0).other W96 (Or.inr (sn_30 hw))).other W105 (Or.inl ne_r0_cA)).other W113 (Or.inl ne_r0_cA)).keep K131 (ninS ne_r0_bA nin0)).other W135 (Or.inl ne_r0_sA)).other W143 (Or.inr (sn_31 hw))).other W146 (Or.inr (sn_32 hw)))
    have f157 := ((((((((p1_6.keep K92 nin0).other W96 (Or.inr (sn_33 hw))).other W105 (Or.inl ne_r0_cA)).other W113 (Or.inl ne_r0_cA)).keep K131 (ninS ne_r0_bA nin0)).other W135 (Or.inl ne_r0_sA)).other W143 (Or.inr (sn_34 hw))).other W146 (Or.inr (sn_35 hw)))
    have f158 := (((((((p92_1.other W96 (Ne.symm (Nat.ne_of_lt (Nat.lt_of_lt_of_le f90.lt p92_0)))).other W105 (Ne.symm (Nat.ne_of_lt (Nat.lt_of_lt_of_le p1_12.lt p92_0)))).other W113 (Ne.symm (Nat.ne_of_lt (Nat.lt_of_lt_of_le p1_12.lt p92_0)))).keep K131 (ninS (Ne.symm (Nat.ne_of_lt (Nat.lt_of_lt_of_le f93.lt p92_0))) nin0)).other W135 (Ne.symm (Nat.ne_of_lt (Nat.lt_of_lt_of_le f87.lt p92_0)))).other W143 (Ne.symm (Nat.ne_of_lt (Nat.lt_of_lt_of_le f90.lt p92_0)))).other W146 (Ne.symm (Nat.ne_of_lt (Nat.lt_of_lt_of_le f90.lt p92_0))))
    have f159 := (((((((p92_2.wr W96).wr W105).wr W113).keep K131).wr W135).wr W143).wr W146)
    have f160 := (((((f110.other W113 (Or.inl ne_r0_cA)).keep K131 (ninS ne_r0_bA nin0)).other W135 (Or.inl ne_r0_sA)).other W143 (Or.inr (sn_36 hw))).other W146 (Or.inr (sn_37 hw)))
    have f161 := (((((f112.other W113 ne_oA_cA).keep K131 (ninS ne_oA_bA nin0)).other W135 ne_oA_sA).other W143 ne_oA_r0).other W146 ne_oA_r0)
    have f162 := ((((((((p1_9.keep K92).wr W96).wr W105).wr W113).keep K131).wr W135).wr W143).wr W146)
    have f163 := ((f138.other W143 (Or.inr (sn_38 hw))).other W146 (Or.inr (sn_39 hw)))
    have f164 := ((f140.other W143 ne_cA_r0).other W146 ne_cA_r0)
    have f165 := ((((((((p1_12.keep K92).wr W96).wr W105).wr W113).keep K131).wr W135).wr W143).wr W146)
    refine own_out X146 Bd.notSynchronized Bd.returns (none) (fun _ => rfl) (by decide) (by decide) ?_ fun fs hr => ?_
    · rw [e146]; exact ⟨ar_92, (u - s1), ((0 : Int32) + (s1 - s0)), (0 : Int32), (1 : Int32), (0 : Int32), (1 : Int32), rfl, N146, ((((((((((Keep.refl h0 [r0, bA, sA, oA, cA]).trans K1 (allS (Or.inl (List.mem_of_getElem? (i := 0) rfl)) (allS (Or.inl (List.mem_of_getElem? (i := 3) rfl)) (allS (Or.inl (List.mem_of_getElem? (i := 4) rfl)) all0)))).trans K92 all0).wr W96 (Or.inl (List.mem_of_getElem? (i := 0) rfl))).wr W105 (Or.inl (List.mem_of_getElem? (i := 4) rfl))).wr W113 (Or.inl (List.mem_of_getElem? (i := 4) rfl))).trans K131 (allS (Or.inl (List.mem_of_getElem? (i := 1) rfl)) all0)).wr W135 (Or.inl (List.mem_of_getElem? (i := 2) rfl))).wr W143 (Or.inl (List.mem_of_getElem? (i := 0) rfl))).wr W146 (Or.inl (List.mem_of_getElem? (i := 0) rfl))), sz_ar_92, f147, f148, Fw146, f149, f150, f151, f152, f153, f154, f155, f156, f157, f158, f159, f160, f161, f162, f163, f164, f165, (by have w0 := own_lits; have w1a := c_isub s1 s0; have w1b := rng32 (s1 - s0); have w2a := c_iadd (0 : Int32) (s1 - s0); have w2b := rng32 ((0 : Int32) + (s1 - s0)); have w3a := c_isub u s1; have w3b := rng32 (u - s1); omega)⟩
    · exact X146.returnOut hx Bd.returns (hb hby d6_165) hr
theorem sn_40 {Z : State} {a0 : Array Value} (hw : own_HW a0 Z) : Jvm.RoadKit.slotOf Z cS0 "starts" "[I" ≠ Jvm.RoadKit.slotOf Z cS0 "bytes" "[B" := slot_ne (Or.inl (own_at hw 15 rfl)) (Or.inl (own_at hw 12 rfl)) (by decide) (t := (.array .int)) (t' := (.array .byte)) (by decide) (by decide)
theorem sn_41 {Z : State} {a0 : Array Value} (hw : own_HW a0 Z) : Jvm.RoadKit.slotOf Z cS0 "order" "[I" ≠ Jvm.RoadKit.slotOf Z cS0 "bytes" "[B" := slot_ne (Or.inl (own_at hw 17 rfl)) (Or.inl (own_at hw 12 rfl)) (by decide) (t := (.array .int)) (t' := (.array .byte)) (by decide) (by decide)
theorem sn_42 {Z : State} {a0 : Array Value} (hw : own_HW a0 Z) : Jvm.RoadKit.slotOf Z cS0 "order" "[I" ≠ Jvm.RoadKit.slotOf Z cS0 "starts" "[I" := slot_ne (Or.inl (own_at hw 17 rfl)) (Or.inl (own_at hw 15 rfl)) (by decide) (t := (.array .int)) (t' := (.array .int)) (by decide) (by decide)
theorem sn_43 {Z : State} {a0 : Array Value} (hw : own_HW a0 Z) : Jvm.RoadKit.slotOf Z cS0 "scratch" "[I" ≠ Jvm.RoadKit.slotOf Z cS0 "bytes" "[B" := slot_ne (Or.inl (own_at hw 19 rfl)) (Or.inl (own_at hw 12 rfl)) (by decide) (t := (.array .int)) (t' := (.array .byte)) (by decide) (by decide)
theorem sn_44 {Z : State} {a0 : Array Value} (hw : own_HW a0 Z) : Jvm.RoadKit.slotOf Z cS0 "scratch" "[I" ≠ Jvm.RoadKit.slotOf Z cS0 "starts" "[I" := slot_ne (Or.inl (own_at hw 19 rfl)) (Or.inl (own_at hw 15 rfl)) (by decide) (t := (.array .int)) (t' := (.array .int)) (by decide) (by decide)
theorem sn_45 {Z : State} {a0 : Array Value} (hw : own_HW a0 Z) : Jvm.RoadKit.slotOf Z cS0 "maxNames" "I" ≠ Jvm.RoadKit.slotOf Z cS0 "bytes" "[B" := slot_ne (Or.inr (own_at hw 21 rfl)) (Or.inl (own_at hw 12 rfl)) (by decide) (t := .int) (t' := (.array .byte)) (by decide) (by decide)
theorem sn_46 {Z : State} {a0 : Array Value} (hw : own_HW a0 Z) : Jvm.RoadKit.slotOf Z cS0 "maxNames" "I" ≠ Jvm.RoadKit.slotOf Z cS0 "starts" "[I" := slot_ne (Or.inr (own_at hw 21 rfl)) (Or.inl (own_at hw 15 rfl)) (by decide) (t := .int) (t' := (.array .int)) (by decide) (by decide)
theorem sn_47 {Z : State} {a0 : Array Value} (hw : own_HW a0 Z) : Jvm.RoadKit.slotOf Z cS0 "maxBytes" "I" ≠ Jvm.RoadKit.slotOf Z cS0 "bytes" "[B" := slot_ne (Or.inr (own_at hw 23 rfl)) (Or.inl (own_at hw 12 rfl)) (by decide) (t := .int) (t' := (.array .byte)) (by decide) (by decide)
theorem sn_48 {Z : State} {a0 : Array Value} (hw : own_HW a0 Z) : Jvm.RoadKit.slotOf Z cS0 "maxBytes" "I" ≠ Jvm.RoadKit.slotOf Z cS0 "starts" "[I" := slot_ne (Or.inr (own_at hw 23 rfl)) (Or.inl (own_at hw 15 rfl)) (by decide) (t := .int) (t' := (.array .int)) (by decide) (by decide)
theorem sn_49 {Z : State} {a0 : Array Value} (hw : own_HW a0 Z) : Jvm.RoadKit.slotOf Z cS0 "maxBytes" "I" ≠ Jvm.RoadKit.slotOf Z cS0 "maxNames" "I" := slot_ne (Or.inr (own_at hw 23 rfl)) (Or.inr (own_at hw 21 rfl)) (by decide) (t := .int) (t' := .int) (by decide) (by decide)
theorem sn_50 {Z : State} {a0 : Array Value} (hw : own_HW a0 Z) : Jvm.RoadKit.slotOf Z cS0 "maxNames" "I" ≠ Jvm.RoadKit.slotOf Z cS0 "maxBytes" "I" := slot_ne (Or.inr (own_at hw 21 rfl)) (Or.inr (own_at hw 23 rfl)) (by decide) (t := .int) (t' := .int) (by decide) (by decide)
theorem sn_51 {Z : State} {a0 : Array Value} (hw : own_HW a0 Z) : Jvm.RoadKit.slotOf Z cS0 "count" "I" ≠ Jvm.RoadKit.slotOf Z cS0 "bytes" "[B" := slot_ne (Or.inl (own_at hw 37 rfl)) (Or.inl (own_at hw 12 rfl)) (by decide) (t := .int) (t' := (.array .byte)) (by decide) (by decide)
theorem sn_52 {Z : State} {a0 : Array Value} (hw : own_HW a0 Z) : Jvm.RoadKit.slotOf Z cS0 "count" "I" ≠ Jvm.RoadKit.slotOf Z cS0 "starts" "[I" := slot_ne (Or.inl (own_at hw 37 rfl)) (Or.inl (own_at hw 15 rfl)) (by decide) (t := .int) (t' := (.array .int)) (by decide) (by decide)
theorem sn_53 {Z : State} {a0 : Array Value} (hw : own_HW a0 Z) : Jvm.RoadKit.slotOf Z cS0 "count" "I" ≠ Jvm.RoadKit.slotOf Z cS0 "maxNames" "I" := slot_ne (Or.inl (own_at hw 37 rfl)) (Or.inr (own_at hw 21 rfl)) (by decide) (t := .int) (t' := .int) (by decide) (by decide)
theorem sn_54 {Z : State} {a0 : Array Value} (hw : own_HW a0 Z) : Jvm.RoadKit.slotOf Z cS0 "count" "I" ≠ Jvm.RoadKit.slotOf Z cS0 "maxBytes" "I" := slot_ne (Or.inl (own_at hw 37 rfl)) (Or.inr (own_at hw 23 rfl)) (by decide) (t := .int) (t' := .int) (by decide) (by decide)
theorem sn_55 {Z : State} {a0 : Array Value} (hw : own_HW a0 Z) : Jvm.RoadKit.slotOf Z cS0 "used" "I" ≠ Jvm.RoadKit.slotOf Z cS0 "bytes" "[B" := slot_ne (Or.inl (own_at hw 39 rfl)) (Or.inl (own_at hw 12 rfl)) (by decide) (t := .int) (t' := (.array .byte)) (by decide) (by decide)
theorem sn_56 {Z : State} {a0 : Array Value} (hw : own_HW a0 Z) : Jvm.RoadKit.slotOf Z cS0 "used" "I" ≠ Jvm.RoadKit.slotOf Z cS0 "starts" "[I" := slot_ne (Or.inl (own_at hw 39 rfl)) (Or.inl (own_at hw 15 rfl)) (by decide) (t := .int) (t' := (.array .int)) (by decide) (by decide)
theorem sn_57 {Z : State} {a0 : Array Value} (hw : own_HW a0 Z) : Jvm.RoadKit.slotOf Z cS0 "used" "I" ≠ Jvm.RoadKit.slotOf Z cS0 "maxNames" "I" := slot_ne (Or.inl (own_at hw 39 rfl)) (Or.inr (own_at hw 21 rfl)) (by decide) (t := .int) (t' := .int) (by decide) (by decide)
theorem sn_58 {Z : State} {a0 : Array Value} (hw : own_HW a0 Z) : Jvm.RoadKit.slotOf Z cS0 "used" "I" ≠ Jvm.RoadKit.slotOf Z cS0 "maxBytes" "I" := slot_ne (Or.inl (own_at hw 39 rfl)) (Or.inr (own_at hw 23 rfl)) (by decide) (t := .int) (t' := .int) (by decide) (by decide)
theorem sn_59 {Z : State} {a0 : Array Value} (hw : own_HW a0 Z) : Jvm.RoadKit.slotOf Z cS0 "limit" "[B" ≠ Jvm.RoadKit.slotOf Z cS0 "bytes" "[B" := slot_ne (Or.inl (own_at hw 30 rfl)) (Or.inl (own_at hw 12 rfl)) (by decide) (t := (.array .byte)) (t' := (.array .byte)) (by decide) (by decide)
theorem sn_60 {Z : State} {a0 : Array Value} (hw : own_HW a0 Z) : Jvm.RoadKit.slotOf Z cS0 "limit" "[B" ≠ Jvm.RoadKit.slotOf Z cS0 "starts" "[I" := slot_ne (Or.inl (own_at hw 30 rfl)) (Or.inl (own_at hw 15 rfl)) (by decide) (t := (.array .byte)) (t' := (.array .int)) (by decide) (by decide)
theorem sn_61 {Z : State} {a0 : Array Value} (hw : own_HW a0 Z) : Jvm.RoadKit.slotOf Z cS0 "limit" "[B" ≠ Jvm.RoadKit.slotOf Z cS0 "maxNames" "I" := slot_ne (Or.inl (own_at hw 30 rfl)) (Or.inr (own_at hw 21 rfl)) (by decide) (t := (.array .byte)) (t' := .int) (by decide) (by decide)
theorem sn_62 {Z : State} {a0 : Array Value} (hw : own_HW a0 Z) : Jvm.RoadKit.slotOf Z cS0 "limit" "[B" ≠ Jvm.RoadKit.slotOf Z cS0 "maxBytes" "I" := slot_ne (Or.inl (own_at hw 30 rfl)) (Or.inr (own_at hw 23 rfl)) (by decide) (t := (.array .byte)) (t' := .int) (by decide) (by decide)
theorem sn_63 {Z : State} {a0 : Array Value} (hw : own_HW a0 Z) : Jvm.RoadKit.slotOf Z cS0 "bytes" "[B" ≠ Jvm.RoadKit.slotOf Z cS0 "starts" "[I" := slot_ne (Or.inl (own_at hw 12 rfl)) (Or.inl (own_at hw 15 rfl)) (by decide) (t := (.array .byte)) (t' := (.array .int)) (by decide) (by decide)
theorem sn_64 {Z : State} {a0 : Array Value} (hw : own_HW a0 Z) : Jvm.RoadKit.slotOf Z cS0 "bytes" "[B" ≠ Jvm.RoadKit.slotOf Z cS0 "maxNames" "I" := slot_ne (Or.inl (own_at hw 12 rfl)) (Or.inr (own_at hw 21 rfl)) (by decide) (t := (.array .byte)) (t' := .int) (by decide) (by decide)
theorem sn_65 {Z : State} {a0 : Array Value} (hw : own_HW a0 Z) : Jvm.RoadKit.slotOf Z cS0 "bytes" "[B" ≠ Jvm.RoadKit.slotOf Z cS0 "maxBytes" "I" := slot_ne (Or.inl (own_at hw 12 rfl)) (Or.inr (own_at hw 23 rfl)) (by decide) (t := (.array .byte)) (t' := .int) (by decide) (by decide)
theorem sn_66 {Z : State} {a0 : Array Value} (hw : own_HW a0 Z) : Jvm.RoadKit.slotOf Z cS0 "starts" "[I" ≠ Jvm.RoadKit.slotOf Z cS0 "maxNames" "I" := slot_ne (Or.inl (own_at hw 15 rfl)) (Or.inr (own_at hw 21 rfl)) (by decide) (t := (.array .int)) (t' := .int) (by decide) (by decide)
theorem sn_67 {Z : State} {a0 : Array Value} (hw : own_HW a0 Z) : Jvm.RoadKit.slotOf Z cS0 "starts" "[I" ≠ Jvm.RoadKit.slotOf Z cS0 "maxBytes" "I" := slot_ne (Or.inl (own_at hw 15 rfl)) (Or.inr (own_at hw 23 rfl)) (by decide) (t := (.array .int)) (t' := .int) (by decide) (by decide)
theorem sn_68 {Z : State} {a0 : Array Value} (hw : own_HW a0 Z) : Jvm.RoadKit.slotOf Z cS0 "order" "[I" ≠ Jvm.RoadKit.slotOf Z cS0 "maxNames" "I" := slot_ne (Or.inl (own_at hw 17 rfl)) (Or.inr (own_at hw 21 rfl)) (by decide) (t := (.array .int)) (t' := .int) (by decide) (by decide)
theorem sn_69 {Z : State} {a0 : Array Value} (hw : own_HW a0 Z) : Jvm.RoadKit.slotOf Z cS0 "order" "[I" ≠ Jvm.RoadKit.slotOf Z cS0 "maxBytes" "I" := slot_ne (Or.inl (own_at hw 17 rfl)) (Or.inr (own_at hw 23 rfl)) (by decide) (t := (.array .int)) (t' := .int) (by decide) (by decide)
theorem sn_70 {Z : State} {a0 : Array Value} (hw : own_HW a0 Z) : Jvm.RoadKit.slotOf Z cS0 "scratch" "[I" ≠ Jvm.RoadKit.slotOf Z cS0 "maxNames" "I" := slot_ne (Or.inl (own_at hw 19 rfl)) (Or.inr (own_at hw 21 rfl)) (by decide) (t := (.array .int)) (t' := .int) (by decide) (by decide)
theorem sn_71 {Z : State} {a0 : Array Value} (hw : own_HW a0 Z) : Jvm.RoadKit.slotOf Z cS0 "scratch" "[I" ≠ Jvm.RoadKit.slotOf Z cS0 "maxBytes" "I" := slot_ne (Or.inl (own_at hw 19 rfl)) (Or.inr (own_at hw 23 rfl)) (by decide) (t := (.array .int)) (t' := .int) (by decide) (by decide)
theorem d1_0 : decode prog_6_method_1_code 0 = .ok (.aload_n 0, 1) := by decide +kernel
theorem d1_1 : decode prog_6_method_1_code 1 = .ok (.invokespecial 1, 3) := by decide +kernel
theorem d1_4 : decode prog_6_method_1_code 4 = .ok (.aload_n 0, 1) := by decide +kernel
theorem d1_5 : decode prog_6_method_1_code 5 = .ok (.sipush 4096, 3) := by decide +kernel
theorem d1_8 : decode prog_6_method_1_code 8 = .ok (.newarray .byte, 2) := by decide +kernel
theorem d1_10 : decode prog_6_method_1_code 10 = .ok (.putfield 7, 3) := by decide +kernel
theorem d1_13 : decode prog_6_method_1_code 13 = .ok (.aload_n 0, 1) := by decide +kernel
theorem d1_14 : decode prog_6_method_1_code 14 = .ok (.sipush 256, 3) := by decide +kernel
theorem d1_17 : decode prog_6_method_1_code 17 = .ok (.newarray .int, 2) := by decide +kernel
theorem d1_19 : decode prog_6_method_1_code 19 = .ok (.putfield 13, 3) := by decide +kernel
theorem d1_22 : decode prog_6_method_1_code 22 = .ok (.aload_n 0, 1) := by decide +kernel
theorem d1_23 : decode prog_6_method_1_code 23 = .ok (.iconst 0, 1) := by decide +kernel
theorem d1_24 : decode prog_6_method_1_code 24 = .ok (.newarray .int, 2) := by decide +kernel
theorem d1_26 : decode prog_6_method_1_code 26 = .ok (.putfield 17, 3) := by decide +kernel
theorem d1_29 : decode prog_6_method_1_code 29 = .ok (.aload_n 0, 1) := by decide +kernel
theorem d1_30 : decode prog_6_method_1_code 30 = .ok (.iconst 0, 1) := by decide +kernel
theorem d1_31 : decode prog_6_method_1_code 31 = .ok (.newarray .int, 2) := by decide +kernel
theorem d1_33 : decode prog_6_method_1_code 33 = .ok (.putfield 20, 3) := by decide +kernel
theorem d1_36 : decode prog_6_method_1_code 36 = .ok (.aload_n 0, 1) := by decide +kernel
theorem d1_37 : decode prog_6_method_1_code 37 = .ok (.iload_n 1, 1) := by decide +kernel
theorem d1_38 : decode prog_6_method_1_code 38 = .ok (.putfield 23, 3) := by decide +kernel
theorem d1_41 : decode prog_6_method_1_code 41 = .ok (.aload_n 0, 1) := by decide +kernel
theorem d1_42 : decode prog_6_method_1_code 42 = .ok (.iload_n 2, 1) := by decide +kernel
theorem d1_43 : decode prog_6_method_1_code 43 = .ok (.putfield 27, 3) := by decide +kernel
theorem d1_46 : decode prog_6_method_1_code 46 = .ok (.return_, 1) := by decide +kernel
theorem ef_1 (m : MethodId) (x0 : Addr) (x1 : Int32) (x2 : Int32) : entryFrame m #[(.ref x0), (.int x1), (.int x2)] 3 = mkF m 0 #[.val (.ref x0), .val (.int x1), .val (.int x2)] [] := by first | (simp [entryFrame, mkF, argsToLocals, Value.category]; done) | rfl
def Q_1 (Z : State) (r0 : Addr) (p1 p2 : Int32) (u_bytes_r0 u_starts_r0 u_order_r0 u_scratch_r0 u_maxNames_r0 u_maxBytes_r0 : Value) (h0 : Heap) (n0 : Nat) (v : Option Value) (h : Heap) (L : List Loc) : Prop := ∃ bA : Addr, ∃ sA : Addr, ∃ oA : Addr, ∃ cA : Addr, ∃ kS : ClassId, ∃ kO : ClassId, v = none ∧ Fr n0 L ∧ Keep h0 h [r0] ∧ h0.size ≤ bA ∧ h0.size ≤ sA ∧ h0.size ≤ oA ∧ bA ≠ sA ∧ oA ≠ bA ∧ oA ≠ sA ∧ Exa Z h r0 cS0 ∧ Fld Z h r0 cS0 "maxNames" "I" (.int p1) ∧ Fld Z h r0 cS0 "maxBytes" "I" (.int p2) ∧ Fld Z h r0 cS0 "count" "I" (.int 0) ∧ Fld Z h r0 cS0 "used" "I" (.int 0) ∧ Fld Z h r0 cS0 "limit" "[B" .null ∧ Fld Z h r0 cS0 "bytes" "[B" (.ref bA) ∧ own_B Z h bA (4096 : Int32) ∧ Exa Z h bA "[B" ∧ Fld Z h r0 cS0 "starts" "[I" (.ref sA) ∧ Arv Z h sA kS .int (256 : Int32) [(.int 0), (.int 0), (.int 0), (.int 0)] (.int 0) ∧ Exa Z h sA "[I" ∧ Fld Z h r0 cS0 "order" "[I" (.ref oA) ∧ Arv Z h oA kO .int (0 : Int32) [] (.int 0) ∧ Fld Z h r0 cS0 "scratch" "[I" (.ref cA)
theorem rm1 (l : Launch) (Z : State) (a0 : Array Value) (hw : own_HW a0 Z) (ws : List Jvm.Cond) (r0 : Addr) (p1 p2 : Int32) (u_bytes_r0 u_starts_r0 u_order_r0 u_scratch_r0 u_maxNames_r0 u_maxBytes_r0 : Value) (h0 : Heap) (n0 : Nat) (Z0 : n0 ≤ h0.size) (E_r0 : Exa Z h0 r0 cS0) (F_limit_r0 : Fld Z h0 r0 cS0 "limit" "[B" .null) (F_count_r0 : Fld Z h0 r0 cS0 "count" "I" (.int 0)) (F_used_r0 : Fld Z h0 r0 cS0 "used" "I" (.int 0)) (F_bytes_r0 : Fld Z h0 r0 cS0 "bytes" "[B" u_bytes_r0) (ge_r0 : n0 ≤ r0) (F_starts_r0 : Fld Z h0 r0 cS0 "starts" "[I" u_starts_r0) (F_order_r0 : Fld Z h0 r0 cS0 "order" "[I" u_order_r0) (F_scratch_r0 : Fld Z h0 r0 cS0 "scratch" "[I" u_scratch_r0) (F_maxNames_r0 : Fld Z h0 r0 cS0 "maxNames" "I" u_maxNames_r0) (F_maxBytes_r0 : Fld Z h0 r0 cS0 "maxBytes" "I" u_maxBytes_r0) :
    own_M l Z (⟨cS0, "<init>", "(II)V"⟩ : MethodName) prog_6_method_1_code 3 none ws ({ frames := 1, cells := 4, slots := 4352, locals := 12 } : Room) #[(.ref r0), (.int p1), (.int p2)] h0 (Q_1 Z r0 p1 p2 u_bytes_r0 u_starts_r0 u_order_r0 u_scratch_r0 u_maxNames_r0 u_maxBytes_r0 h0 n0) := by
  refine own_in cS0 rfl (plainFor_of_name pn_com_example_measurewright_measurewright_cli_NameBatch) ?_
  intro p e s m below meth c s₁ Bd hml hZ hh hx hby hown X0 e0
  have N0 := Fr.nil n0
  have hnm := (name_of_methodNamed Bd.named Bd.method).1
  refine own_start (ef_1 m r0 p1 p2) ?_
  obtain ⟨T1, X1, e1, st1⟩ := initO X0 hx hZ hown (own_at hw 8 rfl) (own_at hw 9 rfl) (own_at hw 10 rfl) e0 (g := (mkF m 1 #[rv r0, iv p1, iv p2] [(.ref r0)])) rfl (by rw [hml]; rfl) rfl (hb hby d1_1) (by decide) (W := 0) (Nat.le_refl _) (by decide)
  have hz2 : ¬ ((4096 : Int32) < 0) := (own_nat (by have w0 := own_lits; omega)).1
  have hz3 : (4096 : Int32).toNatClampNeg ≤ 4096 := by have q1 := own_nat (x := (4096 : Int32)) (by have w0 := own_lits; omega); have q2 : (4096 : Int32).toInt ≤ 4096 := (by have w0 := own_lits; omega); omega
  obtain ⟨T4, h4, k4, X4, e4, E4, A4, EA4, st4⟩ := newPE X1 hx hZ (own_at hw 1 rfl) e1 (g := (mkF m 8 #[rv r0, iv p1, iv p2] [(.int 4096), (.ref r0)])) rfl (hb hby d1_8) rfl hz2 (cap := 4096) hz3 (by decide) (by decide) (by decide) (ad := "[B") (by decide)
  obtain ⟨b4, g4⟩ : ∃ z, z = h0.size := ⟨_, rfl⟩
  rw [← g4] at A4 EA4 st4
  have g_b4 : n0 ≤ b4 := Nat.le_trans Z0 (Nat.le_of_eq g4.symm)
  have sz_b4 : h0.size ≤ b4 := Nat.le_trans (Keep.refl h0 []).1 (Nat.le_of_eq g4.symm)
  have V_b4 : own_B Z h4 b4 (4096 : Int32) := own_B.new A4 hz2
  have f5 := (E_r0.ext E4)
  have f6 := (F_bytes_r0.ext E4)
  refine own_by (fun t q => oAn X0 hx hby d1_0 rfl rfl (st1 _ (oAn X1 hx hby d1_4 rfl rfl (XS.sipush X1.here hx rfl (hb hby d1_5) (st4 _ q))))) ?_
  refine own_pF X4 hx hZ hown hw 11 12 3 rfl rfl rfl e4 f6 f5 (ty := (.array .byte)) (by decide) rfl rfl N0 ge_r0 hby d1_10 fun T7 h7 X7 e7 W7 Fw7 N7 => ?_
  have f8 := (f5.wr W7)
  have f9 := (EA4.wr W7)
  obtain ⟨T10, h10, k10, X10, e10, E10, A10, EA10, st10⟩ := newPE X7 hx hZ (own_at hw 13 rfl) e7 (g := (mkF m 17 #[rv r0, iv p1, iv p2] [(.int 256), (.ref r0)])) rfl (hb hby d1_17) rfl (by decide) (cap := 256) (by decide) (by decide) (by decide) (by decide) (ad := "[I") (by decide)
  obtain ⟨b10, g10⟩ : ∃ z, z = h7.size := ⟨_, rfl⟩
  rw [← g10] at A10 EA10 st10
  have g_b10 : n0 ≤ b10 := Nat.le_trans (Nat.le_trans (Nat.le_trans Z0 E4.1) (Keep.of_wr W7).1) (Nat.le_of_eq g10.symm)
  have sz_b10 : h0.size ≤ b10 := Nat.le_trans (((Keep.refl h0 [r0]).ext E4).wr W7 (Or.inl (List.mem_of_getElem? (i := 0) rfl))).1 (Nat.le_of_eq g10.symm)
  have V_b10 : Arv Z h10 b10 k10 .int (256 : Int32) [(.int 0), (.int 0), (.int 0), (.int 0)] (.int 0) := (Arv.new A10 (by decide)).pad (pad_rep [] (.int 0) 4)
  have f11 := (f8.ext E10)
  have f12 := (((F_starts_r0.ext E4).other W7 (Or.inr (sn_40 hw))).ext E10)
  refine own_by (fun t q => oAn X7 hx hby d1_13 rfl rfl (XS.sipush X7.here hx rfl (hb hby d1_14) (st10 _ q))) ?_
  refine own_pF X10 hx hZ hown hw 14 15 3 rfl rfl rfl e10 f12 f11 (ty := (.array .int)) (by decide) rfl rfl N7 ge_r0 hby d1_19 fun T13 h13 X13 e13 W13 Fw13 N13 => ?_
  have f14 := (f11.wr W13)
  have f15 := ((f9.ext E10).wr W13)
  have f16 := (EA10.wr W13)
  obtain ⟨T17, h17, k17, X17, e17, E17, A17, EA17, st17⟩ := newPE X13 hx hZ (own_at hw 13 rfl) e13 (g := (mkF m 24 #[rv r0, iv p1, iv p2] [(.int 0), (.ref r0)])) rfl (hb hby d1_24) rfl (by decide) (cap := 0) (by decide) (by decide) (by decide) (by decide) (ad := "[I") (by decide)
  obtain ⟨b17, g17⟩ : ∃ z, z = h13.size := ⟨_, rfl⟩
  rw [← g17] at A17 EA17 st17
  have g_b17 : n0 ≤ b17 := Nat.le_trans (Nat.le_trans (Nat.le_trans (Nat.le_trans (Nat.le_trans Z0 E4.1) (Keep.of_wr W7).1) E10.1) (Keep.of_wr W13).1) (Nat.le_of_eq g17.symm)
  have sz_b17 : h0.size ≤ b17 := Nat.le_trans (((((Keep.refl h0 [r0]).ext E4).wr W7 (Or.inl (List.mem_of_getElem? (i := 0) rfl))).ext E10).wr W13 (Or.inl (List.mem_of_getElem? (i := 0) rfl))).1 (Nat.le_of_eq g17.symm)
  have V_b17 : Arv Z h17 b17 k17 .int (0 : Int32) [] (.int 0) := Arv.new A17 (by decide)
  have f18 := (f14.ext E17)
  have f19 := (((((F_order_r0.ext E4).other W7 (Or.inr (sn_41 hw))).ext E10).other W13 (Or.inr (sn_42 hw))).ext E17)
  refine own_by (fun t q => oAn X13 hx hby d1_22 rfl rfl (oIc X13 hx hby d1_23 (st17 _ q))) ?_
  refine own_pF X17 hx hZ hown hw 16 17 3 rfl rfl rfl e17 f19 f18 (ty := (.array .int)) (by decide) rfl rfl N13 ge_r0 hby d1_26 fun T20 h20 X20 e20 W20 Fw20 N20 => ?_
  have f21 := (f18.wr W20)
  have f22 := ((f15.ext E17).wr W20)
  have f23 := ((f16.ext E17).wr W20)
  have f24 := (EA17.wr W20)
  obtain ⟨T25, h25, k25, X25, e25, E25, A25, EA25, st25⟩ := newPE X20 hx hZ (own_at hw 13 rfl) e20 (g := (mkF m 31 #[rv r0, iv p1, iv p2] [(.int 0), (.ref r0)])) rfl (hb hby d1_31) rfl (by decide) (cap := 0) (by decide) (by decide) (by decide) (by decide) (ad := "[I") (by decide)
  obtain ⟨b25, g25⟩ : ∃ z, z = h20.size := ⟨_, rfl⟩
  rw [← g25] at A25 EA25 st25
  have g_b25 : n0 ≤ b25 := Nat.le_trans (Nat.le_trans (Nat.le_trans (Nat.le_trans (Nat.le_trans (Nat.le_trans (Nat.le_trans Z0 E4.1) (Keep.of_wr W7).1) E10.1) (Keep.of_wr W13).1) E17.1) (Keep.of_wr W20).1) (Nat.le_of_eq g25.symm)
  have sz_b25 : h0.size ≤ b25 := Nat.le_trans (((((((Keep.refl h0 [r0]).ext E4).wr W7 (Or.inl (List.mem_of_getElem? (i := 0) rfl))).ext E10).wr W13 (Or.inl (List.mem_of_getElem? (i := 0) rfl))).ext E17).wr W20 (Or.inl (List.mem_of_getElem? (i := 0) rfl))).1 (Nat.le_of_eq g25.symm)
  have V_b25 : Arv Z h25 b25 k25 .int (0 : Int32) [] (.int 0) := Arv.new A25 (by decide)
  have f26 := (f21.ext E25)
  have f27 := (((((((F_scratch_r0.ext E4).other W7 (Or.inr (sn_43 hw))).ext E10).other W13 (Or.inr (sn_44 hw))).ext E17).other W20 (Or.inr (sn_4 hw))).ext E25)
  refine own_by (fun t q => oAn X20 hx hby d1_29 rfl rfl (oIc X20 hx hby d1_30 (st25 _ q))) ?_
  refine own_pF X25 hx hZ hown hw 18 19 3 rfl rfl rfl e25 f27 f26 (ty := (.array .int)) (by decide) rfl rfl N20 ge_r0 hby d1_33 fun T28 h28 X28 e28 W28 Fw28 N28 => ?_
  have f29 := (f26.wr W28)
  have f30 := ((((((((F_maxNames_r0.ext E4).other W7 (Or.inr (sn_45 hw))).ext E10).other W13 (Or.inr (sn_46 hw))).ext E17).other W20 (Or.inr (sn_15 hw))).ext E25).other W28 (Or.inr (sn_16 hw)))
  obtain ⟨T31, h31, X31, e31, W31, st31⟩ := putF X28 hx hZ hown (host := "") (Or.inl (own_at hw 20 rfl)) Via.refl e28 f30 f29 (Or.inr ⟨(own_at hw 21 rfl), rfl, hnm⟩) (own_at hw 3 rfl) (ty := .int) (by decide) rfl rfl (g := (mkF m 38 #[rv r0, iv p1, iv p2] [(.int p1), (.ref r0)])) rfl rfl (hb hby d1_38)
  have Fw31 : Fld Z h31 r0 cS0 "maxNames" "I" (.int p1) := f30.same W31
  have N31 := Fr.snoc X31 N28 ge_r0
  have f32 := (f29.wr W31)
  have f33 := (((((((((F_maxBytes_r0.ext E4).other W7 (Or.inr (sn_47 hw))).ext E10).other W13 (Or.inr (sn_48 hw))).ext E17).other W20 (Or.inr (sn_17 hw))).ext E25).other W28 (Or.inr (sn_18 hw))).other W31 (Or.inr (sn_49 hw)))
  obtain ⟨T34, h34, X34, e34, W34, st34⟩ := putF X31 hx hZ hown (host := "") (Or.inl (own_at hw 22 rfl)) Via.refl e31 f33 f32 (Or.inr ⟨(own_at hw 23 rfl), rfl, hnm⟩) (own_at hw 3 rfl) (ty := .int) (by decide) rfl rfl (g := (mkF m 43 #[rv r0, iv p1, iv p2] [(.int p2), (.ref r0)])) rfl rfl (hb hby d1_43)
  have Fw34 : Fld Z h34 r0 cS0 "maxBytes" "I" (.int p2) := f33.same W34
  have N34 := Fr.snoc X34 N31 ge_r0
  refine own_by (fun t q => oAn X28 hx hby d1_36 rfl rfl (oIn X28 hx hby d1_37 rfl (st31 _ (oAn X31 hx hby d1_41 rfl rfl (oIn X31 hx hby d1_42 rfl (st34 _ q)))))) ?_
  have f35 := (f32.wr W34)
  have f36 := (Fw31.other W34 (Or.inr (sn_50 hw)))
  have f37 := ((((((((((F_count_r0.ext E4).other W7 (Or.inr (sn_51 hw))).ext E10).other W13 (Or.inr (sn_52 hw))).ext E17).other W20 (Or.inr (sn_5 hw))).ext E25).other W28 (Or.inr (sn_6 hw))).other W31 (Or.inr (sn_53 hw))).other W34 (Or.inr (sn_54 hw)))
  have f38 := ((((((((((F_used_r0.ext E4).other W7 (Or.inr (sn_55 hw))).ext E10).other W13 (Or.inr (sn_56 hw))).ext E17).other W20 (Or.inr (sn_8 hw))).ext E25).other W28 (Or.inr (sn_9 hw))).other W31 (Or.inr (sn_57 hw))).other W34 (Or.inr (sn_58 hw)))
  have f39 := ((((((((((F_limit_r0.ext E4).other W7 (Or.inr (sn_59 hw))).ext E10).other W13 (Or.inr (sn_60 hw))).ext E17).other W20 (Or.inr (sn_13 hw))).ext E25).other W28 (Or.inr (sn_14 hw))).other W31 (Or.inr (sn_61 hw))).other W34 (Or.inr (sn_62 hw)))
  have f40 := ((((((((Fw7.ext E10).other W13 (Or.inr (sn_63 hw))).ext E17).other W20 (Or.inr (sn_10 hw))).ext E25).other W28 (Or.inr (sn_11 hw))).other W31 (Or.inr (sn_64 hw))).other W34 (Or.inr (sn_65 hw)))
  have f41 := (((((((((V_b4.other W7 (Ne.symm (Nat.ne_of_lt (Nat.lt_of_lt_of_le E_r0.lt (Nat.le_of_eq g4.symm))))).ext E10).other W13 (Ne.symm (Nat.ne_of_lt (Nat.lt_of_lt_of_le E_r0.lt (Nat.le_of_eq g4.symm))))).ext E17).other W20 (Ne.symm (Nat.ne_of_lt (Nat.lt_of_lt_of_le E_r0.lt (Nat.le_of_eq g4.symm))))).ext E25).other W28 (Ne.symm (Nat.ne_of_lt (Nat.lt_of_lt_of_le E_r0.lt (Nat.le_of_eq g4.symm))))).other W31 (Ne.symm (Nat.ne_of_lt (Nat.lt_of_lt_of_le E_r0.lt (Nat.le_of_eq g4.symm))))).other W34 (Ne.symm (Nat.ne_of_lt (Nat.lt_of_lt_of_le E_r0.lt (Nat.le_of_eq g4.symm)))))
  have f42 := ((((f22.ext E25).wr W28).wr W31).wr W34)
  have f43 := ((((((Fw13.ext E17).other W20 (Or.inr (sn_3 hw))).ext E25).other W28 (Or.inr (sn_12 hw))).other W31 (Or.inr (sn_66 hw))).other W34 (Or.inr (sn_67 hw)))
  have f44 := (((((((V_b10.other W13 (Ne.symm (Nat.ne_of_lt (Nat.lt_of_lt_of_le f8.lt (Nat.le_of_eq g10.symm))))).ext E17).other W20 (Ne.symm (Nat.ne_of_lt (Nat.lt_of_lt_of_le f8.lt (Nat.le_of_eq g10.symm))))).ext E25).other W28 (Ne.symm (Nat.ne_of_lt (Nat.lt_of_lt_of_le f8.lt (Nat.le_of_eq g10.symm))))).other W31 (Ne.symm (Nat.ne_of_lt (Nat.lt_of_lt_of_le f8.lt (Nat.le_of_eq g10.symm))))).other W34 (Ne.symm (Nat.ne_of_lt (Nat.lt_of_lt_of_le f8.lt (Nat.le_of_eq g10.symm)))))
  have f45 := ((((f23.ext E25).wr W28).wr W31).wr W34)
  have f46 := ((((Fw20.ext E25).other W28 (Or.inr (sn_7 hw))).other W31 (Or.inr (sn_68 hw))).other W34 (Or.inr (sn_69 hw)))
  have f47 := (((((V_b17.other W20 (Ne.symm (Nat.ne_of_lt (Nat.lt_of_lt_of_le f14.lt (Nat.le_of_eq g17.symm))))).ext E25).other W28 (Ne.symm (Nat.ne_of_lt (Nat.lt_of_lt_of_le f14.lt (Nat.le_of_eq g17.symm))))).other W31 (Ne.symm (Nat.ne_of_lt (Nat.lt_of_lt_of_le f14.lt (Nat.le_of_eq g17.symm))))).other W34 (Ne.symm (Nat.ne_of_lt (Nat.lt_of_lt_of_le f14.lt (Nat.le_of_eq g17.symm)))))
  have f48 := ((Fw28.other W31 (Or.inr (sn_70 hw))).other W34 (Or.inr (sn_71 hw)))
  refine own_out X34 Bd.notSynchronized Bd.returns (none) (fun _ => rfl) (by decide) (by decide) ?_ fun fs hr => ?_
  · rw [e34]; exact ⟨b4, b10, b17, b25, k10, k17, rfl, N34, (((((((((((Keep.refl h0 [r0]).ext E4).wr W7 (Or.inl (List.mem_of_getElem? (i := 0) rfl))).ext E10).wr W13 (Or.inl (List.mem_of_getElem? (i := 0) rfl))).ext E17).wr W20 (Or.inl (List.mem_of_getElem? (i := 0) rfl))).ext E25).wr W28 (Or.inl (List.mem_of_getElem? (i := 0) rfl))).wr W31 (Or.inl (List.mem_of_getElem? (i := 0) rfl))).wr W34 (Or.inl (List.mem_of_getElem? (i := 0) rfl))), sz_b4, sz_b10, sz_b17, (Nat.ne_of_lt (Nat.lt_of_lt_of_le f9.lt (Nat.le_of_eq g10.symm))), (Ne.symm (Nat.ne_of_lt (Nat.lt_of_lt_of_le f15.lt (Nat.le_of_eq g17.symm)))), (Ne.symm (Nat.ne_of_lt (Nat.lt_of_lt_of_le f16.lt (Nat.le_of_eq g17.symm)))), f35, f36, Fw34, f37, f38, f39, f40, f41, f42, f43, f44, f45, f46, f47, f48⟩
  · exact X34.returnOut hx Bd.returns (hb hby d1_46) hr
theorem d5_0 : decode prog_6_method_3_code 0 = .ok (.iload_n 3, 1) := by decide +kernel
theorem d5_1 : decode prog_6_method_3_code 1 = .ok (.iload_n 2, 1) := by decide +kernel
theorem d5_2 : decode prog_6_method_3_code 2 = .ok (.isub, 1) := by decide +kernel
theorem d5_3 : decode prog_6_method_3_code 3 = .ok (.istore 4, 2) := by decide +kernel
theorem d5_5 : decode prog_6_method_3_code 5 = .ok (.aload_n 0, 1) := by decide +kernel
theorem d5_6 : decode prog_6_method_3_code 6 = .ok (.getfield 36, 3) := by decide +kernel
theorem d5_9 : decode prog_6_method_3_code 9 = .ok (.ifnull 23, 3) := by decide +kernel
theorem d5_32 : decode prog_6_method_3_code 32 = .ok (.aload_n 0, 1) := by decide +kernel
theorem d5_33 : decode prog_6_method_3_code 33 = .ok (.getfield 30, 3) := by decide +kernel
theorem d5_36 : decode prog_6_method_3_code 36 = .ok (.iconst 1, 1) := by decide +kernel
theorem d5_37 : decode prog_6_method_3_code 37 = .ok (.if_icmp .le 52, 3) := by decide +kernel
theorem d5_89 : decode prog_6_method_3_code 89 = .ok (.aload_n 0, 1) := by decide +kernel
theorem d5_90 : decode prog_6_method_3_code 90 = .ok (.getfield 30, 3) := by decide +kernel
theorem d5_93 : decode prog_6_method_3_code 93 = .ok (.aload_n 0, 1) := by decide +kernel
theorem d5_94 : decode prog_6_method_3_code 94 = .ok (.getfield 13, 3) := by decide +kernel
theorem d5_97 : decode prog_6_method_3_code 97 = .ok (.arraylength, 1) := by decide +kernel
theorem d5_98 : decode prog_6_method_3_code 98 = .ok (.if_icmp .ne 27, 3) := by decide +kernel
theorem d5_125 : decode prog_6_method_3_code 125 = .ok (.aload_n 0, 1) := by decide +kernel
theorem d5_126 : decode prog_6_method_3_code 126 = .ok (.getfield 33, 3) := by decide +kernel
theorem d5_129 : decode prog_6_method_3_code 129 = .ok (.iload 4, 2) := by decide +kernel
theorem d5_131 : decode prog_6_method_3_code 131 = .ok (.iadd, 1) := by decide +kernel
theorem d5_132 : decode prog_6_method_3_code 132 = .ok (.aload_n 0, 1) := by decide +kernel
theorem d5_133 : decode prog_6_method_3_code 133 = .ok (.getfield 7, 3) := by decide +kernel
theorem d5_136 : decode prog_6_method_3_code 136 = .ok (.arraylength, 1) := by decide +kernel
theorem d5_137 : decode prog_6_method_3_code 137 = .ok (.if_icmp .le 38, 3) := by decide +kernel
theorem d5_175 : decode prog_6_method_3_code 175 = .ok (.aload_n 1, 1) := by decide +kernel
theorem d5_176 : decode prog_6_method_3_code 176 = .ok (.iload_n 2, 1) := by decide +kernel
theorem d5_177 : decode prog_6_method_3_code 177 = .ok (.aload_n 0, 1) := by decide +kernel
theorem d5_178 : decode prog_6_method_3_code 178 = .ok (.getfield 7, 3) := by decide +kernel
theorem d5_181 : decode prog_6_method_3_code 181 = .ok (.aload_n 0, 1) := by decide +kernel
theorem d5_182 : decode prog_6_method_3_code 182 = .ok (.getfield 33, 3) := by decide +kernel
theorem d5_185 : decode prog_6_method_3_code 185 = .ok (.iload 4, 2) := by decide +kernel
theorem d5_187 : decode prog_6_method_3_code 187 = .ok (.invokestatic 64, 3) := by decide +kernel
theorem d5_190 : decode prog_6_method_3_code 190 = .ok (.aload_n 0, 1) := by decide +kernel
theorem d5_191 : decode prog_6_method_3_code 191 = .ok (.getfield 13, 3) := by decide +kernel
theorem d5_194 : decode prog_6_method_3_code 194 = .ok (.aload_n 0, 1) := by decide +kernel
theorem d5_195 : decode prog_6_method_3_code 195 = .ok (.dup, 1) := by decide +kernel
theorem d5_196 : decode prog_6_method_3_code 196 = .ok (.getfield 30, 3) := by decide +kernel
theorem d5_199 : decode prog_6_method_3_code 199 = .ok (.dup_x1, 1) := by decide +kernel
theorem d5_200 : decode prog_6_method_3_code 200 = .ok (.iconst 1, 1) := by decide +kernel
theorem d5_201 : decode prog_6_method_3_code 201 = .ok (.iadd, 1) := by decide +kernel
theorem d5_202 : decode prog_6_method_3_code 202 = .ok (.putfield 30, 3) := by decide +kernel
theorem d5_205 : decode prog_6_method_3_code 205 = .ok (.aload_n 0, 1) := by decide +kernel
theorem d5_206 : decode prog_6_method_3_code 206 = .ok (.getfield 33, 3) := by decide +kernel
theorem d5_209 : decode prog_6_method_3_code 209 = .ok (.iastore, 1) := by decide +kernel
theorem d5_210 : decode prog_6_method_3_code 210 = .ok (.aload_n 0, 1) := by decide +kernel
theorem d5_211 : decode prog_6_method_3_code 211 = .ok (.dup, 1) := by decide +kernel
theorem d5_212 : decode prog_6_method_3_code 212 = .ok (.getfield 33, 3) := by decide +kernel
theorem d5_215 : decode prog_6_method_3_code 215 = .ok (.iload 4, 2) := by decide +kernel
theorem d5_217 : decode prog_6_method_3_code 217 = .ok (.iadd, 1) := by decide +kernel
theorem d5_218 : decode prog_6_method_3_code 218 = .ok (.putfield 33, 3) := by decide +kernel
theorem d5_221 : decode prog_6_method_3_code 221 = .ok (.return_, 1) := by decide +kernel
theorem ef_5 (m : MethodId) (x0 : Addr) (x1 : Addr) (x2 : Int32) (x3 : Int32) : entryFrame m #[(.ref x0), (.ref x1), (.int x2), (.int x3)] 5 = mkF m 0 #[.val (.ref x0), .val (.ref x1), .val (.int x2), .val (.int x3), .unset] [] := by first | (simp [entryFrame, mkF, argsToLocals, Value.category]; done) | rfl
def Q_5_0 (Z : State) (r0 r1 : Addr) (p2 ln : Int32) (bA sA : Addr) (kS : ClassId) (u s0 s1 s2 s3 mN mB : Int32) (oZ : Addr) (kZ : ClassId) (cZ : Addr) (h0 : Heap) (n0 : Nat) (v : Option Value) (h : Heap) (L : List Loc) : Prop := v = none ∧ Fr n0 L ∧ Keep h0 h [r0, bA, sA] ∧ Exa Z h r0 cS0 ∧ Fld Z h r0 cS0 "count" "I" (.int 1) ∧ Fld Z h r0 cS0 "used" "I" (.int (u + ln)) ∧ Fld Z h r0 cS0 "bytes" "[B" (.ref bA) ∧ own_B Z h bA (4096 : Int32) ∧ Exa Z h bA "[B" ∧ Fld Z h r0 cS0 "starts" "[I" (.ref sA) ∧ Arv Z h sA kS .int (256 : Int32) [(.int u), (.int s1), (.int s2), (.int s3)] (.int 0) ∧ Exa Z h sA "[I" ∧ Fld Z h r0 cS0 "maxNames" "I" (.int mN) ∧ Fld Z h r0 cS0 "maxBytes" "I" (.int mB) ∧ Fld Z h r0 cS0 "limit" "[B" .null ∧ Fld Z h r0 cS0 "order" "[I" (.ref oZ) ∧ Arv Z h oZ kZ .int (0 : Int32) [] (.int 0) ∧ Fld Z h r0 cS0 "scratch" "[I" (.ref cZ)
theorem rm5_0 (l : Launch) (Z : State) (a0 : Array Value) (hw : own_HW a0 Z) (ws : List Jvm.Cond) (r0 r1 : Addr) (p2 ln : Int32) (bA sA : Addr) (kS : ClassId) (u s0 s1 s2 s3 mN mB : Int32) (oZ : Addr) (kZ : ClassId) (cZ : Addr) (h0 : Heap) (n0 : Nat) (Z0 : n0 ≤ h0.size) (E_r0 : Exa Z h0 r0 cS0) (F_count_r0 : Fld Z h0 r0 cS0 "count" "I" (.int 0)) (F_used_r0 : Fld Z h0 r0 cS0 "used" "I" (.int u)) (F_bytes_r0 : Fld Z h0 r0 cS0 "bytes" "[B" (.ref bA)) (B_bA : own_B Z h0 bA (4096 : Int32)) (E_bA : Exa Z h0 bA "[B") (F_starts_r0 : Fld Z h0 r0 cS0 "starts" "[I" (.ref sA)) (V_sA : Arv Z h0 sA kS .int (256 : Int32) [(.int s0), (.int s1), (.int s2), (.int s3)] (.int 0)) (E_sA : Exa Z h0 sA "[I") (F_maxNames_r0 : Fld Z h0 r0 cS0 "maxNames" "I" (.int mN)) (F_maxBytes_r0 : Fld Z h0 r0 cS0 "maxBytes" "I" (.int mB)) (F_limit_r0 : Fld Z h0 r0 cS0 "limit" "[B" .null) (F_order_r0 : Fld Z h0 r0 cS0 "order" "[I" (.ref oZ)) (V_oZ : Arv Z h0 oZ kZ .int (0 : Int32) [] (.int 0)) (F_scratch_r0 : Fld Z h0 r0 cS0 "scratch" "[I" (.ref cZ)) (B_r1 : own_B Z h0 r1 (8 : Int32)) (E_r1 : Exa Z h0 r1 "[B") (hp0 : 0 ≤ p2.toInt ∧ p2.toInt ≤ 3) (hp1 : 0 ≤ ln.toInt ∧ ln.toInt ≤ 3) (hp2 : 0 ≤ u.toInt ∧ u.toInt ≤ 0) (ge_bA : n0 ≤ bA) (ne_r0_bA : r0 ≠ bA) (ge_r0 : n0 ≤ r0) (ne_sA_bA : sA ≠ bA) (ne_sA_r0 : sA ≠ r0) (ge_sA : n0 ≤ sA) (ne_r0_sA : r0 ≠ sA) (ne_bA_r0 : bA ≠ r0) (ne_bA_sA : bA ≠ sA) (ne_oZ_bA : oZ ≠ bA) (ne_oZ_r0 : oZ ≠ r0) (ne_oZ_sA : oZ ≠ sA) :
    own_M l Z (⟨cS0, "offer", "([BII)V"⟩ : MethodName) prog_6_method_3_code 5 none ws ({ frames := 1, cells := 0, slots := 0, locals := 18 } : Room) #[(.ref r0), (.ref r1), (.int p2), (.int (p2 + ln))] h0 (Q_5_0 Z r0 r1 p2 ln bA sA kS u s0 s1 s2 s3 mN mB oZ kZ cZ h0 n0) := by
  refine own_in cS0 rfl (plainFor_of_name pn_com_example_measurewright_measurewright_cli_NameBatch) ?_
  intro p e s m below meth c s₁ Bd hml hZ hh hx hby hown X0 e0
  have N0 := Fr.nil n0
  refine own_start (ef_5 m r0 r1 p2 (p2 + ln)) ?_
  refine own_by (fun t q => oIn X0 hx hby d5_0 rfl (oIn X0 hx hby d5_1 rfl (XS.isub X0.here hx rfl (hb hby d5_2) rfl q))) ?_
  rw [own_addsub]
  refine own_by (fun t q => XS.istore X0.here hx rfl (hb hby d5_3) rfl (l' := #[rv r0, rv r1, iv p2, iv (p2 + ln), iv ln]) rfl q) ?_
  refine own_aF X0 hx hZ hown hw 29 rfl e0 F_limit_r0 hby d5_5 rfl d5_6 fun T1 X1 e1 => ?_
  refine own_by (fun t q => XS.ifnullYes X1.here hx rfl (pc0 := 9) (pc' := 32) rfl (hb hby d5_9) rfl (by decide) (by decide) q) ?_
  refine own_aF X1 hx hZ hown hw 36 rfl e1 F_count_r0 hby d5_32 rfl d5_33 fun T2 X2 e2 => ?_
  refine own_by (fun t q => oIc X2 hx hby d5_36 (oJy X2 hx hby 37 89 d5_37 (flt (by decide : ¬ ((1 : Int32) < (0 : Int32)))).2.2.2 (by decide) (by decide) q)) ?_
  refine own_aF X2 hx hZ hown hw 36 rfl e2 F_count_r0 hby d5_89 rfl d5_90 fun T3 X3 e3 => ?_
  refine own_aF X3 hx hZ hown hw 14 rfl e3 F_starts_r0 hby d5_93 rfl d5_94 fun T4 X4 e4 => ?_
  refine own_by (fun t q => own_alen X4 hx hZ e4 V_sA hby d5_97 (oJy X4 hx hby 98 125 d5_98 (feq (by decide : ¬ ((0 : Int32) = (256 : Int32)))).2 (by decide) (by decide) q)) ?_
  refine own_aF X4 hx hZ hown hw 38 rfl e4 F_used_r0 hby d5_125 rfl d5_126 fun T5 X5 e5 => ?_
  refine own_by (fun t q => oIl X5 hx hby d5_129 rfl (XS.iadd X5.here hx rfl (hb hby d5_131) rfl q)) ?_
  refine own_aF X5 hx hZ hown hw 11 rfl e5 F_bytes_r0 hby d5_132 rfl d5_133 fun T6 X6 e6 => ?_
  refine own_by (fun t q => own_blen X6 hx hZ e6 B_bA hby d5_136 (oJy X6 hx hby 137 175 d5_137 (flt (show ¬ ((4096 : Int32) < (u + ln)) from (by rw [Int32.lt_iff_toInt_lt]; have w0 := own_lits; have w1a := c_iadd u ln; have w1b := rng32 (u + ln); omega))).2.2.2 (by decide) (by decide) (oAn X6 hx hby d5_175 rfl rfl (oIn X6 hx hby d5_176 rfl q)))) ?_
  refine own_aF X6 hx hZ hown hw 11 rfl e6 F_bytes_r0 hby d5_177 rfl d5_178 fun T7 X7 e7 => ?_
  refine own_aF X7 hx hZ hown hw 38 rfl e7 F_used_r0 hby d5_181 rfl d5_182 fun T8 X8 e8 => ?_
  obtain ⟨T9, h9, L9, X9, e9, N9, K9, Vr9, st9⟩ := own_bcp X8 hx hZ hown (own_at hw 45 rfl) (own_at hw 48 rfl) (own_at hw 46 rfl) (own_at hw 47 rfl) e8 B_r1 B_bA (sp := p2) (dp := u) (nn := ln) (by have w0 := own_lits; omega) N0 ge_bA (g := (mkF m 187 #[rv r0, rv r1, iv p2, iv (p2 + ln), iv ln] [(.int ln), (.int u), (.ref bA), (.int p2), (.ref r1)])) rfl (by rw [hml]; rfl) rfl (hb hby d5_187) (by decide) (W := 0) (Nat.le_refl _) (by decide)
  have pl9 := (allS (P := fun x => ∃ cell : Cell, h0[x]? = some cell ∧ cell.vm.isStatics = false) (own_ns E_bA) all0)
  have f10 := (F_starts_r0.keep K9 (ninS ne_r0_bA nin0))
  refine own_by (fun t q => oIl X8 hx hby d5_185 rfl (st9 _ q)) ?_
  refine own_aF X9 hx hZ hown hw 14 rfl e9 f10 hby d5_190 rfl d5_191 fun T11 X11 e11 => ?_
  have f12 := (F_count_r0.keep K9 (ninS ne_r0_bA nin0))
  refine own_by (fun t q => oAn X11 hx hby d5_194 rfl rfl (XS.dup X11.here hx rfl (hb hby d5_195) rfl rfl q)) ?_
  refine own_gF X11 hx hZ hown hw 36 rfl e11 f12 hby d5_196 fun T13 X13 e13 => ?_
  have f14 := (E_r0.keep K9)
  refine own_by (fun t q => XS.dupX1 X13.here hx rfl (hb hby d5_199) rfl rfl rfl (oIc X13 hx hby d5_200 (XS.iadd X13.here hx rfl (hb hby d5_201) rfl q))) ?_
  refine own_pF X13 hx hZ hown hw 36 37 3 rfl rfl rfl e13 f12 f14 (ty := .int) (by decide) rfl rfl N9 ge_r0 hby d5_202 fun T15 h15 X15 e15 W15 Fw15 N15 => ?_
  have f16 := ((F_used_r0.keep K9 (ninS ne_r0_bA nin0)).other W15 (Or.inr (sn_0 hw)))
  refine own_aF X15 hx hZ hown hw 38 rfl e15 f16 hby d5_205 rfl d5_206 fun T17 X17 e17 => ?_
  have f18 := ((V_sA.keep K9 (ninS ne_sA_bA nin0)).other W15 ne_sA_r0)
  refine own_stI X17 hx hZ e17 f18 hby ⟨by decide, by decide⟩ 0 rfl (Nat.le_of_ble_eq_true rfl) N15 ge_sA d5_209 fun T19 h19 X19 e19 W19 Vr19 N19 => ?_
  have V19 : Arv Z h19 sA kS .int (256 : Int32) [(.int u), (.int s1), (.int s2), (.int s3)] (.int 0) := Vr19
  have f20 := (f16.other W19 (Or.inl ne_r0_sA))
  refine own_by (fun t q => oAn X19 hx hby d5_210 rfl rfl (XS.dup X19.here hx rfl (hb hby d5_211) rfl rfl q)) ?_
  refine own_gF X19 hx hZ hown hw 38 rfl e19 f20 hby d5_212 fun T21 X21 e21 => ?_
  have f22 := ((f14.wr W15).wr W19)
  refine own_by (fun t q => oIl X21 hx hby d5_215 rfl (XS.iadd X21.here hx rfl (hb hby d5_217) rfl q)) ?_
  refine own_pF X21 hx hZ hown hw 38 39 3 rfl rfl rfl e21 f20 f22 (ty := .int) (by decide) rfl rfl N19 ge_r0 hby d5_218 fun T23 h23 X23 e23 W23 Fw23 N23 => ?_
  have f24 := (f22.wr W23)
  have f25 := ((Fw15.other W19 (Or.inl ne_r0_sA)).other W23 (Or.inr (sn_25 hw)))
  have f26 := ((((F_bytes_r0.keep K9 (ninS ne_r0_bA nin0)).other W15 (Or.inr (sn_26 hw))).other W19 (Or.inl ne_r0_sA)).other W23 (Or.inr (sn_27 hw)))
  have f27 := (((Vr9.other W15 ne_bA_r0).other W19 ne_bA_sA).other W23 ne_bA_r0)
  have f28 := ((((E_bA.keep K9).wr W15).wr W19).wr W23)
  have f29 := (((f10.other W15 (Or.inr (sn_28 hw))).other W19 (Or.inl ne_r0_sA)).other W23 (Or.inr (sn_29 hw)))
  have f30 := (V19.other W23 ne_sA_r0)
  have f31 := ((((E_sA.keep K9).wr W15).wr W19).wr W23)
  have f32 := ((((F_maxNames_r0.keep K9 (ninS ne_r0_bA nin0)).other W15 (Or.inr (sn_31 hw))).other W19 (Or.inl ne_r0_sA)).other W23 (Or.inr (sn_32 hw)))
  have f33 := ((((F_maxBytes_r0.keep K9 (ninS ne_r0_bA nin0)).other W15 (Or.inr (sn_34 hw))).other W19 (Or.inl ne_r0_sA)).other W23 (Or.inr (sn_35 hw)))
  have f34 := ((((F_limit_r0.keep K9 (ninS ne_r0_bA nin0)).other W15 (Or.inr (sn_1 hw))).other W19 (Or.inl ne_r0_sA)).other W23 (Or.inr (sn_2 hw)))
  have f35 := ((((F_order_r0.keep K9 (ninS ne_r0_bA nin0)).other W15 (Or.inr (sn_36 hw))).other W19 (Or.inl ne_r0_sA)).other W23 (Or.inr (sn_37 hw)))
  have f36 := ((((V_oZ.keep K9 (ninS ne_oZ_bA nin0)).other W15 ne_oZ_r0).other W19 ne_oZ_sA).other W23 ne_oZ_r0)
  have f37 := ((((F_scratch_r0.keep K9 (ninS ne_r0_bA nin0)).other W15 (Or.inr (sn_38 hw))).other W19 (Or.inl ne_r0_sA)).other W23 (Or.inr (sn_39 hw)))
  refine own_out X23 Bd.notSynchronized Bd.returns (none) (fun _ => rfl) (by decide) (by decide) ?_ fun fs hr => ?_
  · rw [e23]; exact ⟨rfl, N23, (((((Keep.refl h0 [r0, bA, sA]).trans K9 (allS (Or.inl (List.mem_of_getElem? (i := 1) rfl)) all0)).wr W15 (Or.inl (List.mem_of_getElem? (i := 0) rfl))).wr W19 (Or.inl (List.mem_of_getElem? (i := 2) rfl))).wr W23 (Or.inl (List.mem_of_getElem? (i := 0) rfl))), f24, f25, Fw23, f26, f27, f28, f29, f30, f31, f32, f33, f34, f35, f36, f37⟩
  · exact X23.returnOut hx Bd.returns (hb hby d5_221) hr
def Q_5_1 (Z : State) (r0 r1 : Addr) (p2 ln : Int32) (bA sA : Addr) (kS : ClassId) (u s0 s1 s2 s3 mN mB : Int32) (oZ : Addr) (kZ : ClassId) (cZ : Addr) (h0 : Heap) (n0 : Nat) (v : Option Value) (h : Heap) (L : List Loc) : Prop := v = none ∧ Fr n0 L ∧ Keep h0 h [r0, bA, sA] ∧ Exa Z h r0 cS0 ∧ Fld Z h r0 cS0 "count" "I" (.int 2) ∧ Fld Z h r0 cS0 "used" "I" (.int (u + ln)) ∧ Fld Z h r0 cS0 "bytes" "[B" (.ref bA) ∧ own_B Z h bA (4096 : Int32) ∧ Exa Z h bA "[B" ∧ Fld Z h r0 cS0 "starts" "[I" (.ref sA) ∧ Arv Z h sA kS .int (256 : Int32) [(.int s0), (.int u), (.int s2), (.int s3)] (.int 0) ∧ Exa Z h sA "[I" ∧ Fld Z h r0 cS0 "maxNames" "I" (.int mN) ∧ Fld Z h r0 cS0 "maxBytes" "I" (.int mB) ∧ Fld Z h r0 cS0 "limit" "[B" .null ∧ Fld Z h r0 cS0 "order" "[I" (.ref oZ) ∧ Arv Z h oZ kZ .int (0 : Int32) [] (.int 0) ∧ Fld Z h r0 cS0 "scratch" "[I" (.ref cZ)
theorem rm5_1 (l : Launch) (Z : State) (a0 : Array Value) (hw : own_HW a0 Z) (ws : List Jvm.Cond) (r0 r1 : Addr) (p2 ln : Int32) (bA sA : Addr) (kS : ClassId) (u s0 s1 s2 s3 mN mB : Int32) (oZ : Addr) (kZ : ClassId) (cZ : Addr) (h0 : Heap) (n0 : Nat) (Z0 : n0 ≤ h0.size) (E_r0 : Exa Z h0 r0 cS0) (F_count_r0 : Fld Z h0 r0 cS0 "count" "I" (.int 1)) (F_used_r0 : Fld Z h0 r0 cS0 "used" "I" (.int u)) (F_bytes_r0 : Fld Z h0 r0 cS0 "bytes" "[B" (.ref bA)) (B_bA : own_B Z h0 bA (4096 : Int32)) (E_bA : Exa Z h0 bA "[B") (F_starts_r0 : Fld Z h0 r0 cS0 "starts" "[I" (.ref sA)) (V_sA : Arv Z h0 sA kS .int (256 : Int32) [(.int s0), (.int s1), (.int s2), (.int s3)] (.int 0)) (E_sA : Exa Z h0 sA "[I") (F_maxNames_r0 : Fld Z h0 r0 cS0 "maxNames" "I" (.int mN)) (F_maxBytes_r0 : Fld Z h0 r0 cS0 "maxBytes" "I" (.int mB)) (F_limit_r0 : Fld Z h0 r0 cS0 "limit" "[B" .null) (F_order_r0 : Fld Z h0 r0 cS0 "order" "[I" (.ref oZ)) (V_oZ : Arv Z h0 oZ kZ .int (0 : Int32) [] (.int 0)) (F_scratch_r0 : Fld Z h0 r0 cS0 "scratch" "[I" (.ref cZ)) (B_r1 : own_B Z h0 r1 (8 : Int32)) (E_r1 : Exa Z h0 r1 "[B") (hp0 : 0 ≤ p2.toInt ∧ p2.toInt ≤ 3) (hp1 : 0 ≤ ln.toInt ∧ ln.toInt ≤ 3) (hp2 : s0.toInt ≤ u.toInt ∧ u.toInt ≤ s0.toInt + 3 ∧ 0 ≤ s0.toInt ∧ u.toInt ≤ 50) (ge_bA : n0 ≤ bA) (ne_r0_bA : r0 ≠ bA) (ge_r0 : n0 ≤ r0) (ne_sA_bA : sA ≠ bA) (ne_sA_r0 : sA ≠ r0) (ge_sA : n0 ≤ sA) (ne_r0_sA : r0 ≠ sA) (ne_bA_r0 : bA ≠ r0) (ne_bA_sA : bA ≠ sA) (ne_oZ_bA : oZ ≠ bA) (ne_oZ_r0 : oZ ≠ r0) (ne_oZ_sA : oZ ≠ sA) :
    own_M l Z (⟨cS0, "offer", "([BII)V"⟩ : MethodName) prog_6_method_3_code 5 none ws ({ frames := 1, cells := 0, slots := 0, locals := 18 } : Room) #[(.ref r0), (.ref r1), (.int p2), (.int (p2 + ln))] h0 (Q_5_1 Z r0 r1 p2 ln bA sA kS u s0 s1 s2 s3 mN mB oZ kZ cZ h0 n0) := by
  refine own_in cS0 rfl (plainFor_of_name pn_com_example_measurewright_measurewright_cli_NameBatch) ?_
  intro p e s m below meth c s₁ Bd hml hZ hh hx hby hown X0 e0
  have N0 := Fr.nil n0
  refine own_start (ef_5 m r0 r1 p2 (p2 + ln)) ?_
  refine own_by (fun t q => oIn X0 hx hby d5_0 rfl (oIn X0 hx hby d5_1 rfl (XS.isub X0.here hx rfl (hb hby d5_2) rfl q))) ?_
  rw [own_addsub]
  refine own_by (fun t q => XS.istore X0.here hx rfl (hb hby d5_3) rfl (l' := #[rv r0, rv r1, iv p2, iv (p2 + ln), iv ln]) rfl q) ?_
  refine own_aF X0 hx hZ hown hw 29 rfl e0 F_limit_r0 hby d5_5 rfl d5_6 fun T1 X1 e1 => ?_
  refine own_by (fun t q => XS.ifnullYes X1.here hx rfl (pc0 := 9) (pc' := 32) rfl (hb hby d5_9) rfl (by decide) (by decide) q) ?_
  refine own_aF X1 hx hZ hown hw 36 rfl e1 F_count_r0 hby d5_32 rfl d5_33 fun T2 X2 e2 => ?_
  refine own_by (fun t q => oIc X2 hx hby d5_36 (oJy X2 hx hby 37 89 d5_37 (flt (by decide : ¬ ((1 : Int32) < (1 : Int32)))).2.2.2 (by decide) (by decide) q)) ?_
  refine own_aF X2 hx hZ hown hw 36 rfl e2 F_count_r0 hby d5_89 rfl d5_90 fun T3 X3 e3 => ?_
  refine own_aF X3 hx hZ hown hw 14 rfl e3 F_starts_r0 hby d5_93 rfl d5_94 fun T4 X4 e4 => ?_
  refine own_by (fun t q => own_alen X4 hx hZ e4 V_sA hby d5_97 (oJy X4 hx hby 98 125 d5_98 (feq (by decide : ¬ ((1 : Int32) = (256 : Int32)))).2 (by decide) (by decide) q)) ?_
  refine own_aF X4 hx hZ hown hw 38 rfl e4 F_used_r0 hby d5_125 rfl d5_126 fun T5 X5 e5 => ?_
  refine own_by (fun t q => oIl X5 hx hby d5_129 rfl (XS.iadd X5.here hx rfl (hb hby d5_131) rfl q)) ?_
  refine own_aF X5 hx hZ hown hw 11 rfl e5 F_bytes_r0 hby d5_132 rfl d5_133 fun T6 X6 e6 => ?_
  refine own_by (fun t q => own_blen X6 hx hZ e6 B_bA hby d5_136 (oJy X6 hx hby 137 175 d5_137 (flt (show ¬ ((4096 : Int32) < (u + ln)) from (by rw [Int32.lt_iff_toInt_lt]; have w0 := own_lits; have w1a := c_iadd u ln; have w1b := rng32 (u + ln); omega))).2.2.2 (by decide) (by decide) (oAn X6 hx hby d5_175 rfl rfl (oIn X6 hx hby d5_176 rfl q)))) ?_
  refine own_aF X6 hx hZ hown hw 11 rfl e6 F_bytes_r0 hby d5_177 rfl d5_178 fun T7 X7 e7 => ?_
  refine own_aF X7 hx hZ hown hw 38 rfl e7 F_used_r0 hby d5_181 rfl d5_182 fun T8 X8 e8 => ?_
  obtain ⟨T9, h9, L9, X9, e9, N9, K9, Vr9, st9⟩ := own_bcp X8 hx hZ hown (own_at hw 45 rfl) (own_at hw 48 rfl) (own_at hw 46 rfl) (own_at hw 47 rfl) e8 B_r1 B_bA (sp := p2) (dp := u) (nn := ln) (by have w0 := own_lits; omega) N0 ge_bA (g := (mkF m 187 #[rv r0, rv r1, iv p2, iv (p2 + ln), iv ln] [(.int ln), (.int u), (.ref bA), (.int p2), (.ref r1)])) rfl (by rw [hml]; rfl) rfl (hb hby d5_187) (by decide) (W := 0) (Nat.le_refl _) (by decide)
  have pl9 := (allS (P := fun x => ∃ cell : Cell, h0[x]? = some cell ∧ cell.vm.isStatics = false) (own_ns E_bA) all0)
  have f10 := (F_starts_r0.keep K9 (ninS ne_r0_bA nin0))
  refine own_by (fun t q => oIl X8 hx hby d5_185 rfl (st9 _ q)) ?_
  refine own_aF X9 hx hZ hown hw 14 rfl e9 f10 hby d5_190 rfl d5_191 fun T11 X11 e11 => ?_
  have f12 := (F_count_r0.keep K9 (ninS ne_r0_bA nin0))
  refine own_by (fun t q => oAn X11 hx hby d5_194 rfl rfl (XS.dup X11.here hx rfl (hb hby d5_195) rfl rfl q)) ?_
  refine own_gF X11 hx hZ hown hw 36 rfl e11 f12 hby d5_196 fun T13 X13 e13 => ?_
  have f14 := (E_r0.keep K9)
  refine own_by (fun t q => XS.dupX1 X13.here hx rfl (hb hby d5_199) rfl rfl rfl (oIc X13 hx hby d5_200 (XS.iadd X13.here hx rfl (hb hby d5_201) rfl q))) ?_
  refine own_pF X13 hx hZ hown hw 36 37 3 rfl rfl rfl e13 f12 f14 (ty := .int) (by decide) rfl rfl N9 ge_r0 hby d5_202 fun T15 h15 X15 e15 W15 Fw15 N15 => ?_
  have f16 := ((F_used_r0.keep K9 (ninS ne_r0_bA nin0)).other W15 (Or.inr (sn_0 hw)))
  refine own_aF X15 hx hZ hown hw 38 rfl e15 f16 hby d5_205 rfl d5_206 fun T17 X17 e17 => ?_
  have f18 := ((V_sA.keep K9 (ninS ne_sA_bA nin0)).other W15 ne_sA_r0)
  refine own_stI X17 hx hZ e17 f18 hby ⟨by decide, by decide⟩ 1 rfl (Nat.le_of_ble_eq_true rfl) N15 ge_sA d5_209 fun T19 h19 X19 e19 W19 Vr19 N19 => ?_
  have V19 : Arv Z h19 sA kS .int (256 : Int32) [(.int s0), (.int u), (.int s2), (.int s3)] (.int 0) := Vr19
  have f20 := (f16.other W19 (Or.inl ne_r0_sA))
  refine own_by (fun t q => oAn X19 hx hby d5_210 rfl rfl (XS.dup X19.here hx rfl (hb hby d5_211) rfl rfl q)) ?_
  refine own_gF X19 hx hZ hown hw 38 rfl e19 f20 hby d5_212 fun T21 X21 e21 => ?_
  have f22 := ((f14.wr W15).wr W19)
  refine own_by (fun t q => oIl X21 hx hby d5_215 rfl (XS.iadd X21.here hx rfl (hb hby d5_217) rfl q)) ?_
  refine own_pF X21 hx hZ hown hw 38 39 3 rfl rfl rfl e21 f20 f22 (ty := .int) (by decide) rfl rfl N19 ge_r0 hby d5_218 fun T23 h23 X23 e23 W23 Fw23 N23 => ?_
  have f24 := (f22.wr W23)
  have f25 := ((Fw15.other W19 (Or.inl ne_r0_sA)).other W23 (Or.inr (sn_25 hw)))
  have f26 := ((((F_bytes_r0.keep K9 (ninS ne_r0_bA nin0)).other W15 (Or.inr (sn_26 hw))).other W19 (Or.inl ne_r0_sA)).other W23 (Or.inr (sn_27 hw)))
  have f27 := (((Vr9.other W15 ne_bA_r0).other W19 ne_bA_sA).other W23 ne_bA_r0)
  have f28 := ((((E_bA.keep K9).wr W15).wr W19).wr W23)
  have f29 := (((f10.other W15 (Or.inr (sn_28 hw))).other W19 (Or.inl ne_r0_sA)).other W23 (Or.inr (sn_29 hw)))
  have f30 := (V19.other W23 ne_sA_r0)
  have f31 := ((((E_sA.keep K9).wr W15).wr W19).wr W23)
  have f32 := ((((F_maxNames_r0.keep K9 (ninS ne_r0_bA nin0)).other W15 (Or.inr (sn_31 hw))).other W19 (Or.inl ne_r0_sA)).other W23 (Or.inr (sn_32 hw)))
  have f33 := ((((F_maxBytes_r0.keep K9 (ninS ne_r0_bA nin0)).other W15 (Or.inr (sn_34 hw))).other W19 (Or.inl ne_r0_sA)).other W23 (Or.inr (sn_35 hw)))
  have f34 := ((((F_limit_r0.keep K9 (ninS ne_r0_bA nin0)).other W15 (Or.inr (sn_1 hw))).other W19 (Or.inl ne_r0_sA)).other W23 (Or.inr (sn_2 hw)))
  have f35 := ((((F_order_r0.keep K9 (ninS ne_r0_bA nin0)).other W15 (Or.inr (sn_36 hw))).other W19 (Or.inl ne_r0_sA)).other W23 (Or.inr (sn_37 hw)))
  have f36 := ((((V_oZ.keep K9 (ninS ne_oZ_bA nin0)).other W15 ne_oZ_r0).other W19 ne_oZ_sA).other W23 ne_oZ_r0)
  have f37 := ((((F_scratch_r0.keep K9 (ninS ne_r0_bA nin0)).other W15 (Or.inr (sn_38 hw))).other W19 (Or.inl ne_r0_sA)).other W23 (Or.inr (sn_39 hw)))
  refine own_out X23 Bd.notSynchronized Bd.returns (none) (fun _ => rfl) (by decide) (by decide) ?_ fun fs hr => ?_
  · rw [e23]; exact ⟨rfl, N23, (((((Keep.refl h0 [r0, bA, sA]).trans K9 (allS (Or.inl (List.mem_of_getElem? (i := 1) rfl)) all0)).wr W15 (Or.inl (List.mem_of_getElem? (i := 0) rfl))).wr W19 (Or.inl (List.mem_of_getElem? (i := 2) rfl))).wr W23 (Or.inl (List.mem_of_getElem? (i := 0) rfl))), f24, f25, Fw23, f26, f27, f28, f29, f30, f31, f32, f33, f34, f35, f36, f37⟩
  · exact X23.returnOut hx Bd.returns (hb hby d5_221) hr
theorem d5_40 : decode prog_6_method_3_code 40 = .ok (.aload_n 0, 1) := by decide +kernel
theorem d5_41 : decode prog_6_method_3_code 41 = .ok (.getfield 30, 3) := by decide +kernel
theorem d5_44 : decode prog_6_method_3_code 44 = .ok (.aload_n 0, 1) := by decide +kernel
theorem d5_45 : decode prog_6_method_3_code 45 = .ok (.getfield 23, 3) := by decide +kernel
theorem d5_48 : decode prog_6_method_3_code 48 = .ok (.if_icmp .eq 17, 3) := by decide +kernel
theorem d5_51 : decode prog_6_method_3_code 51 = .ok (.aload_n 0, 1) := by decide +kernel
theorem d5_52 : decode prog_6_method_3_code 52 = .ok (.getfield 33, 3) := by decide +kernel
theorem d5_55 : decode prog_6_method_3_code 55 = .ok (.iload 4, 2) := by decide +kernel
theorem d5_57 : decode prog_6_method_3_code 57 = .ok (.iadd, 1) := by decide +kernel
theorem d5_58 : decode prog_6_method_3_code 58 = .ok (.aload_n 0, 1) := by decide +kernel
theorem d5_59 : decode prog_6_method_3_code 59 = .ok (.getfield 27, 3) := by decide +kernel
theorem d5_62 : decode prog_6_method_3_code 62 = .ok (.if_icmp .le 27, 3) := by decide +kernel
theorem d5_65 : decode prog_6_method_3_code 65 = .ok (.aload_n 0, 1) := by decide +kernel
theorem d5_66 : decode prog_6_method_3_code 66 = .ok (.invokevirtual 45, 3) := by decide +kernel
theorem d5_69 : decode prog_6_method_3_code 69 = .ok (.aload_n 1, 1) := by decide +kernel
theorem d5_70 : decode prog_6_method_3_code 70 = .ok (.iload_n 2, 1) := by decide +kernel
theorem d5_71 : decode prog_6_method_3_code 71 = .ok (.iload_n 3, 1) := by decide +kernel
theorem d5_72 : decode prog_6_method_3_code 72 = .ok (.aload_n 0, 1) := by decide +kernel
theorem d5_73 : decode prog_6_method_3_code 73 = .ok (.getfield 36, 3) := by decide +kernel
theorem d5_76 : decode prog_6_method_3_code 76 = .ok (.iconst 0, 1) := by decide +kernel
theorem d5_77 : decode prog_6_method_3_code 77 = .ok (.aload_n 0, 1) := by decide +kernel
theorem d5_78 : decode prog_6_method_3_code 78 = .ok (.getfield 36, 3) := by decide +kernel
theorem d5_81 : decode prog_6_method_3_code 81 = .ok (.arraylength, 1) := by decide +kernel
theorem d5_82 : decode prog_6_method_3_code 82 = .ok (.invokestatic 39, 3) := by decide +kernel
theorem d5_85 : decode prog_6_method_3_code 85 = .ok (.ifCond .lt (-53), 3) := by decide +kernel
theorem d5_88 : decode prog_6_method_3_code 88 = .ok (.return_, 1) := by decide +kernel
def Q_5_2 (Z : State) (r0 r1 : Addr) (p2 ln : Int32) (bA sA : Addr) (kS : ClassId) (u s0 s1 s2 s3 mN mB : Int32) (oZ : Addr) (kZ : ClassId) (cZ : Addr) (h0 : Heap) (n0 : Nat) (v : Option Value) (h : Heap) (L : List Loc) : Prop := (∃ lim : Addr, ∃ oA : Addr, ∃ kO : ClassId, ∃ cA : Addr, ∃ kC : ClassId, ∃ t0 : Int32, ∃ t1 : Int32, ∃ t2 : Int32, ∃ t3 : Int32, ∃ g0 : Int32, ∃ g1 : Int32, ∃ d0 : Int32, ∃ d1 : Int32, ∃ u2 : Int32, ∃ zl : Int32, v = none ∧ Fr n0 L ∧ Keep h0 h [r0, bA, sA] ∧ h0.size ≤ lim ∧ h0.size ≤ oA ∧ h0.size ≤ cA ∧ oA ≠ cA ∧ lim ≠ oA ∧ lim ≠ cA ∧ Exa Z h r0 cS0 ∧ Fld Z h r0 cS0 "count" "I" (.int 2) ∧ Fld Z h r0 cS0 "used" "I" (.int u2) ∧ Fld Z h r0 cS0 "limit" "[B" (.ref lim) ∧ Fld Z h r0 cS0 "bytes" "[B" (.ref bA) ∧ own_B Z h bA (4096 : Int32) ∧ Exa Z h bA "[B" ∧ Fld Z h r0 cS0 "starts" "[I" (.ref sA) ∧ Arv Z h sA kS .int (256 : Int32) [(.int t0), (.int t1), (.int t2), (.int t3)] (.int 0) ∧ Exa Z h sA "[I" ∧ Fld Z h r0 cS0 "maxNames" "I" (.int mN) ∧ Fld Z h r0 cS0 "maxBytes" "I" (.int mB) ∧ own_B Z h lim zl ∧ Exa Z h lim "[B" ∧ Fld Z h r0 cS0 "order" "[I" (.ref oA) ∧ Arv Z h oA kO .int (256 : Int32) [(.int g0), (.int g1)] (.int 0) ∧ Exa Z h oA "[I" ∧ Fld Z h r0 cS0 "scratch" "[I" (.ref cA) ∧ Arv Z h cA kC .int (256 : Int32) [(.int d0), (.int d1)] (.int 0) ∧ Exa Z h cA "[I" ∧ (2 : Int32) = mN ∧ (0 ≤ zl.toInt ∧ zl.toInt ≤ 3) ∧ t0.toInt ≤ t1.toInt ∧ t1.toInt ≤ t0.toInt + 3 ∧ t1.toInt ≤ u2.toInt ∧ u2.toInt ≤ t1.toInt + 3 ∧ 0 ≤ t0.toInt ∧ u2.toInt ≤ 50) ∨ (∃ lim : Addr, ∃ oA : Addr, ∃ kO : ClassId, ∃ cA : Addr, ∃ kC : ClassId, ∃ t0 : Int32, ∃ t1 : Int32, ∃ t2 : Int32, ∃ t3 : Int32, ∃ g0 : Int32, ∃ g1 : Int32, ∃ d0 : Int32, ∃ d1 : Int32, ∃ u2 : Int32, ∃ zl : Int32, v = none ∧ Fr n0 L ∧ Keep h0 h [r0, bA, sA] ∧ h0.size ≤ lim ∧ h0.size ≤ oA ∧ h0.size ≤ cA ∧ oA ≠ cA ∧ lim ≠ oA ∧ lim ≠ cA ∧ Exa Z h r0 cS0 ∧ Fld Z h r0 cS0 "count" "I" (.int 1) ∧ Fld Z h r0 cS0 "used" "I" (.int u2) ∧ Fld Z h r0 cS0 "limit" "[B" (.ref lim) ∧ Fld Z h r0 cS0 "bytes" "[B" (.ref bA) ∧ own_B Z h bA (4096 : Int32) ∧ Exa Z h bA "[B" ∧ Fld Z h r0 cS0 "starts" "[I" (.ref sA) ∧ Arv Z h sA kS .int (256 : Int32) [(.int t0), (.int t1), (.int t2), (.int t3)] (.int 0) ∧ Exa Z h sA "[I" ∧ Fld Z h r0 cS0 "maxNames" "I" (.int mN) ∧ Fld Z h r0 cS0 "maxBytes" "I" (.int mB) ∧ own_B Z h lim zl ∧ Exa Z h lim "[B" ∧ Fld Z h r0 cS0 "order" "[I" (.ref oA) ∧ Arv Z h oA kO .int (256 : Int32) [(.int g0), (.int g1)] (.int 0) ∧ Exa Z h oA "[I" ∧ Fld Z h r0 cS0 "scratch" "[I" (.ref cA) ∧ Arv Z h cA kC .int (256 : Int32) [(.int d0), (.int d1)] (.int 0) ∧ Exa Z h cA "[I" ∧ (2 : Int32) = mN ∧ (0 ≤ zl.toInt ∧ zl.toInt ≤ 3) ∧ t0.toInt ≤ u2.toInt ∧ u2.toInt ≤ t0.toInt + 3 ∧ 0 ≤ t0.toInt ∧ u2.toInt ≤ 50) ∨ (∃ lim : Addr, ∃ oA : Addr, ∃ kO : ClassId, ∃ cA : Addr, ∃ kC : ClassId, ∃ t0 : Int32, ∃ t1 : Int32, ∃ t2 : Int32, ∃ t3 : Int32, ∃ g0 : Int32, ∃ g1 : Int32, ∃ d0 : Int32, ∃ d1 : Int32, ∃ u2 : Int32, ∃ zl : Int32, v = none ∧ Fr n0 L ∧ Keep h0 h [r0, bA, sA] ∧ h0.size ≤ lim ∧ h0.size ≤ oA ∧ h0.size ≤ cA ∧ oA ≠ cA ∧ lim ≠ oA ∧ lim ≠ cA ∧ Exa Z h r0 cS0 ∧ Fld Z h r0 cS0 "count" "I" (.int 2) ∧ Fld Z h r0 cS0 "used" "I" (.int u2) ∧ Fld Z h r0 cS0 "limit" "[B" (.ref lim) ∧ Fld Z h r0 cS0 "bytes" "[B" (.ref bA) ∧ own_B Z h bA (4096 : Int32) ∧ Exa Z h bA "[B" ∧ Fld Z h r0 cS0 "starts" "[I" (.ref sA) ∧ Arv Z h sA kS .int (256 : Int32) [(.int t0), (.int t1), (.int t2), (.int t3)] (.int 0) ∧ Exa Z h sA "[I" ∧ Fld Z h r0 cS0 "maxNames" "I" (.int mN) ∧ Fld Z h r0 cS0 "maxBytes" "I" (.int mB) ∧ own_B Z h lim zl ∧ Exa Z h lim "[B" ∧ Fld Z h r0 cS0 "order" "[I" (.ref oA) ∧ Arv Z h oA kO .int (256 : Int32) [(.int g0), (.int g1)] (.int 0) ∧ Exa Z h oA "[I" ∧ Fld Z h r0 cS0 "scratch" "[I" (.ref cA) ∧ Arv Z h cA kC .int (256 : Int32) [(.int d0), (.int d1)] (.int 0) ∧ Exa Z h cA "[I" ∧ mB < (u + ln) ∧ (0 ≤ zl.toInt ∧ zl.toInt ≤ 3) ∧ t0.toInt ≤ t1.toInt ∧ t1.toInt ≤ t0.toInt + 3 ∧ t1.toInt ≤ u2.toInt ∧ u2.toInt ≤ t1.toInt + 3 ∧ 0 ≤ t0.toInt ∧ u2.toInt ≤ 50) ∨ (∃ lim : Addr, ∃ oA : Addr, ∃ kO : ClassId, ∃ cA : Addr, ∃ kC : ClassId, ∃ t0 : Int32, ∃ t1 : Int32, ∃ t2 : Int32, ∃ t3 : Int32, ∃ g0 : Int32, ∃ g1 : Int32, ∃ d0 : Int32, ∃ d1 : Int32, ∃ u2 : Int32, ∃ zl : Int32, v = none ∧ Fr n0 L ∧ Keep h0 h [r0, bA, sA] ∧ h0.size ≤ lim ∧ h0.size ≤ oA ∧ h0.size ≤ cA ∧ oA ≠ cA ∧ lim ≠ oA ∧ lim ≠ cA ∧ Exa Z h r0 cS0 ∧ Fld Z h r0 cS0 "count" "I" (.int 1) ∧ Fld Z h r0 cS0 "used" "I" (.int u2) ∧ Fld Z h r0 cS0 "limit" "[B" (.ref lim) ∧ Fld Z h r0 cS0 "bytes" "[B" (.ref bA) ∧ own_B Z h bA (4096 : Int32) ∧ Exa Z h bA "[B" ∧ Fld Z h r0 cS0 "starts" "[I" (.ref sA) ∧ Arv Z h sA kS .int (256 : Int32) [(.int t0), (.int t1), (.int t2), (.int t3)] (.int 0) ∧ Exa Z h sA "[I" ∧ Fld Z h r0 cS0 "maxNames" "I" (.int mN) ∧ Fld Z h r0 cS0 "maxBytes" "I" (.int mB) ∧ own_B Z h lim zl ∧ Exa Z h lim "[B" ∧ Fld Z h r0 cS0 "order" "[I" (.ref oA) ∧ Arv Z h oA kO .int (256 : Int32) [(.int g0), (.int g1)] (.int 0) ∧ Exa Z h oA "[I" ∧ Fld Z h r0 cS0 "scratch" "[I" (.ref cA) ∧ Arv Z h cA kC .int (256 : Int32) [(.int d0), (.int d1)] (.int 0) ∧ Exa Z h cA "[I" ∧ mB < (u + ln) ∧ (0 ≤ zl.toInt ∧ zl.toInt ≤ 3) ∧ t0.toInt ≤ u2.toInt ∧ u2.toInt ≤ t0.toInt + 3 ∧ 0 ≤ t0.toInt ∧ u2.toInt ≤ 50) ∨ (v = none ∧ Fr n0 L ∧ Keep h0 h [r0, bA, sA] ∧ Exa Z h r0 cS0 ∧ Fld Z h r0 cS0 "count" "I" (.int 3) ∧ Fld Z h r0 cS0 "used" "I" (.int (u + ln)) ∧ Fld Z h r0 cS0 "bytes" "[B" (.ref bA) ∧ own_B Z h bA (4096 : Int32) ∧ Exa Z h bA "[B" ∧ Fld Z h r0 cS0 "starts" "[I" (.ref sA) ∧ Arv Z h sA kS .int (256 : Int32) [(.int s0), (.int s1), (.int u), (.int s3)] (.int 0) ∧ Exa Z h sA "[I" ∧ Fld Z h r0 cS0 "maxNames" "I" (.int mN) ∧ Fld Z h r0 cS0 "maxBytes" "I" (.int mB) ∧ Fld Z h r0 cS0 "limit" "[B" .null ∧ Fld Z h r0 cS0 "order" "[I" (.ref oZ) ∧ Arv Z h oZ kZ .int (0 : Int32) [] (.int 0) ∧ Fld Z h r0 cS0 "scratch" "[I" (.ref cZ) ∧ ¬ ((2 : Int32) = mN) ∧ ¬ (mB < (u + ln)))
theorem rm5_2 (l : Launch) (Z : State) (a0 : Array Value) (hw : own_HW a0 Z) (ws : List Jvm.Cond) (r0 r1 : Addr) (p2 ln : Int32) (bA sA : Addr) (kS : ClassId) (u s0 s1 s2 s3 mN mB : Int32) (oZ : Addr) (kZ : ClassId) (cZ : Addr) (h0 : Heap) (n0 : Nat) (Z0 : n0 ≤ h0.size) (E_r0 : Exa Z h0 r0 cS0) (F_count_r0 : Fld Z h0 r0 cS0 "count" "I" (.int 2)) (F_used_r0 : Fld Z h0 r0 cS0 "used" "I" (.int u)) (F_bytes_r0 : Fld Z h0 r0 cS0 "bytes" "[B" (.ref bA)) (B_bA : own_B Z h0 bA (4096 : Int32)) (E_bA : Exa Z h0 bA "[B") (F_starts_r0 : Fld Z h0 r0 cS0 "starts" "[I" (.ref sA)) (V_sA : Arv Z h0 sA kS .int (256 : Int32) [(.int s0), (.int s1), (.int s2), (.int s3)] (.int 0)) (E_sA : Exa Z h0 sA "[I") (F_maxNames_r0 : Fld Z h0 r0 cS0 "maxNames" "I" (.int mN)) (F_maxBytes_r0 : Fld Z h0 r0 cS0 "maxBytes" "I" (.int mB)) (F_limit_r0 : Fld Z h0 r0 cS0 "limit" "[B" .null) (F_order_r0 : Fld Z h0 r0 cS0 "order" "[I" (.ref oZ)) (V_oZ : Arv Z h0 oZ kZ .int (0 : Int32) [] (.int 0)) (F_scratch_r0 : Fld Z h0 r0 cS0 "scratch" "[I" (.ref cZ)) (B_r1 : own_B Z h0 r1 (8 : Int32)) (E_r1 : Exa Z h0 r1 "[B") (hp0 : 0 ≤ p2.toInt ∧ p2.toInt ≤ 3) (hp1 : 0 ≤ ln.toInt ∧ ln.toInt ≤ 3) (hp2 : s0.toInt ≤ s1.toInt ∧ s1.toInt ≤ s0.toInt + 3 ∧ s1.toInt ≤ u.toInt ∧ u.toInt ≤ s1.toInt + 3 ∧ 0 ≤ s0.toInt ∧ u.toInt ≤ 50) (ge_r0 : n0 ≤ r0) (ne_sA_r0 : sA ≠ r0) (ne_bA_r0 : bA ≠ r0) (ne_oZ_r0 : oZ ≠ r0) (ge_bA : n0 ≤ bA) (ne_r0_bA : r0 ≠ bA) (ne_sA_bA : sA ≠ bA) (ge_sA : n0 ≤ sA) (ne_r0_sA : r0 ≠ sA) (ne_bA_sA : bA ≠ sA) (ne_r1_sA : r1 ≠ sA) (ne_r1_bA : r1 ≠ bA) (ne_r1_r0 : r1 ≠ r0) (ne_oZ_bA : oZ ≠ bA) (ne_oZ_sA : oZ ≠ sA) :
    own_M l Z (⟨cS0, "offer", "([BII)V"⟩ : MethodName) prog_6_method_3_code 5 none ws ({ frames := 7, cells := 3, slots := 515, locals := 110 } : Room) #[(.ref r0), (.ref r1), (.int p2), (.int (p2 + ln))] h0 (Q_5_2 Z r0 r1 p2 ln bA sA kS u s0 s1 s2 s3 mN mB oZ kZ cZ h0 n0) := by
  refine own_in cS0 rfl (plainFor_of_name pn_com_example_measurewright_measurewright_cli_NameBatch) ?_
  intro p e s m below meth c s₁ Bd hml hZ hh hx hby hown X0 e0
  have N0 := Fr.nil n0
  refine own_start (ef_5 m r0 r1 p2 (p2 + ln)) ?_
  refine own_by (fun t q => oIn X0 hx hby d5_0 rfl (oIn X0 hx hby d5_1 rfl (XS.isub X0.here hx rfl (hb hby d5_2) rfl q))) ?_
  rw [own_addsub]
  refine own_by (fun t q => XS.istore X0.here hx rfl (hb hby d5_3) rfl (l' := #[rv r0, rv r1, iv p2, iv (p2 + ln), iv ln]) rfl q) ?_
  refine own_aF X0 hx hZ hown hw 29 rfl e0 F_limit_r0 hby d5_5 rfl d5_6 fun T1 X1 e1 => ?_
  refine own_by (fun t q => XS.ifnullYes X1.here hx rfl (pc0 := 9) (pc' := 32) rfl (hb hby d5_9) rfl (by decide) (by decide) q) ?_
  refine own_aF X1 hx hZ hown hw 36 rfl e1 F_count_r0 hby d5_32 rfl d5_33 fun T2 X2 e2 => ?_
  refine own_by (fun t q => oIc X2 hx hby d5_36 (oJn X2 hx hby d5_37 (tlt (by decide : (1 : Int32) < (2 : Int32))).2.2.2 q)) ?_
  refine own_aF X2 hx hZ hown hw 36 rfl e2 F_count_r0 hby d5_40 rfl d5_41 fun T3 X3 e3 => ?_
  refine own_aF X3 hx hZ hown hw 20 rfl e3 F_maxNames_r0 hby d5_44 rfl d5_45 fun T4 X4 e4 => ?_
  by_cases hc48_5 : (2 : Int32) = mN
  · refine own_by (fun t q => oJy X4 hx hby 48 65 d5_48 (teq hc48_5).1 (by decide) (by decide) (oAn X4 hx hby d5_65 rfl rfl q)) ?_
    refine own_cP 0 (rm6_2 l Z a0 hw [] r0 bA sA kS u s0 s1 s2 s3 mN mB oZ kZ cZ h0 n0 Z0 E_r0 F_count_r0 F_used_r0 F_bytes_r0 B_bA E_bA F_starts_r0 V_sA E_sA F_maxNames_r0 F_maxBytes_r0 F_limit_r0 F_order_r0 V_oZ F_scratch_r0 hp2 ge_r0 ne_sA_r0 ne_bA_r0 ne_oZ_r0 ge_bA ne_r0_bA ne_sA_bA ge_sA ne_r0_sA ne_bA_sA) X4 hx hZ hown hw 49 50 3 51 4 52 rfl rfl rfl rfl rfl rfl r0 E_r0 [] [] hby d5_66 hml (lenOf pd_9 rfl) e4 rfl (Nat.le_refl _) (by decide) fun _ T6 L6 X6 hQ6 => ?_
    obtain ⟨lim_6, zl_6, u2_6, g0_6, g1_6, d0_6, d1_6, oA_6, kO_6, cA_6, kC_6, rfl, N6q, K6, p6_0, p6_1, p6_2, p6_3, p6_4, p6_5, p6_6, p6_7, p6_8, p6_9, p6_10, p6_11, p6_12, p6_13, p6_14, p6_15, p6_16, p6_17, p6_18, p6_19, p6_20, p6_21, p6_22, p6_23, p6_24, p6_25, p6_26⟩ := hQ6
    have pl6 := (allS (P := fun x => ∃ cell : Cell, h0[x]? = some cell ∧ cell.vm.isStatics = false) (own_ns E_r0) (allS (P := fun x => ∃ cell : Cell, h0[x]? = some cell ∧ cell.vm.isStatics = false) (own_ns E_bA) (allS (P := fun x => ∃ cell : Cell, h0[x]? = some cell ∧ cell.vm.isStatics = false) (own_ns E_sA) all0)))
    have g_lim_6 : n0 ≤ lim_6 := Nat.le_trans Z0 p6_0
    have sz_lim_6 : h0.size ≤ lim_6 := Nat.le_trans (Keep.refl h0 []).1 p6_0
    have g_oA_6 : n0 ≤ oA_6 := Nat.le_trans Z0 p6_1
    have sz_oA_6 : h0.size ≤ oA_6 := Nat.le_trans (Keep.refl h0 []).1 p6_1
    have g_cA_6 : n0 ≤ cA_6 := Nat.le_trans Z0 p6_2
    have sz_cA_6 : h0.size ≤ cA_6 := Nat.le_trans (Keep.refl h0 []).1 p6_2
    have N6 := Fr.app N0 N6q
    refine own_by (fun t q => oAn X6 hx hby d5_69 rfl rfl (oIn X6 hx hby d5_70 rfl (oIn X6 hx hby d5_71 rfl q))) ?_
    refine own_aF X6 hx hZ hown hw 29 rfl rfl p6_9 hby d5_72 rfl d5_73 fun T7 X7 e7 => ?_
    refine own_by (fun t q => oIc X7 hx hby d5_76 q) ?_
    refine own_aF X7 hx hZ hown hw 29 rfl e7 p6_9 hby d5_77 rfl d5_78 fun T8 X8 e8 => ?_
    have f10 := (B_r1.keep K6 (ninS ne_r1_r0 (ninS ne_r1_bA (ninS ne_r1_sA nin0))))
    refine own_by (fun t q => own_blen X8 hx hZ e8 p6_18 hby d5_81 q) ?_
    refine own_cK 0 (rm12 l Z a0 hw [] r1 p2 (p2 + ln) lim_6 (0 : Int32) zl_6 (8 : Int32) zl_6 T6.heap n0 (Nat.le_trans Z0 K6.1) f10 p6_18 (by have w0 := own_lits; have w1a := c_iadd p2 ln; have w1b := rng32 (p2 + ln); have v0 := own_eqm hc48_5; omega) (by have w0 := own_lits; have v0 := own_eqm hc48_5; omega)) X8 hx hZ hown hw 74 75 76 77 rfl rfl rfl rfl [(.ref r1), (.int p2), (.int (p2 + ln)), (.ref lim_6), (.int 0), (.int zl_6)] [] hby d5_82 hml (lenOf pd_8 rfl) e8 rfl (Nat.le_refl _) (by decide) fun _ T9 L9 X9 hQ9 => ?_
    obtain ⟨rr_9, rfl, N9q, e9, -⟩ := hQ9
    have N9 := Fr.app N6 N9q
    by_cases hc85_11 : rr_9 < (0 : Int32)
    · refine own_by (fun t q => XS.ifYes X9.here hx rfl (pc0 := 85) (pc' := 32) rfl (hb hby d5_85) rfl ((if0 _ _).trans (tlt hc85_11).1) (by decide) (by decide) q) ?_
      refine own_aF X9 hx hZ hown hw 36 rfl e9 p6_7 hby d5_32 rfl d5_33 fun T12 X12 e12 => ?_
      refine own_by (fun t q => oIc X12 hx hby d5_36 (oJy X12 hx hby 37 89 d5_37 (flt (by decide : ¬ ((1 : Int32) < (1 : Int32)))).2.2.2 (by decide) (by decide) q)) ?_
      refine own_aF X12 hx hZ hown hw 36 rfl e12 p6_7 hby d5_89 rfl d5_90 fun T13 X13 e13 => ?_
      refine own_aF X13 hx hZ hown hw 14 rfl e13 p6_13 hby d5_93 rfl d5_94 fun T14 X14 e14 => ?_
      refine own_by (fun t q => own_alen X14 hx hZ e14 p6_14 hby d5_97 (oJy X14 hx hby 98 125 d5_98 (feq (by decide : ¬ ((1 : Int32) = (256 : Int32)))).2 (by decide) (by decide) q)) ?_
      refine own_aF X14 hx hZ hown hw 38 rfl e14 p6_8 hby d5_125 rfl d5_126 fun T15 X15 e15 => ?_
      refine own_by (fun t q => oIl X15 hx hby d5_129 rfl (XS.iadd X15.here hx rfl (hb hby d5_131) rfl q)) ?_
      refine own_aF X15 hx hZ hown hw 11 rfl e15 p6_10 hby d5_132 rfl d5_133 fun T16 X16 e16 => ?_
      refine own_by (fun t q => own_blen X16 hx hZ e16 p6_11 hby d5_136 (oJy X16 hx hby 137 175 d5_137 (flt (show ¬ ((4096 : Int32) < (u2_6 + ln)) from (by rw [Int32.lt_iff_toInt_lt]; have w0 := own_lits; have w1a := c_iadd u2_6 ln; have w1b := rng32 (u2_6 + ln); have v0 := own_eqm hc48_5; have v1 := own_ltm hc85_11; omega))).2.2.2 (by decide) (by decide) (oAn X16 hx hby d5_175 rfl rfl (oIn X16 hx hby d5_176 rfl q)))) ?_
      refine own_aF X16 hx hZ hown hw 11 rfl e16 p6_10 hby d5_177 rfl d5_178 fun T17 X17 e17 => ?_
      refine own_aF X17 hx hZ hown hw 38 rfl e17 p6_8 hby d5_181 rfl d5_182 fun T18 X18 e18 => ?_
      obtain ⟨T19, h19, L19, X19, e19, N19, K19, Vr19, st19⟩ := own_bcp X18 hx hZ hown (own_at hw 45 rfl) (own_at hw 48 rfl) (own_at hw 46 rfl) (own_at hw 47 rfl) e18 f10 p6_11 (sp := p2) (dp := u2_6) (nn := ln) (by have w0 := own_lits; have v0 := own_eqm hc48_5; have v1 := own_ltm hc85_11; omega) N9 ge_bA (g := (mkF m 187 #[rv r0, rv r1, iv p2, iv (p2 + ln), iv ln] [(.int ln), (.int u2_6), (.ref bA), (.int p2), (.ref r1)])) rfl (by rw [hml]; rfl) rfl (hb hby d5_187) (by decide) (W := 0) (Nat.le_refl _) (by decide)
      have pl19 := (allS (P := fun x => ∃ cell : Cell, T6.heap[x]? = some cell ∧ cell.vm.isStatics = false) (own_ns p6_12) all0)
      have f20 := (p6_13.keep K19 (ninS ne_r0_bA nin0))
      refine own_by (fun t q => oIl X18 hx hby d5_185 rfl (st19 _ q)) ?_
      refine own_aF X19 hx hZ hown hw 14 rfl e19 f20 hby d5_190 rfl d5_191 fun T21 X21 e21 => ?_
      have f22 := (p6_7.keep K19 (ninS ne_r0_bA nin0))
      refine own_by (fun t q => oAn X21 hx hby d5_194 rfl rfl (XS.dup X21.here hx rfl (hb hby d5_195) rfl rfl q)) ?_
      refine own_gF X21 hx hZ hown hw 36 rfl e21 f22 hby d5_196 fun T23 X23 e23 => ?_
      have f24 := (p6_6.keep K19)
      refine own_by (fun t q => XS.dupX1 X23.here hx rfl (hb hby d5_199) rfl rfl rfl (oIc X23 hx hby d5_200 (XS.iadd X23.here hx rfl (hb hby d5_201) rfl q))) ?_
      refine own_pF X23 hx hZ hown hw 36 37 3 rfl rfl rfl e23 f22 f24 (ty := .int) (by decide) rfl rfl N19 ge_r0 hby d5_202 fun T25 h25 X25 e25 W25 Fw25 N25 => ?_
      have f26 := ((p6_8.keep K19 (ninS ne_r0_bA nin0)).other W25 (Or.inr (sn_0 hw)))
      refine own_aF X25 hx hZ hown hw 38 rfl e25 f26 hby d5_205 rfl d5_206 fun T27 X27 e27 => ?_
      have f28 := ((p6_14.keep K19 (ninS ne_sA_bA nin0)).other W25 ne_sA_r0)
      refine own_stI X27 hx hZ e27 f28 hby ⟨by decide, by decide⟩ 1 rfl (Nat.le_of_ble_eq_true rfl) N25 ge_sA d5_209 fun T29 h29 X29 e29 W29 Vr29 N29 => ?_
      have V29 : Arv Z h29 sA kS .int (256 : Int32) [(.int 0), (.int u2_6), (.int s2), (.int s3)] (.int 0) := Vr29
      have f30 := (f26.other W29 (Or.inl ne_r0_sA))
      refine own_by (fun t q => oAn X29 hx hby d5_210 rfl rfl (XS.dup X29.here hx rfl (hb hby d5_211) rfl rfl q)) ?_
      refine own_gF X29 hx hZ hown hw 38 rfl e29 f30 hby d5_212 fun T31 X31 e31 => ?_
      have f32 := ((f24.wr W25).wr W29)
      refine own_by (fun t q => oIl X31 hx hby d5_215 rfl (XS.iadd X31.here hx rfl (hb hby d5_217) rfl q)) ?_
      refine own_pF X31 hx hZ hown hw 38 39 3 rfl rfl rfl e31 f30 f32 (ty := .int) (by decide) rfl rfl N29 ge_r0 hby d5_218 fun T33 h33 X33 e33 W33 Fw33 N33 => ?_
      have f34 := (f32.wr W33)
      have f35 := ((Fw25.other W29 (Or.inl ne_r0_sA)).other W33 (Or.inr (sn_25 hw)))
      have f36 := ((((p6_9.keep K19 (ninS ne_r0_bA nin0)).other W25 (Or.inr (sn_1 hw))).other W29 (Or.inl ne_r0_sA)).other W33 (Or.inr (sn_2 hw)))
      have f37 := ((((p6_10.keep K19 (ninS ne_r0_bA nin0)).other W25 (Or.inr (sn_26 hw))).other W29 (Or.inl ne_r0_sA)).other W33 (Or.inr (sn_27 hw)))
      have f38 := (((Vr19.other W25 ne_bA_r0).other W29 ne_bA_sA).other W33 ne_bA_r0)
      have f39 := ((((p6_12.keep K19).wr W25).wr W29).wr W33)
      have f40 := (((f20.other W25 (Or.inr (sn_28 hw))).other W29 (Or.inl ne_r0_sA)).other W33 (Or.inr (sn_29 hw)))
      have f41 := (V29.other W33 ne_sA_r0)
      have f42 := ((((p6_15.keep K19).wr W25).wr W29).wr W33)
      have f43 := ((((p6_16.keep K19 (ninS ne_r0_bA nin0)).other W25 (Or.inr (sn_31 hw))).other W29 (Or.inl ne_r0_sA)).other W33 (Or.inr (sn_32 hw)))
      have f44 := ((((p6_17.keep K19 (ninS ne_r0_bA nin0)).other W25 (Or.inr (sn_34 hw))).other W29 (Or.inl ne_r0_sA)).other W33 (Or.inr (sn_35 hw)))
      have f45 := ((((p6_18.keep K19 (ninS (Ne.symm (Nat.ne_of_lt (Nat.lt_of_lt_of_le B_bA.lt p6_0))) nin0)).other W25 (Ne.symm (Nat.ne_of_lt (Nat.lt_of_lt_of_le E_r0.lt p6_0)))).other W29 (Ne.symm (Nat.ne_of_lt (Nat.lt_of_lt_of_le V_sA.lt p6_0)))).other W33 (Ne.symm (Nat.ne_of_lt (Nat.lt_of_lt_of_le E_r0.lt p6_0))))
      have f46 := ((((p6_19.keep K19).wr W25).wr W29).wr W33)
      have f47 := ((((p6_20.keep K19 (ninS ne_r0_bA nin0)).other W25 (Or.inr (sn_36 hw))).other W29 (Or.inl ne_r0_sA)).other W33 (Or.inr (sn_37 hw)))
      have f48 := ((((p6_21.keep K19 (ninS (Ne.symm (Nat.ne_of_lt (Nat.lt_of_lt_of_le B_bA.lt p6_1))) nin0)).other W25 (Ne.symm (Nat.ne_of_lt (Nat.lt_of_lt_of_le E_r0.lt p6_1)))).other W29 (Ne.symm (Nat.ne_of_lt (Nat.lt_of_lt_of_le V_sA.lt p6_1)))).other W33 (Ne.symm (Nat.ne_of_lt (Nat.lt_of_lt_of_le E_r0.lt p6_1))))
      have f49 := ((((p6_22.keep K19).wr W25).wr W29).wr W33)
      have f50 := ((((p6_23.keep K19 (ninS ne_r0_bA nin0)).other W25 (Or.inr (sn_38 hw))).other W29 (Or.inl ne_r0_sA)).other W33 (Or.inr (sn_39 hw)))
      have f51 := ((((p6_24.keep K19 (ninS (Ne.symm (Nat.ne_of_lt (Nat.lt_of_lt_of_le B_bA.lt p6_2))) nin0)).other W25 (Ne.symm (Nat.ne_of_lt (Nat.lt_of_lt_of_le E_r0.lt p6_2)))).other W29 (Ne.symm (Nat.ne_of_lt (Nat.lt_of_lt_of_le V_sA.lt p6_2)))).other W33 (Ne.symm (Nat.ne_of_lt (Nat.lt_of_lt_of_le E_r0.lt p6_2))))
      have f52 := ((((p6_25.keep K19).wr W25).wr W29).wr W33)
      refine own_out X33 Bd.notSynchronized Bd.returns (none) (fun _ => rfl) (by decide) (by decide) ?_ fun fs hr => ?_
      · rw [e33]; exact Or.inl (⟨lim_6, oA_6, kO_6, cA_6, kC_6, (0 : Int32), u2_6, s2, s3, g0_6, g1_6, d0_6, d1_6, (u2_6 + ln), zl_6, rfl, N33, ((((((Keep.refl h0 [r0, bA, sA]).trans K6 (allS (Or.inl (List.mem_of_getElem? (i := 0) rfl)) (allS (Or.inl (List.mem_of_getElem? (i := 1) rfl)) (allS (Or.inl (List.mem_of_getElem? (i := 2) rfl)) all0)))).trans K19 (allS (Or.inl (List.mem_of_getElem? (i := 1) rfl)) all0)).wr W25 (Or.inl (List.mem_of_getElem? (i := 0) rfl))).wr W29 (Or.inl (List.mem_of_getElem? (i := 2) rfl))).wr W33 (Or.inl (List.mem_of_getElem? (i := 0) rfl))), sz_lim_6, sz_oA_6, sz_cA_6, p6_3, p6_4, p6_5, f34, f35, Fw33, f36, f37, f38, f39, f40, f41, f42, f43, f44, f45, f46, f47, f48, f49, f50, f51, f52, hc48_5, (by have w0 := own_lits; have w1a := c_iadd u2_6 ln; have w1b := rng32 (u2_6 + ln); have v0 := own_eqm hc48_5; have v1 := own_ltm hc85_11; omega)⟩)
      · exact X33.returnOut hx Bd.returns (hb hby d5_221) hr
    · refine own_by (fun t q => XS.ifNo X9.here hx rfl (hb hby d5_85) rfl ((if0 _ _).trans (flt hc85_11).1) q) ?_
      refine own_out X9 Bd.notSynchronized Bd.returns (none) (fun _ => rfl) (by decide) (by decide) ?_ fun fs hr => ?_
      · rw [e9]; exact Or.inr (Or.inl (⟨lim_6, oA_6, kO_6, cA_6, kC_6, (0 : Int32), s1, s2, s3, g0_6, g1_6, d0_6, d1_6, u2_6, zl_6, rfl, N9, ((Keep.refl h0 [r0, bA, sA]).trans K6 (allS (Or.inl (List.mem_of_getElem? (i := 0) rfl)) (allS (Or.inl (List.mem_of_getElem? (i := 1) rfl)) (allS (Or.inl (List.mem_of_getElem? (i := 2) rfl)) all0)))), sz_lim_6, sz_oA_6, sz_cA_6, p6_3, p6_4, p6_5, p6_6, p6_7, p6_8, p6_9, p6_10, p6_11, p6_12, p6_13, p6_14, p6_15, p6_16, p6_17, p6_18, p6_19, p6_20, p6_21, p6_22, p6_23, p6_24, p6_25, hc48_5, (by have w0 := own_lits; have v0 := own_eqm hc48_5; have v1 := own_nlt hc85_11; omega)⟩))
      · exact X9.returnOut hx Bd.returns (hb hby d5_88) hr
  · refine own_by (fun t q => oJn X4 hx hby d5_48 (feq hc48_5).1 q) ?_
    refine own_aF X4 hx hZ hown hw 38 rfl e4 F_used_r0 hby d5_51 rfl d5_52 fun T53 X53 e53 => ?_
    refine own_by (fun t q => oIl X53 hx hby d5_55 rfl (XS.iadd X53.here hx rfl (hb hby d5_57) rfl q)) ?_
    refine own_aF X53 hx hZ hown hw 22 rfl e53 F_maxBytes_r0 hby d5_58 rfl d5_59 fun T54 X54 e54 => ?_
    by_cases hc62_55 : mB < (u + ln)
    · refine own_by (fun t q => oJn X54 hx hby d5_62 (tlt hc62_55).2.2.2 (oAn X54 hx hby d5_65 rfl rfl q)) ?_
      refine own_cP 0 (rm6_2 l Z a0 hw [] r0 bA sA kS u s0 s1 s2 s3 mN mB oZ kZ cZ h0 n0 Z0 E_r0 F_count_r0 F_used_r0 F_bytes_r0 B_bA E_bA F_starts_r0 V_sA E_sA F_maxNames_r0 F_maxBytes_r0 F_limit_r0 F_order_r0 V_oZ F_scratch_r0 hp2 ge_r0 ne_sA_r0 ne_bA_r0 ne_oZ_r0 ge_bA ne_r0_bA ne_sA_bA ge_sA ne_r0_sA ne_bA_sA) X54 hx hZ hown hw 49 50 3 51 4 52 rfl rfl rfl rfl rfl rfl r0 E_r0 [] [] hby d5_66 hml (lenOf pd_9 rfl) e54 rfl (Nat.le_refl _) (by decide) fun _ T56 L56 X56 hQ56 => ?_
      obtain ⟨lim_56, zl_56, u2_56, g0_56, g1_56, d0_56, d1_56, oA_56, kO_56, cA_56, kC_56, rfl, N56q, K56, p56_0, p56_1, p56_2, p56_3, p56_4, p56_5, p56_6, p56_7, p56_8, p56_9, p56_10, p56_11, p56_12, p56_13, p56_14, p56_15, p56_16, p56_17, p56_18, p56_19, p56_20, p56_21, p56_22, p56_23, p56_24, p56_25, p56_26⟩ := hQ56
      have pl56 := (allS (P := fun x => ∃ cell : Cell, h0[x]? = some cell ∧ cell.vm.isStatics = false) (own_ns E_r0) (allS (P := fun x => ∃ cell : Cell, h0[x]? = some cell ∧ cell.vm.isStatics = false) (own_ns E_bA) (allS (P := fun x => ∃ cell : Cell, h0[x]? = some cell ∧ cell.vm.isStatics = false) (own_ns E_sA) all0)))
      have g_lim_56 : n0 ≤ lim_56 := Nat.le_trans Z0 p56_0
      have sz_lim_56 : h0.size ≤ lim_56 := Nat.le_trans (Keep.refl h0 []).1 p56_0
      have g_oA_56 : n0 ≤ oA_56 := Nat.le_trans Z0 p56_1
      have sz_oA_56 : h0.size ≤ oA_56 := Nat.le_trans (Keep.refl h0 []).1 p56_1
      have g_cA_56 : n0 ≤ cA_56 := Nat.le_trans Z0 p56_2
      have sz_cA_56 : h0.size ≤ cA_56 := Nat.le_trans (Keep.refl h0 []).1 p56_2
      have N56 := Fr.app N0 N56q
      refine own_by (fun t q => oAn X56 hx hby d5_69 rfl rfl (oIn X56 hx hby d5_70 rfl (oIn X56 hx hby d5_71 rfl q))) ?_
      refine own_aF X56 hx hZ hown hw 29 rfl rfl p56_9 hby d5_72 rfl d5_73 fun T57 X57 e57 => ?_
      refine own_by (fun t q => oIc X57 hx hby d5_76 q) ?_
      refine own_aF X57 hx hZ hown hw 29 rfl e57 p56_9 hby d5_77 rfl d5_78 fun T58 X58 e58 => ?_
      have f60 := (B_r1.keep K56 (ninS ne_r1_r0 (ninS ne_r1_bA (ninS ne_r1_sA nin0))))
      refine own_by (fun t q => own_blen X58 hx hZ e58 p56_18 hby d5_81 q) ?_
      refine own_cK 0 (rm12 l Z a0 hw [] r1 p2 (p2 + ln) lim_56 (0 : Int32) zl_56 (8 : Int32) zl_56 T56.heap n0 (Nat.le_trans Z0 K56.1) f60 p56_18 (by have w0 := own_lits; have w1a := c_iadd u ln; have w1b := rng32 (u + ln); have w2a := c_iadd p2 ln; have w2b := rng32 (p2 + ln); have v0 := own_neq hc48_5; have v1 := own_ltm hc62_55; omega) (by have w0 := own_lits; have w1a := c_iadd u ln; have w1b := rng32 (u + ln); have v0 := own_neq hc48_5; have v1 := own_ltm hc62_55; omega)) X58 hx hZ hown hw 74 75 76 77 rfl rfl rfl rfl [(.ref r1), (.int p2), (.int (p2 + ln)), (.ref lim_56), (.int 0), (.int zl_56)] [] hby d5_82 hml (lenOf pd_8 rfl) e58 rfl (Nat.le_refl _) (by decide) fun _ T59 L59 X59 hQ59 => ?_
      obtain ⟨rr_59, rfl, N59q, e59, -⟩ := hQ59
      have N59 := Fr.app N56 N59q
      by_cases hc85_61 : rr_59 < (0 : Int32)
      · refine own_by (fun t q => XS.ifYes X59.here hx rfl (pc0 := 85) (pc' := 32) rfl (hb hby d5_85) rfl ((if0 _ _).trans (tlt hc85_61).1) (by decide) (by decide) q) ?_
        refine own_aF X59 hx hZ hown hw 36 rfl e59 p56_7 hby d5_32 rfl d5_33 fun T62 X62 e62 => ?_
        refine own_by (fun t q => oIc X62 hx hby d5_36 (oJy X62 hx hby 37 89 d5_37 (flt (by decide : ¬ ((1 : Int32) < (1 : Int32)))).2.2.2 (by decide) (by decide) q)) ?_
        refine own_aF X62 hx hZ hown hw 36 rfl e62 p56_7 hby d5_89 rfl d5_90 fun T63 X63 e63 => ?_
        refine own_aF X63 hx hZ hown hw 14 rfl e63 p56_13 hby d5_93 rfl d5_94 fun T64 X64 e64 => ?_
        refine own_by (fun t q => own_alen X64 hx hZ e64 p56_14 hby d5_97 (oJy X64 hx hby 98 125 d5_98 (feq (by decide : ¬ ((1 : Int32) = (256 : Int32)))).2 (by decide) (by decide) q)) ?_
        refine own_aF X64 hx hZ hown hw 38 rfl e64 p56_8 hby d5_125 rfl d5_126 fun T65 X65 e65 => ?_
        refine own_by (fun t q => oIl X65 hx hby d5_129 rfl (XS.iadd X65.here hx rfl (hb hby d5_131) rfl q)) ?_
        refine own_aF X65 hx hZ hown hw 11 rfl e65 p56_10 hby d5_132 rfl d5_133 fun T66 X66 e66 => ?_
        refine own_by (fun t q => own_blen X66 hx hZ e66 p56_11 hby d5_136 (oJy X66 hx hby 137 175 d5_137 (flt (show ¬ ((4096 : Int32) < (u2_56 + ln)) from (by rw [Int32.lt_iff_toInt_lt]; have w0 := own_lits; have w1a := c_iadd u ln; have w1b := rng32 (u + ln); have w2a := c_iadd u2_56 ln; have w2b := rng32 (u2_56 + ln); have v0 := own_neq hc48_5; have v1 := own_ltm hc62_55; have v2 := own_ltm hc85_61; omega))).2.2.2 (by decide) (by decide) (oAn X66 hx hby d5_175 rfl rfl (oIn X66 hx hby d5_176 rfl q)))) ?_
        refine own_aF X66 hx hZ hown hw 11 rfl e66 p56_10 hby d5_177 rfl d5_178 fun T67 X67 e67 => ?_
        refine own_aF X67 hx hZ hown hw 38 rfl e67 p56_8 hby d5_181 rfl d5_182 fun T68 X68 e68 => ?_
        obtain ⟨T69, h69, L69, X69, e69, N69, K69, Vr69, st69⟩ := own_bcp X68 hx hZ hown (own_at hw 45 rfl) (own_at hw 48 rfl) (own_at hw 46 rfl) (own_at hw 47 rfl) e68 f60 p56_11 (sp := p2) (dp := u2_56) (nn := ln) (by have w0 := own_lits; have w1a := c_iadd u ln; have w1b := rng32 (u + ln); have v0 := own_neq hc48_5; have v1 := own_ltm hc62_55; have v2 := own_ltm hc85_61; omega) N59 ge_bA (g := (mkF m 187 #[rv r0, rv r1, iv p2, iv (p2 + ln), iv ln] [(.int ln), (.int u2_56), (.ref bA), (.int p2), (.ref r1)])) rfl (by rw [hml]; rfl) rfl (hb hby d5_187) (by decide) (W := 0) (Nat.le_refl _) (by decide)
        have pl69 := (allS (P := fun x => ∃ cell : Cell, T56.heap[x]? = some cell ∧ cell.vm.isStatics = false) (own_ns p56_12) all0)
        have f70 := (p56_13.keep K69 (ninS ne_r0_bA nin0))
        refine own_by (fun t q => oIl X68 hx hby d5_185 rfl (st69 _ q)) ?_
        refine own_aF X69 hx hZ hown hw 14 rfl e69 f70 hby d5_190 rfl d5_191 fun T71 X71 e71 => ?_
        have f72 := (p56_7.keep K69 (ninS ne_r0_bA nin0))
        refine own_by (fun t q => oAn X71 hx hby d5_194 rfl rfl (XS.dup X71.here hx rfl (hb hby d5_195) rfl rfl q)) ?_
        refine own_gF X71 hx hZ hown hw 36 rfl e71 f72 hby d5_196 fun T73 X73 e73 => ?_
        have f74 := (p56_6.keep K69)
        refine own_by (fun t q => XS.dupX1 X73.here hx rfl (hb hby d5_199) rfl rfl rfl (oIc X73 hx hby d5_200 (XS.iadd X73.here hx rfl (hb hby d5_201) rfl q))) ?_
        refine own_pF X73 hx hZ hown hw 36 37 3 rfl rfl rfl e73 f72 f74 (ty := .int) (by decide) rfl rfl N69 ge_r0 hby d5_202 fun T75 h75 X75 e75 W75 Fw75 N75 => ?_
        have f76 := ((p56_8.keep K69 (ninS ne_r0_bA nin0)).other W75 (Or.inr (sn_0 hw)))
        refine own_aF X75 hx hZ hown hw 38 rfl e75 f76 hby d5_205 rfl d5_206 fun T77 X77 e77 => ?_
        have f78 := ((p56_14.keep K69 (ninS ne_sA_bA nin0)).other W75 ne_sA_r0)
        refine own_stI X77 hx hZ e77 f78 hby ⟨by decide, by decide⟩ 1 rfl (Nat.le_of_ble_eq_true rfl) N75 ge_sA d5_209 fun T79 h79 X79 e79 W79 Vr79 N79 => ?_
        have V79 : Arv Z h79 sA kS .int (256 : Int32) [(.int 0), (.int u2_56), (.int s2), (.int s3)] (.int 0) := Vr79
        have f80 := (f76.other W79 (Or.inl ne_r0_sA))
        refine own_by (fun t q => oAn X79 hx hby d5_210 rfl rfl (XS.dup X79.here hx rfl (hb hby d5_211) rfl rfl q)) ?_
        refine own_gF X79 hx hZ hown hw 38 rfl e79 f80 hby d5_212 fun T81 X81 e81 => ?_
        have f82 := ((f74.wr W75).wr W79)
        refine own_by (fun t q => oIl X81 hx hby d5_215 rfl (XS.iadd X81.here hx rfl (hb hby d5_217) rfl q)) ?_
        refine own_pF X81 hx hZ hown hw 38 39 3 rfl rfl rfl e81 f80 f82 (ty := .int) (by decide) rfl rfl N79 ge_r0 hby d5_218 fun T83 h83 X83 e83 W83 Fw83 N83 => ?_
        have f84 := (f82.wr W83)
        have f85 := ((Fw75.other W79 (Or.inl ne_r0_sA)).other W83 (Or.inr (sn_25 hw)))
        have f86 := ((((p56_9.keep K69 (ninS ne_r0_bA nin0)).other W75 (Or.inr (sn_1 hw))).other W79 (Or.inl ne_r0_sA)).other W83 (Or.inr (sn_2 hw)))
        have f87 := ((((p56_10.keep K69 (ninS ne_r0_bA nin0)).other W75 (Or.inr (sn_26 hw))).other W79 (Or.inl ne_r0_sA)).other W83 (Or.inr (sn_27 hw)))
        have f88 := (((Vr69.other W75 ne_bA_r0).other W79 ne_bA_sA).other W83 ne_bA_r0)
        have f89 := ((((p56_12.keep K69).wr W75).wr W79).wr W83)
        have f90 := (((f70.other W75 (Or.inr (sn_28 hw))).other W79 (Or.inl ne_r0_sA)).other W83 (Or.inr (sn_29 hw)))
        have f91 := (V79.other W83 ne_sA_r0)
        have f92 := ((((p56_15.keep K69).wr W75).wr W79).wr W83)
        have f93 := ((((p56_16.keep K69 (ninS ne_r0_bA nin0)).other W75 (Or.inr (sn_31 hw))).other W79 (Or.inl ne_r0_sA)).other W83 (Or.inr (sn_32 hw)))
        have f94 := ((((p56_17.keep K69 (ninS ne_r0_bA nin0)).other W75 (Or.inr (sn_34 hw))).other W79 (Or.inl ne_r0_sA)).other W83 (Or.inr (sn_35 hw)))
        have f95 := ((((p56_18.keep K69 (ninS (Ne.symm (Nat.ne_of_lt (Nat.lt_of_lt_of_le B_bA.lt p56_0))) nin0)).other W75 (Ne.symm (Nat.ne_of_lt (Nat.lt_of_lt_of_le E_r0.lt p56_0)))).other W79 (Ne.symm (Nat.ne_of_lt (Nat.lt_of_lt_of_le V_sA.lt p56_0)))).other W83 (Ne.symm (Nat.ne_of_lt (Nat.lt_of_lt_of_le E_r0.lt p56_0))))
        have f96 := ((((p56_19.keep K69).wr W75).wr W79).wr W83)
        have f97 := ((((p56_20.keep K69 (ninS ne_r0_bA nin0)).other W75 (Or.inr (sn_36 hw))).other W79 (Or.inl ne_r0_sA)).other W83 (Or.inr (sn_37 hw)))
        have f98 := ((((p56_21.keep K69 (ninS (Ne.symm (Nat.ne_of_lt (Nat.lt_of_lt_of_le B_bA.lt p56_1))) nin0)).other W75 (Ne.symm (Nat.ne_of_lt (Nat.lt_of_lt_of_le E_r0.lt p56_1)))).other W79 (Ne.symm (Nat.ne_of_lt (Nat.lt_of_lt_of_le V_sA.lt p56_1)))).other W83 (Ne.symm (Nat.ne_of_lt (Nat.lt_of_lt_of_le E_r0.lt p56_1))))
        have f99 := ((((p56_22.keep K69).wr W75).wr W79).wr W83)
        have f100 := ((((p56_23.keep K69 (ninS ne_r0_bA nin0)).other W75 (Or.inr (sn_38 hw))).other W79 (Or.inl ne_r0_sA)).other W83 (Or.inr (sn_39 hw)))
        have f101 := ((((p56_24.keep K69 (ninS (Ne.symm (Nat.ne_of_lt (Nat.lt_of_lt_of_le B_bA.lt p56_2))) nin0)).other W75 (Ne.symm (Nat.ne_of_lt (Nat.lt_of_lt_of_le E_r0.lt p56_2)))).other W79 (Ne.symm (Nat.ne_of_lt (Nat.lt_of_lt_of_le V_sA.lt p56_2)))).other W83 (Ne.symm (Nat.ne_of_lt (Nat.lt_of_lt_of_le E_r0.lt p56_2))))
        have f102 := ((((p56_25.keep K69).wr W75).wr W79).wr W83)
        refine own_out X83 Bd.notSynchronized Bd.returns (none) (fun _ => rfl) (by decide) (by decide) ?_ fun fs hr => ?_
        · rw [e83]; exact Or.inr (Or.inr (Or.inl (⟨lim_56, oA_56, kO_56, cA_56, kC_56, (0 : Int32), u2_56, s2, s3, g0_56, g1_56, d0_56, d1_56, (u2_56 + ln), zl_56, rfl, N83, ((((((Keep.refl h0 [r0, bA, sA]).trans K56 (allS (Or.inl (List.mem_of_getElem? (i := 0) rfl)) (allS (Or.inl (List.mem_of_getElem? (i := 1) rfl)) (allS (Or.inl (List.mem_of_getElem? (i := 2) rfl)) all0)))).trans K69 (allS (Or.inl (List.mem_of_getElem? (i := 1) rfl)) all0)).wr W75 (Or.inl (List.mem_of_getElem? (i := 0) rfl))).wr W79 (Or.inl (List.mem_of_getElem? (i := 2) rfl))).wr W83 (Or.inl (List.mem_of_getElem? (i := 0) rfl))), sz_lim_56, sz_oA_56, sz_cA_56, p56_3, p56_4, p56_5, f84, f85, Fw83, f86, f87, f88, f89, f90, f91, f92, f93, f94, f95, f96, f97, f98, f99, f100, f101, f102, hc62_55, (by have w0 := own_lits; have w1a := c_iadd u ln; have w1b := rng32 (u + ln); have w2a := c_iadd u2_56 ln; have w2b := rng32 (u2_56 + ln); have v0 := own_neq hc48_5; have v1 := own_ltm hc62_55; have v2 := own_ltm hc85_61; omega)⟩)))
        · exact X83.returnOut hx Bd.returns (hb hby d5_221) hr
      · refine own_by (fun t q => XS.ifNo X59.here hx rfl (hb hby d5_85) rfl ((if0 _ _).trans (flt hc85_61).1) q) ?_
        refine own_out X59 Bd.notSynchronized Bd.returns (none) (fun _ => rfl) (by decide) (by decide) ?_ fun fs hr => ?_
        · rw [e59]; exact Or.inr (Or.inr (Or.inr (Or.inl (⟨lim_56, oA_56, kO_56, cA_56, kC_56, (0 : Int32), s1, s2, s3, g0_56, g1_56, d0_56, d1_56, u2_56, zl_56, rfl, N59, ((Keep.refl h0 [r0, bA, sA]).trans K56 (allS (Or.inl (List.mem_of_getElem? (i := 0) rfl)) (allS (Or.inl (List.mem_of_getElem? (i := 1) rfl)) (allS (Or.inl (List.mem_of_getElem? (i := 2) rfl)) all0)))), sz_lim_56, sz_oA_56, sz_cA_56, p56_3, p56_4, p56_5, p56_6, p56_7, p56_8, p56_9, p56_10, p56_11, p56_12, p56_13, p56_14, p56_15, p56_16, p56_17, p56_18, p56_19, p56_20, p56_21, p56_22, p56_23, p56_24, p56_25, hc62_55, (by have w0 := own_lits; have w1a := c_iadd u ln; have w1b := rng32 (u + ln); have v0 := own_neq hc48_5; have v1 := own_ltm hc62_55; have v2 := own_nlt hc85_61; omega)⟩))))
        · exact X59.returnOut hx Bd.returns (hb hby d5_88) hr
    · refine own_by (fun t q => oJy X54 hx hby 62 89 d5_62 (flt hc62_55).2.2.2 (by decide) (by decide) q) ?_
      refine own_aF X54 hx hZ hown hw 36 rfl e54 F_count_r0 hby d5_89 rfl d5_90 fun T103 X103 e103 => ?_
      refine own_aF X103 hx hZ hown hw 14 rfl e103 F_starts_r0 hby d5_93 rfl d5_94 fun T104 X104 e104 => ?_
      refine own_by (fun t q => own_alen X104 hx hZ e104 V_sA hby d5_97 (oJy X104 hx hby 98 125 d5_98 (feq (by decide : ¬ ((2 : Int32) = (256 : Int32)))).2 (by decide) (by decide) q)) ?_
      refine own_aF X104 hx hZ hown hw 38 rfl e104 F_used_r0 hby d5_125 rfl d5_126 fun T105 X105 e105 => ?_
      refine own_by (fun t q => oIl X105 hx hby d5_129 rfl (XS.iadd X105.here hx rfl (hb hby d5_131) rfl q)) ?_
      refine own_aF X105 hx hZ hown hw 11 rfl e105 F_bytes_r0 hby d5_132 rfl d5_133 fun T106 X106 e106 => ?_
      refine own_by (fun t q => own_blen X106 hx hZ e106 B_bA hby d5_136 (oJy X106 hx hby 137 175 d5_137 (flt (show ¬ ((4096 : Int32) < (u + ln)) from (by rw [Int32.lt_iff_toInt_lt]; have w0 := own_lits; have w1a := c_iadd u ln; have w1b := rng32 (u + ln); have v0 := own_neq hc48_5; have v1 := own_nlt hc62_55; omega))).2.2.2 (by decide) (by decide) (oAn X106 hx hby d5_175 rfl rfl (oIn X106 hx hby d5_176 rfl q)))) ?_
      refine own_aF X106 hx hZ hown hw 11 rfl e106 F_bytes_r0 hby d5_177 rfl d5_178 fun T107 X107 e107 => ?_
      refine own_aF X107 hx hZ hown hw 38 rfl e107 F_used_r0 hby d5_181 rfl d5_182 fun T108 X108 e108 => ?_
      obtain ⟨T109, h109, L109, X109, e109, N109, K109, Vr109, st109⟩ := own_bcp X108 hx hZ hown (own_at hw 45 rfl) (own_at hw 48 rfl) (own_at hw 46 rfl) (own_at hw 47 rfl) e108 B_r1 B_bA (sp := p2) (dp := u) (nn := ln) (by have w0 := own_lits; have w1a := c_iadd u ln; have w1b := rng32 (u + ln); have v0 := own_neq hc48_5; have v1 := own_nlt hc62_55; omega) N0 ge_bA (g := (mkF m 187 #[rv r0, rv r1, iv p2, iv (p2 + ln), iv ln] [(.int ln), (.int u), (.ref bA), (.int p2), (.ref r1)])) rfl (by rw [hml]; rfl) rfl (hb hby d5_187) (by decide) (W := 0) (Nat.le_refl _) (by decide)
      have pl109 := (allS (P := fun x => ∃ cell : Cell, h0[x]? = some cell ∧ cell.vm.isStatics = false) (own_ns E_bA) all0)
      have f110 := (F_starts_r0.keep K109 (ninS ne_r0_bA nin0))
      refine own_by (fun t q => oIl X108 hx hby d5_185 rfl (st109 _ q)) ?_
      refine own_aF X109 hx hZ hown hw 14 rfl e109 f110 hby d5_190 rfl d5_191 fun T111 X111 e111 => ?_
      have f112 := (F_count_r0.keep K109 (ninS ne_r0_bA nin0))
      refine own_by (fun t q => oAn X111 hx hby d5_194 rfl rfl (XS.dup X111.here hx rfl (hb hby d5_195) rfl rfl q)) ?_
      refine own_gF X111 hx hZ hown hw 36 rfl e111 f112 hby d5_196 fun T113 X113 e113 => ?_
      have f114 := (E_r0.keep K109)
      refine own_by (fun t q => XS.dupX1 X113.here hx rfl (hb hby d5_199) rfl rfl rfl (oIc X113 hx hby d5_200 (XS.iadd X113.here hx rfl (hb hby d5_201) rfl q))) ?_
      refine own_pF X113 hx hZ hown hw 36 37 3 rfl rfl rfl e113 f112 f114 (ty := .int) (by decide) rfl rfl N109 ge_r0 hby d5_202 fun T115 h115 X115 e115 W115 Fw115 N115 => ?_
      have f116 := ((F_used_r0.keep K109 (ninS ne_r0_bA nin0)).other W115 (Or.inr (sn_0 hw)))
      refine own_aF X115 hx hZ hown hw 38 rfl e115 f116 hby d5_205 rfl d5_206 fun T117 X117 e117 => ?_
      have f118 := ((V_sA.keep K109 (ninS ne_sA_bA nin0)).other W115 ne_sA_r0)
      refine own_stI X117 hx hZ e117 f118 hby ⟨by decide, by decide⟩ 2 rfl (Nat.le_of_ble_eq_true rfl) N115 ge_sA d5_209 fun T119 h119 X119 e119 W119 Vr119 N119 => ?_
      have V119 : Arv Z h119 sA kS .int (256 : Int32) [(.int s0), (.int s1), (.int u), (.int s3)] (.int 0) := Vr119
      have f120 := (f116.other W119 (Or.inl ne_r0_sA))
      refine own_by (fun t q => oAn X119 hx hby d5_210 rfl rfl (XS.dup X119.here hx rfl (hb hby d5_211) rfl rfl q)) ?_
      refine own_gF X119 hx hZ hown hw 38 rfl e119 f120 hby d5_212 fun T121 X121 e121 => ?_
      have f122 := ((f114.wr W115).wr W119)
      refine own_by (fun t q => oIl X121 hx hby d5_215 rfl (XS.iadd X121.here hx rfl (hb hby d5_217) rfl q)) ?_
      refine own_pF X121 hx hZ hown hw 38 39 3 rfl rfl rfl e121 f120 f122 (ty := .int) (by decide) rfl rfl N119 ge_r0 hby d5_218 fun T123 h123 X123 e123 W123 Fw123 N123 => ?_
      have f124 := (f122.wr W123)
      have f125 := ((Fw115.other W119 (Or.inl ne_r0_sA)).other W123 (Or.inr (sn_25 hw)))
      have f126 := ((((F_bytes_r0.keep K109 (ninS ne_r0_bA nin0)).other W115 (Or.inr (sn_26 hw))).other W119 (Or.inl ne_r0_sA)).other W123 (Or.inr (sn_27 hw)))
      have f127 := (((Vr109.other W115 ne_bA_r0).other W119 ne_bA_sA).other W123 ne_bA_r0)
      have f128 := ((((E_bA.keep K109).wr W115).wr W119).wr W123)
      have f129 := (((f110.other W115 (Or.inr (sn_28 hw))).other W119 (Or.inl ne_r0_sA)).other W123 (Or.inr (sn_29 hw)))
      have f130 := (V119.other W123 ne_sA_r0)
      have f131 := ((((E_sA.keep K109).wr W115).wr W119).wr W123)
      have f132 := ((((F_maxNames_r0.keep K109 (ninS ne_r0_bA nin0)).other W115 (Or.inr (sn_31 hw))).other W119 (Or.inl ne_r0_sA)).other W123 (Or.inr (sn_32 hw)))
      have f133 := ((((F_maxBytes_r0.keep K109 (ninS ne_r0_bA nin0)).other W115 (Or.inr (sn_34 hw))).other W119 (Or.inl ne_r0_sA)).other W123 (Or.inr (sn_35 hw)))
      have f134 := ((((F_limit_r0.keep K109 (ninS ne_r0_bA nin0)).other W115 (Or.inr (sn_1 hw))).other W119 (Or.inl ne_r0_sA)).other W123 (Or.inr (sn_2 hw)))
      have f135 := ((((F_order_r0.keep K109 (ninS ne_r0_bA nin0)).other W115 (Or.inr (sn_36 hw))).other W119 (Or.inl ne_r0_sA)).other W123 (Or.inr (sn_37 hw)))
      have f136 := ((((V_oZ.keep K109 (ninS ne_oZ_bA nin0)).other W115 ne_oZ_r0).other W119 ne_oZ_sA).other W123 ne_oZ_r0)
      have f137 := ((((F_scratch_r0.keep K109 (ninS ne_r0_bA nin0)).other W115 (Or.inr (sn_38 hw))).other W119 (Or.inl ne_r0_sA)).other W123 (Or.inr (sn_39 hw)))
      refine own_out X123 Bd.notSynchronized Bd.returns (none) (fun _ => rfl) (by decide) (by decide) ?_ fun fs hr => ?_
      · rw [e123]; exact Or.inr (Or.inr (Or.inr (Or.inr ((⟨rfl, N123, (((((Keep.refl h0 [r0, bA, sA]).trans K109 (allS (Or.inl (List.mem_of_getElem? (i := 1) rfl)) all0)).wr W115 (Or.inl (List.mem_of_getElem? (i := 0) rfl))).wr W119 (Or.inl (List.mem_of_getElem? (i := 2) rfl))).wr W123 (Or.inl (List.mem_of_getElem? (i := 0) rfl))), f124, f125, Fw123, f126, f127, f128, f129, f130, f131, f132, f133, f134, f135, f136, f137, hc48_5, hc62_55⟩)))))
      · exact X123.returnOut hx Bd.returns (hb hby d5_221) hr
def Q_5_3 (Z : State) (r0 r1 : Addr) (p2 ln : Int32) (bA sA : Addr) (kS : ClassId) (u s0 s1 s2 s3 mN mB : Int32) (oZ : Addr) (kZ : ClassId) (cZ : Addr) (h0 : Heap) (n0 : Nat) (v : Option Value) (h : Heap) (L : List Loc) : Prop := (∃ lim : Addr, ∃ cn : Int32, ∃ us : Int32, v = none ∧ Fr n0 L ∧ Keep h0 h [r0, bA, sA] ∧ Exa Z h r0 cS0 ∧ Fld Z h r0 cS0 "limit" "[B" (.ref lim) ∧ Fld Z h r0 cS0 "count" "I" (.int cn) ∧ Fld Z h r0 cS0 "used" "I" (.int us) ∧ (3 : Int32) = mN) ∨ (∃ lim : Addr, ∃ cn : Int32, ∃ us : Int32, v = none ∧ Fr n0 L ∧ Keep h0 h [r0, bA, sA] ∧ Exa Z h r0 cS0 ∧ Fld Z h r0 cS0 "limit" "[B" (.ref lim) ∧ Fld Z h r0 cS0 "count" "I" (.int cn) ∧ Fld Z h r0 cS0 "used" "I" (.int us) ∧ mB < (u + ln)) ∨ (v = none ∧ Fr n0 L ∧ Keep h0 h [r0, bA, sA] ∧ Exa Z h r0 cS0 ∧ Fld Z h r0 cS0 "count" "I" (.int 4) ∧ Fld Z h r0 cS0 "used" "I" (.int (u + ln)) ∧ Fld Z h r0 cS0 "bytes" "[B" (.ref bA) ∧ own_B Z h bA (4096 : Int32) ∧ Exa Z h bA "[B" ∧ Fld Z h r0 cS0 "starts" "[I" (.ref sA) ∧ Arv Z h sA kS .int (256 : Int32) [(.int s0), (.int s1), (.int s2), (.int u)] (.int 0) ∧ Exa Z h sA "[I" ∧ Fld Z h r0 cS0 "maxNames" "I" (.int mN) ∧ Fld Z h r0 cS0 "maxBytes" "I" (.int mB) ∧ Fld Z h r0 cS0 "limit" "[B" .null ∧ Fld Z h r0 cS0 "order" "[I" (.ref oZ) ∧ Arv Z h oZ kZ .int (0 : Int32) [] (.int 0) ∧ Fld Z h r0 cS0 "scratch" "[I" (.ref cZ) ∧ ¬ ((3 : Int32) = mN) ∧ ¬ (mB < (u + ln)))
theorem rm5_3 (l : Launch) (Z : State) (a0 : Array Value) (hw : own_HW a0 Z) (ws : List Jvm.Cond) (r0 r1 : Addr) (p2 ln : Int32) (bA sA : Addr) (kS : ClassId) (u s0 s1 s2 s3 mN mB : Int32) (oZ : Addr) (kZ : ClassId) (cZ : Addr) (h0 : Heap) (n0 : Nat) (Z0 : n0 ≤ h0.size) (E_r0 : Exa Z h0 r0 cS0) (F_count_r0 : Fld Z h0 r0 cS0 "count" "I" (.int 3)) (F_used_r0 : Fld Z h0 r0 cS0 "used" "I" (.int u)) (F_bytes_r0 : Fld Z h0 r0 cS0 "bytes" "[B" (.ref bA)) (B_bA : own_B Z h0 bA (4096 : Int32)) (E_bA : Exa Z h0 bA "[B") (F_starts_r0 : Fld Z h0 r0 cS0 "starts" "[I" (.ref sA)) (V_sA : Arv Z h0 sA kS .int (256 : Int32) [(.int s0), (.int s1), (.int s2), (.int s3)] (.int 0)) (E_sA : Exa Z h0 sA "[I") (F_maxNames_r0 : Fld Z h0 r0 cS0 "maxNames" "I" (.int mN)) (F_maxBytes_r0 : Fld Z h0 r0 cS0 "maxBytes" "I" (.int mB)) (F_limit_r0 : Fld Z h0 r0 cS0 "limit" "[B" .null) (F_order_r0 : Fld Z h0 r0 cS0 "order" "[I" (.ref oZ)) (V_oZ : Arv Z h0 oZ kZ .int (0 : Int32) [] (.int 0)) (F_scratch_r0 : Fld Z h0 r0 cS0 "scratch" "[I" (.ref cZ)) (B_r1 : own_B Z h0 r1 (8 : Int32)) (E_r1 : Exa Z h0 r1 "[B") (hp0 : 0 ≤ p2.toInt ∧ p2.toInt ≤ 3) (hp1 : 0 ≤ ln.toInt ∧ ln.toInt ≤ 3) (hp2 : s0.toInt ≤ s1.toInt ∧ s1.toInt ≤ s0.toInt + 3 ∧ s1.toInt ≤ s2.toInt ∧ s2.toInt ≤ s1.toInt + 3 ∧ s2.toInt ≤ u.toInt ∧ u.toInt ≤ s2.toInt + 3 ∧ 0 ≤ s0.toInt ∧ u.toInt ≤ 50) (ge_r0 : n0 ≤ r0) (ne_sA_r0 : sA ≠ r0) (ne_bA_r0 : bA ≠ r0) (ne_oZ_r0 : oZ ≠ r0) (ge_bA : n0 ≤ bA) (ne_r0_bA : r0 ≠ bA) (ne_sA_bA : sA ≠ bA) (ge_sA : n0 ≤ sA) (ne_r0_sA : r0 ≠ sA) (ne_bA_sA : bA ≠ sA) (ne_r1_sA : r1 ≠ sA) (ne_r1_bA : r1 ≠ bA) (ne_r1_r0 : r1 ≠ r0) (ne_oZ_bA : oZ ≠ bA) (ne_oZ_sA : oZ ≠ sA) :
    own_M l Z (⟨cS0, "offer", "([BII)V"⟩ : MethodName) prog_6_method_3_code 5 none ws ({ frames := 7, cells := 3, slots := 515, locals := 110 } : Room) #[(.ref r0), (.ref r1), (.int p2), (.int (p2 + ln))] h0 (Q_5_3 Z r0 r1 p2 ln bA sA kS u s0 s1 s2 s3 mN mB oZ kZ cZ h0 n0) := by
  refine own_in cS0 rfl (plainFor_of_name pn_com_example_measurewright_measurewright_cli_NameBatch) ?_
  intro p e s m below meth c s₁ Bd hml hZ hh hx hby hown X0 e0
  have N0 := Fr.nil n0
  refine own_start (ef_5 m r0 r1 p2 (p2 + ln)) ?_
  refine own_by (fun t q => oIn X0 hx hby d5_0 rfl (oIn X0 hx hby d5_1 rfl (XS.isub X0.here hx rfl (hb hby d5_2) rfl q))) ?_
  rw [own_addsub]
  refine own_by (fun t q => XS.istore X0.here hx rfl (hb hby d5_3) rfl (l' := #[rv r0, rv r1, iv p2, iv (p2 + ln), iv ln]) rfl q) ?_
  refine own_aF X0 hx hZ hown hw 29 rfl e0 F_limit_r0 hby d5_5 rfl d5_6 fun T1 X1 e1 => ?_
  refine own_by (fun t q => XS.ifnullYes X1.here hx rfl (pc0 := 9) (pc' := 32) rfl (hb hby d5_9) rfl (by decide) (by decide) q) ?_
  refine own_aF X1 hx hZ hown hw 36 rfl e1 F_count_r0 hby d5_32 rfl d5_33 fun T2 X2 e2 => ?_
  refine own_by (fun t q => oIc X2 hx hby d5_36 (oJn X2 hx hby d5_37 (tlt (by decide : (1 : Int32) < (3 : Int32))).2.2.2 q)) ?_
  refine own_aF X2 hx hZ hown hw 36 rfl e2 F_count_r0 hby d5_40 rfl d5_41 fun T3 X3 e3 => ?_
  refine own_aF X3 hx hZ hown hw 20 rfl e3 F_maxNames_r0 hby d5_44 rfl d5_45 fun T4 X4 e4 => ?_
  by_cases hc48_5 : (3 : Int32) = mN
  · refine own_by (fun t q => oJy X4 hx hby 48 65 d5_48 (teq hc48_5).1 (by decide) (by decide) (oAn X4 hx hby d5_65 rfl rfl q)) ?_
    refine own_cP 0 (rm6_3 l Z a0 hw [] r0 bA sA kS u s0 s1 s2 s3 mN mB oZ kZ cZ h0 n0 Z0 E_r0 F_count_r0 F_used_r0 F_bytes_r0 B_bA E_bA F_starts_r0 V_sA E_sA F_maxNames_r0 F_maxBytes_r0 F_limit_r0 F_order_r0 V_oZ F_scratch_r0 hp2 ge_r0 ne_sA_r0 ne_bA_r0 ne_oZ_r0 ge_bA ne_r0_bA ne_sA_bA ge_sA ne_r0_sA ne_bA_sA) X4 hx hZ hown hw 49 50 3 51 4 52 rfl rfl rfl rfl rfl rfl r0 E_r0 [] [] hby d5_66 hml (lenOf pd_9 rfl) e4 rfl (Nat.le_refl _) (by decide) fun _ T6 L6 X6 hQ6 => ?_
    obtain ⟨lim_6, zl_6, u2_6, g0_6, g1_6, g2_6, d0_6, d1_6, d2_6, oA_6, kO_6, cA_6, kC_6, rfl, N6q, K6, p6_0, p6_1, p6_2, p6_3, p6_4, p6_5, p6_6, p6_7, p6_8, p6_9, p6_10, p6_11, p6_12, p6_13, p6_14, p6_15, p6_16, p6_17, p6_18, p6_19, p6_20, p6_21, p6_22, p6_23, p6_24, p6_25, p6_26⟩ := hQ6
    have pl6 := (allS (P := fun x => ∃ cell : Cell, h0[x]? = some cell ∧ cell.vm.isStatics = false) (own_ns E_r0) (allS (P := fun x => ∃ cell : Cell, h0[x]? = some cell ∧ cell.vm.isStatics = false) (own_ns E_bA) (allS (P := fun x => ∃ cell : Cell, h0[x]? = some cell ∧ cell.vm.isStatics = false) (own_ns E_sA) all0)))
    have g_lim_6 : n0 ≤ lim_6 := Nat.le_trans Z0 p6_0
    have sz_lim_6 : h0.size ≤ lim_6 := Nat.le_trans (Keep.refl h0 []).1 p6_0
    have g_oA_6 : n0 ≤ oA_6 := Nat.le_trans Z0 p6_1
    have sz_oA_6 : h0.size ≤ oA_6 := Nat.le_trans (Keep.refl h0 []).1 p6_1
    have g_cA_6 : n0 ≤ cA_6 := Nat.le_trans Z0 p6_2
    have sz_cA_6 : h0.size ≤ cA_6 := Nat.le_trans (Keep.refl h0 []).1 p6_2
    have N6 := Fr.app N0 N6q
    refine own_by (fun t q => oAn X6 hx hby d5_69 rfl rfl (oIn X6 hx hby d5_70 rfl (oIn X6 hx hby d5_71 rfl q))) ?_
    refine own_aF X6 hx hZ hown hw 29 rfl rfl p6_9 hby d5_72 rfl d5_73 fun T7 X7 e7 => ?_
    refine own_by (fun t q => oIc X7 hx hby d5_76 q) ?_
    refine own_aF X7 hx hZ hown hw 29 rfl e7 p6_9 hby d5_77 rfl d5_78 fun T8 X8 e8 => ?_
    have f10 := (B_r1.keep K6 (ninS ne_r1_r0 (ninS ne_r1_bA (ninS ne_r1_sA nin0))))
    refine own_by (fun t q => own_blen X8 hx hZ e8 p6_18 hby d5_81 q) ?_
    refine own_cK 0 (rm12 l Z a0 hw [] r1 p2 (p2 + ln) lim_6 (0 : Int32) zl_6 (8 : Int32) zl_6 T6.heap n0 (Nat.le_trans Z0 K6.1) f10 p6_18 (by have w0 := own_lits; have w1a := c_iadd p2 ln; have w1b := rng32 (p2 + ln); have v0 := own_eqm hc48_5; omega) (by have w0 := own_lits; have v0 := own_eqm hc48_5; omega)) X8 hx hZ hown hw 74 75 76 77 rfl rfl rfl rfl [(.ref r1), (.int p2), (.int (p2 + ln)), (.ref lim_6), (.int 0), (.int zl_6)] [] hby d5_82 hml (lenOf pd_8 rfl) e8 rfl (Nat.le_refl _) (by decide) fun _ T9 L9 X9 hQ9 => ?_
    obtain ⟨rr_9, rfl, N9q, e9, -⟩ := hQ9
    have N9 := Fr.app N6 N9q
    by_cases hc85_11 : rr_9 < (0 : Int32)
    · refine own_by (fun t q => XS.ifYes X9.here hx rfl (pc0 := 85) (pc' := 32) rfl (hb hby d5_85) rfl ((if0 _ _).trans (tlt hc85_11).1) (by decide) (by decide) q) ?_
      refine own_aF X9 hx hZ hown hw 36 rfl e9 p6_7 hby d5_32 rfl d5_33 fun T12 X12 e12 => ?_
      refine own_by (fun t q => oIc X12 hx hby d5_36 (oJy X12 hx hby 37 89 d5_37 (flt (by decide : ¬ ((1 : Int32) < (1 : Int32)))).2.2.2 (by decide) (by decide) q)) ?_
      refine own_aF X12 hx hZ hown hw 36 rfl e12 p6_7 hby d5_89 rfl d5_90 fun T13 X13 e13 => ?_
      refine own_aF X13 hx hZ hown hw 14 rfl e13 p6_13 hby d5_93 rfl d5_94 fun T14 X14 e14 => ?_
      refine own_by (fun t q => own_alen X14 hx hZ e14 p6_14 hby d5_97 (oJy X14 hx hby 98 125 d5_98 (feq (by decide : ¬ ((1 : Int32) = (256 : Int32)))).2 (by decide) (by decide) q)) ?_
      refine own_aF X14 hx hZ hown hw 38 rfl e14 p6_8 hby d5_125 rfl d5_126 fun T15 X15 e15 => ?_
      refine own_by (fun t q => oIl X15 hx hby d5_129 rfl (XS.iadd X15.here hx rfl (hb hby d5_131) rfl q)) ?_
      refine own_aF X15 hx hZ hown hw 11 rfl e15 p6_10 hby d5_132 rfl d5_133 fun T16 X16 e16 => ?_
      refine own_by (fun t q => own_blen X16 hx hZ e16 p6_11 hby d5_136 (oJy X16 hx hby 137 175 d5_137 (flt (show ¬ ((4096 : Int32) < (u2_6 + ln)) from (by rw [Int32.lt_iff_toInt_lt]; have w0 := own_lits; have w1a := c_iadd u2_6 ln; have w1b := rng32 (u2_6 + ln); have v0 := own_eqm hc48_5; have v1 := own_ltm hc85_11; omega))).2.2.2 (by decide) (by decide) (oAn X16 hx hby d5_175 rfl rfl (oIn X16 hx hby d5_176 rfl q)))) ?_
      refine own_aF X16 hx hZ hown hw 11 rfl e16 p6_10 hby d5_177 rfl d5_178 fun T17 X17 e17 => ?_
      refine own_aF X17 hx hZ hown hw 38 rfl e17 p6_8 hby d5_181 rfl d5_182 fun T18 X18 e18 => ?_
      obtain ⟨T19, h19, L19, X19, e19, N19, K19, Vr19, st19⟩ := own_bcp X18 hx hZ hown (own_at hw 45 rfl) (own_at hw 48 rfl) (own_at hw 46 rfl) (own_at hw 47 rfl) e18 f10 p6_11 (sp := p2) (dp := u2_6) (nn := ln) (by have w0 := own_lits; have v0 := own_eqm hc48_5; have v1 := own_ltm hc85_11; omega) N9 ge_bA (g := (mkF m 187 #[rv r0, rv r1, iv p2, iv (p2 + ln), iv ln] [(.int ln), (.int u2_6), (.ref bA), (.int p2), (.ref r1)])) rfl (by rw [hml]; rfl) rfl (hb hby d5_187) (by decide) (W := 0) (Nat.le_refl _) (by decide)
      have pl19 := (allS (P := fun x => ∃ cell : Cell, T6.heap[x]? = some cell ∧ cell.vm.isStatics = false) (own_ns p6_12) all0)
      have f20 := (p6_13.keep K19 (ninS ne_r0_bA nin0))
      refine own_by (fun t q => oIl X18 hx hby d5_185 rfl (st19 _ q)) ?_
      refine own_aF X19 hx hZ hown hw 14 rfl e19 f20 hby d5_190 rfl d5_191 fun T21 X21 e21 => ?_
      have f22 := (p6_7.keep K19 (ninS ne_r0_bA nin0))
      refine own_by (fun t q => oAn X21 hx hby d5_194 rfl rfl (XS.dup X21.here hx rfl (hb hby d5_195) rfl rfl q)) ?_
      refine own_gF X21 hx hZ hown hw 36 rfl e21 f22 hby d5_196 fun T23 X23 e23 => ?_
      have f24 := (p6_6.keep K19)
      refine own_by (fun t q => XS.dupX1 X23.here hx rfl (hb hby d5_199) rfl rfl rfl (oIc X23 hx hby d5_200 (XS.iadd X23.here hx rfl (hb hby d5_201) rfl q))) ?_
      refine own_pF X23 hx hZ hown hw 36 37 3 rfl rfl rfl e23 f22 f24 (ty := .int) (by decide) rfl rfl N19 ge_r0 hby d5_202 fun T25 h25 X25 e25 W25 Fw25 N25 => ?_
      have f26 := ((p6_8.keep K19 (ninS ne_r0_bA nin0)).other W25 (Or.inr (sn_0 hw)))
      refine own_aF X25 hx hZ hown hw 38 rfl e25 f26 hby d5_205 rfl d5_206 fun T27 X27 e27 => ?_
      have f28 := ((p6_14.keep K19 (ninS ne_sA_bA nin0)).other W25 ne_sA_r0)
      refine own_stI X27 hx hZ e27 f28 hby ⟨by decide, by decide⟩ 1 rfl (Nat.le_of_ble_eq_true rfl) N25 ge_sA d5_209 fun T29 h29 X29 e29 W29 Vr29 N29 => ?_
      have V29 : Arv Z h29 sA kS .int (256 : Int32) [(.int 0), (.int u2_6), (.int s2), (.int s3)] (.int 0) := Vr29
      have f30 := (f26.other W29 (Or.inl ne_r0_sA))
      refine own_by (fun t q => oAn X29 hx hby d5_210 rfl rfl (XS.dup X29.here hx rfl (hb hby d5_211) rfl rfl q)) ?_
      refine own_gF X29 hx hZ hown hw 38 rfl e29 f30 hby d5_212 fun T31 X31 e31 => ?_
      have f32 := ((f24.wr W25).wr W29)
      refine own_by (fun t q => oIl X31 hx hby d5_215 rfl (XS.iadd X31.here hx rfl (hb hby d5_217) rfl q)) ?_
      refine own_pF X31 hx hZ hown hw 38 39 3 rfl rfl rfl e31 f30 f32 (ty := .int) (by decide) rfl rfl N29 ge_r0 hby d5_218 fun T33 h33 X33 e33 W33 Fw33 N33 => ?_
      have f34 := (f32.wr W33)
      have f35 := ((((p6_9.keep K19 (ninS ne_r0_bA nin0)).other W25 (Or.inr (sn_1 hw))).other W29 (Or.inl ne_r0_sA)).other W33 (Or.inr (sn_2 hw)))
      have f36 := ((Fw25.other W29 (Or.inl ne_r0_sA)).other W33 (Or.inr (sn_25 hw)))
      refine own_out X33 Bd.notSynchronized Bd.returns (none) (fun _ => rfl) (by decide) (by decide) ?_ fun fs hr => ?_
      · rw [e33]; exact Or.inl (⟨lim_6, (2 : Int32), (u2_6 + ln), rfl, N33, ((((((Keep.refl h0 [r0, bA, sA]).trans K6 (allS (Or.inl (List.mem_of_getElem? (i := 0) rfl)) (allS (Or.inl (List.mem_of_getElem? (i := 1) rfl)) (allS (Or.inl (List.mem_of_getElem? (i := 2) rfl)) all0)))).trans K19 (allS (Or.inl (List.mem_of_getElem? (i := 1) rfl)) all0)).wr W25 (Or.inl (List.mem_of_getElem? (i := 0) rfl))).wr W29 (Or.inl (List.mem_of_getElem? (i := 2) rfl))).wr W33 (Or.inl (List.mem_of_getElem? (i := 0) rfl))), f34, f35, f36, Fw33, hc48_5⟩)
      · exact X33.returnOut hx Bd.returns (hb hby d5_221) hr
    · refine own_by (fun t q => XS.ifNo X9.here hx rfl (hb hby d5_85) rfl ((if0 _ _).trans (flt hc85_11).1) q) ?_
      refine own_out X9 Bd.notSynchronized Bd.returns (none) (fun _ => rfl) (by decide) (by decide) ?_ fun fs hr => ?_
      · rw [e9]; exact Or.inl (⟨lim_6, (1 : Int32), u2_6, rfl, N9, ((Keep.refl h0 [r0, bA, sA]).trans K6 (allS (Or.inl (List.mem_of_getElem? (i := 0) rfl)) (allS (Or.inl (List.mem_of_getElem? (i := 1) rfl)) (allS (Or.inl (List.mem_of_getElem? (i := 2) rfl)) all0)))), p6_6, p6_9, p6_7, p6_8, hc48_5⟩)
      · exact X9.returnOut hx Bd.returns (hb hby d5_88) hr
  · refine own_by (fun t q => oJn X4 hx hby d5_48 (feq hc48_5).1 q) ?_
    refine own_aF X4 hx hZ hown hw 38 rfl e4 F_used_r0 hby d5_51 rfl d5_52 fun T37 X37 e37 => ?_
    refine own_by (fun t q => oIl X37 hx hby d5_55 rfl (XS.iadd X37.here hx rfl (hb hby d5_57) rfl q)) ?_
    refine own_aF X37 hx hZ hown hw 22 rfl e37 F_maxBytes_r0 hby d5_58 rfl d5_59 fun T38 X38 e38 => ?_
    by_cases hc62_39 : mB < (u + ln)
    · refine own_by (fun t q => oJn X38 hx hby d5_62 (tlt hc62_39).2.2.2 (oAn X38 hx hby d5_65 rfl rfl q)) ?_
      refine own_cP 0 (rm6_3 l Z a0 hw [] r0 bA sA kS u s0 s1 s2 s3 mN mB oZ kZ cZ h0 n0 Z0 E_r0 F_count_r0 F_used_r0 F_bytes_r0 B_bA E_bA F_starts_r0 V_sA E_sA F_maxNames_r0 F_maxBytes_r0 F_limit_r0 F_order_r0 V_oZ F_scratch_r0 hp2 ge_r0 ne_sA_r0 ne_bA_r0 ne_oZ_r0 ge_bA ne_r0_bA ne_sA_bA ge_sA ne_r0_sA ne_bA_sA) X38 hx hZ hown hw 49 50 3 51 4 52 rfl rfl rfl rfl rfl rfl r0 E_r0 [] [] hby d5_66 hml (lenOf pd_9 rfl) e38 rfl (Nat.le_refl _) (by decide) fun _ T40 L40 X40 hQ40 => ?_
      obtain ⟨lim_40, zl_40, u2_40, g0_40, g1_40, g2_40, d0_40, d1_40, d2_40, oA_40, kO_40, cA_40, kC_40, rfl, N40q, K40, p40_0, p40_1, p40_2, p40_3, p40_4, p40_5, p40_6, p40_7, p40_8, p40_9, p40_10, p40_11, p40_12, p40_13, p40_14, p40_15, p40_16, p40_17, p40_18, p40_19, p40_20, p40_21, p40_22, p40_23, p40_24, p40_25, p40_26⟩ := hQ40
      have pl40 := (allS (P := fun x => ∃ cell : Cell, h0[x]? = some cell ∧ cell.vm.isStatics = false) (own_ns E_r0) (allS (P := fun x => ∃ cell : Cell, h0[x]? = some cell ∧ cell.vm.isStatics = false) (own_ns E_bA) (allS (P := fun x => ∃ cell : Cell, h0[x]? = some cell ∧ cell.vm.isStatics = false) (own_ns E_sA) all0)))
      have g_lim_40 : n0 ≤ lim_40 := Nat.le_trans Z0 p40_0
      have sz_lim_40 : h0.size ≤ lim_40 := Nat.le_trans (Keep.refl h0 []).1 p40_0
      have g_oA_40 : n0 ≤ oA_40 := Nat.le_trans Z0 p40_1
      have sz_oA_40 : h0.size ≤ oA_40 := Nat.le_trans (Keep.refl h0 []).1 p40_1
      have g_cA_40 : n0 ≤ cA_40 := Nat.le_trans Z0 p40_2
      have sz_cA_40 : h0.size ≤ cA_40 := Nat.le_trans (Keep.refl h0 []).1 p40_2
      have N40 := Fr.app N0 N40q
      refine own_by (fun t q => oAn X40 hx hby d5_69 rfl rfl (oIn X40 hx hby d5_70 rfl (oIn X40 hx hby d5_71 rfl q))) ?_
      refine own_aF X40 hx hZ hown hw 29 rfl rfl p40_9 hby d5_72 rfl d5_73 fun T41 X41 e41 => ?_
      refine own_by (fun t q => oIc X41 hx hby d5_76 q) ?_
      refine own_aF X41 hx hZ hown hw 29 rfl e41 p40_9 hby d5_77 rfl d5_78 fun T42 X42 e42 => ?_
      have f44 := (B_r1.keep K40 (ninS ne_r1_r0 (ninS ne_r1_bA (ninS ne_r1_sA nin0))))
      refine own_by (fun t q => own_blen X42 hx hZ e42 p40_18 hby d5_81 q) ?_
      refine own_cK 0 (rm12 l Z a0 hw [] r1 p2 (p2 + ln) lim_40 (0 : Int32) zl_40 (8 : Int32) zl_40 T40.heap n0 (Nat.le_trans Z0 K40.1) f44 p40_18 (by have w0 := own_lits; have w1a := c_iadd u ln; have w1b := rng32 (u + ln); have w2a := c_iadd p2 ln; have w2b := rng32 (p2 + ln); have v0 := own_neq hc48_5; have v1 := own_ltm hc62_39; omega) (by have w0 := own_lits; have w1a := c_iadd u ln; have w1b := rng32 (u + ln); have v0 := own_neq hc48_5; have v1 := own_ltm hc62_39; omega)) X42 hx hZ hown hw 74 75 76 77 rfl rfl rfl rfl [(.ref r1), (.int p2), (.int (p2 + ln)), (.ref lim_40), (.int 0), (.int zl_40)] [] hby d5_82 hml (lenOf pd_8 rfl) e42 rfl (Nat.le_refl _) (by decide) fun _ T43 L43 X43 hQ43 => ?_
      obtain ⟨rr_43, rfl, N43q, e43, -⟩ := hQ43
      have N43 := Fr.app N40 N43q
      by_cases hc85_45 : rr_43 < (0 : Int32)
      · refine own_by (fun t q => XS.ifYes X43.here hx rfl (pc0 := 85) (pc' := 32) rfl (hb hby d5_85) rfl ((if0 _ _).trans (tlt hc85_45).1) (by decide) (by decide) q) ?_
        refine own_aF X43 hx hZ hown hw 36 rfl e43 p40_7 hby d5_32 rfl d5_33 fun T46 X46 e46 => ?_
        refine own_by (fun t q => oIc X46 hx hby d5_36 (oJy X46 hx hby 37 89 d5_37 (flt (by decide : ¬ ((1 : Int32) < (1 : Int32)))).2.2.2 (by decide) (by decide) q)) ?_
        refine own_aF X46 hx hZ hown hw 36 rfl e46 p40_7 hby d5_89 rfl d5_90 fun T47 X47 e47 => ?_
        refine own_aF X47 hx hZ hown hw 14 rfl e47 p40_13 hby d5_93 rfl d5_94 fun T48 X48 e48 => ?_
        refine own_by (fun t q => own_alen X48 hx hZ e48 p40_14 hby d5_97 (oJy X48 hx hby 98 125 d5_98 (feq (by decide : ¬ ((1 : Int32) = (256 : Int32)))).2 (by decide) (by decide) q)) ?_
        refine own_aF X48 hx hZ hown hw 38 rfl e48 p40_8 hby d5_125 rfl d5_126 fun T49 X49 e49 => ?_
        refine own_by (fun t q => oIl X49 hx hby d5_129 rfl (XS.iadd X49.here hx rfl (hb hby d5_131) rfl q)) ?_
        refine own_aF X49 hx hZ hown hw 11 rfl e49 p40_10 hby d5_132 rfl d5_133 fun T50 X50 e50 => ?_
        refine own_by (fun t q => own_blen X50 hx hZ e50 p40_11 hby d5_136 (oJy X50 hx hby 137 175 d5_137 (flt (show ¬ ((4096 : Int32) < (u2_40 + ln)) from (by rw [Int32.lt_iff_toInt_lt]; have w0 := own_lits; have w1a := c_iadd u ln; have w1b := rng32 (u + ln); have w2a := c_iadd u2_40 ln; have w2b := rng32 (u2_40 + ln); have v0 := own_neq hc48_5; have v1 := own_ltm hc62_39; have v2 := own_ltm hc85_45; omega))).2.2.2 (by decide) (by decide) (oAn X50 hx hby d5_175 rfl rfl (oIn X50 hx hby d5_176 rfl q)))) ?_
        refine own_aF X50 hx hZ hown hw 11 rfl e50 p40_10 hby d5_177 rfl d5_178 fun T51 X51 e51 => ?_
        refine own_aF X51 hx hZ hown hw 38 rfl e51 p40_8 hby d5_181 rfl d5_182 fun T52 X52 e52 => ?_
        obtain ⟨T53, h53, L53, X53, e53, N53, K53, Vr53, st53⟩ := own_bcp X52 hx hZ hown (own_at hw 45 rfl) (own_at hw 48 rfl) (own_at hw 46 rfl) (own_at hw 47 rfl) e52 f44 p40_11 (sp := p2) (dp := u2_40) (nn := ln) (by have w0 := own_lits; have w1a := c_iadd u ln; have w1b := rng32 (u + ln); have v0 := own_neq hc48_5; have v1 := own_ltm hc62_39; have v2 := own_ltm hc85_45; omega) N43 ge_bA (g := (mkF m 187 #[rv r0, rv r1, iv p2, iv (p2 + ln), iv ln] [(.int ln), (.int u2_40), (.ref bA), (.int p2), (.ref r1)])) rfl (by rw [hml]; rfl) rfl (hb hby d5_187) (by decide) (W := 0) (Nat.le_refl _) (by decide)
        have pl53 := (allS (P := fun x => ∃ cell : Cell, T40.heap[x]? = some cell ∧ cell.vm.isStatics = false) (own_ns p40_12) all0)
        have f54 := (p40_13.keep K53 (ninS ne_r0_bA nin0))
        refine own_by (fun t q => oIl X52 hx hby d5_185 rfl (st53 _ q)) ?_
        refine own_aF X53 hx hZ hown hw 14 rfl e53 f54 hby d5_190 rfl d5_191 fun T55 X55 e55 => ?_
        have f56 := (p40_7.keep K53 (ninS ne_r0_bA nin0))
        refine own_by (fun t q => oAn X55 hx hby d5_194 rfl rfl (XS.dup X55.here hx rfl (hb hby d5_195) rfl rfl q)) ?_
        refine own_gF X55 hx hZ hown hw 36 rfl e55 f56 hby d5_196 fun T57 X57 e57 => ?_
        have f58 := (p40_6.keep K53)
        refine own_by (fun t q => XS.dupX1 X57.here hx rfl (hb hby d5_199) rfl rfl rfl (oIc X57 hx hby d5_200 (XS.iadd X57.here hx rfl (hb hby d5_201) rfl q))) ?_
        refine own_pF X57 hx hZ hown hw 36 37 3 rfl rfl rfl e57 f56 f58 (ty := .int) (by decide) rfl rfl N53 ge_r0 hby d5_202 fun T59 h59 X59 e59 W59 Fw59 N59 => ?_
        have f60 := ((p40_8.keep K53 (ninS ne_r0_bA nin0)).other W59 (Or.inr (sn_0 hw)))
        refine own_aF X59 hx hZ hown hw 38 rfl e59 f60 hby d5_205 rfl d5_206 fun T61 X61 e61 => ?_
        have f62 := ((p40_14.keep K53 (ninS ne_sA_bA nin0)).other W59 ne_sA_r0)
        refine own_stI X61 hx hZ e61 f62 hby ⟨by decide, by decide⟩ 1 rfl (Nat.le_of_ble_eq_true rfl) N59 ge_sA d5_209 fun T63 h63 X63 e63 W63 Vr63 N63 => ?_
        have V63 : Arv Z h63 sA kS .int (256 : Int32) [(.int 0), (.int u2_40), (.int s2), (.int s3)] (.int 0) := Vr63
        have f64 := (f60.other W63 (Or.inl ne_r0_sA))
        refine own_by (fun t q => oAn X63 hx hby d5_210 rfl rfl (XS.dup X63.here hx rfl (hb hby d5_211) rfl rfl q)) ?_
        refine own_gF X63 hx hZ hown hw 38 rfl e63 f64 hby d5_212 fun T65 X65 e65 => ?_
        have f66 := ((f58.wr W59).wr W63)
        refine own_by (fun t q => oIl X65 hx hby d5_215 rfl (XS.iadd X65.here hx rfl (hb hby d5_217) rfl q)) ?_
        refine own_pF X65 hx hZ hown hw 38 39 3 rfl rfl rfl e65 f64 f66 (ty := .int) (by decide) rfl rfl N63 ge_r0 hby d5_218 fun T67 h67 X67 e67 W67 Fw67 N67 => ?_
        have f68 := (f66.wr W67)
        have f69 := ((((p40_9.keep K53 (ninS ne_r0_bA nin0)).other W59 (Or.inr (sn_1 hw))).other W63 (Or.inl ne_r0_sA)).other W67 (Or.inr (sn_2 hw)))
        have f70 := ((Fw59.other W63 (Or.inl ne_r0_sA)).other W67 (Or.inr (sn_25 hw)))
        refine own_out X67 Bd.notSynchronized Bd.returns (none) (fun _ => rfl) (by decide) (by decide) ?_ fun fs hr => ?_
        · rw [e67]; exact Or.inr (Or.inl (⟨lim_40, (2 : Int32), (u2_40 + ln), rfl, N67, ((((((Keep.refl h0 [r0, bA, sA]).trans K40 (allS (Or.inl (List.mem_of_getElem? (i := 0) rfl)) (allS (Or.inl (List.mem_of_getElem? (i := 1) rfl)) (allS (Or.inl (List.mem_of_getElem? (i := 2) rfl)) all0)))).trans K53 (allS (Or.inl (List.mem_of_getElem? (i := 1) rfl)) all0)).wr W59 (Or.inl (List.mem_of_getElem? (i := 0) rfl))).wr W63 (Or.inl (List.mem_of_getElem? (i := 2) rfl))).wr W67 (Or.inl (List.mem_of_getElem? (i := 0) rfl))), f68, f69, f70, Fw67, hc62_39⟩))
        · exact X67.returnOut hx Bd.returns (hb hby d5_221) hr
      · refine own_by (fun t q => XS.ifNo X43.here hx rfl (hb hby d5_85) rfl ((if0 _ _).trans (flt hc85_45).1) q) ?_
        refine own_out X43 Bd.notSynchronized Bd.returns (none) (fun _ => rfl) (by decide) (by decide) ?_ fun fs hr => ?_
        · rw [e43]; exact Or.inr (Or.inl (⟨lim_40, (1 : Int32), u2_40, rfl, N43, ((Keep.refl h0 [r0, bA, sA]).trans K40 (allS (Or.inl (List.mem_of_getElem? (i := 0) rfl)) (allS (Or.inl (List.mem_of_getElem? (i := 1) rfl)) (allS (Or.inl (List.mem_of_getElem? (i := 2) rfl)) all0)))), p40_6, p40_9, p40_7, p40_8, hc62_39⟩))
        · exact X43.returnOut hx Bd.returns (hb hby d5_88) hr
    · refine own_by (fun t q => oJy X38 hx hby 62 89 d5_62 (flt hc62_39).2.2.2 (by decide) (by decide) q) ?_
      refine own_aF X38 hx hZ hown hw 36 rfl e38 F_count_r0 hby d5_89 rfl d5_90 fun T71 X71 e71 => ?_
      refine own_aF X71 hx hZ hown hw 14 rfl e71 F_starts_r0 hby d5_93 rfl d5_94 fun T72 X72 e72 => ?_
      refine own_by (fun t q => own_alen X72 hx hZ e72 V_sA hby d5_97 (oJy X72 hx hby 98 125 d5_98 (feq (by decide : ¬ ((3 : Int32) = (256 : Int32)))).2 (by decide) (by decide) q)) ?_
      refine own_aF X72 hx hZ hown hw 38 rfl e72 F_used_r0 hby d5_125 rfl d5_126 fun T73 X73 e73 => ?_
      refine own_by (fun t q => oIl X73 hx hby d5_129 rfl (XS.iadd X73.here hx rfl (hb hby d5_131) rfl q)) ?_
      refine own_aF X73 hx hZ hown hw 11 rfl e73 F_bytes_r0 hby d5_132 rfl d5_133 fun T74 X74 e74 => ?_
      refine own_by (fun t q => own_blen X74 hx hZ e74 B_bA hby d5_136 (oJy X74 hx hby 137 175 d5_137 (flt (show ¬ ((4096 : Int32) < (u + ln)) from (by rw [Int32.lt_iff_toInt_lt]; have w0 := own_lits; have w1a := c_iadd u ln; have w1b := rng32 (u + ln); have v0 := own_neq hc48_5; have v1 := own_nlt hc62_39; omega))).2.2.2 (by decide) (by decide) (oAn X74 hx hby d5_175 rfl rfl (oIn X74 hx hby d5_176 rfl q)))) ?_
      refine own_aF X74 hx hZ hown hw 11 rfl e74 F_bytes_r0 hby d5_177 rfl d5_178 fun T75 X75 e75 => ?_
      refine own_aF X75 hx hZ hown hw 38 rfl e75 F_used_r0 hby d5_181 rfl d5_182 fun T76 X76 e76 => ?_
      obtain ⟨T77, h77, L77, X77, e77, N77, K77, Vr77, st77⟩ := own_bcp X76 hx hZ hown (own_at hw 45 rfl) (own_at hw 48 rfl) (own_at hw 46 rfl) (own_at hw 47 rfl) e76 B_r1 B_bA (sp := p2) (dp := u) (nn := ln) (by have w0 := own_lits; have w1a := c_iadd u ln; have w1b := rng32 (u + ln); have v0 := own_neq hc48_5; have v1 := own_nlt hc62_39; omega) N0 ge_bA (g := (mkF m 187 #[rv r0, rv r1, iv p2, iv (p2 + ln), iv ln] [(.int ln), (.int u), (.ref bA), (.int p2), (.ref r1)])) rfl (by rw [hml]; rfl) rfl (hb hby d5_187) (by decide) (W := 0) (Nat.le_refl _) (by decide)
      have pl77 := (allS (P := fun x => ∃ cell : Cell, h0[x]? = some cell ∧ cell.vm.isStatics = false) (own_ns E_bA) all0)
      have f78 := (F_starts_r0.keep K77 (ninS ne_r0_bA nin0))
      refine own_by (fun t q => oIl X76 hx hby d5_185 rfl (st77 _ q)) ?_
      refine own_aF X77 hx hZ hown hw 14 rfl e77 f78 hby d5_190 rfl d5_191 fun T79 X79 e79 => ?_
      have f80 := (F_count_r0.keep K77 (ninS ne_r0_bA nin0))
      refine own_by (fun t q => oAn X79 hx hby d5_194 rfl rfl (XS.dup X79.here hx rfl (hb hby d5_195) rfl rfl q)) ?_
      refine own_gF X79 hx hZ hown hw 36 rfl e79 f80 hby d5_196 fun T81 X81 e81 => ?_
      have f82 := (E_r0.keep K77)
      refine own_by (fun t q => XS.dupX1 X81.here hx rfl (hb hby d5_199) rfl rfl rfl (oIc X81 hx hby d5_200 (XS.iadd X81.here hx rfl (hb hby d5_201) rfl q))) ?_
      refine own_pF X81 hx hZ hown hw 36 37 3 rfl rfl rfl e81 f80 f82 (ty := .int) (by decide) rfl rfl N77 ge_r0 hby d5_202 fun T83 h83 X83 e83 W83 Fw83 N83 => ?_
      have f84 := ((F_used_r0.keep K77 (ninS ne_r0_bA nin0)).other W83 (Or.inr (sn_0 hw)))
      refine own_aF X83 hx hZ hown hw 38 rfl e83 f84 hby d5_205 rfl d5_206 fun T85 X85 e85 => ?_
      have f86 := ((V_sA.keep K77 (ninS ne_sA_bA nin0)).other W83 ne_sA_r0)
      refine own_stI X85 hx hZ e85 f86 hby ⟨by decide, by decide⟩ 3 rfl (Nat.le_of_ble_eq_true rfl) N83 ge_sA d5_209 fun T87 h87 X87 e87 W87 Vr87 N87 => ?_
      have V87 : Arv Z h87 sA kS .int (256 : Int32) [(.int s0), (.int s1), (.int s2), (.int u)] (.int 0) := Vr87
      have f88 := (f84.other W87 (Or.inl ne_r0_sA))
      refine own_by (fun t q => oAn X87 hx hby d5_210 rfl rfl (XS.dup X87.here hx rfl (hb hby d5_211) rfl rfl q)) ?_
      refine own_gF X87 hx hZ hown hw 38 rfl e87 f88 hby d5_212 fun T89 X89 e89 => ?_
      have f90 := ((f82.wr W83).wr W87)
      refine own_by (fun t q => oIl X89 hx hby d5_215 rfl (XS.iadd X89.here hx rfl (hb hby d5_217) rfl q)) ?_
      refine own_pF X89 hx hZ hown hw 38 39 3 rfl rfl rfl e89 f88 f90 (ty := .int) (by decide) rfl rfl N87 ge_r0 hby d5_218 fun T91 h91 X91 e91 W91 Fw91 N91 => ?_
      have f92 := (f90.wr W91)
      have f93 := ((Fw83.other W87 (Or.inl ne_r0_sA)).other W91 (Or.inr (sn_25 hw)))
      have f94 := ((((F_bytes_r0.keep K77 (ninS ne_r0_bA nin0)).other W83 (Or.inr (sn_26 hw))).other W87 (Or.inl ne_r0_sA)).other W91 (Or.inr (sn_27 hw)))
      have f95 := (((Vr77.other W83 ne_bA_r0).other W87 ne_bA_sA).other W91 ne_bA_r0)
      have f96 := ((((E_bA.keep K77).wr W83).wr W87).wr W91)
      have f97 := (((f78.other W83 (Or.inr (sn_28 hw))).other W87 (Or.inl ne_r0_sA)).other W91 (Or.inr (sn_29 hw)))
      have f98 := (V87.other W91 ne_sA_r0)
      have f99 := ((((E_sA.keep K77).wr W83).wr W87).wr W91)
      have f100 := ((((F_maxNames_r0.keep K77 (ninS ne_r0_bA nin0)).other W83 (Or.inr (sn_31 hw))).other W87 (Or.inl ne_r0_sA)).other W91 (Or.inr (sn_32 hw)))
      have f101 := ((((F_maxBytes_r0.keep K77 (ninS ne_r0_bA nin0)).other W83 (Or.inr (sn_34 hw))).other W87 (Or.inl ne_r0_sA)).other W91 (Or.inr (sn_35 hw)))
      have f102 := ((((F_limit_r0.keep K77 (ninS ne_r0_bA nin0)).other W83 (Or.inr (sn_1 hw))).other W87 (Or.inl ne_r0_sA)).other W91 (Or.inr (sn_2 hw)))
      have f103 := ((((F_order_r0.keep K77 (ninS ne_r0_bA nin0)).other W83 (Or.inr (sn_36 hw))).other W87 (Or.inl ne_r0_sA)).other W91 (Or.inr (sn_37 hw)))
      have f104 := ((((V_oZ.keep K77 (ninS ne_oZ_bA nin0)).other W83 ne_oZ_r0).other W87 ne_oZ_sA).other W91 ne_oZ_r0)
      have f105 := ((((F_scratch_r0.keep K77 (ninS ne_r0_bA nin0)).other W83 (Or.inr (sn_38 hw))).other W87 (Or.inl ne_r0_sA)).other W91 (Or.inr (sn_39 hw)))
      refine own_out X91 Bd.notSynchronized Bd.returns (none) (fun _ => rfl) (by decide) (by decide) ?_ fun fs hr => ?_
      · rw [e91]; exact Or.inr (Or.inr ((⟨rfl, N91, (((((Keep.refl h0 [r0, bA, sA]).trans K77 (allS (Or.inl (List.mem_of_getElem? (i := 1) rfl)) all0)).wr W83 (Or.inl (List.mem_of_getElem? (i := 0) rfl))).wr W87 (Or.inl (List.mem_of_getElem? (i := 2) rfl))).wr W91 (Or.inl (List.mem_of_getElem? (i := 0) rfl))), f92, f93, Fw91, f94, f95, f96, f97, f98, f99, f100, f101, f102, f103, f104, f105, hc48_5, hc62_39⟩)))
      · exact X91.returnOut hx Bd.returns (hb hby d5_221) hr
theorem d5_12 : decode prog_6_method_3_code 12 = .ok (.aload_n 1, 1) := by decide +kernel
theorem d5_13 : decode prog_6_method_3_code 13 = .ok (.iload_n 2, 1) := by decide +kernel
theorem d5_14 : decode prog_6_method_3_code 14 = .ok (.iload_n 3, 1) := by decide +kernel
theorem d5_15 : decode prog_6_method_3_code 15 = .ok (.aload_n 0, 1) := by decide +kernel
theorem d5_16 : decode prog_6_method_3_code 16 = .ok (.getfield 36, 3) := by decide +kernel
theorem d5_19 : decode prog_6_method_3_code 19 = .ok (.iconst 0, 1) := by decide +kernel
theorem d5_20 : decode prog_6_method_3_code 20 = .ok (.aload_n 0, 1) := by decide +kernel
theorem d5_21 : decode prog_6_method_3_code 21 = .ok (.getfield 36, 3) := by decide +kernel
theorem d5_24 : decode prog_6_method_3_code 24 = .ok (.arraylength, 1) := by decide +kernel
theorem d5_25 : decode prog_6_method_3_code 25 = .ok (.invokestatic 39, 3) := by decide +kernel
theorem d5_28 : decode prog_6_method_3_code 28 = .ok (.ifCond .lt 4, 3) := by decide +kernel
theorem d5_31 : decode prog_6_method_3_code 31 = .ok (.return_, 1) := by decide +kernel
def Q_5_h1 (Z : State) (r0 r1 : Addr) (p2 ln zl : Int32) (lim bA sA : Addr) (kS : ClassId) (u s0 s1 s2 s3 mN mB : Int32) (oA : Addr) (kO : ClassId) (cA : Addr) (kC : ClassId) (o0 o1 c0 c1 : Int32) (h0 : Heap) (n0 : Nat) (v : Option Value) (h : Heap) (L : List Loc) : Prop := ∃ lm : Addr, ∃ cn : Int32, ∃ us : Int32, v = none ∧ Fr n0 L ∧ Keep h0 h [r0, bA, sA, oA, cA] ∧ Exa Z h r0 cS0 ∧ Fld Z h r0 cS0 "limit" "[B" (.ref lm) ∧ Fld Z h r0 cS0 "count" "I" (.int cn) ∧ Fld Z h r0 cS0 "used" "I" (.int us)
theorem rm5_h1 (l : Launch) (Z : State) (a0 : Array Value) (hw : own_HW a0 Z) (ws : List Jvm.Cond) (r0 r1 : Addr) (p2 ln zl : Int32) (lim bA sA : Addr) (kS : ClassId) (u s0 s1 s2 s3 mN mB : Int32) (oA : Addr) (kO : ClassId) (cA : Addr) (kC : ClassId) (o0 o1 c0 c1 : Int32) (h0 : Heap) (n0 : Nat) (Z0 : n0 ≤ h0.size) (E_r0 : Exa Z h0 r0 cS0) (F_count_r0 : Fld Z h0 r0 cS0 "count" "I" (.int 1)) (F_used_r0 : Fld Z h0 r0 cS0 "used" "I" (.int u)) (F_limit_r0 : Fld Z h0 r0 cS0 "limit" "[B" (.ref lim)) (F_bytes_r0 : Fld Z h0 r0 cS0 "bytes" "[B" (.ref bA)) (B_bA : own_B Z h0 bA (4096 : Int32)) (E_bA : Exa Z h0 bA "[B") (F_starts_r0 : Fld Z h0 r0 cS0 "starts" "[I" (.ref sA)) (V_sA : Arv Z h0 sA kS .int (256 : Int32) [(.int s0), (.int s1), (.int s2), (.int s3)] (.int 0)) (E_sA : Exa Z h0 sA "[I") (B_lim : own_B Z h0 lim zl) (E_lim : Exa Z h0 lim "[B") (F_maxNames_r0 : Fld Z h0 r0 cS0 "maxNames" "I" (.int mN)) (F_maxBytes_r0 : Fld Z h0 r0 cS0 "maxBytes" "I" (.int mB)) (F_order_r0 : Fld Z h0 r0 cS0 "order" "[I" (.ref oA)) (V_oA : Arv Z h0 oA kO .int (256 : Int32) [(.int o0), (.int o1)] (.int 0)) (E_oA : Exa Z h0 oA "[I") (F_scratch_r0 : Fld Z h0 r0 cS0 "scratch" "[I" (.ref cA)) (V_cA : Arv Z h0 cA kC .int (256 : Int32) [(.int c0), (.int c1)] (.int 0)) (E_cA : Exa Z h0 cA "[I") (B_r1 : own_B Z h0 r1 (8 : Int32)) (E_r1 : Exa Z h0 r1 "[B") (hp0 : 0 ≤ p2.toInt ∧ p2.toInt ≤ 3) (hp1 : 0 ≤ ln.toInt ∧ ln.toInt ≤ 3) (hp2 : (0 ≤ zl.toInt ∧ zl.toInt ≤ 3) ∧ s0.toInt ≤ u.toInt ∧ u.toInt ≤ s0.toInt + 3 ∧ 0 ≤ s0.toInt ∧ u.toInt ≤ 50) (ge_bA : n0 ≤ bA) (ne_r0_bA : r0 ≠ bA) (ge_r0 : n0 ≤ r0) (ne_sA_bA : sA ≠ bA) (ne_sA_r0 : sA ≠ r0) (ge_sA : n0 ≤ sA) (ne_r0_sA : r0 ≠ sA) :
    own_M l Z (⟨cS0, "offer", "([BII)V"⟩ : MethodName) prog_6_method_3_code 5 none ws ({ frames := 3, cells := 0, slots := 0, locals := 46 } : Room) #[(.ref r0), (.ref r1), (.int p2), (.int (p2 + ln))] h0 (Q_5_h1 Z r0 r1 p2 ln zl lim bA sA kS u s0 s1 s2 s3 mN mB oA kO cA kC o0 o1 c0 c1 h0 n0) := by
  refine own_in cS0 rfl (plainFor_of_name pn_com_example_measurewright_measurewright_cli_NameBatch) ?_
  intro p e s m below meth c s₁ Bd hml hZ hh hx hby hown X0 e0
  have N0 := Fr.nil n0
  refine own_start (ef_5 m r0 r1 p2 (p2 + ln)) ?_
  refine own_by (fun t q => oIn X0 hx hby d5_0 rfl (oIn X0 hx hby d5_1 rfl (XS.isub X0.here hx rfl (hb hby d5_2) rfl q))) ?_
  rw [own_addsub]
  refine own_by (fun t q => XS.istore X0.here hx rfl (hb hby d5_3) rfl (l' := #[rv r0, rv r1, iv p2, iv (p2 + ln), iv ln]) rfl q) ?_
  refine own_aF X0 hx hZ hown hw 29 rfl e0 F_limit_r0 hby d5_5 rfl d5_6 fun T1 X1 e1 => ?_
  refine own_by (fun t q => XS.ifnullNo X1.here hx rfl (hb hby d5_9) rfl (oAn X1 hx hby d5_12 rfl rfl (oIn X1 hx hby d5_13 rfl (oIn X1 hx hby d5_14 rfl q)))) ?_
  refine own_aF X1 hx hZ hown hw 29 rfl e1 F_limit_r0 hby d5_15 rfl d5_16 fun T2 X2 e2 => ?_
  refine own_by (fun t q => oIc X2 hx hby d5_19 q) ?_
  refine own_aF X2 hx hZ hown hw 29 rfl e2 F_limit_r0 hby d5_20 rfl d5_21 fun T3 X3 e3 => ?_
  refine own_by (fun t q => own_blen X3 hx hZ e3 B_lim hby d5_24 q) ?_
  refine own_cK 0 (rm12 l Z a0 hw [] r1 p2 (p2 + ln) lim (0 : Int32) zl (8 : Int32) zl h0 n0 Z0 B_r1 B_lim (by have w0 := own_lits; have w1a := c_iadd p2 ln; have w1b := rng32 (p2 + ln); omega) (by have w0 := own_lits; omega)) X3 hx hZ hown hw 74 75 76 77 rfl rfl rfl rfl [(.ref r1), (.int p2), (.int (p2 + ln)), (.ref lim), (.int 0), (.int zl)] [] hby d5_25 hml (lenOf pd_8 rfl) e3 rfl (Nat.le_refl _) (by decide) fun _ T4 L4 X4 hQ4 => ?_
  obtain ⟨rr_4, rfl, N4q, e4, -⟩ := hQ4
  have N4 := Fr.app N0 N4q
  by_cases hc28_5 : rr_4 < (0 : Int32)
  · refine own_by (fun t q => XS.ifYes X4.here hx rfl (pc0 := 28) (pc' := 32) rfl (hb hby d5_28) rfl ((if0 _ _).trans (tlt hc28_5).1) (by decide) (by decide) q) ?_
    refine own_aF X4 hx hZ hown hw 36 rfl e4 F_count_r0 hby d5_32 rfl d5_33 fun T6 X6 e6 => ?_
    refine own_by (fun t q => oIc X6 hx hby d5_36 (oJy X6 hx hby 37 89 d5_37 (flt (by decide : ¬ ((1 : Int32) < (1 : Int32)))).2.2.2 (by decide) (by decide) q)) ?_
    refine own_aF X6 hx hZ hown hw 36 rfl e6 F_count_r0 hby d5_89 rfl d5_90 fun T7 X7 e7 => ?_
    refine own_aF X7 hx hZ hown hw 14 rfl e7 F_starts_r0 hby d5_93 rfl d5_94 fun T8 X8 e8 => ?_
    refine own_by (fun t q => own_alen X8 hx hZ e8 V_sA hby d5_97 (oJy X8 hx hby 98 125 d5_98 (feq (by decide : ¬ ((1 : Int32) = (256 : Int32)))).2 (by decide) (by decide) q)) ?_
    refine own_aF X8 hx hZ hown hw 38 rfl e8 F_used_r0 hby d5_125 rfl d5_126 fun T9 X9 e9 => ?_
    refine own_by (fun t q => oIl X9 hx hby d5_129 rfl (XS.iadd X9.here hx rfl (hb hby d5_131) rfl q)) ?_
    refine own_aF X9 hx hZ hown hw 11 rfl e9 F_bytes_r0 hby d5_132 rfl d5_133 fun T10 X10 e10 => ?_
    refine own_by (fun t q => own_blen X10 hx hZ e10 B_bA hby d5_136 (oJy X10 hx hby 137 175 d5_137 (flt (show ¬ ((4096 : Int32) < (u + ln)) from (by rw [Int32.lt_iff_toInt_lt]; have w0 := own_lits; have w1a := c_iadd u ln; have w1b := rng32 (u + ln); have v0 := own_ltm hc28_5; omega))).2.2.2 (by decide) (by decide) (oAn X10 hx hby d5_175 rfl rfl (oIn X10 hx hby d5_176 rfl q)))) ?_
    refine own_aF X10 hx hZ hown hw 11 rfl e10 F_bytes_r0 hby d5_177 rfl d5_178 fun T11 X11 e11 => ?_
    refine own_aF X11 hx hZ hown hw 38 rfl e11 F_used_r0 hby d5_181 rfl d5_182 fun T12 X12 e12 => ?_
    obtain ⟨T13, h13, L13, X13, e13, N13, K13, Vr13, st13⟩ := own_bcp X12 hx hZ hown (own_at hw 45 rfl) (own_at hw 48 rfl) (own_at hw 46 rfl) (own_at hw 47 rfl) e12 B_r1 B_bA (sp := p2) (dp := u) (nn := ln) (by have w0 := own_lits; have v0 := own_ltm hc28_5; omega) N4 ge_bA (g := (mkF m 187 #[rv r0, rv r1, iv p2, iv (p2 + ln), iv ln] [(.int ln), (.int u), (.ref bA), (.int p2), (.ref r1)])) rfl (by rw [hml]; rfl) rfl (hb hby d5_187) (by decide) (W := 0) (Nat.le_refl _) (by decide)
    have pl13 := (allS (P := fun x => ∃ cell : Cell, h0[x]? = some cell ∧ cell.vm.isStatics = false) (own_ns E_bA) all0)
    have f14 := (F_starts_r0.keep K13 (ninS ne_r0_bA nin0))
    refine own_by (fun t q => oIl X12 hx hby d5_185 rfl (st13 _ q)) ?_
    refine own_aF X13 hx hZ hown hw 14 rfl e13 f14 hby d5_190 rfl d5_191 fun T15 X15 e15 => ?_
    have f16 := (F_count_r0.keep K13 (ninS ne_r0_bA nin0))
    refine own_by (fun t q => oAn X15 hx hby d5_194 rfl rfl (XS.dup X15.here hx rfl (hb hby d5_195) rfl rfl q)) ?_
    refine own_gF X15 hx hZ hown hw 36 rfl e15 f16 hby d5_196 fun T17 X17 e17 => ?_
    have f18 := (E_r0.keep K13)
    refine own_by (fun t q => XS.dupX1 X17.here hx rfl (hb hby d5_199) rfl rfl rfl (oIc X17 hx hby d5_200 (XS.iadd X17.here hx rfl (hb hby d5_201) rfl q))) ?_
    refine own_pF X17 hx hZ hown hw 36 37 3 rfl rfl rfl e17 f16 f18 (ty := .int) (by decide) rfl rfl N13 ge_r0 hby d5_202 fun T19 h19 X19 e19 W19 Fw19 N19 => ?_
    have f20 := ((F_used_r0.keep K13 (ninS ne_r0_bA nin0)).other W19 (Or.inr (sn_0 hw)))
    refine own_aF X19 hx hZ hown hw 38 rfl e19 f20 hby d5_205 rfl d5_206 fun T21 X21 e21 => ?_
    have f22 := ((V_sA.keep K13 (ninS ne_sA_bA nin0)).other W19 ne_sA_r0)
    refine own_stI X21 hx hZ e21 f22 hby ⟨by decide, by decide⟩ 1 rfl (Nat.le_of_ble_eq_true rfl) N19 ge_sA d5_209 fun T23 h23 X23 e23 W23 Vr23 N23 => ?_
    have V23 : Arv Z h23 sA kS .int (256 : Int32) [(.int s0), (.int u), (.int s2), (.int s3)] (.int 0) := Vr23
    have f24 := (f20.other W23 (Or.inl ne_r0_sA))
    refine own_by (fun t q => oAn X23 hx hby d5_210 rfl rfl (XS.dup X23.here hx rfl (hb hby d5_211) rfl rfl q)) ?_
    refine own_gF X23 hx hZ hown hw 38 rfl e23 f24 hby d5_212 fun T25 X25 e25 => ?_
    have f26 := ((f18.wr W19).wr W23)
    refine own_by (fun t q => oIl X25 hx hby d5_215 rfl (XS.iadd X25.here hx rfl (hb hby d5_217) rfl q)) ?_
    refine own_pF X25 hx hZ hown hw 38 39 3 rfl rfl rfl e25 f24 f26 (ty := .int) (by decide) rfl rfl N23 ge_r0 hby d5_218 fun T27 h27 X27 e27 W27 Fw27 N27 => ?_
    have f28 := (f26.wr W27)
    have f29 := ((((F_limit_r0.keep K13 (ninS ne_r0_bA nin0)).other W19 (Or.inr (sn_1 hw))).other W23 (Or.inl ne_r0_sA)).other W27 (Or.inr (sn_2 hw)))
    have f30 := ((Fw19.other W23 (Or.inl ne_r0_sA)).other W27 (Or.inr (sn_25 hw)))
    refine own_out X27 Bd.notSynchronized Bd.returns (none) (fun _ => rfl) (by decide) (by decide) ?_ fun fs hr => ?_
    · rw [e27]; exact ⟨lim, (2 : Int32), (u + ln), rfl, N27, (((((Keep.refl h0 [r0, bA, sA, oA, cA]).trans K13 (allS (Or.inl (List.mem_of_getElem? (i := 1) rfl)) all0)).wr W19 (Or.inl (List.mem_of_getElem? (i := 0) rfl))).wr W23 (Or.inl (List.mem_of_getElem? (i := 2) rfl))).wr W27 (Or.inl (List.mem_of_getElem? (i := 0) rfl))), f28, f29, f30, Fw27⟩
    · exact X27.returnOut hx Bd.returns (hb hby d5_221) hr
  · refine own_by (fun t q => XS.ifNo X4.here hx rfl (hb hby d5_28) rfl ((if0 _ _).trans (flt hc28_5).1) q) ?_
    refine own_out X4 Bd.notSynchronized Bd.returns (none) (fun _ => rfl) (by decide) (by decide) ?_ fun fs hr => ?_
    · rw [e4]; exact ⟨lim, (1 : Int32), u, rfl, N4, (Keep.refl h0 [r0, bA, sA, oA, cA]), E_r0, F_limit_r0, F_count_r0, F_used_r0⟩
    · exact X4.returnOut hx Bd.returns (hb hby d5_31) hr
def Q_5_h2 (Z : State) (r0 r1 : Addr) (p2 ln zl : Int32) (lim bA sA : Addr) (kS : ClassId) (u s0 s1 s2 s3 mN mB : Int32) (oA : Addr) (kO : ClassId) (cA : Addr) (kC : ClassId) (o0 o1 c0 c1 : Int32) (h0 : Heap) (n0 : Nat) (v : Option Value) (h : Heap) (L : List Loc) : Prop := ∃ lm : Addr, ∃ cn : Int32, ∃ us : Int32, v = none ∧ Fr n0 L ∧ Keep h0 h [r0, bA, sA, oA, cA] ∧ Exa Z h r0 cS0 ∧ Fld Z h r0 cS0 "limit" "[B" (.ref lm) ∧ Fld Z h r0 cS0 "count" "I" (.int cn) ∧ Fld Z h r0 cS0 "used" "I" (.int us)
theorem rm5_h2 (l : Launch) (Z : State) (a0 : Array Value) (hw : own_HW a0 Z) (ws : List Jvm.Cond) (r0 r1 : Addr) (p2 ln zl : Int32) (lim bA sA : Addr) (kS : ClassId) (u s0 s1 s2 s3 mN mB : Int32) (oA : Addr) (kO : ClassId) (cA : Addr) (kC : ClassId) (o0 o1 c0 c1 : Int32) (h0 : Heap) (n0 : Nat) (Z0 : n0 ≤ h0.size) (E_r0 : Exa Z h0 r0 cS0) (F_count_r0 : Fld Z h0 r0 cS0 "count" "I" (.int 2)) (F_used_r0 : Fld Z h0 r0 cS0 "used" "I" (.int u)) (F_limit_r0 : Fld Z h0 r0 cS0 "limit" "[B" (.ref lim)) (F_bytes_r0 : Fld Z h0 r0 cS0 "bytes" "[B" (.ref bA)) (B_bA : own_B Z h0 bA (4096 : Int32)) (E_bA : Exa Z h0 bA "[B") (F_starts_r0 : Fld Z h0 r0 cS0 "starts" "[I" (.ref sA)) (V_sA : Arv Z h0 sA kS .int (256 : Int32) [(.int s0), (.int s1), (.int s2), (.int s3)] (.int 0)) (E_sA : Exa Z h0 sA "[I") (B_lim : own_B Z h0 lim zl) (E_lim : Exa Z h0 lim "[B") (F_maxNames_r0 : Fld Z h0 r0 cS0 "maxNames" "I" (.int mN)) (F_maxBytes_r0 : Fld Z h0 r0 cS0 "maxBytes" "I" (.int mB)) (F_order_r0 : Fld Z h0 r0 cS0 "order" "[I" (.ref oA)) (V_oA : Arv Z h0 oA kO .int (256 : Int32) [(.int o0), (.int o1)] (.int 0)) (E_oA : Exa Z h0 oA "[I") (F_scratch_r0 : Fld Z h0 r0 cS0 "scratch" "[I" (.ref cA)) (V_cA : Arv Z h0 cA kC .int (256 : Int32) [(.int c0), (.int c1)] (.int 0)) (E_cA : Exa Z h0 cA "[I") (B_r1 : own_B Z h0 r1 (8 : Int32)) (E_r1 : Exa Z h0 r1 "[B") (hp0 : 0 ≤ p2.toInt ∧ p2.toInt ≤ 3) (hp1 : 0 ≤ ln.toInt ∧ ln.toInt ≤ 3) (hp2 : (0 ≤ zl.toInt ∧ zl.toInt ≤ 3) ∧ s0.toInt ≤ s1.toInt ∧ s1.toInt ≤ s0.toInt + 3 ∧ s1.toInt ≤ u.toInt ∧ u.toInt ≤ s1.toInt + 3 ∧ 0 ≤ s0.toInt ∧ u.toInt ≤ 50) (ge_oA : n0 ≤ oA) (ne_r0_oA : r0 ≠ oA) (ne_bA_oA : bA ≠ oA) (ne_sA_oA : sA ≠ oA) (ne_cA_oA : cA ≠ oA) (ge_cA : n0 ≤ cA) (ne_r0_cA : r0 ≠ cA) (ne_bA_cA : bA ≠ cA) (ne_sA_cA : sA ≠ cA) (ne_oA_cA : oA ≠ cA) (ne_sA_r0 : sA ≠ r0) (ne_bA_r0 : bA ≠ r0) (ge_r0 : n0 ≤ r0) (ne_oA_r0 : oA ≠ r0) (ne_cA_r0 : cA ≠ r0) (ge_bA : n0 ≤ bA) (ne_r0_bA : r0 ≠ bA) (ne_sA_bA : sA ≠ bA) (ge_sA : n0 ≤ sA) (ne_r0_sA : r0 ≠ sA) (ne_bA_sA : bA ≠ sA) (ne_oA_bA : oA ≠ bA) (ne_oA_sA : oA ≠ sA) (ne_cA_bA : cA ≠ bA) (ne_cA_sA : cA ≠ sA) (ne_r1_cA : r1 ≠ cA) (ne_r1_oA : r1 ≠ oA) (ne_r1_sA : r1 ≠ sA) (ne_r1_bA : r1 ≠ bA) (ne_r1_r0 : r1 ≠ r0) :
    own_M l Z (⟨cS0, "offer", "([BII)V"⟩ : MethodName) prog_6_method_3_code 5 none ws ({ frames := 7, cells := 1, slots := 3, locals := 110 } : Room) #[(.ref r0), (.ref r1), (.int p2), (.int (p2 + ln))] h0 (Q_5_h2 Z r0 r1 p2 ln zl lim bA sA kS u s0 s1 s2 s3 mN mB oA kO cA kC o0 o1 c0 c1 h0 n0) := by
  refine own_in cS0 rfl (plainFor_of_name pn_com_example_measurewright_measurewright_cli_NameBatch) ?_
  intro p e s m below meth c s₁ Bd hml hZ hh hx hby hown X0 e0
  have N0 := Fr.nil n0
  refine own_start (ef_5 m r0 r1 p2 (p2 + ln)) ?_
  refine own_by (fun t q => oIn X0 hx hby d5_0 rfl (oIn X0 hx hby d5_1 rfl (XS.isub X0.here hx rfl (hb hby d5_2) rfl q))) ?_
  rw [own_addsub]
  refine own_by (fun t q => XS.istore X0.here hx rfl (hb hby d5_3) rfl (l' := #[rv r0, rv r1, iv p2, iv (p2 + ln), iv ln]) rfl q) ?_
  refine own_aF X0 hx hZ hown hw 29 rfl e0 F_limit_r0 hby d5_5 rfl d5_6 fun T1 X1 e1 => ?_
  refine own_by (fun t q => XS.ifnullNo X1.here hx rfl (hb hby d5_9) rfl (oAn X1 hx hby d5_12 rfl rfl (oIn X1 hx hby d5_13 rfl (oIn X1 hx hby d5_14 rfl q)))) ?_
  refine own_aF X1 hx hZ hown hw 29 rfl e1 F_limit_r0 hby d5_15 rfl d5_16 fun T2 X2 e2 => ?_
  refine own_by (fun t q => oIc X2 hx hby d5_19 q) ?_
  refine own_aF X2 hx hZ hown hw 29 rfl e2 F_limit_r0 hby d5_20 rfl d5_21 fun T3 X3 e3 => ?_
  refine own_by (fun t q => own_blen X3 hx hZ e3 B_lim hby d5_24 q) ?_
  refine own_cK 0 (rm12 l Z a0 hw [] r1 p2 (p2 + ln) lim (0 : Int32) zl (8 : Int32) zl h0 n0 Z0 B_r1 B_lim (by have w0 := own_lits; have w1a := c_iadd p2 ln; have w1b := rng32 (p2 + ln); omega) (by have w0 := own_lits; omega)) X3 hx hZ hown hw 74 75 76 77 rfl rfl rfl rfl [(.ref r1), (.int p2), (.int (p2 + ln)), (.ref lim), (.int 0), (.int zl)] [] hby d5_25 hml (lenOf pd_8 rfl) e3 rfl (Nat.le_refl _) (by decide) fun _ T4 L4 X4 hQ4 => ?_
  obtain ⟨rr_4, rfl, N4q, e4, -⟩ := hQ4
  have N4 := Fr.app N0 N4q
  by_cases hc28_5 : rr_4 < (0 : Int32)
  · refine own_by (fun t q => XS.ifYes X4.here hx rfl (pc0 := 28) (pc' := 32) rfl (hb hby d5_28) rfl ((if0 _ _).trans (tlt hc28_5).1) (by decide) (by decide) q) ?_
    refine own_aF X4 hx hZ hown hw 36 rfl e4 F_count_r0 hby d5_32 rfl d5_33 fun T6 X6 e6 => ?_
    refine own_by (fun t q => oIc X6 hx hby d5_36 (oJn X6 hx hby d5_37 (tlt (by decide : (1 : Int32) < (2 : Int32))).2.2.2 q)) ?_
    refine own_aF X6 hx hZ hown hw 36 rfl e6 F_count_r0 hby d5_40 rfl d5_41 fun T7 X7 e7 => ?_
    refine own_aF X7 hx hZ hown hw 20 rfl e7 F_maxNames_r0 hby d5_44 rfl d5_45 fun T8 X8 e8 => ?_
    by_cases hc48_9 : (2 : Int32) = mN
    · refine own_by (fun t q => oJy X8 hx hby 48 65 d5_48 (teq hc48_9).1 (by decide) (by decide) (oAn X8 hx hby d5_65 rfl rfl q)) ?_
      refine own_cP 0 (rm6_2o l Z a0 hw [] r0 bA sA kS u s0 s1 s2 s3 mN mB oA kO cA kC o0 o1 c0 c1 lim h0 n0 Z0 E_r0 F_count_r0 F_used_r0 F_bytes_r0 B_bA E_bA F_starts_r0 V_sA E_sA F_maxNames_r0 F_maxBytes_r0 F_order_r0 V_oA E_oA F_scratch_r0 V_cA E_cA F_limit_r0 (by have w0 := own_lits; have v0 := own_ltm hc28_5; have v1 := own_eqm hc48_9; omega) ge_oA ne_r0_oA ne_bA_oA ne_sA_oA ne_cA_oA ge_cA ne_r0_cA ne_bA_cA ne_sA_cA ne_oA_cA ne_sA_r0 ne_bA_r0 ge_r0 ne_oA_r0 ne_cA_r0 ge_bA ne_r0_bA ne_sA_bA ge_sA ne_r0_sA ne_bA_sA ne_oA_bA ne_oA_sA ne_cA_bA ne_cA_sA) X8 hx hZ hown hw 49 50 3 51 4 52 rfl rfl rfl rfl rfl rfl r0 E_r0 [] [] hby d5_66 hml (lenOf pd_9 rfl) e8 rfl (Nat.le_refl _) (by decide) fun _ T10 L10 X10 hQ10 => ?_
      obtain ⟨lim_10, zl_10, u2_10, g0_10, g1_10, d0_10, d1_10, rfl, N10q, K10, p10_0, p10_1, p10_2, p10_3, p10_4, p10_5, p10_6, p10_7, p10_8, p10_9, p10_10, p10_11, p10_12, p10_13, p10_14, p10_15, p10_16, p10_17, p10_18, p10_19, p10_20, p10_21⟩ := hQ10
      have pl10 := (allS (P := fun x => ∃ cell : Cell, h0[x]? = some cell ∧ cell.vm.isStatics = false) (own_ns E_r0) (allS (P := fun x => ∃ cell : Cell, h0[x]? = some cell ∧ cell.vm.isStatics = false) (own_ns E_bA) (allS (P := fun x => ∃ cell : Cell, h0[x]? = some cell ∧ cell.vm.isStatics = false) (own_ns E_sA) (allS (P := fun x => ∃ cell : Cell, h0[x]? = some cell ∧ cell.vm.isStatics = false) (own_ns E_oA) (allS (P := fun x => ∃ cell : Cell, h0[x]? = some cell ∧ cell.vm.isStatics = false) (own_ns E_cA) all0)))))
      have g_lim_10 : n0 ≤ lim_10 := Nat.le_trans Z0 p10_0
      have sz_lim_10 : h0.size ≤ lim_10 := Nat.le_trans (Keep.refl h0 []).1 p10_0
      have N10 := Fr.app N4 N10q
      refine own_by (fun t q => oAn X10 hx hby d5_69 rfl rfl (oIn X10 hx hby d5_70 rfl (oIn X10 hx hby d5_71 rfl q))) ?_
      refine own_aF X10 hx hZ hown hw 29 rfl rfl p10_4 hby d5_72 rfl d5_73 fun T11 X11 e11 => ?_
      refine own_by (fun t q => oIc X11 hx hby d5_76 q) ?_
      refine own_aF X11 hx hZ hown hw 29 rfl e11 p10_4 hby d5_77 rfl d5_78 fun T12 X12 e12 => ?_
      have f14 := (B_r1.keep K10 (ninS ne_r1_r0 (ninS ne_r1_bA (ninS ne_r1_sA (ninS ne_r1_oA (ninS ne_r1_cA nin0))))))
      refine own_by (fun t q => own_blen X12 hx hZ e12 p10_13 hby d5_81 q) ?_
      refine own_cK 0 (rm12 l Z a0 hw [] r1 p2 (p2 + ln) lim_10 (0 : Int32) zl_10 (8 : Int32) zl_10 T10.heap n0 (Nat.le_trans Z0 K10.1) f14 p10_13 (by have w0 := own_lits; have w1a := c_iadd p2 ln; have w1b := rng32 (p2 + ln); have v0 := own_ltm hc28_5; have v1 := own_eqm hc48_9; omega) (by have w0 := own_lits; have v0 := own_ltm hc28_5; have v1 := own_eqm hc48_9; omega)) X12 hx hZ hown hw 74 75 76 77 rfl rfl rfl rfl [(.ref r1), (.int p2), (.int (p2 + ln)), (.ref lim_10), (.int 0), (.int zl_10)] [] hby d5_82 hml (lenOf pd_8 rfl) e12 rfl (Nat.le_refl _) (by decide) fun _ T13 L13 X13 hQ13 => ?_
      obtain ⟨rr_13, rfl, N13q, e13, -⟩ := hQ13
      have N13 := Fr.app N10 N13q
      by_cases hc85_15 : rr_13 < (0 : Int32)
      · refine own_by (fun t q => XS.ifYes X13.here hx rfl (pc0 := 85) (pc' := 32) rfl (hb hby d5_85) rfl ((if0 _ _).trans (tlt hc85_15).1) (by decide) (by decide) q) ?_
        refine own_aF X13 hx hZ hown hw 36 rfl e13 p10_2 hby d5_32 rfl d5_33 fun T16 X16 e16 => ?_
        refine own_by (fun t q => oIc X16 hx hby d5_36 (oJy X16 hx hby 37 89 d5_37 (flt (by decide : ¬ ((1 : Int32) < (1 : Int32)))).2.2.2 (by decide) (by decide) q)) ?_
        refine own_aF X16 hx hZ hown hw 36 rfl e16 p10_2 hby d5_89 rfl d5_90 fun T17 X17 e17 => ?_
        refine own_aF X17 hx hZ hown hw 14 rfl e17 p10_8 hby d5_93 rfl d5_94 fun T18 X18 e18 => ?_
        refine own_by (fun t q => own_alen X18 hx hZ e18 p10_9 hby d5_97 (oJy X18 hx hby 98 125 d5_98 (feq (by decide : ¬ ((1 : Int32) = (256 : Int32)))).2 (by decide) (by decide) q)) ?_
        refine own_aF X18 hx hZ hown hw 38 rfl e18 p10_3 hby d5_125 rfl d5_126 fun T19 X19 e19 => ?_
        refine own_by (fun t q => oIl X19 hx hby d5_129 rfl (XS.iadd X19.here hx rfl (hb hby d5_131) rfl q)) ?_
        refine own_aF X19 hx hZ hown hw 11 rfl e19 p10_5 hby d5_132 rfl d5_133 fun T20 X20 e20 => ?_
        refine own_by (fun t q => own_blen X20 hx hZ e20 p10_6 hby d5_136 (oJy X20 hx hby 137 175 d5_137 (flt (show ¬ ((4096 : Int32) < (u2_10 + ln)) from (by rw [Int32.lt_iff_toInt_lt]; have w0 := own_lits; have w1a := c_iadd u2_10 ln; have w1b := rng32 (u2_10 + ln); have v0 := own_ltm hc28_5; have v1 := own_eqm hc48_9; have v2 := own_ltm hc85_15; omega))).2.2.2 (by decide) (by decide) (oAn X20 hx hby d5_175 rfl rfl (oIn X20 hx hby d5_176 rfl q)))) ?_
        refine own_aF X20 hx hZ hown hw 11 rfl e20 p10_5 hby d5_177 rfl d5_178 fun T21 X21 e21 => ?_
        refine own_aF X21 hx hZ hown hw 38 rfl e21 p10_3 hby d5_181 rfl d5_182 fun T22 X22 e22 => ?_
        obtain ⟨T23, h23, L23, X23, e23, N23, K23, Vr23, st23⟩ := own_bcp X22 hx hZ hown (own_at hw 45 rfl) (own_at hw 48 rfl) (own_at hw 46 rfl) (own_at hw 47 rfl) e22 f14 p10_6 (sp := p2) (dp := u2_10) (nn := ln) (by have w0 := own_lits; have v0 := own_ltm hc28_5; have v1 := own_eqm hc48_9; have v2 := own_ltm hc85_15; omega) N13 ge_bA (g := (mkF m 187 #[rv r0, rv r1, iv p2, iv (p2 + ln), iv ln] [(.int ln), (.int u2_10), (.ref bA), (.int p2), (.ref r1)])) rfl (by rw [hml]; rfl) rfl (hb hby d5_187) (by decide) (W := 0) (Nat.le_refl _) (by decide)
        have pl23 := (allS (P := fun x => ∃ cell : Cell, T10.heap[x]? = some cell ∧ cell.vm.isStatics = false) (own_ns p10_7) all0)
        have f24 := (p10_8.keep K23 (ninS ne_r0_bA nin0))
        refine own_by (fun t q => oIl X22 hx hby d5_185 rfl (st23 _ q)) ?_
        refine own_aF X23 hx hZ hown hw 14 rfl e23 f24 hby d5_190 rfl d5_191 fun T25 X25 e25 => ?_
        have f26 := (p10_2.keep K23 (ninS ne_r0_bA nin0))
        refine own_by (fun t q => oAn X25 hx hby d5_194 rfl rfl (XS.dup X25.here hx rfl (hb hby d5_195) rfl rfl q)) ?_
        refine own_gF X25 hx hZ hown hw 36 rfl e25 f26 hby d5_196 fun T27 X27 e27 => ?_
        have f28 := (p10_1.keep K23)
        refine own_by (fun t q => XS.dupX1 X27.here hx rfl (hb hby d5_199) rfl rfl rfl (oIc X27 hx hby d5_200 (XS.iadd X27.here hx rfl (hb hby d5_201) rfl q))) ?_
        refine own_pF X27 hx hZ hown hw 36 37 3 rfl rfl rfl e27 f26 f28 (ty := .int) (by decide) rfl rfl N23 ge_r0 hby d5_202 fun T29 h29 X29 e29 W29 Fw29 N29 => ?_
        have f30 := ((p10_3.keep K23 (ninS ne_r0_bA nin0)).other W29 (Or.inr (sn_0 hw)))
        refine own_aF X29 hx hZ hown hw 38 rfl e29 f30 hby d5_205 rfl d5_206 fun T31 X31 e31 => ?_
        have f32 := ((p10_9.keep K23 (ninS ne_sA_bA nin0)).other W29 ne_sA_r0)
        refine own_stI X31 hx hZ e31 f32 hby ⟨by decide, by decide⟩ 1 rfl (Nat.le_of_ble_eq_true rfl) N29 ge_sA d5_209 fun T33 h33 X33 e33 W33 Vr33 N33 => ?_
        have V33 : Arv Z h33 sA kS .int (256 : Int32) [(.int 0), (.int u2_10), (.int s2), (.int s3)] (.int 0) := Vr33
        have f34 := (f30.other W33 (Or.inl ne_r0_sA))
        refine own_by (fun t q => oAn X33 hx hby d5_210 rfl rfl (XS.dup X33.here hx rfl (hb hby d5_211) rfl rfl q)) ?_
        refine own_gF X33 hx hZ hown hw 38 rfl e33 f34 hby d5_212 fun T35 X35 e35 => ?_
        have f36 := ((f28.wr W29).wr W33)
        refine own_by (fun t q => oIl X35 hx hby d5_215 rfl (XS.iadd X35.here hx rfl (hb hby d5_217) rfl q)) ?_
        refine own_pF X35 hx hZ hown hw 38 39 3 rfl rfl rfl e35 f34 f36 (ty := .int) (by decide) rfl rfl N33 ge_r0 hby d5_218 fun T37 h37 X37 e37 W37 Fw37 N37 => ?_
        have f38 := (f36.wr W37)
        have f39 := ((((p10_4.keep K23 (ninS ne_r0_bA nin0)).other W29 (Or.inr (sn_1 hw))).other W33 (Or.inl ne_r0_sA)).other W37 (Or.inr (sn_2 hw)))
        have f40 := ((Fw29.other W33 (Or.inl ne_r0_sA)).other W37 (Or.inr (sn_25 hw)))
        refine own_out X37 Bd.notSynchronized Bd.returns (none) (fun _ => rfl) (by decide) (by decide) ?_ fun fs hr => ?_
        · rw [e37]; exact ⟨lim_10, (2 : Int32), (u2_10 + ln), rfl, N37, ((((((Keep.refl h0 [r0, bA, sA, oA, cA]).trans K10 (allS (Or.inl (List.mem_of_getElem? (i := 0) rfl)) (allS (Or.inl (List.mem_of_getElem? (i := 1) rfl)) (allS (Or.inl (List.mem_of_getElem? (i := 2) rfl)) (allS (Or.inl (List.mem_of_getElem? (i := 3) rfl)) (allS (Or.inl (List.mem_of_getElem? (i := 4) rfl)) all0)))))).trans K23 (allS (Or.inl (List.mem_of_getElem? (i := 1) rfl)) all0)).wr W29 (Or.inl (List.mem_of_getElem? (i := 0) rfl))).wr W33 (Or.inl (List.mem_of_getElem? (i := 2) rfl))).wr W37 (Or.inl (List.mem_of_getElem? (i := 0) rfl))), f38, f39, f40, Fw37⟩
        · exact X37.returnOut hx Bd.returns (hb hby d5_221) hr
      · refine own_by (fun t q => XS.ifNo X13.here hx rfl (hb hby d5_85) rfl ((if0 _ _).trans (flt hc85_15).1) q) ?_
        refine own_out X13 Bd.notSynchronized Bd.returns (none) (fun _ => rfl) (by decide) (by decide) ?_ fun fs hr => ?_
        · rw [e13]; exact ⟨lim_10, (1 : Int32), u2_10, rfl, N13, ((Keep.refl h0 [r0, bA, sA, oA, cA]).trans K10 (allS (Or.inl (List.mem_of_getElem? (i := 0) rfl)) (allS (Or.inl (List.mem_of_getElem? (i := 1) rfl)) (allS (Or.inl (List.mem_of_getElem? (i := 2) rfl)) (allS (Or.inl (List.mem_of_getElem? (i := 3) rfl)) (allS (Or.inl (List.mem_of_getElem? (i := 4) rfl)) all0)))))), p10_1, p10_4, p10_2, p10_3⟩
        · exact X13.returnOut hx Bd.returns (hb hby d5_88) hr
    · refine own_by (fun t q => oJn X8 hx hby d5_48 (feq hc48_9).1 q) ?_
      refine own_aF X8 hx hZ hown hw 38 rfl e8 F_used_r0 hby d5_51 rfl d5_52 fun T41 X41 e41 => ?_
      refine own_by (fun t q => oIl X41 hx hby d5_55 rfl (XS.iadd X41.here hx rfl (hb hby d5_57) rfl q)) ?_
      refine own_aF X41 hx hZ hown hw 22 rfl e41 F_maxBytes_r0 hby d5_58 rfl d5_59 fun T42 X42 e42 => ?_
      by_cases hc62_43 : mB < (u + ln)
      · refine own_by (fun t q => oJn X42 hx hby d5_62 (tlt hc62_43).2.2.2 (oAn X42 hx hby d5_65 rfl rfl q)) ?_
        refine own_cP 0 (rm6_2o l Z a0 hw [] r0 bA sA kS u s0 s1 s2 s3 mN mB oA kO cA kC o0 o1 c0 c1 lim h0 n0 Z0 E_r0 F_count_r0 F_used_r0 F_bytes_r0 B_bA E_bA F_starts_r0 V_sA E_sA F_maxNames_r0 F_maxBytes_r0 F_order_r0 V_oA E_oA F_scratch_r0 V_cA E_cA F_limit_r0 (by have w0 := own_lits; have w1a := c_iadd u ln; have w1b := rng32 (u + ln); have v0 := own_ltm hc28_5; have v1 := own_neq hc48_9; have v2 := own_ltm hc62_43; omega) ge_oA ne_r0_oA ne_bA_oA ne_sA_oA ne_cA_oA ge_cA ne_r0_cA ne_bA_cA ne_sA_cA ne_oA_cA ne_sA_r0 ne_bA_r0 ge_r0 ne_oA_r0 ne_cA_r0 ge_bA ne_r0_bA ne_sA_bA ge_sA ne_r0_sA ne_bA_sA ne_oA_bA ne_oA_sA ne_cA_bA ne_cA_sA) X42 hx hZ hown hw 49 50 3 51 4 52 rfl rfl rfl rfl rfl rfl r0 E_r0 [] [] hby d5_66 hml (lenOf pd_9 rfl) e42 rfl (Nat.le_refl _) (by decide) fun _ T44 L44 X44 hQ44 => ?_
        obtain ⟨lim_44, zl_44, u2_44, g0_44, g1_44, d0_44, d1_44, rfl, N44q, K44, p44_0, p44_1, p44_2, p44_3, p44_4, p44_5, p44_6, p44_7, p44_8, p44_9, p44_10, p44_11, p44_12, p44_13, p44_14, p44_15, p44_16, p44_17, p44_18, p44_19, p44_20, p44_21⟩ := hQ44
        have pl44 := (allS (P := fun x => ∃ cell : Cell, h0[x]? = some cell ∧ cell.vm.isStatics = false) (own_ns E_r0) (allS (P := fun x => ∃ cell : Cell, h0[x]? = some cell ∧ cell.vm.isStatics = false) (own_ns E_bA) (allS (P := fun x => ∃ cell : Cell, h0[x]? = some cell ∧ cell.vm.isStatics = false) (own_ns E_sA) (allS (P := fun x => ∃ cell : Cell, h0[x]? = some cell ∧ cell.vm.isStatics = false) (own_ns E_oA) (allS (P := fun x => ∃ cell : Cell, h0[x]? = some cell ∧ cell.vm.isStatics = false) (own_ns E_cA) all0)))))
        have g_lim_44 : n0 ≤ lim_44 := Nat.le_trans Z0 p44_0
        have sz_lim_44 : h0.size ≤ lim_44 := Nat.le_trans (Keep.refl h0 []).1 p44_0
        have N44 := Fr.app N4 N44q
        refine own_by (fun t q => oAn X44 hx hby d5_69 rfl rfl (oIn X44 hx hby d5_70 rfl (oIn X44 hx hby d5_71 rfl q))) ?_
        refine own_aF X44 hx hZ hown hw 29 rfl rfl p44_4 hby d5_72 rfl d5_73 fun T45 X45 e45 => ?_
        refine own_by (fun t q => oIc X45 hx hby d5_76 q) ?_
        refine own_aF X45 hx hZ hown hw 29 rfl e45 p44_4 hby d5_77 rfl d5_78 fun T46 X46 e46 => ?_
        have f48 := (B_r1.keep K44 (ninS ne_r1_r0 (ninS ne_r1_bA (ninS ne_r1_sA (ninS ne_r1_oA (ninS ne_r1_cA nin0))))))
        refine own_by (fun t q => own_blen X46 hx hZ e46 p44_13 hby d5_81 q) ?_
        refine own_cK 0 (rm12 l Z a0 hw [] r1 p2 (p2 + ln) lim_44 (0 : Int32) zl_44 (8 : Int32) zl_44 T44.heap n0 (Nat.le_trans Z0 K44.1) f48 p44_13 (by have w0 := own_lits; have w1a := c_iadd u ln; have w1b := rng32 (u + ln); have w2a := c_iadd p2 ln; have w2b := rng32 (p2 + ln); have v0 := own_ltm hc28_5; have v1 := own_neq hc48_9; have v2 := own_ltm hc62_43; omega) (by have w0 := own_lits; have w1a := c_iadd u ln; have w1b := rng32 (u + ln); have v0 := own_ltm hc28_5; have v1 := own_neq hc48_9; have v2 := own_ltm hc62_43; omega)) X46 hx hZ hown hw 74 75 76 77 rfl rfl rfl rfl [(.ref r1), (.int p2), (.int (p2 + ln)), (.ref lim_44), (.int 0), (.int zl_44)] [] hby d5_82 hml (lenOf pd_8 rfl) e46 rfl (Nat.le_refl _) (by decide) fun _ T47 L47 X47 hQ47 => ?_
        obtain ⟨rr_47, rfl, N47q, e47, -⟩ := hQ47
        have N47 := Fr.app N44 N47q
        by_cases hc85_49 : rr_47 < (0 : Int32)
        · refine own_by (fun t q => XS.ifYes X47.here hx rfl (pc0 := 85) (pc' := 32) rfl (hb hby d5_85) rfl ((if0 _ _).trans (tlt hc85_49).1) (by decide) (by decide) q) ?_
          refine own_aF X47 hx hZ hown hw 36 rfl e47 p44_2 hby d5_32 rfl d5_33 fun T50 X50 e50 => ?_
          refine own_by (fun t q => oIc X50 hx hby d5_36 (oJy X50 hx hby 37 89 d5_37 (flt (by decide : ¬ ((1 : Int32) < (1 : Int32)))).2.2.2 (by decide) (by decide) q)) ?_
          refine own_aF X50 hx hZ hown hw 36 rfl e50 p44_2 hby d5_89 rfl d5_90 fun T51 X51 e51 => ?_
          refine own_aF X51 hx hZ hown hw 14 rfl e51 p44_8 hby d5_93 rfl d5_94 fun T52 X52 e52 => ?_
          refine own_by (fun t q => own_alen X52 hx hZ e52 p44_9 hby d5_97 (oJy X52 hx hby 98 125 d5_98 (feq (by decide : ¬ ((1 : Int32) = (256 : Int32)))).2 (by decide) (by decide) q)) ?_
          refine own_aF X52 hx hZ hown hw 38 rfl e52 p44_3 hby d5_125 rfl d5_126 fun T53 X53 e53 => ?_
          refine own_by (fun t q => oIl X53 hx hby d5_129 rfl (XS.iadd X53.here hx rfl (hb hby d5_131) rfl q)) ?_
          refine own_aF X53 hx hZ hown hw 11 rfl e53 p44_5 hby d5_132 rfl d5_133 fun T54 X54 e54 => ?_
          refine own_by (fun t q => own_blen X54 hx hZ e54 p44_6 hby d5_136 (oJy X54 hx hby 137 175 d5_137 (flt (show ¬ ((4096 : Int32) < (u2_44 + ln)) from (by rw [Int32.lt_iff_toInt_lt]; have w0 := own_lits; have w1a := c_iadd u ln; have w1b := rng32 (u + ln); have w2a := c_iadd u2_44 ln; have w2b := rng32 (u2_44 + ln); have v0 := own_ltm hc28_5; have v1 := own_neq hc48_9; have v2 := own_ltm hc62_43; have v3 := own_ltm hc85_49; omega))).2.2.2 (by decide) (by decide) (oAn X54 hx hby d5_175 rfl rfl (oIn X54 hx hby d5_176 rfl q)))) ?_
          refine own_aF X54 hx hZ hown hw 11 rfl e54 p44_5 hby d5_177 rfl d5_178 fun T55 X55 e55 => ?_
          refine own_aF X55 hx hZ hown hw 38 rfl e55 p44_3 hby d5_181 rfl d5_182 fun T56 X56 e56 => ?_
          obtain ⟨T57, h57, L57, X57, e57, N57, K57, Vr57, st57⟩ := own_bcp X56 hx hZ hown (own_at hw 45 rfl) (own_at hw 48 rfl) (own_at hw 46 rfl) (own_at hw 47 rfl) e56 f48 p44_6 (sp := p2) (dp := u2_44) (nn := ln) (by have w0 := own_lits; have w1a := c_iadd u ln; have w1b := rng32 (u + ln); have v0 := own_ltm hc28_5; have v1 := own_neq hc48_9; have v2 := own_ltm hc62_43; have v3 := own_ltm hc85_49; omega) N47 ge_bA (g := (mkF m 187 #[rv r0, rv r1, iv p2, iv (p2 + ln), iv ln] [(.int ln), (.int u2_44), (.ref bA), (.int p2), (.ref r1)])) rfl (by rw [hml]; rfl) rfl (hb hby d5_187) (by decide) (W := 0) (Nat.le_refl _) (by decide)
          have pl57 := (allS (P := fun x => ∃ cell : Cell, T44.heap[x]? = some cell ∧ cell.vm.isStatics = false) (own_ns p44_7) all0)
          have f58 := (p44_8.keep K57 (ninS ne_r0_bA nin0))
          refine own_by (fun t q => oIl X56 hx hby d5_185 rfl (st57 _ q)) ?_
          refine own_aF X57 hx hZ hown hw 14 rfl e57 f58 hby d5_190 rfl d5_191 fun T59 X59 e59 => ?_
          have f60 := (p44_2.keep K57 (ninS ne_r0_bA nin0))
          refine own_by (fun t q => oAn X59 hx hby d5_194 rfl rfl (XS.dup X59.here hx rfl (hb hby d5_195) rfl rfl q)) ?_
          refine own_gF X59 hx hZ hown hw 36 rfl e59 f60 hby d5_196 fun T61 X61 e61 => ?_
          have f62 := (p44_1.keep K57)
          refine own_by (fun t q => XS.dupX1 X61.here hx rfl (hb hby d5_199) rfl rfl rfl (oIc X61 hx hby d5_200 (XS.iadd X61.here hx rfl (hb hby d5_201) rfl q))) ?_
          refine own_pF X61 hx hZ hown hw 36 37 3 rfl rfl rfl e61 f60 f62 (ty := .int) (by decide) rfl rfl N57 ge_r0 hby d5_202 fun T63 h63 X63 e63 W63 Fw63 N63 => ?_
          have f64 := ((p44_3.keep K57 (ninS ne_r0_bA nin0)).other W63 (Or.inr (sn_0 hw)))
          refine own_aF X63 hx hZ hown hw 38 rfl e63 f64 hby d5_205 rfl d5_206 fun T65 X65 e65 => ?_
          have f66 := ((p44_9.keep K57 (ninS ne_sA_bA nin0)).other W63 ne_sA_r0)
          refine own_stI X65 hx hZ e65 f66 hby ⟨by decide, by decide⟩ 1 rfl (Nat.le_of_ble_eq_true rfl) N63 ge_sA d5_209 fun T67 h67 X67 e67 W67 Vr67 N67 => ?_
          have V67 : Arv Z h67 sA kS .int (256 : Int32) [(.int 0), (.int u2_44), (.int s2), (.int s3)] (.int 0) := Vr67
          have f68 := (f64.other W67 (Or.inl ne_r0_sA))
          refine own_by (fun t q => oAn X67 hx hby d5_210 rfl rfl (XS.dup X67.here hx rfl (hb hby d5_211) rfl rfl q)) ?_
          refine own_gF X67 hx hZ hown hw 38 rfl e67 f68 hby d5_212 fun T69 X69 e69 => ?_
          have f70 := ((f62.wr W63).wr W67)
          refine own_by (fun t q => oIl X69 hx hby d5_215 rfl (XS.iadd X69.here hx rfl (hb hby d5_217) rfl q)) ?_
          refine own_pF X69 hx hZ hown hw 38 39 3 rfl rfl rfl e69 f68 f70 (ty := .int) (by decide) rfl rfl N67 ge_r0 hby d5_218 fun T71 h71 X71 e71 W71 Fw71 N71 => ?_
          have f72 := (f70.wr W71)
          have f73 := ((((p44_4.keep K57 (ninS ne_r0_bA nin0)).other W63 (Or.inr (sn_1 hw))).other W67 (Or.inl ne_r0_sA)).other W71 (Or.inr (sn_2 hw)))
          have f74 := ((Fw63.other W67 (Or.inl ne_r0_sA)).other W71 (Or.inr (sn_25 hw)))
          refine own_out X71 Bd.notSynchronized Bd.returns (none) (fun _ => rfl) (by decide) (by decide) ?_ fun fs hr => ?_
          · rw [e71]; exact ⟨lim_44, (2 : Int32), (u2_44 + ln), rfl, N71, ((((((Keep.refl h0 [r0, bA, sA, oA, cA]).trans K44 (allS (Or.inl (List.mem_of_getElem? (i := 0) rfl)) (allS (Or.inl (List.mem_of_getElem? (i := 1) rfl)) (allS (Or.inl (List.mem_of_getElem? (i := 2) rfl)) (allS (Or.inl (List.mem_of_getElem? (i := 3) rfl)) (allS (Or.inl (List.mem_of_getElem? (i := 4) rfl)) all0)))))).trans K57 (allS (Or.inl (List.mem_of_getElem? (i := 1) rfl)) all0)).wr W63 (Or.inl (List.mem_of_getElem? (i := 0) rfl))).wr W67 (Or.inl (List.mem_of_getElem? (i := 2) rfl))).wr W71 (Or.inl (List.mem_of_getElem? (i := 0) rfl))), f72, f73, f74, Fw71⟩
          · exact X71.returnOut hx Bd.returns (hb hby d5_221) hr
        · refine own_by (fun t q => XS.ifNo X47.here hx rfl (hb hby d5_85) rfl ((if0 _ _).trans (flt hc85_49).1) q) ?_
          refine own_out X47 Bd.notSynchronized Bd.returns (none) (fun _ => rfl) (by decide) (by decide) ?_ fun fs hr => ?_
          · rw [e47]; exact ⟨lim_44, (1 : Int32), u2_44, rfl, N47, ((Keep.refl h0 [r0, bA, sA, oA, cA]).trans K44 (allS (Or.inl (List.mem_of_getElem? (i := 0) rfl)) (allS (Or.inl (List.mem_of_getElem? (i := 1) rfl)) (allS (Or.inl (List.mem_of_getElem? (i := 2) rfl)) (allS (Or.inl (List.mem_of_getElem? (i := 3) rfl)) (allS (Or.inl (List.mem_of_getElem? (i := 4) rfl)) all0)))))), p44_1, p44_4, p44_2, p44_3⟩
          · exact X47.returnOut hx Bd.returns (hb hby d5_88) hr
      · refine own_by (fun t q => oJy X42 hx hby 62 89 d5_62 (flt hc62_43).2.2.2 (by decide) (by decide) q) ?_
        refine own_aF X42 hx hZ hown hw 36 rfl e42 F_count_r0 hby d5_89 rfl d5_90 fun T75 X75 e75 => ?_
        refine own_aF X75 hx hZ hown hw 14 rfl e75 F_starts_r0 hby d5_93 rfl d5_94 fun T76 X76 e76 => ?_
        refine own_by (fun t q => own_alen X76 hx hZ e76 V_sA hby d5_97 (oJy X76 hx hby 98 125 d5_98 (feq (by decide : ¬ ((2 : Int32) = (256 : Int32)))).2 (by decide) (by decide) q)) ?_
        refine own_aF X76 hx hZ hown hw 38 rfl e76 F_used_r0 hby d5_125 rfl d5_126 fun T77 X77 e77 => ?_
        refine own_by (fun t q => oIl X77 hx hby d5_129 rfl (XS.iadd X77.here hx rfl (hb hby d5_131) rfl q)) ?_
        refine own_aF X77 hx hZ hown hw 11 rfl e77 F_bytes_r0 hby d5_132 rfl d5_133 fun T78 X78 e78 => ?_
        refine own_by (fun t q => own_blen X78 hx hZ e78 B_bA hby d5_136 (oJy X78 hx hby 137 175 d5_137 (flt (show ¬ ((4096 : Int32) < (u + ln)) from (by rw [Int32.lt_iff_toInt_lt]; have w0 := own_lits; have w1a := c_iadd u ln; have w1b := rng32 (u + ln); have v0 := own_ltm hc28_5; have v1 := own_neq hc48_9; have v2 := own_nlt hc62_43; omega))).2.2.2 (by decide) (by decide) (oAn X78 hx hby d5_175 rfl rfl (oIn X78 hx hby d5_176 rfl q)))) ?_
        refine own_aF X78 hx hZ hown hw 11 rfl e78 F_bytes_r0 hby d5_177 rfl d5_178 fun T79 X79 e79 => ?_
        refine own_aF X79 hx hZ hown hw 38 rfl e79 F_used_r0 hby d5_181 rfl d5_182 fun T80 X80 e80 => ?_
        obtain ⟨T81, h81, L81, X81, e81, N81, K81, Vr81, st81⟩ := own_bcp X80 hx hZ hown (own_at hw 45 rfl) (own_at hw 48 rfl) (own_at hw 46 rfl) (own_at hw 47 rfl) e80 B_r1 B_bA (sp := p2) (dp := u) (nn := ln) (by have w0 := own_lits; have w1a := c_iadd u ln; have w1b := rng32 (u + ln); have v0 := own_ltm hc28_5; have v1 := own_neq hc48_9; have v2 := own_nlt hc62_43; omega) N4 ge_bA (g := (mkF m 187 #[rv r0, rv r1, iv p2, iv (p2 + ln), iv ln] [(.int ln), (.int u), (.ref bA), (.int p2), (.ref r1)])) rfl (by rw [hml]; rfl) rfl (hb hby d5_187) (by decide) (W := 0) (Nat.le_refl _) (by decide)
        have pl81 := (allS (P := fun x => ∃ cell : Cell, h0[x]? = some cell ∧ cell.vm.isStatics = false) (own_ns E_bA) all0)
        have f82 := (F_starts_r0.keep K81 (ninS ne_r0_bA nin0))
        refine own_by (fun t q => oIl X80 hx hby d5_185 rfl (st81 _ q)) ?_
        refine own_aF X81 hx hZ hown hw 14 rfl e81 f82 hby d5_190 rfl d5_191 fun T83 X83 e83 => ?_
        have f84 := (F_count_r0.keep K81 (ninS ne_r0_bA nin0))
        refine own_by (fun t q => oAn X83 hx hby d5_194 rfl rfl (XS.dup X83.here hx rfl (hb hby d5_195) rfl rfl q)) ?_
        refine own_gF X83 hx hZ hown hw 36 rfl e83 f84 hby d5_196 fun T85 X85 e85 => ?_
        have f86 := (E_r0.keep K81)
        refine own_by (fun t q => XS.dupX1 X85.here hx rfl (hb hby d5_199) rfl rfl rfl (oIc X85 hx hby d5_200 (XS.iadd X85.here hx rfl (hb hby d5_201) rfl q))) ?_
        refine own_pF X85 hx hZ hown hw 36 37 3 rfl rfl rfl e85 f84 f86 (ty := .int) (by decide) rfl rfl N81 ge_r0 hby d5_202 fun T87 h87 X87 e87 W87 Fw87 N87 => ?_
        have f88 := ((F_used_r0.keep K81 (ninS ne_r0_bA nin0)).other W87 (Or.inr (sn_0 hw)))
        refine own_aF X87 hx hZ hown hw 38 rfl e87 f88 hby d5_205 rfl d5_206 fun T89 X89 e89 => ?_
        have f90 := ((V_sA.keep K81 (ninS ne_sA_bA nin0)).other W87 ne_sA_r0)
        refine own_stI X89 hx hZ e89 f90 hby ⟨by decide, by decide⟩ 2 rfl (Nat.le_of_ble_eq_true rfl) N87 ge_sA d5_209 fun T91 h91 X91 e91 W91 Vr91 N91 => ?_
        have V91 : Arv Z h91 sA kS .int (256 : Int32) [(.int s0), (.int s1), (.int u), (.int s3)] (.int 0) := Vr91
        have f92 := (f88.other W91 (Or.inl ne_r0_sA))
        refine own_by (fun t q => oAn X91 hx hby d5_210 rfl rfl (XS.dup X91.here hx rfl (hb hby d5_211) rfl rfl q)) ?_
        refine own_gF X91 hx hZ hown hw 38 rfl e91 f92 hby d5_212 fun T93 X93 e93 => ?_
        have f94 := ((f86.wr W87).wr W91)
        refine own_by (fun t q => oIl X93 hx hby d5_215 rfl (XS.iadd X93.here hx rfl (hb hby d5_217) rfl q)) ?_
        refine own_pF X93 hx hZ hown hw 38 39 3 rfl rfl rfl e93 f92 f94 (ty := .int) (by decide) rfl rfl N91 ge_r0 hby d5_218 fun T95 h95 X95 e95 W95 Fw95 N95 => ?_
        have f96 := (f94.wr W95)
        have f97 := ((((F_limit_r0.keep K81 (ninS ne_r0_bA nin0)).other W87 (Or.inr (sn_1 hw))).other W91 (Or.inl ne_r0_sA)).other W95 (Or.inr (sn_2 hw)))
        have f98 := ((Fw87.other W91 (Or.inl ne_r0_sA)).other W95 (Or.inr (sn_25 hw)))
        refine own_out X95 Bd.notSynchronized Bd.returns (none) (fun _ => rfl) (by decide) (by decide) ?_ fun fs hr => ?_
        · rw [e95]; exact ⟨lim, (3 : Int32), (u + ln), rfl, N95, (((((Keep.refl h0 [r0, bA, sA, oA, cA]).trans K81 (allS (Or.inl (List.mem_of_getElem? (i := 1) rfl)) all0)).wr W87 (Or.inl (List.mem_of_getElem? (i := 0) rfl))).wr W91 (Or.inl (List.mem_of_getElem? (i := 2) rfl))).wr W95 (Or.inl (List.mem_of_getElem? (i := 0) rfl))), f96, f97, f98, Fw95⟩
        · exact X95.returnOut hx Bd.returns (hb hby d5_221) hr
  · refine own_by (fun t q => XS.ifNo X4.here hx rfl (hb hby d5_28) rfl ((if0 _ _).trans (flt hc28_5).1) q) ?_
    refine own_out X4 Bd.notSynchronized Bd.returns (none) (fun _ => rfl) (by decide) (by decide) ?_ fun fs hr => ?_
    · rw [e4]; exact ⟨lim, (2 : Int32), u, rfl, N4, (Keep.refl h0 [r0, bA, sA, oA, cA]), E_r0, F_limit_r0, F_count_r0, F_used_r0⟩
    · exact X4.returnOut hx Bd.returns (hb hby d5_31) hr
theorem pd_10 : parseMethodDescriptor "()Z" = some ⟨[], some .boolean⟩ := by decide +kernel
theorem pn_com_example_measurewright_measurewright_cli_NameBatchLetAnyGoPinLaw : plainName "com/example/measurewright/measurewright/cli/NameBatchLetAnyGoPinLaw" = true := by first | (simp [plainName, overriddenIn]; done) | decide +kernel
def Q_sgT1 (Z : State) (p0 p1 : Int32) (q2 : Int64) (n mN mB : Int32) (bf : Addr) (l0 l1 l2 l3 f0 f1 f2 f3 : Int32) (bb : Addr) (tot : Int32) (lim : Addr) (cn us : Int32) (h0 : Heap) (n0 : Nat) (v : Option Value) (h : Heap) (L : List Loc) : Prop := v = some (.int 1) ∧ Fr n0 L ∧ True
theorem sgT1 (l : Launch) (Z : State) (a0 : Array Value) (hw : own_HW a0 Z) {p : Program} {e : Env} {s : State} {m : MethodId} {args : Array Value} {below : List Frame} {meth : Method} {c : Code} {T0 : State} {locs : List Loc} (p0 p1 : Int32) (q2 : Int64) (n mN mB : Int32) (bf : Addr) (l0 l1 l2 l3 f0 f1 f2 f3 : Int32) (bb : Addr) (tot : Int32) (lim : Addr) (cn us : Int32) (h0 : Heap) (n0 : Nat) (Z0 : n0 ≤ h0.size) (E_bb : Exa Z h0 bb cS0) (F_limit_bb : Fld Z h0 bb cS0 "limit" "[B" (.ref lim)) (F_count_bb : Fld Z h0 bb cS0 "count" "I" (.int cn)) (F_used_bb : Fld Z h0 bb cS0 "used" "I" (.int us)) (ge_bb : n0 ≤ bb)
    (X0 : Stand p l e room_1 s m args below meth c T0 locs 32 9856) (hx : p.tables.exec = Jvm.exec) (hZ : Z.Warmed39 s.vm) (hby : c.code = code) (hml : c.maxLocals = 21) (hown : s.vm.findClass "com/example/measurewright/measurewright/cli/NameBatchLetAnyGoPinLaw" = some m.cls) (hret : meth.sig.returnType = some .boolean) (hlk : meth.locks = false) (e0 : T0.heap = h0) (N0 : Fr n0 locs) :
    own_G p e below (fun s₂ o => ∃ v L, o = .returned v ∧ Q_sgT1 Z p0 p1 q2 n mN mB bf l0 l1 l2 l3 f0 f1 f2 f3 bb tot lim cn us h0 n0 v s₂.heap L ∧ FrameEnd s o s₂ L room_1.cells room_1.slots) T0 (mkF m 323 #[iv p0, iv p1, .val (.long q2), .second, iv n, iv mN, iv mB, rv bf, iv l0, iv l1, iv l2, iv l3, iv f0, iv f1, iv f2, iv f3, rv bb, iv tot, iv 1, .unset, .unset] []) := by
  refine own_by (fun t q => oAl X0 hx hby at_323 rfl rfl q) ?_
  refine own_cW 0 (rm3_y l Z a0 hw [] bb lim h0 n0 Z0 F_limit_bb) X0 hx hZ hown hw 24 25 27 26 4 28 rfl rfl rfl rfl rfl rfl bb E_bb [] [] hby at_325 hml (lenOf pd_10 rfl) e0 rfl (Nat.le_refl _) (by decide) fun _ T1 L1 X1 hQ1 => ?_
  obtain ⟨rfl, N1q, e1⟩ := hQ1
  have N1 := Fr.app N0 N1q
  refine own_by (fun t q => XS.istore X1.here hx rfl (hb hby at_328) rfl (l' := #[iv p0, iv p1, .val (.long q2), .second, iv n, iv mN, iv mB, rv bf, iv l0, iv l1, iv l2, iv l3, iv f0, iv f1, iv f2, iv f3, rv bb, iv tot, iv 1, iv 1, .unset]) rfl (oAl X1 hx hby at_330 rfl rfl q)) ?_
  refine own_cW 0 (rm4 l Z a0 hw [] bb (.int cn) (.int us) (.ref lim) h0 n0 Z0 E_bb F_count_bb ge_bb F_used_bb F_limit_bb) X1 hx hZ hown hw 31 32 34 33 4 35 rfl rfl rfl rfl rfl rfl bb E_bb [] [] hby at_332 hml (lenOf pd_9 rfl) e1 rfl (Nat.le_refl _) (by decide) fun _ T2 L2 X2 hQ2 => ?_
  obtain ⟨rfl, N2q, K2, p2_0⟩ := hQ2
  have pl2 := (allS (P := fun x => ∃ cell : Cell, h0[x]? = some cell ∧ cell.vm.isStatics = false) (own_ns E_bb) all0)
  have N2 := Fr.app N1 N2q
  have f4 := (E_bb.keep K2)
  refine own_by (fun t q => oAl X2 hx hby at_335 rfl rfl q) ?_
  refine own_cW 0 (rm3_n l Z a0 hw [] bb T2.heap n0 (Nat.le_trans Z0 K2.1) p2_0) X2 hx hZ hown hw 24 25 27 26 4 28 rfl rfl rfl rfl rfl rfl bb f4 [] [] hby at_337 hml (lenOf pd_10 rfl) rfl rfl (Nat.le_refl _) (by decide) fun _ T3 L3 X3 hQ3 => ?_
  obtain ⟨rfl, N3q, e3⟩ := hQ3
  have N3 := Fr.app N2 N3q
  refine own_by (fun t q => XS.istore X3.here hx rfl (hb hby at_340) rfl (l' := #[iv p0, iv p1, .val (.long q2), .second, iv n, iv mN, iv mB, rv bf, iv l0, iv l1, iv l2, iv l3, iv f0, iv f1, iv f2, iv f3, rv bb, iv tot, iv 1, iv 1, iv 0]) rfl (oIl X3 hx hby at_342 rfl (oIl X3 hx hby at_344 rfl (oJn X3 hx hby at_346 (teq (by decide : (1 : Int32) = (1 : Int32))).2 (oIl X3 hx hby at_349 rfl (XS.ifNo X3.here hx rfl (hb hby at_351) rfl ((if0 _ _).trans (teq (by decide : (0 : Int32) = (0 : Int32))).2) q)))))) ?_
  refine own_by (fun t q => oIc X3 hx hby at_354 (oGo X3 hx hby 355 359 at_355 (by decide) (by decide) q)) ?_
  refine own_out X3 hlk hret (some (.int 1)) nofun (by decide) (by decide) ?_ fun fs hr => ?_
  · rw [e3]; exact ⟨rfl, N3, trivial⟩
  · exact retN X3 hx (t := .boolean) hret (by simp) (hb hby at_359) hr
def Q_sgT0 (Z : State) (p0 p1 : Int32) (q2 : Int64) (n mN mB : Int32) (bf : Addr) (l0 l1 l2 l3 f0 f1 f2 f3 : Int32) (bb : Addr) (tot cn us : Int32) (h0 : Heap) (n0 : Nat) (v : Option Value) (h : Heap) (L : List Loc) : Prop := v = some (.int 1) ∧ Fr n0 L ∧ True
theorem sgT0 (l : Launch) (Z : State) (a0 : Array Value) (hw : own_HW a0 Z) {p : Program} {e : Env} {s : State} {m : MethodId} {args : Array Value} {below : List Frame} {meth : Method} {c : Code} {T0 : State} {locs : List Loc} (p0 p1 : Int32) (q2 : Int64) (n mN mB : Int32) (bf : Addr) (l0 l1 l2 l3 f0 f1 f2 f3 : Int32) (bb : Addr) (tot cn us : Int32) (h0 : Heap) (n0 : Nat) (Z0 : n0 ≤ h0.size) (E_bb : Exa Z h0 bb cS0) (F_limit_bb : Fld Z h0 bb cS0 "limit" "[B" .null) (F_count_bb : Fld Z h0 bb cS0 "count" "I" (.int cn)) (F_used_bb : Fld Z h0 bb cS0 "used" "I" (.int us)) (ge_bb : n0 ≤ bb)
    (X0 : Stand p l e room_1 s m args below meth c T0 locs 32 9856) (hx : p.tables.exec = Jvm.exec) (hZ : Z.Warmed39 s.vm) (hby : c.code = code) (hml : c.maxLocals = 21) (hown : s.vm.findClass "com/example/measurewright/measurewright/cli/NameBatchLetAnyGoPinLaw" = some m.cls) (hret : meth.sig.returnType = some .boolean) (hlk : meth.locks = false) (e0 : T0.heap = h0) (N0 : Fr n0 locs) :
    own_G p e below (fun s₂ o => ∃ v L, o = .returned v ∧ Q_sgT0 Z p0 p1 q2 n mN mB bf l0 l1 l2 l3 f0 f1 f2 f3 bb tot cn us h0 n0 v s₂.heap L ∧ FrameEnd s o s₂ L room_1.cells room_1.slots) T0 (mkF m 323 #[iv p0, iv p1, .val (.long q2), .second, iv n, iv mN, iv mB, rv bf, iv l0, iv l1, iv l2, iv l3, iv f0, iv f1, iv f2, iv f3, rv bb, iv tot, iv 0, .unset, .unset] []) := by
  refine own_by (fun t q => oAl X0 hx hby at_323 rfl rfl q) ?_
  refine own_cW 0 (rm3_n l Z a0 hw [] bb h0 n0 Z0 F_limit_bb) X0 hx hZ hown hw 24 25 27 26 4 28 rfl rfl rfl rfl rfl rfl bb E_bb [] [] hby at_325 hml (lenOf pd_10 rfl) e0 rfl (Nat.le_refl _) (by decide) fun _ T1 L1 X1 hQ1 => ?_
  obtain ⟨rfl, N1q, e1⟩ := hQ1
  have N1 := Fr.app N0 N1q
  refine own_by (fun t q => XS.istore X1.here hx rfl (hb hby at_328) rfl (l' := #[iv p0, iv p1, .val (.long q2), .second, iv n, iv mN, iv mB, rv bf, iv l0, iv l1, iv l2, iv l3, iv f0, iv f1, iv f2, iv f3, rv bb, iv tot, iv 0, iv 0, .unset]) rfl (oAl X1 hx hby at_330 rfl rfl q)) ?_
  refine own_cW 0 (rm4 l Z a0 hw [] bb (.int cn) (.int us) .null h0 n0 Z0 E_bb F_count_bb ge_bb F_used_bb F_limit_bb) X1 hx hZ hown hw 31 32 34 33 4 35 rfl rfl rfl rfl rfl rfl bb E_bb [] [] hby at_332 hml (lenOf pd_9 rfl) e1 rfl (Nat.le_refl _) (by decide) fun _ T2 L2 X2 hQ2 => ?_
  obtain ⟨rfl, N2q, K2, p2_0⟩ := hQ2
  have pl2 := (allS (P := fun x => ∃ cell : Cell, h0[x]? = some cell ∧ cell.vm.isStatics = false) (own_ns E_bb) all0)
  have N2 := Fr.app N1 N2q
  have f4 := (E_bb.keep K2)
  refine own_by (fun t q => oAl X2 hx hby at_335 rfl rfl q) ?_
  refine own_cW 0 (rm3_n l Z a0 hw [] bb T2.heap n0 (Nat.le_trans Z0 K2.1) p2_0) X2 hx hZ hown hw 24 25 27 26 4 28 rfl rfl rfl rfl rfl rfl bb f4 [] [] hby at_337 hml (lenOf pd_10 rfl) rfl rfl (Nat.le_refl _) (by decide) fun _ T3 L3 X3 hQ3 => ?_
  obtain ⟨rfl, N3q, e3⟩ := hQ3
  have N3 := Fr.app N2 N3q
  refine own_by (fun t q => XS.istore X3.here hx rfl (hb hby at_340) rfl (l' := #[iv p0, iv p1, .val (.long q2), .second, iv n, iv mN, iv mB, rv bf, iv l0, iv l1, iv l2, iv l3, iv f0, iv f1, iv f2, iv f3, rv bb, iv tot, iv 0, iv 0, iv 0]) rfl (oIl X3 hx hby at_342 rfl (oIl X3 hx hby at_344 rfl (oJn X3 hx hby at_346 (teq (by decide : (0 : Int32) = (0 : Int32))).2 (oIl X3 hx hby at_349 rfl (XS.ifNo X3.here hx rfl (hb hby at_351) rfl ((if0 _ _).trans (teq (by decide : (0 : Int32) = (0 : Int32))).2) q)))))) ?_
  refine own_by (fun t q => oIc X3 hx hby at_354 (oGo X3 hx hby 355 359 at_355 (by decide) (by decide) q)) ?_
  refine own_out X3 hlk hret (some (.int 1)) nofun (by decide) (by decide) ?_ fun fs hr => ?_
  · rw [e3]; exact ⟨rfl, N3, trivial⟩
  · exact retN X3 hx (t := .boolean) hret (by simp) (hb hby at_359) hr
theorem pd_11 : parseMethodDescriptor "([BII)V" = some ⟨[(.array .byte), .int, .int], none⟩ := by decide +kernel
theorem ef_0 (m : MethodId) (x0 : Int32) (x1 : Int32) (x2 : Int64) : entryFrame m #[(.int x0), (.int x1), (.long x2)] maxLocals = mkF m 0 #[.val (.int x0), .val (.int x1), .val (.long x2), .second, .unset, .unset, .unset, .unset, .unset, .unset, .unset, .unset, .unset, .unset, .unset, .unset, .unset, .unset, .unset, .unset, .unset] [] := by first | (simp [entryFrame, mkF, argsToLocals, Value.category, maxLocals]; done) | rfl
def Q_0 (Z : State) (p0 p1 : Int32) (q2 : Int64) (h0 : Heap) (n0 : Nat) (v : Option Value) (h : Heap) (L : List Loc) : Prop := v = some (.int 1) ∧ Fr n0 L ∧ True
theorem rm0 (l : Launch) (Z : State) (a0 : Array Value) (hw : ∀ d ∈ tables_1, d.before a0 Z = true) (ws : List Jvm.Cond) (p0 p1 : Int32) (q2 : Int64) (h0 : Heap) (n0 : Nat) (Z0 : n0 ≤ h0.size) :
    MetFree l x (head1 (Jvm.Cond.code x code maxLocals ret :: ws) room_1) (fun a U => a = #[(.int p0), (.int p1), (.long q2)] ∧ Z.Warmed39 U.vm ∧ U.heap = h0) (fun _ _ _ _ _ => True) (fun _ U o U' => ∃ v L, o = .returned v ∧ Q_0 Z p0 p1 q2 h0 n0 v U'.heap L ∧ FrameEnd U o U' L room_1.cells room_1.slots) := by
  refine MetFree.of_bodySF (plainFor_of_name pn_com_example_measurewright_measurewright_cli_NameBatchLetAnyGoPinLaw) hisR ?_
  intro p e s m args below meth c s₁ Bd hml0 hP hK
  obtain ⟨rfl, hZ, hh⟩ := hP
  have hx := Bd.exec
  have hby := Bd.bytes
  have hml : c.maxLocals = 21 := hml0
  have hown : s.vm.findClass "com/example/measurewright/measurewright/cli/NameBatchLetAnyGoPinLaw" = some m.cls := findClass_of_methodNamed Bd.named
  have hnm := (name_of_methodNamed Bd.named Bd.method).1
  have X0 : Stand p l e room_1 s m #[(.int p0), (.int p1), (.long q2)] below meth c s₁ [] 0 0 := Stand.of_body Bd
  have e0 : s₁.heap = h0 := by rw [← hh, Bd.state]; rfl
  have N0 := Fr.nil n0
  refine own_start (ef_0 m p0 p1 q2) ?_
  refine own_by (fun t q => oIn X0 hx hby at_0 rfl (X0.ldcInt hx hown (mvT hZ (own_at hw 0 rfl)) (g := (mkF m 1 #[iv p0, iv p1, .val (.long q2), .second, .unset, .unset, .unset, .unset, .unset, .unset, .unset, .unset, .unset, .unset, .unset, .unset, .unset, .unset, .unset, .unset, .unset] [(.int p0)])) rfl (hb hby at_1) _ (XS.iand X0.here hx rfl (hb hby at_3) rfl (oIc X0 hx hby at_4 (iremM X0 hx (g := (mkF m 5 #[iv p0, iv p1, .val (.long q2), .second, .unset, .unset, .unset, .unset, .unset, .unset, .unset, .unset, .unset, .unset, .unset, .unset, .unset, .unset, .unset, .unset, .unset] [(.int 5), (.int (p0 &&& (2147483647 : Int32)))])) rfl (hb hby at_5) rfl (by decide) q))))) ?_
  show own_G p e below _ s₁ (mkF m 6 #[iv p0, iv p1, .val (.long q2), .second, .unset, .unset, .unset, .unset, .unset, .unset, .unset, .unset, .unset, .unset, .unset, .unset, .unset, .unset, .unset, .unset, .unset] [(.int ((p0 &&& (2147483647 : Int32)) % (5 : Int32)))])
  obtain ⟨n, e_n⟩ : ∃ x : Int32, x = ((p0 &&& (2147483647 : Int32)) % (5 : Int32)) := ⟨_, rfl⟩
  rw [← e_n]
  have h_n : n = (0 : Int32) ∨ n = (1 : Int32) ∨ n = (2 : Int32) ∨ n = (3 : Int32) ∨ n = (4 : Int32) := by rw [e_n]; exact own_mod5 p0
  refine own_by (fun t q => XS.istore X0.here hx rfl (hb hby at_6) rfl (l' := #[iv p0, iv p1, .val (.long q2), .second, iv n, .unset, .unset, .unset, .unset, .unset, .unset, .unset, .unset, .unset, .unset, .unset, .unset, .unset, .unset, .unset, .unset]) rfl (oIc X0 hx hby at_8 (oIn X0 hx hby at_9 rfl (oBp X0 hx hby at_10 (XS.iushr X0.here hx rfl (hb hby at_12) rfl (oIc X0 hx hby at_13 q)))))) ?_
  refine own_by (fun t q => XS.iand X0.here hx rfl (hb hby at_14) rfl (XS.iadd X0.here hx rfl (hb hby at_15) rfl q)) ?_
  show own_G p e below _ s₁ (mkF m 16 #[iv p0, iv p1, .val (.long q2), .second, iv n, .unset, .unset, .unset, .unset, .unset, .unset, .unset, .unset, .unset, .unset, .unset, .unset, .unset, .unset, .unset, .unset] [(.int ((2 : Int32) + (((p0.toUInt32 >>> ((8 : Int32) &&& 31).toUInt32).toInt32) &&& (3 : Int32))))])
  obtain ⟨mN, e_mN⟩ : ∃ x : Int32, x = ((2 : Int32) + (((p0.toUInt32 >>> ((8 : Int32) &&& 31).toUInt32).toInt32) &&& (3 : Int32))) := ⟨_, rfl⟩
  rw [← e_mN]
  have h_mN : 2 ≤ mN.toInt ∧ mN.toInt ≤ 5 := by rw [e_mN]; exact own_mn _
  refine own_by (fun t q => XS.istore X0.here hx rfl (hb hby at_16) rfl (l' := #[iv p0, iv p1, .val (.long q2), .second, iv n, iv mN, .unset, .unset, .unset, .unset, .unset, .unset, .unset, .unset, .unset, .unset, .unset, .unset, .unset, .unset, .unset]) rfl (oIn X0 hx hby at_18 rfl (oBp X0 hx hby at_19 (XS.iushr X0.here hx rfl (hb hby at_21) rfl (oBp X0 hx hby at_22 (XS.iand X0.here hx rfl (hb hby at_24) rfl q)))))) ?_
  show own_G p e below _ s₁ (mkF m 25 #[iv p0, iv p1, .val (.long q2), .second, iv n, iv mN, .unset, .unset, .unset, .unset, .unset, .unset, .unset, .unset, .unset, .unset, .unset, .unset, .unset, .unset, .unset] [(.int (((p0.toUInt32 >>> ((12 : Int32) &&& 31).toUInt32).toInt32) &&& (15 : Int32)))])
  obtain ⟨mB, e_mB⟩ : ∃ x : Int32, x = (((p0.toUInt32 >>> ((12 : Int32) &&& 31).toUInt32).toInt32) &&& (15 : Int32)) := ⟨_, rfl⟩
  rw [← e_mB]
  have h_mB : 0 ≤ mB.toInt ∧ mB.toInt ≤ 15 := by rw [e_mB]; exact own_mb _
  obtain ⟨T1, h1, k1, X1, e1, E1, A1, EA1, st1⟩ := newPE X0 hx hZ (own_at hw 1 rfl) e0 (g := (mkF m 29 #[iv p0, iv p1, .val (.long q2), .second, iv n, iv mN, iv mB, .unset, .unset, .unset, .unset, .unset, .unset, .unset, .unset, .unset, .unset, .unset, .unset, .unset, .unset] [(.int 8)])) rfl (hb hby at_29) rfl (by decide) (cap := 8) (by decide) (by decide) (by decide) (by decide) (ad := "[B") (by decide)
  obtain ⟨b1, g1⟩ : ∃ z, z = h0.size := ⟨_, rfl⟩
  rw [← g1] at A1 EA1 st1
  have g_b1 : n0 ≤ b1 := Nat.le_trans Z0 (Nat.le_of_eq g1.symm)
  have sz_b1 : h0.size ≤ b1 := Nat.le_trans (Keep.refl h0 []).1 (Nat.le_of_eq g1.symm)
  have V_b1 : Arv Z h1 b1 k1 .byte (8 : Int32) [(.int 0), (.int 0), (.int 0), (.int 0), (.int 0), (.int 0), (.int 0), (.int 0)] (.int 0) := (Arv.new A1 (by decide)).pad (pad_rep [] (.int 0) 8)
  obtain ⟨cl_z2, Ar_z2, q_z2, S_z2, N_z2, H_z2, G_z2⟩ := id V_b1
  have hin3 : ¬ ((0 : Int32) < 0 ∨ cl_z2.slots.size ≤ ((0 : Int32)).toNatClampNeg) := inb_of S_z2 ⟨by decide, by decide⟩
  obtain ⟨T4, h4, X4, e4, W4, st4⟩ := stB X1 hx hZ e1 Ar_z2 (j := (0 : Int32)) hin3 (g := (mkF m 39 #[iv p0, iv p1, .val (.long q2), .second, iv n, iv mN, iv mB, rv b1, .unset, .unset, .unset, .unset, .unset, .unset, .unset, .unset, .unset, .unset, .unset, .unset, .unset] [(.int ((q2.toInt32).toInt8.toInt32)), (.int 0), (.ref b1)])) rfl rfl (hb hby at_39)
  have V4 : Arv Z h4 b1 k1 .byte (8 : Int32) [(.int (((q2.toInt32).toInt8.toInt32).toInt8.toInt32)), (.int 0), (.int 0), (.int 0), (.int 0), (.int 0), (.int 0), (.int 0)] (.int 0) := Arv.set Ar_z2 q_z2 S_z2 N_z2 H_z2 G_z2 (fits_nar_byte _) W4 0 rfl (Nat.le_of_ble_eq_true rfl)
  have N4 := Fr.snoc X4 N0 g_b1
  obtain ⟨cl_z5, Ar_z5, q_z5, S_z5, N_z5, H_z5, G_z5⟩ := id V4
  have hin6 : ¬ ((1 : Int32) < 0 ∨ cl_z5.slots.size ≤ ((1 : Int32)).toNatClampNeg) := inb_of S_z5 ⟨by decide, by decide⟩
  obtain ⟨T7, h7, X7, e7, W7, st7⟩ := stB X4 hx hZ e4 Ar_z5 (j := (1 : Int32)) hin6 (g := (mkF m 49 #[iv p0, iv p1, .val (.long q2), .second, iv n, iv mN, iv mB, rv b1, .unset, .unset, .unset, .unset, .unset, .unset, .unset, .unset, .unset, .unset, .unset, .unset, .unset] [(.int ((((q2.toUInt64 >>> ((8 : Int32) &&& 0x3f).toInt64.toUInt64).toInt64).toInt32).toInt8.toInt32)), (.int 1), (.ref b1)])) rfl rfl (hb hby at_49)
  have V7 : Arv Z h7 b1 k1 .byte (8 : Int32) [(.int (((q2.toInt32).toInt8.toInt32).toInt8.toInt32)), (.int (((((q2.toUInt64 >>> ((8 : Int32) &&& 0x3f).toInt64.toUInt64).toInt64).toInt32).toInt8.toInt32).toInt8.toInt32)), (.int 0), (.int 0), (.int 0), (.int 0), (.int 0), (.int 0)] (.int 0) := Arv.set Ar_z5 q_z5 S_z5 N_z5 H_z5 G_z5 (fits_nar_byte _) W7 1 rfl (Nat.le_of_ble_eq_true rfl)
  have N7 := Fr.snoc X7 N4 g_b1
  obtain ⟨cl_z8, Ar_z8, q_z8, S_z8, N_z8, H_z8, G_z8⟩ := id V7
  have hin9 : ¬ ((2 : Int32) < 0 ∨ cl_z8.slots.size ≤ ((2 : Int32)).toNatClampNeg) := inb_of S_z8 ⟨by decide, by decide⟩
  obtain ⟨T10, h10, X10, e10, W10, st10⟩ := stB X7 hx hZ e7 Ar_z8 (j := (2 : Int32)) hin9 (g := (mkF m 59 #[iv p0, iv p1, .val (.long q2), .second, iv n, iv mN, iv mB, rv b1, .unset, .unset, .unset, .unset, .unset, .unset, .unset, .unset, .unset, .unset, .unset, .unset, .unset] [(.int ((((q2.toUInt64 >>> ((16 : Int32) &&& 0x3f).toInt64.toUInt64).toInt64).toInt32).toInt8.toInt32)), (.int 2), (.ref b1)])) rfl rfl (hb hby at_59)
  have V10 : Arv Z h10 b1 k1 .byte (8 : Int32) [(.int (((q2.toInt32).toInt8.toInt32).toInt8.toInt32)), (.int (((((q2.toUInt64 >>> ((8 : Int32) &&& 0x3f).toInt64.toUInt64).toInt64).toInt32).toInt8.toInt32).toInt8.toInt32)), (.int (((((q2.toUInt64 >>> ((16 : Int32) &&& 0x3f).toInt64.toUInt64).toInt64).toInt32).toInt8.toInt32).toInt8.toInt32)), (.int 0), (.int 0), (.int 0), (.int 0), (.int 0)] (.int 0) := Arv.set Ar_z8 q_z8 S_z8 N_z8 H_z8 G_z8 (fits_nar_byte _) W10 2 rfl (Nat.le_of_ble_eq_true rfl)
  have N10 := Fr.snoc X10 N7 g_b1
  obtain ⟨cl_z11, Ar_z11, q_z11, S_z11, N_z11, H_z11, G_z11⟩ := id V10
  have hin12 : ¬ ((3 : Int32) < 0 ∨ cl_z11.slots.size ≤ ((3 : Int32)).toNatClampNeg) := inb_of S_z11 ⟨by decide, by decide⟩
  obtain ⟨T13, h13, X13, e13, W13, st13⟩ := stB X10 hx hZ e10 Ar_z11 (j := (3 : Int32)) hin12 (g := (mkF m 69 #[iv p0, iv p1, .val (.long q2), .second, iv n, iv mN, iv mB, rv b1, .unset, .unset, .unset, .unset, .unset, .unset, .unset, .unset, .unset, .unset, .unset, .unset, .unset] [(.int ((((q2.toUInt64 >>> ((24 : Int32) &&& 0x3f).toInt64.toUInt64).toInt64).toInt32).toInt8.toInt32)), (.int 3), (.ref b1)])) rfl rfl (hb hby at_69)
  have V13 : Arv Z h13 b1 k1 .byte (8 : Int32) [(.int (((q2.toInt32).toInt8.toInt32).toInt8.toInt32)), (.int (((((q2.toUInt64 >>> ((8 : Int32) &&& 0x3f).toInt64.toUInt64).toInt64).toInt32).toInt8.toInt32).toInt8.toInt32)), (.int (((((q2.toUInt64 >>> ((16 : Int32) &&& 0x3f).toInt64.toUInt64).toInt64).toInt32).toInt8.toInt32).toInt8.toInt32)), (.int (((((q2.toUInt64 >>> ((24 : Int32) &&& 0x3f).toInt64.toUInt64).toInt64).toInt32).toInt8.toInt32).toInt8.toInt32)), (.int 0), (.int 0), (.int 0), (.int 0)] (.int 0) := Arv.set Ar_z11 q_z11 S_z11 N_z11 H_z11 G_z11 (fits_nar_byte _) W13 3 rfl (Nat.le_of_ble_eq_true rfl)
  have N13 := Fr.snoc X13 N10 g_b1
  obtain ⟨cl_z14, Ar_z14, q_z14, S_z14, N_z14, H_z14, G_z14⟩ := id V13
  have hin15 : ¬ ((4 : Int32) < 0 ∨ cl_z14.slots.size ≤ ((4 : Int32)).toNatClampNeg) := inb_of S_z14 ⟨by decide, by decide⟩
  obtain ⟨T16, h16, X16, e16, W16, st16⟩ := stB X13 hx hZ e13 Ar_z14 (j := (4 : Int32)) hin15 (g := (mkF m 79 #[iv p0, iv p1, .val (.long q2), .second, iv n, iv mN, iv mB, rv b1, .unset, .unset, .unset, .unset, .unset, .unset, .unset, .unset, .unset, .unset, .unset, .unset, .unset] [(.int ((((q2.toUInt64 >>> ((32 : Int32) &&& 0x3f).toInt64.toUInt64).toInt64).toInt32).toInt8.toInt32)), (.int 4), (.ref b1)])) rfl rfl (hb hby at_79)
  have V16 : Arv Z h16 b1 k1 .byte (8 : Int32) [(.int (((q2.toInt32).toInt8.toInt32).toInt8.toInt32)), (.int (((((q2.toUInt64 >>> ((8 : Int32) &&& 0x3f).toInt64.toUInt64).toInt64).toInt32).toInt8.toInt32).toInt8.toInt32)), (.int (((((q2.toUInt64 >>> ((16 : Int32) &&& 0x3f).toInt64.toUInt64).toInt64).toInt32).toInt8.toInt32).toInt8.toInt32)), (.int (((((q2.toUInt64 >>> ((24 : Int32) &&& 0x3f).toInt64.toUInt64).toInt64).toInt32).toInt8.toInt32).toInt8.toInt32)), (.int (((((q2.toUInt64 >>> ((32 : Int32) &&& 0x3f).toInt64.toUInt64).toInt64).toInt32).toInt8.toInt32).toInt8.toInt32)), (.int 0), (.int 0), (.int 0)] (.int 0) := Arv.set Ar_z14 q_z14 S_z14 N_z14 H_z14 G_z14 (fits_nar_byte _) W16 4 rfl (Nat.le_of_ble_eq_true rfl)
  have N16 := Fr.snoc X16 N13 g_b1
  obtain ⟨cl_z17, Ar_z17, q_z17, S_z17, N_z17, H_z17, G_z17⟩ := id V16
  have hin18 : ¬ ((5 : Int32) < 0 ∨ cl_z17.slots.size ≤ ((5 : Int32)).toNatClampNeg) := inb_of S_z17 ⟨by decide, by decide⟩
  obtain ⟨T19, h19, X19, e19, W19, st19⟩ := stB X16 hx hZ e16 Ar_z17 (j := (5 : Int32)) hin18 (g := (mkF m 89 #[iv p0, iv p1, .val (.long q2), .second, iv n, iv mN, iv mB, rv b1, .unset, .unset, .unset, .unset, .unset, .unset, .unset, .unset, .unset, .unset, .unset, .unset, .unset] [(.int ((((q2.toUInt64 >>> ((40 : Int32) &&& 0x3f).toInt64.toUInt64).toInt64).toInt32).toInt8.toInt32)), (.int 5), (.ref b1)])) rfl rfl (hb hby at_89)
  have V19 : Arv Z h19 b1 k1 .byte (8 : Int32) [(.int (((q2.toInt32).toInt8.toInt32).toInt8.toInt32)), (.int (((((q2.toUInt64 >>> ((8 : Int32) &&& 0x3f).toInt64.toUInt64).toInt64).toInt32).toInt8.toInt32).toInt8.toInt32)), (.int (((((q2.toUInt64 >>> ((16 : Int32) &&& 0x3f).toInt64.toUInt64).toInt64).toInt32).toInt8.toInt32).toInt8.toInt32)), (.int (((((q2.toUInt64 >>> ((24 : Int32) &&& 0x3f).toInt64.toUInt64).toInt64).toInt32).toInt8.toInt32).toInt8.toInt32)), (.int (((((q2.toUInt64 >>> ((32 : Int32) &&& 0x3f).toInt64.toUInt64).toInt64).toInt32).toInt8.toInt32).toInt8.toInt32)), (.int (((((q2.toUInt64 >>> ((40 : Int32) &&& 0x3f).toInt64.toUInt64).toInt64).toInt32).toInt8.toInt32).toInt8.toInt32)), (.int 0), (.int 0)] (.int 0) := Arv.set Ar_z17 q_z17 S_z17 N_z17 H_z17 G_z17 (fits_nar_byte _) W19 5 rfl (Nat.le_of_ble_eq_true rfl)
  have N19 := Fr.snoc X19 N16 g_b1
  obtain ⟨cl_z20, Ar_z20, q_z20, S_z20, N_z20, H_z20, G_z20⟩ := id V19
  have hin21 : ¬ ((6 : Int32) < 0 ∨ cl_z20.slots.size ≤ ((6 : Int32)).toNatClampNeg) := inb_of S_z20 ⟨by decide, by decide⟩
  obtain ⟨T22, h22, X22, e22, W22, st22⟩ := stB X19 hx hZ e19 Ar_z20 (j := (6 : Int32)) hin21 (g := (mkF m 100 #[iv p0, iv p1, .val (.long q2), .second, iv n, iv mN, iv mB, rv b1, .unset, .unset, .unset, .unset, .unset, .unset, .unset, .unset, .unset, .unset, .unset, .unset, .unset] [(.int ((((q2.toUInt64 >>> ((48 : Int32) &&& 0x3f).toInt64.toUInt64).toInt64).toInt32).toInt8.toInt32)), (.int 6), (.ref b1)])) rfl rfl (hb hby at_100)
  have V22 : Arv Z h22 b1 k1 .byte (8 : Int32) [(.int (((q2.toInt32).toInt8.toInt32).toInt8.toInt32)), (.int (((((q2.toUInt64 >>> ((8 : Int32) &&& 0x3f).toInt64.toUInt64).toInt64).toInt32).toInt8.toInt32).toInt8.toInt32)), (.int (((((q2.toUInt64 >>> ((16 : Int32) &&& 0x3f).toInt64.toUInt64).toInt64).toInt32).toInt8.toInt32).toInt8.toInt32)), (.int (((((q2.toUInt64 >>> ((24 : Int32) &&& 0x3f).toInt64.toUInt64).toInt64).toInt32).toInt8.toInt32).toInt8.toInt32)), (.int (((((q2.toUInt64 >>> ((32 : Int32) &&& 0x3f).toInt64.toUInt64).toInt64).toInt32).toInt8.toInt32).toInt8.toInt32)), (.int (((((q2.toUInt64 >>> ((40 : Int32) &&& 0x3f).toInt64.toUInt64).toInt64).toInt32).toInt8.toInt32).toInt8.toInt32)), (.int (((((q2.toUInt64 >>> ((48 : Int32) &&& 0x3f).toInt64.toUInt64).toInt64).toInt32).toInt8.toInt32).toInt8.toInt32)), (.int 0)] (.int 0) := Arv.set Ar_z20 q_z20 S_z20 N_z20 H_z20 G_z20 (fits_nar_byte _) W22 6 rfl (Nat.le_of_ble_eq_true rfl)
  have N22 := Fr.snoc X22 N19 g_b1
  obtain ⟨cl_z23, Ar_z23, q_z23, S_z23, N_z23, H_z23, G_z23⟩ := id V22
  have hin24 : ¬ ((7 : Int32) < 0 ∨ cl_z23.slots.size ≤ ((7 : Int32)).toNatClampNeg) := inb_of S_z23 ⟨by decide, by decide⟩
  obtain ⟨T25, h25, X25, e25, W25, st25⟩ := stB X22 hx hZ e22 Ar_z23 (j := (7 : Int32)) hin24 (g := (mkF m 111 #[iv p0, iv p1, .val (.long q2), .second, iv n, iv mN, iv mB, rv b1, .unset, .unset, .unset, .unset, .unset, .unset, .unset, .unset, .unset, .unset, .unset, .unset, .unset] [(.int ((((q2.toUInt64 >>> ((56 : Int32) &&& 0x3f).toInt64.toUInt64).toInt64).toInt32).toInt8.toInt32)), (.int 7), (.ref b1)])) rfl rfl (hb hby at_111)
  have V25 : Arv Z h25 b1 k1 .byte (8 : Int32) [(.int (((q2.toInt32).toInt8.toInt32).toInt8.toInt32)), (.int (((((q2.toUInt64 >>> ((8 : Int32) &&& 0x3f).toInt64.toUInt64).toInt64).toInt32).toInt8.toInt32).toInt8.toInt32)), (.int (((((q2.toUInt64 >>> ((16 : Int32) &&& 0x3f).toInt64.toUInt64).toInt64).toInt32).toInt8.toInt32).toInt8.toInt32)), (.int (((((q2.toUInt64 >>> ((24 : Int32) &&& 0x3f).toInt64.toUInt64).toInt64).toInt32).toInt8.toInt32).toInt8.toInt32)), (.int (((((q2.toUInt64 >>> ((32 : Int32) &&& 0x3f).toInt64.toUInt64).toInt64).toInt32).toInt8.toInt32).toInt8.toInt32)), (.int (((((q2.toUInt64 >>> ((40 : Int32) &&& 0x3f).toInt64.toUInt64).toInt64).toInt32).toInt8.toInt32).toInt8.toInt32)), (.int (((((q2.toUInt64 >>> ((48 : Int32) &&& 0x3f).toInt64.toUInt64).toInt64).toInt32).toInt8.toInt32).toInt8.toInt32)), (.int (((((q2.toUInt64 >>> ((56 : Int32) &&& 0x3f).toInt64.toUInt64).toInt64).toInt32).toInt8.toInt32).toInt8.toInt32))] (.int 0) := Arv.set Ar_z23 q_z23 S_z23 N_z23 H_z23 G_z23 (fits_nar_byte _) W25 7 rfl (Nat.le_of_ble_eq_true rfl)
  have N25 := Fr.snoc X25 N22 g_b1
  have PB : own_B Z h25 b1 (8 : Int32) := ⟨_, _, V25⟩
  refine own_by (fun t q => XS.istore X0.here hx rfl (hb hby at_25) rfl (l' := #[iv p0, iv p1, .val (.long q2), .second, iv n, iv mN, iv mB, .unset, .unset, .unset, .unset, .unset, .unset, .unset, .unset, .unset, .unset, .unset, .unset, .unset, .unset]) rfl (oBp X0 hx hby at_27 (st1 _ (XS.astore X1.here hx rfl (hb hby at_31) rfl rfl (l' := #[iv p0, iv p1, .val (.long q2), .second, iv n, iv mN, iv mB, rv b1, .unset, .unset, .unset, .unset, .unset, .unset, .unset, .unset, .unset, .unset, .unset, .unset, .unset]) rfl (oAl X1 hx hby at_33 rfl rfl (oIc X1 hx hby at_35 q)))))) ?_
  refine own_by (fun t q => XS.lloadN X1.here hx rfl (hb hby at_36) rfl (XS.l2i X1.here hx rfl (hb hby at_37) rfl (XS.i2b X1.here hx rfl (hb hby at_38) rfl (st4 _ (oAl X4 hx hby at_40 rfl rfl (oIc X4 hx hby at_42 q)))))) ?_
  refine own_by (fun t q => XS.lloadN X4.here hx rfl (hb hby at_43) rfl (oBp X4 hx hby at_44 (XS.lushr X4.here hx rfl (hb hby at_46) rfl (XS.l2i X4.here hx rfl (hb hby at_47) rfl (XS.i2b X4.here hx rfl (hb hby at_48) rfl (st7 _ q)))))) ?_
  refine own_by (fun t q => oAl X7 hx hby at_50 rfl rfl (oIc X7 hx hby at_52 (XS.lloadN X7.here hx rfl (hb hby at_53) rfl (oBp X7 hx hby at_54 (XS.lushr X7.here hx rfl (hb hby at_56) rfl (XS.l2i X7.here hx rfl (hb hby at_57) rfl q)))))) ?_
  refine own_by (fun t q => XS.i2b X7.here hx rfl (hb hby at_58) rfl (st10 _ (oAl X10 hx hby at_60 rfl rfl (oIc X10 hx hby at_62 (XS.lloadN X10.here hx rfl (hb hby at_63) rfl (oBp X10 hx hby at_64 q)))))) ?_
  refine own_by (fun t q => XS.lushr X10.here hx rfl (hb hby at_66) rfl (XS.l2i X10.here hx rfl (hb hby at_67) rfl (XS.i2b X10.here hx rfl (hb hby at_68) rfl (st13 _ (oAl X13 hx hby at_70 rfl rfl (oIc X13 hx hby at_72 q)))))) ?_
  refine own_by (fun t q => XS.lloadN X13.here hx rfl (hb hby at_73) rfl (oBp X13 hx hby at_74 (XS.lushr X13.here hx rfl (hb hby at_76) rfl (XS.l2i X13.here hx rfl (hb hby at_77) rfl (XS.i2b X13.here hx rfl (hb hby at_78) rfl (st16 _ q)))))) ?_
  refine own_by (fun t q => oAl X16 hx hby at_80 rfl rfl (oIc X16 hx hby at_82 (XS.lloadN X16.here hx rfl (hb hby at_83) rfl (oBp X16 hx hby at_84 (XS.lushr X16.here hx rfl (hb hby at_86) rfl (XS.l2i X16.here hx rfl (hb hby at_87) rfl q)))))) ?_
  refine own_by (fun t q => XS.i2b X16.here hx rfl (hb hby at_88) rfl (st19 _ (oAl X19 hx hby at_90 rfl rfl (oBp X19 hx hby at_92 (XS.lloadN X19.here hx rfl (hb hby at_94) rfl (oBp X19 hx hby at_95 q)))))) ?_
  refine own_by (fun t q => XS.lushr X19.here hx rfl (hb hby at_97) rfl (XS.l2i X19.here hx rfl (hb hby at_98) rfl (XS.i2b X19.here hx rfl (hb hby at_99) rfl (st22 _ (oAl X22 hx hby at_101 rfl rfl (oBp X22 hx hby at_103 q)))))) ?_
  refine own_by (fun t q => XS.lloadN X22.here hx rfl (hb hby at_105) rfl (oBp X22 hx hby at_106 (XS.lushr X22.here hx rfl (hb hby at_108) rfl (XS.l2i X22.here hx rfl (hb hby at_109) rfl (XS.i2b X22.here hx rfl (hb hby at_110) rfl (st25 _ q)))))) ?_
  refine own_by (fun t q => oIn X25 hx hby at_112 rfl (oIc X25 hx hby at_113 (XS.iand X25.here hx rfl (hb hby at_114) rfl q))) ?_
  show own_G p e below _ T25 (mkF m 115 #[iv p0, iv p1, .val (.long q2), .second, iv n, iv mN, iv mB, rv b1, .unset, .unset, .unset, .unset, .unset, .unset, .unset, .unset, .unset, .unset, .unset, .unset, .unset] [(.int (p1 &&& (3 : Int32)))])
  obtain ⟨l0, e_l0⟩ : ∃ x : Int32, x = (p1 &&& (3 : Int32)) := ⟨_, rfl⟩
  rw [← e_l0]
  have h_l0 : 0 ≤ l0.toInt ∧ l0.toInt ≤ 3 := by rw [e_l0]; exact own_and3 _
  refine own_by (fun t q => XS.istore X25.here hx rfl (hb hby at_115) rfl (l' := #[iv p0, iv p1, .val (.long q2), .second, iv n, iv mN, iv mB, rv b1, iv l0, .unset, .unset, .unset, .unset, .unset, .unset, .unset, .unset, .unset, .unset, .unset, .unset]) rfl (oIn X25 hx hby at_117 rfl (oIc X25 hx hby at_118 (XS.iushr X25.here hx rfl (hb hby at_119) rfl (oIc X25 hx hby at_120 (XS.iand X25.here hx rfl (hb hby at_121) rfl q)))))) ?_
  show own_G p e below _ T25 (mkF m 122 #[iv p0, iv p1, .val (.long q2), .second, iv n, iv mN, iv mB, rv b1, iv l0, .unset, .unset, .unset, .unset, .unset, .unset, .unset, .unset, .unset, .unset, .unset, .unset] [(.int (((p1.toUInt32 >>> ((2 : Int32) &&& 31).toUInt32).toInt32) &&& (3 : Int32)))])
  obtain ⟨l1, e_l1⟩ : ∃ x : Int32, x = (((p1.toUInt32 >>> ((2 : Int32) &&& 31).toUInt32).toInt32) &&& (3 : Int32)) := ⟨_, rfl⟩
  rw [← e_l1]
  have h_l1 : 0 ≤ l1.toInt ∧ l1.toInt ≤ 3 := by rw [e_l1]; exact own_and3 _
  refine own_by (fun t q => XS.istore X25.here hx rfl (hb hby at_122) rfl (l' := #[iv p0, iv p1, .val (.long q2), .second, iv n, iv mN, iv mB, rv b1, iv l0, iv l1, .unset, .unset, .unset, .unset, .unset, .unset, .unset, .unset, .unset, .unset, .unset]) rfl (oIn X25 hx hby at_124 rfl (oIc X25 hx hby at_125 (XS.iushr X25.here hx rfl (hb hby at_126) rfl (oIc X25 hx hby at_127 (XS.iand X25.here hx rfl (hb hby at_128) rfl q)))))) ?_
  show own_G p e below _ T25 (mkF m 129 #[iv p0, iv p1, .val (.long q2), .second, iv n, iv mN, iv mB, rv b1, iv l0, iv l1, .unset, .unset, .unset, .unset, .unset, .unset, .unset, .unset, .unset, .unset, .unset] [(.int (((p1.toUInt32 >>> ((4 : Int32) &&& 31).toUInt32).toInt32) &&& (3 : Int32)))])
  obtain ⟨l2, e_l2⟩ : ∃ x : Int32, x = (((p1.toUInt32 >>> ((4 : Int32) &&& 31).toUInt32).toInt32) &&& (3 : Int32)) := ⟨_, rfl⟩
  rw [← e_l2]
  have h_l2 : 0 ≤ l2.toInt ∧ l2.toInt ≤ 3 := by rw [e_l2]; exact own_and3 _
  refine own_by (fun t q => XS.istore X25.here hx rfl (hb hby at_129) rfl (l' := #[iv p0, iv p1, .val (.long q2), .second, iv n, iv mN, iv mB, rv b1, iv l0, iv l1, iv l2, .unset, .unset, .unset, .unset, .unset, .unset, .unset, .unset, .unset, .unset]) rfl (oIn X25 hx hby at_131 rfl (oBp X25 hx hby at_132 (XS.iushr X25.here hx rfl (hb hby at_134) rfl (oIc X25 hx hby at_135 (XS.iand X25.here hx rfl (hb hby at_136) rfl q)))))) ?_
  show own_G p e below _ T25 (mkF m 137 #[iv p0, iv p1, .val (.long q2), .second, iv n, iv mN, iv mB, rv b1, iv l0, iv l1, iv l2, .unset, .unset, .unset, .unset, .unset, .unset, .unset, .unset, .unset, .unset] [(.int (((p1.toUInt32 >>> ((6 : Int32) &&& 31).toUInt32).toInt32) &&& (3 : Int32)))])
  obtain ⟨l3, e_l3⟩ : ∃ x : Int32, x = (((p1.toUInt32 >>> ((6 : Int32) &&& 31).toUInt32).toInt32) &&& (3 : Int32)) := ⟨_, rfl⟩
  rw [← e_l3]
  have h_l3 : 0 ≤ l3.toInt ∧ l3.toInt ≤ 3 := by rw [e_l3]; exact own_and3 _
  refine own_by (fun t q => XS.istore X25.here hx rfl (hb hby at_137) rfl (l' := #[iv p0, iv p1, .val (.long q2), .second, iv n, iv mN, iv mB, rv b1, iv l0, iv l1, iv l2, iv l3, .unset, .unset, .unset, .unset, .unset, .unset, .unset, .unset, .unset]) rfl (oIn X25 hx hby at_139 rfl (oBp X25 hx hby at_140 (XS.iushr X25.here hx rfl (hb hby at_142) rfl (oIc X25 hx hby at_143 (XS.iand X25.here hx rfl (hb hby at_144) rfl q)))))) ?_
  show own_G p e below _ T25 (mkF m 145 #[iv p0, iv p1, .val (.long q2), .second, iv n, iv mN, iv mB, rv b1, iv l0, iv l1, iv l2, iv l3, .unset, .unset, .unset, .unset, .unset, .unset, .unset, .unset, .unset] [(.int (((p1.toUInt32 >>> ((8 : Int32) &&& 31).toUInt32).toInt32) &&& (3 : Int32)))])
  obtain ⟨f0, e_f0⟩ : ∃ x : Int32, x = (((p1.toUInt32 >>> ((8 : Int32) &&& 31).toUInt32).toInt32) &&& (3 : Int32)) := ⟨_, rfl⟩
  rw [← e_f0]
  have h_f0 : 0 ≤ f0.toInt ∧ f0.toInt ≤ 3 := by rw [e_f0]; exact own_and3 _
  refine own_by (fun t q => XS.istore X25.here hx rfl (hb hby at_145) rfl (l' := #[iv p0, iv p1, .val (.long q2), .second, iv n, iv mN, iv mB, rv b1, iv l0, iv l1, iv l2, iv l3, iv f0, .unset, .unset, .unset, .unset, .unset, .unset, .unset, .unset]) rfl (oIn X25 hx hby at_147 rfl (oBp X25 hx hby at_148 (XS.iushr X25.here hx rfl (hb hby at_150) rfl (oIc X25 hx hby at_151 (XS.iand X25.here hx rfl (hb hby at_152) rfl q)))))) ?_
  show own_G p e below _ T25 (mkF m 153 #[iv p0, iv p1, .val (.long q2), .second, iv n, iv mN, iv mB, rv b1, iv l0, iv l1, iv l2, iv l3, iv f0, .unset, .unset, .unset, .unset, .unset, .unset, .unset, .unset] [(.int (((p1.toUInt32 >>> ((10 : Int32) &&& 31).toUInt32).toInt32) &&& (3 : Int32)))])
  obtain ⟨f1, e_f1⟩ : ∃ x : Int32, x = (((p1.toUInt32 >>> ((10 : Int32) &&& 31).toUInt32).toInt32) &&& (3 : Int32)) := ⟨_, rfl⟩
  rw [← e_f1]
  have h_f1 : 0 ≤ f1.toInt ∧ f1.toInt ≤ 3 := by rw [e_f1]; exact own_and3 _
  refine own_by (fun t q => XS.istore X25.here hx rfl (hb hby at_153) rfl (l' := #[iv p0, iv p1, .val (.long q2), .second, iv n, iv mN, iv mB, rv b1, iv l0, iv l1, iv l2, iv l3, iv f0, iv f1, .unset, .unset, .unset, .unset, .unset, .unset, .unset]) rfl (oIn X25 hx hby at_155 rfl (oBp X25 hx hby at_156 (XS.iushr X25.here hx rfl (hb hby at_158) rfl (oIc X25 hx hby at_159 (XS.iand X25.here hx rfl (hb hby at_160) rfl q)))))) ?_
  show own_G p e below _ T25 (mkF m 161 #[iv p0, iv p1, .val (.long q2), .second, iv n, iv mN, iv mB, rv b1, iv l0, iv l1, iv l2, iv l3, iv f0, iv f1, .unset, .unset, .unset, .unset, .unset, .unset, .unset] [(.int (((p1.toUInt32 >>> ((12 : Int32) &&& 31).toUInt32).toInt32) &&& (3 : Int32)))])
  obtain ⟨f2, e_f2⟩ : ∃ x : Int32, x = (((p1.toUInt32 >>> ((12 : Int32) &&& 31).toUInt32).toInt32) &&& (3 : Int32)) := ⟨_, rfl⟩
  rw [← e_f2]
  have h_f2 : 0 ≤ f2.toInt ∧ f2.toInt ≤ 3 := by rw [e_f2]; exact own_and3 _
  refine own_by (fun t q => XS.istore X25.here hx rfl (hb hby at_161) rfl (l' := #[iv p0, iv p1, .val (.long q2), .second, iv n, iv mN, iv mB, rv b1, iv l0, iv l1, iv l2, iv l3, iv f0, iv f1, iv f2, .unset, .unset, .unset, .unset, .unset, .unset]) rfl (oIn X25 hx hby at_163 rfl (oBp X25 hx hby at_164 (XS.iushr X25.here hx rfl (hb hby at_166) rfl (oIc X25 hx hby at_167 (XS.iand X25.here hx rfl (hb hby at_168) rfl q)))))) ?_
  show own_G p e below _ T25 (mkF m 169 #[iv p0, iv p1, .val (.long q2), .second, iv n, iv mN, iv mB, rv b1, iv l0, iv l1, iv l2, iv l3, iv f0, iv f1, iv f2, .unset, .unset, .unset, .unset, .unset, .unset] [(.int (((p1.toUInt32 >>> ((14 : Int32) &&& 31).toUInt32).toInt32) &&& (3 : Int32)))])
  obtain ⟨f3, e_f3⟩ : ∃ x : Int32, x = (((p1.toUInt32 >>> ((14 : Int32) &&& 31).toUInt32).toInt32) &&& (3 : Int32)) := ⟨_, rfl⟩
  rw [← e_f3]
  have h_f3 : 0 ≤ f3.toInt ∧ f3.toInt ≤ 3 := by rw [e_f3]; exact own_and3 _
  have f26 := ((((((((EA1.wr W4).wr W7).wr W10).wr W13).wr W16).wr W19).wr W22).wr W25)
  obtain ⟨T27, h27, X27, e27, E27, A27, D27, -, st27⟩ := newO X25 hx hZ hown (own_at hw 2 rfl) (own_at hw 3 rfl) (own_at hw 4 rfl) e25 (g := (mkF m 171 #[iv p0, iv p1, .val (.long q2), .second, iv n, iv mN, iv mB, rv b1, iv l0, iv l1, iv l2, iv l3, iv f0, iv f1, iv f2, iv f3, .unset, .unset, .unset, .unset, .unset] [])) rfl (hb hby at_171) (by decide) (by decide)
  obtain ⟨b27, g27⟩ : ∃ z, z = h25.size := ⟨_, rfl⟩
  rw [← g27] at A27 D27 st27
  have g_b27 : n0 ≤ b27 := Nat.le_trans (Nat.le_trans (Nat.le_trans (Nat.le_trans (Nat.le_trans (Nat.le_trans (Nat.le_trans (Nat.le_trans (Nat.le_trans (Nat.le_trans Z0 E1.1) (Keep.of_wr W4).1) (Keep.of_wr W7).1) (Keep.of_wr W10).1) (Keep.of_wr W13).1) (Keep.of_wr W16).1) (Keep.of_wr W19).1) (Keep.of_wr W22).1) (Keep.of_wr W25).1) (Nat.le_of_eq g27.symm)
  have sz_b27 : h0.size ≤ b27 := Nat.le_trans ((((((((((Keep.refl h0 []).ext E1).wr W4 (Or.inr sz_b1)).wr W7 (Or.inr sz_b1)).wr W10 (Or.inr sz_b1)).wr W13 (Or.inr sz_b1)).wr W16 (Or.inr sz_b1)).wr W19 (Or.inr sz_b1)).wr W22 (Or.inr sz_b1)).wr W25 (Or.inr sz_b1)).1 (Nat.le_of_eq g27.symm)
  have F_bytes_b27 : Fld Z h27 b27 cS0 "bytes" "[B" .null := D27 (Or.inl (own_at hw 12 rfl)) (ty := (.array .byte)) (by decide)
  have F_starts_b27 : Fld Z h27 b27 cS0 "starts" "[I" .null := D27 (Or.inl (own_at hw 15 rfl)) (ty := (.array .int)) (by decide)
  have F_order_b27 : Fld Z h27 b27 cS0 "order" "[I" .null := D27 (Or.inl (own_at hw 17 rfl)) (ty := (.array .int)) (by decide)
  have F_scratch_b27 : Fld Z h27 b27 cS0 "scratch" "[I" .null := D27 (Or.inl (own_at hw 19 rfl)) (ty := (.array .int)) (by decide)
  have F_maxNames_b27 : Fld Z h27 b27 cS0 "maxNames" "I" (.int 0) := D27 (Or.inr (own_at hw 21 rfl)) (ty := .int) (by decide)
  have F_maxBytes_b27 : Fld Z h27 b27 cS0 "maxBytes" "I" (.int 0) := D27 (Or.inr (own_at hw 23 rfl)) (ty := .int) (by decide)
  have F_limit_b27 : Fld Z h27 b27 cS0 "limit" "[B" .null := D27 (Or.inl (own_at hw 30 rfl)) (ty := (.array .byte)) (by decide)
  have F_count_b27 : Fld Z h27 b27 cS0 "count" "I" (.int 0) := D27 (Or.inl (own_at hw 37 rfl)) (ty := .int) (by decide)
  have F_used_b27 : Fld Z h27 b27 cS0 "used" "I" (.int 0) := D27 (Or.inl (own_at hw 39 rfl)) (ty := .int) (by decide)
  obtain ⟨_, _, ⟨T28, L28, j28, i28⟩, -, X28, ⟨Lc28, hQ28, l28, y28, z28⟩, st28⟩ := X27.specialBack hx (y := (⟨cS0, "<init>", "(II)V"⟩ : MethodName)) rfl hown (mvT hZ (own_at hw 5 rfl)) (mvT hZ (own_at hw 6 rfl)) (mvT hZ (own_at hw 7 rfl)) (by decide) (backOf (W := 1) (rm1 l Z a0 hw [] b27 mN mB .null .null .null .null (.int 0) (.int 0) h27 n0 (Nat.le_trans (Nat.le_trans (Nat.le_trans (Nat.le_trans (Nat.le_trans (Nat.le_trans (Nat.le_trans (Nat.le_trans (Nat.le_trans (Nat.le_trans Z0 E1.1) (Keep.of_wr W4).1) (Keep.of_wr W7).1) (Keep.of_wr W10).1) (Keep.of_wr W13).1) (Keep.of_wr W16).1) (Keep.of_wr W19).1) (Keep.of_wr W22).1) (Keep.of_wr W25).1) E27.1) A27 F_limit_b27 F_count_b27 F_used_b27 F_bytes_b27 g_b27 F_starts_b27 F_order_b27 F_scratch_b27 F_maxNames_b27 F_maxBytes_b27) hZ (own_at hw 7 rfl) (own_at hw 4 rfl) (by decide) (by decide)) (g := (mkF m 179 #[iv p0, iv p1, .val (.long q2), .second, iv n, iv mN, iv mB, rv b1, iv l0, iv l1, iv l2, iv l3, iv f0, iv f1, iv f2, iv f3, .unset, .unset, .unset, .unset, .unset] [(.int mB), (.int mN), (.ref b27), (.ref b27)])) rfl (by rw [hml]; rfl) (Steps.refl _) (a := b27) (argsL := [(.int mN), (.int mB)]) (rest := [(.ref b27)]) (lenOf pd_5 rfl) rfl (Nat.le_refl _) (hb hby at_179) (fun _ _ => ⟨rfl, e27, (by decide : 2 + 4 ≤ _), (by decide : 17 + 4352 ≤ _)⟩)
  dsimp only [Pt.U, Pt.locs, Pt.cells, Pt.slots] at X28 l28 y28 z28 st28 hQ28
  subst l28 y28 z28
  have f29 := (f26.ext E27)
  obtain ⟨bA_28, sA_28, oA_28, cA_28, kS_28, kO_28, rfl, N28q, K28, p28_0, p28_1, p28_2, p28_3, p28_4, p28_5, p28_6, p28_7, p28_8, p28_9, p28_10, p28_11, p28_12, p28_13, p28_14, p28_15, p28_16, p28_17, p28_18, p28_19, p28_20⟩ := hQ28
  have pl28 := (allS (P := fun x => ∃ cell : Cell, h27[x]? = some cell ∧ cell.vm.isStatics = false) (own_ns A27) all0)
  have g_bA_28 : n0 ≤ bA_28 := Nat.le_trans (Nat.le_trans (Nat.le_trans (Nat.le_trans (Nat.le_trans (Nat.le_trans (Nat.le_trans (Nat.le_trans (Nat.le_trans (Nat.le_trans (Nat.le_trans Z0 E1.1) (Keep.of_wr W4).1) (Keep.of_wr W7).1) (Keep.of_wr W10).1) (Keep.of_wr W13).1) (Keep.of_wr W16).1) (Keep.of_wr W19).1) (Keep.of_wr W22).1) (Keep.of_wr W25).1) E27.1) p28_0
  have sz_bA_28 : h0.size ≤ bA_28 := Nat.le_trans (((((((((((Keep.refl h0 []).ext E1).wr W4 (Or.inr sz_b1)).wr W7 (Or.inr sz_b1)).wr W10 (Or.inr sz_b1)).wr W13 (Or.inr sz_b1)).wr W16 (Or.inr sz_b1)).wr W19 (Or.inr sz_b1)).wr W22 (Or.inr sz_b1)).wr W25 (Or.inr sz_b1)).ext E27).1 p28_0
  have g_sA_28 : n0 ≤ sA_28 := Nat.le_trans (Nat.le_trans (Nat.le_trans (Nat.le_trans (Nat.le_trans (Nat.le_trans (Nat.le_trans (Nat.le_trans (Nat.le_trans (Nat.le_trans (Nat.le_trans Z0 E1.1) (Keep.of_wr W4).1) (Keep.of_wr W7).1) (Keep.of_wr W10).1) (Keep.of_wr W13).1) (Keep.of_wr W16).1) (Keep.of_wr W19).1) (Keep.of_wr W22).1) (Keep.of_wr W25).1) E27.1) p28_1
  have sz_sA_28 : h0.size ≤ sA_28 := Nat.le_trans (((((((((((Keep.refl h0 []).ext E1).wr W4 (Or.inr sz_b1)).wr W7 (Or.inr sz_b1)).wr W10 (Or.inr sz_b1)).wr W13 (Or.inr sz_b1)).wr W16 (Or.inr sz_b1)).wr W19 (Or.inr sz_b1)).wr W22 (Or.inr sz_b1)).wr W25 (Or.inr sz_b1)).ext E27).1 p28_1
  have g_oA_28 : n0 ≤ oA_28 := Nat.le_trans (Nat.le_trans (Nat.le_trans (Nat.le_trans (Nat.le_trans (Nat.le_trans (Nat.le_trans (Nat.le_trans (Nat.le_trans (Nat.le_trans (Nat.le_trans Z0 E1.1) (Keep.of_wr W4).1) (Keep.of_wr W7).1) (Keep.of_wr W10).1) (Keep.of_wr W13).1) (Keep.of_wr W16).1) (Keep.of_wr W19).1) (Keep.of_wr W22).1) (Keep.of_wr W25).1) E27.1) p28_2
  have sz_oA_28 : h0.size ≤ oA_28 := Nat.le_trans (((((((((((Keep.refl h0 []).ext E1).wr W4 (Or.inr sz_b1)).wr W7 (Or.inr sz_b1)).wr W10 (Or.inr sz_b1)).wr W13 (Or.inr sz_b1)).wr W16 (Or.inr sz_b1)).wr W19 (Or.inr sz_b1)).wr W22 (Or.inr sz_b1)).wr W25 (Or.inr sz_b1)).ext E27).1 p28_2
  have N28 := Fr.app N25 N28q
  refine own_by (fun t q => XS.istore X25.here hx rfl (hb hby at_169) rfl (l' := #[iv p0, iv p1, .val (.long q2), .second, iv n, iv mN, iv mB, rv b1, iv l0, iv l1, iv l2, iv l3, iv f0, iv f1, iv f2, iv f3, .unset, .unset, .unset, .unset, .unset]) rfl (st27 _ (XS.dup X27.here hx rfl (hb hby at_174) rfl rfl (oIl X27 hx hby at_175 rfl (oIl X27 hx hby at_177 rfl (st28.trans q)))))) ?_
  refine own_by (fun t q => XS.astore X28.here hx rfl (hb hby at_182) rfl rfl (l' := #[iv p0, iv p1, .val (.long q2), .second, iv n, iv mN, iv mB, rv b1, iv l0, iv l1, iv l2, iv l3, iv f0, iv f1, iv f2, iv f3, rv b27, .unset, .unset, .unset, .unset]) rfl (oIc X28 hx hby at_184 (XS.istore X28.here hx rfl (hb hby at_185) rfl (l' := #[iv p0, iv p1, .val (.long q2), .second, iv n, iv mN, iv mB, rv b1, iv l0, iv l1, iv l2, iv l3, iv f0, iv f1, iv f2, iv f3, rv b27, iv 0, .unset, .unset, .unset]) rfl (oIl X28 hx hby at_187 rfl q)))) ?_
  rcases h_n with rfl | rfl | rfl | rfl | rfl
  · skip
    refine own_by (fun t q => XS.ifYes X28.here hx rfl (pc0 := 189) (pc' := 213) rfl (hb hby at_189) rfl ((if0 _ _).trans (flt (by decide : ¬ ((0 : Int32) < (0 : Int32)))).2.2.2) (by decide) (by decide) (oIl X28 hx hby at_213 rfl (oIc X28 hx hby at_215 (oJy X28 hx hby 216 240 at_216 (flt (by decide : ¬ ((1 : Int32) < (0 : Int32)))).2.2.2 (by decide) (by decide) (oIl X28 hx hby at_240 rfl (oIc X28 hx hby at_242 q)))))) ?_
    refine own_by (fun t q => oJy X28 hx hby 243 267 at_243 (flt (by decide : ¬ ((2 : Int32) < (0 : Int32)))).2.2.2 (by decide) (by decide) (oIl X28 hx hby at_267 rfl (oIc X28 hx hby at_269 (oJy X28 hx hby 270 294 at_270 (flt (by decide : ¬ ((3 : Int32) < (0 : Int32)))).2.2.2 (by decide) (by decide) (oIl X28 hx hby at_294 rfl (oIc X28 hx hby at_296 q)))))) ?_
    refine own_by (fun t q => oJy X28 hx hby 297 320 at_297 (tlt (by decide : (0 : Int32) < (3 : Int32))).1 (by decide) (by decide) (oIc X28 hx hby at_320 (XS.istore X28.here hx rfl (hb hby at_321) rfl (l' := #[iv p0, iv p1, .val (.long q2), .second, iv 0, iv mN, iv mB, rv b1, iv l0, iv l1, iv l2, iv l3, iv f0, iv f1, iv f2, iv f3, rv b27, iv 0, iv 0, .unset, .unset]) rfl q))) ?_
    obtain ⟨s30, o30, ja30, jb30, jc30, v30, L30, rfl, ⟨hv30, jN30, jh30⟩, jF30⟩ := sgT0 l Z a0 hw p0 p1 q2 (0 : Int32) mN mB b1 l0 l1 l2 l3 f0 f1 f2 f3 b27 (0 : Int32) (0 : Int32) (0 : Int32) T28.heap n0 (Nat.le_trans (Nat.le_trans (Nat.le_trans (Nat.le_trans (Nat.le_trans (Nat.le_trans (Nat.le_trans (Nat.le_trans (Nat.le_trans (Nat.le_trans (Nat.le_trans Z0 E1.1) (Keep.of_wr W4).1) (Keep.of_wr W7).1) (Keep.of_wr W10).1) (Keep.of_wr W13).1) (Keep.of_wr W16).1) (Keep.of_wr W19).1) (Keep.of_wr W22).1) (Keep.of_wr W25).1) E27.1) K28.1) p28_6 p28_11 p28_9 p28_10 g_b27 (own_more X28 (by decide) (by decide)) hx hZ hby hml hown Bd.returns Bd.notSynchronized rfl N28 
    exact ⟨s30, _, ja30, jb30, jc30, v30, L30, rfl, ⟨hv30.trans rfl, jN30, trivial⟩, jF30⟩
  · skip
    have f32 := ((PB.ext E27).keep K28 (ninS (Nat.ne_of_lt (Nat.lt_of_lt_of_le f26.lt (Nat.le_of_eq g27.symm))) nin0))
    have f33 := (f29.keep K28)
    refine own_by (fun t q => XS.ifNo X28.here hx rfl (hb hby at_189) rfl ((if0 _ _).trans (tlt (by decide : (0 : Int32) < (1 : Int32))).2.2.2) (oAl X28 hx hby at_192 rfl rfl (oAl X28 hx hby at_194 rfl rfl (oIl X28 hx hby at_196 rfl (oIl X28 hx hby at_198 rfl (oIl X28 hx hby at_200 rfl q)))))) ?_
    refine own_by (fun t q => XS.iadd X28.here hx rfl (hb hby at_202) rfl q) ?_
    refine own_cW 0 (rm5_0 l Z a0 hw [] b27 b1 f0 l0 bA_28 sA_28 kS_28 (0 : Int32) (0 : Int32) (0 : Int32) (0 : Int32) (0 : Int32) mN mB oA_28 kO_28 cA_28 T28.heap n0 (Nat.le_trans (Nat.le_trans (Nat.le_trans (Nat.le_trans (Nat.le_trans (Nat.le_trans (Nat.le_trans (Nat.le_trans (Nat.le_trans (Nat.le_trans (Nat.le_trans Z0 E1.1) (Keep.of_wr W4).1) (Keep.of_wr W7).1) (Keep.of_wr W10).1) (Keep.of_wr W13).1) (Keep.of_wr W16).1) (Keep.of_wr W19).1) (Keep.of_wr W22).1) (Keep.of_wr W25).1) E27.1) K28.1) p28_6 p28_9 p28_10 p28_12 p28_13 p28_14 p28_15 p28_16 p28_17 p28_7 p28_8 p28_11 p28_18 p28_19 p28_20 f32 f33 h_f0 h_l0 (by have w0 := own_lits; omega) g_bA_28 (Nat.ne_of_lt (Nat.lt_of_lt_of_le A27.lt p28_0)) g_b27 (Ne.symm p28_3) (Ne.symm (Nat.ne_of_lt (Nat.lt_of_lt_of_le A27.lt p28_1))) g_sA_28 (Nat.ne_of_lt (Nat.lt_of_lt_of_le A27.lt p28_1)) (Ne.symm (Nat.ne_of_lt (Nat.lt_of_lt_of_le A27.lt p28_0))) p28_3 p28_4 (Ne.symm (Nat.ne_of_lt (Nat.lt_of_lt_of_le A27.lt p28_2))) p28_5) X28 hx hZ hown hw 40 41 43 42 4 44 rfl rfl rfl rfl rfl rfl b27 p28_6 [(.ref b1), (.int f0), (.int (f0 + l0))] [] hby at_203 hml (lenOf pd_11 rfl) rfl rfl (Nat.le_refl _) (by decide) fun _ T31 L31 X31 hQ31 => ?_
    obtain ⟨rfl, N31q, K31, p31_0, p31_1, p31_2, p31_3, p31_4, p31_5, p31_6, p31_7, p31_8, p31_9, p31_10, p31_11, p31_12, p31_13, p31_14⟩ := hQ31
    have pl31 := (allS (P := fun x => ∃ cell : Cell, T28.heap[x]? = some cell ∧ cell.vm.isStatics = false) (own_ns p28_6) (allS (P := fun x => ∃ cell : Cell, T28.heap[x]? = some cell ∧ cell.vm.isStatics = false) (own_ns p28_14) (allS (P := fun x => ∃ cell : Cell, T28.heap[x]? = some cell ∧ cell.vm.isStatics = false) (own_ns p28_17) all0)))
    have N31 := Fr.app N28 N31q
    refine own_by (fun t q => oIl X31 hx hby at_206 rfl (oIl X31 hx hby at_208 rfl (XS.iadd X31.here hx rfl (hb hby at_210) rfl (XS.istore X31.here hx rfl (hb hby at_211) rfl (l' := #[iv p0, iv p1, .val (.long q2), .second, iv 1, iv mN, iv mB, rv b1, iv l0, iv l1, iv l2, iv l3, iv f0, iv f1, iv f2, iv f3, rv b27, iv ((0 : Int32) + l0), .unset, .unset, .unset]) rfl (oIl X31 hx hby at_213 rfl (oIc X31 hx hby at_215 q)))))) ?_
    refine own_by (fun t q => oJy X31 hx hby 216 240 at_216 (flt (by decide : ¬ ((1 : Int32) < (1 : Int32)))).2.2.2 (by decide) (by decide) (oIl X31 hx hby at_240 rfl (oIc X31 hx hby at_242 (oJy X31 hx hby 243 267 at_243 (flt (by decide : ¬ ((2 : Int32) < (1 : Int32)))).2.2.2 (by decide) (by decide) (oIl X31 hx hby at_267 rfl (oIc X31 hx hby at_269 q)))))) ?_
    refine own_by (fun t q => oJy X31 hx hby 270 294 at_270 (flt (by decide : ¬ ((3 : Int32) < (1 : Int32)))).2.2.2 (by decide) (by decide) (oIl X31 hx hby at_294 rfl (oIc X31 hx hby at_296 (oJy X31 hx hby 297 320 at_297 (tlt (by decide : (1 : Int32) < (3 : Int32))).1 (by decide) (by decide) (oIc X31 hx hby at_320 (XS.istore X31.here hx rfl (hb hby at_321) rfl (l' := #[iv p0, iv p1, .val (.long q2), .second, iv 1, iv mN, iv mB, rv b1, iv l0, iv l1, iv l2, iv l3, iv f0, iv f1, iv f2, iv f3, rv b27, iv ((0 : Int32) + l0), iv 0, .unset, .unset]) rfl q)))))) ?_
    obtain ⟨s34, o34, ja34, jb34, jc34, v34, L34, rfl, ⟨hv34, jN34, jh34⟩, jF34⟩ := sgT0 l Z a0 hw p0 p1 q2 (1 : Int32) mN mB b1 l0 l1 l2 l3 f0 f1 f2 f3 b27 ((0 : Int32) + l0) (1 : Int32) ((0 : Int32) + l0) T31.heap n0 (Nat.le_trans (Nat.le_trans (Nat.le_trans (Nat.le_trans (Nat.le_trans (Nat.le_trans (Nat.le_trans (Nat.le_trans (Nat.le_trans (Nat.le_trans (Nat.le_trans (Nat.le_trans Z0 E1.1) (Keep.of_wr W4).1) (Keep.of_wr W7).1) (Keep.of_wr W10).1) (Keep.of_wr W13).1) (Keep.of_wr W16).1) (Keep.of_wr W19).1) (Keep.of_wr W22).1) (Keep.of_wr W25).1) E27.1) K28.1) K31.1) p31_0 p31_11 p31_1 p31_2 g_b27 (own_more X31 (by decide) (by decide)) hx hZ hby hml hown Bd.returns Bd.notSynchronized rfl N31 
    exact ⟨s34, _, ja34, jb34, jc34, v34, L34, rfl, ⟨hv34.trans rfl, jN34, trivial⟩, jF34⟩
  · skip
    have f36 := ((PB.ext E27).keep K28 (ninS (Nat.ne_of_lt (Nat.lt_of_lt_of_le f26.lt (Nat.le_of_eq g27.symm))) nin0))
    have f37 := (f29.keep K28)
    refine own_by (fun t q => XS.ifNo X28.here hx rfl (hb hby at_189) rfl ((if0 _ _).trans (tlt (by decide : (0 : Int32) < (2 : Int32))).2.2.2) (oAl X28 hx hby at_192 rfl rfl (oAl X28 hx hby at_194 rfl rfl (oIl X28 hx hby at_196 rfl (oIl X28 hx hby at_198 rfl (oIl X28 hx hby at_200 rfl q)))))) ?_
    refine own_by (fun t q => XS.iadd X28.here hx rfl (hb hby at_202) rfl q) ?_
    refine own_cW 0 (rm5_0 l Z a0 hw [] b27 b1 f0 l0 bA_28 sA_28 kS_28 (0 : Int32) (0 : Int32) (0 : Int32) (0 : Int32) (0 : Int32) mN mB oA_28 kO_28 cA_28 T28.heap n0 (Nat.le_trans (Nat.le_trans (Nat.le_trans (Nat.le_trans (Nat.le_trans (Nat.le_trans (Nat.le_trans (Nat.le_trans (Nat.le_trans (Nat.le_trans (Nat.le_trans Z0 E1.1) (Keep.of_wr W4).1) (Keep.of_wr W7).1) (Keep.of_wr W10).1) (Keep.of_wr W13).1) (Keep.of_wr W16).1) (Keep.of_wr W19).1) (Keep.of_wr W22).1) (Keep.of_wr W25).1) E27.1) K28.1) p28_6 p28_9 p28_10 p28_12 p28_13 p28_14 p28_15 p28_16 p28_17 p28_7 p28_8 p28_11 p28_18 p28_19 p28_20 f36 f37 h_f0 h_l0 (by have w0 := own_lits; omega) g_bA_28 (Nat.ne_of_lt (Nat.lt_of_lt_of_le A27.lt p28_0)) g_b27 (Ne.symm p28_3) (Ne.symm (Nat.ne_of_lt (Nat.lt_of_lt_of_le A27.lt p28_1))) g_sA_28 (Nat.ne_of_lt (Nat.lt_of_lt_of_le A27.lt p28_1)) (Ne.symm (Nat.ne_of_lt (Nat.lt_of_lt_of_le A27.lt p28_0))) p28_3 p28_4 (Ne.symm (Nat.ne_of_lt (Nat.lt_of_lt_of_le A27.lt p28_2))) p28_5) X28 hx hZ hown hw 40 41 43 42 4 44 rfl rfl rfl rfl rfl rfl b27 p28_6 [(.ref b1), (.int f0), (.int (f0 + l0))] [] hby at_203 hml (lenOf pd_11 rfl) rfl rfl (Nat.le_refl _) (by decide) fun _ T35 L35 X35 hQ35 => ?_
    obtain ⟨rfl, N35q, K35, p35_0, p35_1, p35_2, p35_3, p35_4, p35_5, p35_6, p35_7, p35_8, p35_9, p35_10, p35_11, p35_12, p35_13, p35_14⟩ := hQ35
    have pl35 := (allS (P := fun x => ∃ cell : Cell, T28.heap[x]? = some cell ∧ cell.vm.isStatics = false) (own_ns p28_6) (allS (P := fun x => ∃ cell : Cell, T28.heap[x]? = some cell ∧ cell.vm.isStatics = false) (own_ns p28_14) (allS (P := fun x => ∃ cell : Cell, T28.heap[x]? = some cell ∧ cell.vm.isStatics = false) (own_ns p28_17) all0)))
    have N35 := Fr.app N28 N35q
    have f39 := (f36.keep K35 (ninS (Nat.ne_of_lt (Nat.lt_of_lt_of_le f26.lt (Nat.le_of_eq g27.symm))) (ninS (Nat.ne_of_lt (Nat.lt_of_lt_of_le f29.lt p28_0)) (ninS (Nat.ne_of_lt (Nat.lt_of_lt_of_le f29.lt p28_1)) nin0))))
    have f40 := (f37.keep K35)
    refine own_by (fun t q => oIl X35 hx hby at_206 rfl (oIl X35 hx hby at_208 rfl (XS.iadd X35.here hx rfl (hb hby at_210) rfl (XS.istore X35.here hx rfl (hb hby at_211) rfl (l' := #[iv p0, iv p1, .val (.long q2), .second, iv 2, iv mN, iv mB, rv b1, iv l0, iv l1, iv l2, iv l3, iv f0, iv f1, iv f2, iv f3, rv b27, iv ((0 : Int32) + l0), .unset, .unset, .unset]) rfl (oIl X35 hx hby at_213 rfl (oIc X35 hx hby at_215 q)))))) ?_
    refine own_by (fun t q => oJn X35 hx hby at_216 (tlt (by decide : (1 : Int32) < (2 : Int32))).2.2.2 (oAl X35 hx hby at_219 rfl rfl (oAl X35 hx hby at_221 rfl rfl (oIl X35 hx hby at_223 rfl (oIl X35 hx hby at_225 rfl (oIl X35 hx hby at_227 rfl q)))))) ?_
    refine own_by (fun t q => XS.iadd X35.here hx rfl (hb hby at_229) rfl q) ?_
    refine own_cW 0 (rm5_1 l Z a0 hw [] b27 b1 f1 l1 bA_28 sA_28 kS_28 ((0 : Int32) + l0) (0 : Int32) (0 : Int32) (0 : Int32) (0 : Int32) mN mB oA_28 kO_28 cA_28 T35.heap n0 (Nat.le_trans (Nat.le_trans (Nat.le_trans (Nat.le_trans (Nat.le_trans (Nat.le_trans (Nat.le_trans (Nat.le_trans (Nat.le_trans (Nat.le_trans (Nat.le_trans (Nat.le_trans Z0 E1.1) (Keep.of_wr W4).1) (Keep.of_wr W7).1) (Keep.of_wr W10).1) (Keep.of_wr W13).1) (Keep.of_wr W16).1) (Keep.of_wr W19).1) (Keep.of_wr W22).1) (Keep.of_wr W25).1) E27.1) K28.1) K35.1) p35_0 p35_1 p35_2 p35_3 p35_4 p35_5 p35_6 p35_7 p35_8 p35_9 p35_10 p35_11 p35_12 p35_13 p35_14 f39 f40 h_f1 h_l1 (by have w0 := own_lits; have w1a := c_iadd (0 : Int32) l0; have w1b := rng32 ((0 : Int32) + l0); omega) g_bA_28 (Nat.ne_of_lt (Nat.lt_of_lt_of_le A27.lt p28_0)) g_b27 (Ne.symm p28_3) (Ne.symm (Nat.ne_of_lt (Nat.lt_of_lt_of_le A27.lt p28_1))) g_sA_28 (Nat.ne_of_lt (Nat.lt_of_lt_of_le A27.lt p28_1)) (Ne.symm (Nat.ne_of_lt (Nat.lt_of_lt_of_le A27.lt p28_0))) p28_3 p28_4 (Ne.symm (Nat.ne_of_lt (Nat.lt_of_lt_of_le A27.lt p28_2))) p28_5) X35 hx hZ hown hw 40 41 43 42 4 44 rfl rfl rfl rfl rfl rfl b27 p35_0 [(.ref b1), (.int f1), (.int (f1 + l1))] [] hby at_230 hml (lenOf pd_11 rfl) rfl rfl (Nat.le_refl _) (by decide) fun _ T38 L38 X38 hQ38 => ?_
    obtain ⟨rfl, N38q, K38, p38_0, p38_1, p38_2, p38_3, p38_4, p38_5, p38_6, p38_7, p38_8, p38_9, p38_10, p38_11, p38_12, p38_13, p38_14⟩ := hQ38
    have pl38 := (allS (P := fun x => ∃ cell : Cell, T35.heap[x]? = some cell ∧ cell.vm.isStatics = false) (own_ns p35_0) (allS (P := fun x => ∃ cell : Cell, T35.heap[x]? = some cell ∧ cell.vm.isStatics = false) (own_ns p35_5) (allS (P := fun x => ∃ cell : Cell, T35.heap[x]? = some cell ∧ cell.vm.isStatics = false) (own_ns p35_8) all0)))
    have N38 := Fr.app N35 N38q
    refine own_by (fun t q => oIl X38 hx hby at_233 rfl (oIl X38 hx hby at_235 rfl (XS.iadd X38.here hx rfl (hb hby at_237) rfl (XS.istore X38.here hx rfl (hb hby at_238) rfl (l' := #[iv p0, iv p1, .val (.long q2), .second, iv 2, iv mN, iv mB, rv b1, iv l0, iv l1, iv l2, iv l3, iv f0, iv f1, iv f2, iv f3, rv b27, iv (((0 : Int32) + l0) + l1), .unset, .unset, .unset]) rfl (oIl X38 hx hby at_240 rfl (oIc X38 hx hby at_242 q)))))) ?_
    refine own_by (fun t q => oJy X38 hx hby 243 267 at_243 (flt (by decide : ¬ ((2 : Int32) < (2 : Int32)))).2.2.2 (by decide) (by decide) (oIl X38 hx hby at_267 rfl (oIc X38 hx hby at_269 (oJy X38 hx hby 270 294 at_270 (flt (by decide : ¬ ((3 : Int32) < (2 : Int32)))).2.2.2 (by decide) (by decide) (oIl X38 hx hby at_294 rfl (oIc X38 hx hby at_296 q)))))) ?_
    refine own_by (fun t q => oJy X38 hx hby 297 320 at_297 (tlt (by decide : (2 : Int32) < (3 : Int32))).1 (by decide) (by decide) (oIc X38 hx hby at_320 (XS.istore X38.here hx rfl (hb hby at_321) rfl (l' := #[iv p0, iv p1, .val (.long q2), .second, iv 2, iv mN, iv mB, rv b1, iv l0, iv l1, iv l2, iv l3, iv f0, iv f1, iv f2, iv f3, rv b27, iv (((0 : Int32) + l0) + l1), iv 0, .unset, .unset]) rfl q))) ?_
    obtain ⟨s41, o41, ja41, jb41, jc41, v41, L41, rfl, ⟨hv41, jN41, jh41⟩, jF41⟩ := sgT0 l Z a0 hw p0 p1 q2 (2 : Int32) mN mB b1 l0 l1 l2 l3 f0 f1 f2 f3 b27 (((0 : Int32) + l0) + l1) (2 : Int32) (((0 : Int32) + l0) + l1) T38.heap n0 (Nat.le_trans (Nat.le_trans (Nat.le_trans (Nat.le_trans (Nat.le_trans (Nat.le_trans (Nat.le_trans (Nat.le_trans (Nat.le_trans (Nat.le_trans (Nat.le_trans (Nat.le_trans (Nat.le_trans Z0 E1.1) (Keep.of_wr W4).1) (Keep.of_wr W7).1) (Keep.of_wr W10).1) (Keep.of_wr W13).1) (Keep.of_wr W16).1) (Keep.of_wr W19).1) (Keep.of_wr W22).1) (Keep.of_wr W25).1) E27.1) K28.1) K35.1) K38.1) p38_0 p38_11 p38_1 p38_2 g_b27 (own_more X38 (by decide) (by decide)) hx hZ hby hml hown Bd.returns Bd.notSynchronized rfl N38 
    exact ⟨s41, _, ja41, jb41, jc41, v41, L41, rfl, ⟨hv41.trans rfl, jN41, trivial⟩, jF41⟩
  · skip
    have f43 := ((PB.ext E27).keep K28 (ninS (Nat.ne_of_lt (Nat.lt_of_lt_of_le f26.lt (Nat.le_of_eq g27.symm))) nin0))
    have f44 := (f29.keep K28)
    refine own_by (fun t q => XS.ifNo X28.here hx rfl (hb hby at_189) rfl ((if0 _ _).trans (tlt (by decide : (0 : Int32) < (3 : Int32))).2.2.2) (oAl X28 hx hby at_192 rfl rfl (oAl X28 hx hby at_194 rfl rfl (oIl X28 hx hby at_196 rfl (oIl X28 hx hby at_198 rfl (oIl X28 hx hby at_200 rfl q)))))) ?_
    refine own_by (fun t q => XS.iadd X28.here hx rfl (hb hby at_202) rfl q) ?_
    refine own_cW 0 (rm5_0 l Z a0 hw [] b27 b1 f0 l0 bA_28 sA_28 kS_28 (0 : Int32) (0 : Int32) (0 : Int32) (0 : Int32) (0 : Int32) mN mB oA_28 kO_28 cA_28 T28.heap n0 (Nat.le_trans (Nat.le_trans (Nat.le_trans (Nat.le_trans (Nat.le_trans (Nat.le_trans (Nat.le_trans (Nat.le_trans (Nat.le_trans (Nat.le_trans (Nat.le_trans Z0 E1.1) (Keep.of_wr W4).1) (Keep.of_wr W7).1) (Keep.of_wr W10).1) (Keep.of_wr W13).1) (Keep.of_wr W16).1) (Keep.of_wr W19).1) (Keep.of_wr W22).1) (Keep.of_wr W25).1) E27.1) K28.1) p28_6 p28_9 p28_10 p28_12 p28_13 p28_14 p28_15 p28_16 p28_17 p28_7 p28_8 p28_11 p28_18 p28_19 p28_20 f43 f44 h_f0 h_l0 (by have w0 := own_lits; omega) g_bA_28 (Nat.ne_of_lt (Nat.lt_of_lt_of_le A27.lt p28_0)) g_b27 (Ne.symm p28_3) (Ne.symm (Nat.ne_of_lt (Nat.lt_of_lt_of_le A27.lt p28_1))) g_sA_28 (Nat.ne_of_lt (Nat.lt_of_lt_of_le A27.lt p28_1)) (Ne.symm (Nat.ne_of_lt (Nat.lt_of_lt_of_le A27.lt p28_0))) p28_3 p28_4 (Ne.symm (Nat.ne_of_lt (Nat.lt_of_lt_of_le A27.lt p28_2))) p28_5) X28 hx hZ hown hw 40 41 43 42 4 44 rfl rfl rfl rfl rfl rfl b27 p28_6 [(.ref b1), (.int f0), (.int (f0 + l0))] [] hby at_203 hml (lenOf pd_11 rfl) rfl rfl (Nat.le_refl _) (by decide) fun _ T42 L42 X42 hQ42 => ?_
    obtain ⟨rfl, N42q, K42, p42_0, p42_1, p42_2, p42_3, p42_4, p42_5, p42_6, p42_7, p42_8, p42_9, p42_10, p42_11, p42_12, p42_13, p42_14⟩ := hQ42
    have pl42 := (allS (P := fun x => ∃ cell : Cell, T28.heap[x]? = some cell ∧ cell.vm.isStatics = false) (own_ns p28_6) (allS (P := fun x => ∃ cell : Cell, T28.heap[x]? = some cell ∧ cell.vm.isStatics = false) (own_ns p28_14) (allS (P := fun x => ∃ cell : Cell, T28.heap[x]? = some cell ∧ cell.vm.isStatics = false) (own_ns p28_17) all0)))
    have N42 := Fr.app N28 N42q
    have f46 := (f43.keep K42 (ninS (Nat.ne_of_lt (Nat.lt_of_lt_of_le f26.lt (Nat.le_of_eq g27.symm))) (ninS (Nat.ne_of_lt (Nat.lt_of_lt_of_le f29.lt p28_0)) (ninS (Nat.ne_of_lt (Nat.lt_of_lt_of_le f29.lt p28_1)) nin0))))
    have f47 := (f44.keep K42)
    refine own_by (fun t q => oIl X42 hx hby at_206 rfl (oIl X42 hx hby at_208 rfl (XS.iadd X42.here hx rfl (hb hby at_210) rfl (XS.istore X42.here hx rfl (hb hby at_211) rfl (l' := #[iv p0, iv p1, .val (.long q2), .second, iv 3, iv mN, iv mB, rv b1, iv l0, iv l1, iv l2, iv l3, iv f0, iv f1, iv f2, iv f3, rv b27, iv ((0 : Int32) + l0), .unset, .unset, .unset]) rfl (oIl X42 hx hby at_213 rfl (oIc X42 hx hby at_215 q)))))) ?_
    refine own_by (fun t q => oJn X42 hx hby at_216 (tlt (by decide : (1 : Int32) < (3 : Int32))).2.2.2 (oAl X42 hx hby at_219 rfl rfl (oAl X42 hx hby at_221 rfl rfl (oIl X42 hx hby at_223 rfl (oIl X42 hx hby at_225 rfl (oIl X42 hx hby at_227 rfl q)))))) ?_
    refine own_by (fun t q => XS.iadd X42.here hx rfl (hb hby at_229) rfl q) ?_
    refine own_cW 0 (rm5_1 l Z a0 hw [] b27 b1 f1 l1 bA_28 sA_28 kS_28 ((0 : Int32) + l0) (0 : Int32) (0 : Int32) (0 : Int32) (0 : Int32) mN mB oA_28 kO_28 cA_28 T42.heap n0 (Nat.le_trans (Nat.le_trans (Nat.le_trans (Nat.le_trans (Nat.le_trans (Nat.le_trans (Nat.le_trans (Nat.le_trans (Nat.le_trans (Nat.le_trans (Nat.le_trans (Nat.le_trans Z0 E1.1) (Keep.of_wr W4).1) (Keep.of_wr W7).1) (Keep.of_wr W10).1) (Keep.of_wr W13).1) (Keep.of_wr W16).1) (Keep.of_wr W19).1) (Keep.of_wr W22).1) (Keep.of_wr W25).1) E27.1) K28.1) K42.1) p42_0 p42_1 p42_2 p42_3 p42_4 p42_5 p42_6 p42_7 p42_8 p42_9 p42_10 p42_11 p42_12 p42_13 p42_14 f46 f47 h_f1 h_l1 (by have w0 := own_lits; have w1a := c_iadd (0 : Int32) l0; have w1b := rng32 ((0 : Int32) + l0); omega) g_bA_28 (Nat.ne_of_lt (Nat.lt_of_lt_of_le A27.lt p28_0)) g_b27 (Ne.symm p28_3) (Ne.symm (Nat.ne_of_lt (Nat.lt_of_lt_of_le A27.lt p28_1))) g_sA_28 (Nat.ne_of_lt (Nat.lt_of_lt_of_le A27.lt p28_1)) (Ne.symm (Nat.ne_of_lt (Nat.lt_of_lt_of_le A27.lt p28_0))) p28_3 p28_4 (Ne.symm (Nat.ne_of_lt (Nat.lt_of_lt_of_le A27.lt p28_2))) p28_5) X42 hx hZ hown hw 40 41 43 42 4 44 rfl rfl rfl rfl rfl rfl b27 p42_0 [(.ref b1), (.int f1), (.int (f1 + l1))] [] hby at_230 hml (lenOf pd_11 rfl) rfl rfl (Nat.le_refl _) (by decide) fun _ T45 L45 X45 hQ45 => ?_
    obtain ⟨rfl, N45q, K45, p45_0, p45_1, p45_2, p45_3, p45_4, p45_5, p45_6, p45_7, p45_8, p45_9, p45_10, p45_11, p45_12, p45_13, p45_14⟩ := hQ45
    have pl45 := (allS (P := fun x => ∃ cell : Cell, T42.heap[x]? = some cell ∧ cell.vm.isStatics = false) (own_ns p42_0) (allS (P := fun x => ∃ cell : Cell, T42.heap[x]? = some cell ∧ cell.vm.isStatics = false) (own_ns p42_5) (allS (P := fun x => ∃ cell : Cell, T42.heap[x]? = some cell ∧ cell.vm.isStatics = false) (own_ns p42_8) all0)))
    have N45 := Fr.app N42 N45q
    have f49 := (f46.keep K45 (ninS (Nat.ne_of_lt (Nat.lt_of_lt_of_le f26.lt (Nat.le_of_eq g27.symm))) (ninS (Nat.ne_of_lt (Nat.lt_of_lt_of_le f29.lt p28_0)) (ninS (Nat.ne_of_lt (Nat.lt_of_lt_of_le f29.lt p28_1)) nin0))))
    have f50 := (f47.keep K45)
    refine own_by (fun t q => oIl X45 hx hby at_233 rfl (oIl X45 hx hby at_235 rfl (XS.iadd X45.here hx rfl (hb hby at_237) rfl (XS.istore X45.here hx rfl (hb hby at_238) rfl (l' := #[iv p0, iv p1, .val (.long q2), .second, iv 3, iv mN, iv mB, rv b1, iv l0, iv l1, iv l2, iv l3, iv f0, iv f1, iv f2, iv f3, rv b27, iv (((0 : Int32) + l0) + l1), .unset, .unset, .unset]) rfl (oIl X45 hx hby at_240 rfl (oIc X45 hx hby at_242 q)))))) ?_
    refine own_by (fun t q => oJn X45 hx hby at_243 (tlt (by decide : (2 : Int32) < (3 : Int32))).2.2.2 (oAl X45 hx hby at_246 rfl rfl (oAl X45 hx hby at_248 rfl rfl (oIl X45 hx hby at_250 rfl (oIl X45 hx hby at_252 rfl (oIl X45 hx hby at_254 rfl q)))))) ?_
    refine own_by (fun t q => XS.iadd X45.here hx rfl (hb hby at_256) rfl q) ?_
    refine own_cW 0 (rm5_2 l Z a0 hw [] b27 b1 f2 l2 bA_28 sA_28 kS_28 (((0 : Int32) + l0) + l1) (0 : Int32) ((0 : Int32) + l0) (0 : Int32) (0 : Int32) mN mB oA_28 kO_28 cA_28 T45.heap n0 (Nat.le_trans (Nat.le_trans (Nat.le_trans (Nat.le_trans (Nat.le_trans (Nat.le_trans (Nat.le_trans (Nat.le_trans (Nat.le_trans (Nat.le_trans (Nat.le_trans (Nat.le_trans (Nat.le_trans Z0 E1.1) (Keep.of_wr W4).1) (Keep.of_wr W7).1) (Keep.of_wr W10).1) (Keep.of_wr W13).1) (Keep.of_wr W16).1) (Keep.of_wr W19).1) (Keep.of_wr W22).1) (Keep.of_wr W25).1) E27.1) K28.1) K42.1) K45.1) p45_0 p45_1 p45_2 p45_3 p45_4 p45_5 p45_6 p45_7 p45_8 p45_9 p45_10 p45_11 p45_12 p45_13 p45_14 f49 f50 h_f2 h_l2 (by have w0 := own_lits; have w1a := c_iadd (0 : Int32) l0; have w1b := rng32 ((0 : Int32) + l0); have w2a := c_iadd ((0 : Int32) + l0) l1; have w2b := rng32 (((0 : Int32) + l0) + l1); omega) g_b27 (Ne.symm (Nat.ne_of_lt (Nat.lt_of_lt_of_le A27.lt p28_1))) (Ne.symm (Nat.ne_of_lt (Nat.lt_of_lt_of_le A27.lt p28_0))) (Ne.symm (Nat.ne_of_lt (Nat.lt_of_lt_of_le A27.lt p28_2))) g_bA_28 (Nat.ne_of_lt (Nat.lt_of_lt_of_le A27.lt p28_0)) (Ne.symm p28_3) g_sA_28 (Nat.ne_of_lt (Nat.lt_of_lt_of_le A27.lt p28_1)) p28_3 (Nat.ne_of_lt (Nat.lt_of_lt_of_le f29.lt p28_1)) (Nat.ne_of_lt (Nat.lt_of_lt_of_le f29.lt p28_0)) (Nat.ne_of_lt (Nat.lt_of_lt_of_le f26.lt (Nat.le_of_eq g27.symm))) p28_4 p28_5) X45 hx hZ hown hw 40 41 43 42 4 44 rfl rfl rfl rfl rfl rfl b27 p45_0 [(.ref b1), (.int f2), (.int (f2 + l2))] [] hby at_257 hml (lenOf pd_11 rfl) rfl rfl (Nat.le_refl _) (by decide) fun _ T48 L48 X48 hQ48 => ?_
    rcases hQ48 with ⟨lim_48, oA_48, kO_48, cA_48, kC_48, t0_48, t1_48, t2_48, t3_48, g0_48, g1_48, d0_48, d1_48, u2_48, zl_48, rfl, N48q, K48, p48_0, p48_1, p48_2, p48_3, p48_4, p48_5, p48_6, p48_7, p48_8, p48_9, p48_10, p48_11, p48_12, p48_13, p48_14, p48_15, p48_16, p48_17, p48_18, p48_19, p48_20, p48_21, p48_22, p48_23, p48_24, p48_25, p48_26, p48_27⟩ | ⟨lim_48, oA_48, kO_48, cA_48, kC_48, t0_48, t1_48, t2_48, t3_48, g0_48, g1_48, d0_48, d1_48, u2_48, zl_48, rfl, N48q, K48, p48_0, p48_1, p48_2, p48_3, p48_4, p48_5, p48_6, p48_7, p48_8, p48_9, p48_10, p48_11, p48_12, p48_13, p48_14, p48_15, p48_16, p48_17, p48_18, p48_19, p48_20, p48_21, p48_22, p48_23, p48_24, p48_25, p48_26, p48_27⟩ | ⟨lim_48, oA_48, kO_48, cA_48, kC_48, t0_48, t1_48, t2_48, t3_48, g0_48, g1_48, d0_48, d1_48, u2_48, zl_48, rfl, N48q, K48, p48_0, p48_1, p48_2, p48_3, p48_4, p48_5, p48_6, p48_7, p48_8, p48_9, p48_10, p48_11, p48_12, p48_13, p48_14, p48_15, p48_16, p48_17, p48_18, p48_19, p48_20, p48_21, p48_22, p48_23, p48_24, p48_25, p48_26, p48_27⟩ | ⟨lim_48, oA_48, kO_48, cA_48, kC_48, t0_48, t1_48, t2_48, t3_48, g0_48, g1_48, d0_48, d1_48, u2_48, zl_48, rfl, N48q, K48, p48_0, p48_1, p48_2, p48_3, p48_4, p48_5, p48_6, p48_7, p48_8, p48_9, p48_10, p48_11, p48_12, p48_13, p48_14, p48_15, p48_16, p48_17, p48_18, p48_19, p48_20, p48_21, p48_22, p48_23, p48_24, p48_25, p48_26, p48_27⟩ | ⟨rfl, N48q, K48, p48_0, p48_1, p48_2, p48_3, p48_4, p48_5, p48_6, p48_7, p48_8, p48_9, p48_10, p48_11, p48_12, p48_13, p48_14, p48_15, p48_16⟩
    · have pl48 := (allS (P := fun x => ∃ cell : Cell, T45.heap[x]? = some cell ∧ cell.vm.isStatics = false) (own_ns p45_0) (allS (P := fun x => ∃ cell : Cell, T45.heap[x]? = some cell ∧ cell.vm.isStatics = false) (own_ns p45_5) (allS (P := fun x => ∃ cell : Cell, T45.heap[x]? = some cell ∧ cell.vm.isStatics = false) (own_ns p45_8) all0)))
      have g_lim_48 : n0 ≤ lim_48 := Nat.le_trans (Nat.le_trans (Nat.le_trans (Nat.le_trans (Nat.le_trans (Nat.le_trans (Nat.le_trans (Nat.le_trans (Nat.le_trans (Nat.le_trans (Nat.le_trans (Nat.le_trans (Nat.le_trans (Nat.le_trans Z0 E1.1) (Keep.of_wr W4).1) (Keep.of_wr W7).1) (Keep.of_wr W10).1) (Keep.of_wr W13).1) (Keep.of_wr W16).1) (Keep.of_wr W19).1) (Keep.of_wr W22).1) (Keep.of_wr W25).1) E27.1) K28.1) K42.1) K45.1) p48_0
      have sz_lim_48 : h0.size ≤ lim_48 := Nat.le_trans ((((((((((((((Keep.refl h0 []).ext E1).wr W4 (Or.inr sz_b1)).wr W7 (Or.inr sz_b1)).wr W10 (Or.inr sz_b1)).wr W13 (Or.inr sz_b1)).wr W16 (Or.inr sz_b1)).wr W19 (Or.inr sz_b1)).wr W22 (Or.inr sz_b1)).wr W25 (Or.inr sz_b1)).ext E27).trans K28 (allS (Or.inr sz_b27) all0)).trans K42 (allS (Or.inr sz_b27) (allS (Or.inr sz_bA_28) (allS (Or.inr sz_sA_28) all0)))).trans K45 (allS (Or.inr sz_b27) (allS (Or.inr sz_bA_28) (allS (Or.inr sz_sA_28) all0)))).1 p48_0
      have g_oA_48 : n0 ≤ oA_48 := Nat.le_trans (Nat.le_trans (Nat.le_trans (Nat.le_trans (Nat.le_trans (Nat.le_trans (Nat.le_trans (Nat.le_trans (Nat.le_trans (Nat.le_trans (Nat.le_trans (Nat.le_trans (Nat.le_trans (Nat.le_trans Z0 E1.1) (Keep.of_wr W4).1) (Keep.of_wr W7).1) (Keep.of_wr W10).1) (Keep.of_wr W13).1) (Keep.of_wr W16).1) (Keep.of_wr W19).1) (Keep.of_wr W22).1) (Keep.of_wr W25).1) E27.1) K28.1) K42.1) K45.1) p48_1
      have sz_oA_48 : h0.size ≤ oA_48 := Nat.le_trans ((((((((((((((Keep.refl h0 []).ext E1).wr W4 (Or.inr sz_b1)).wr W7 (Or.inr sz_b1)).wr W10 (Or.inr sz_b1)).wr W13 (Or.inr sz_b1)).wr W16 (Or.inr sz_b1)).wr W19 (Or.inr sz_b1)).wr W22 (Or.inr sz_b1)).wr W25 (Or.inr sz_b1)).ext E27).trans K28 (allS (Or.inr sz_b27) all0)).trans K42 (allS (Or.inr sz_b27) (allS (Or.inr sz_bA_28) (allS (Or.inr sz_sA_28) all0)))).trans K45 (allS (Or.inr sz_b27) (allS (Or.inr sz_bA_28) (allS (Or.inr sz_sA_28) all0)))).1 p48_1
      have g_cA_48 : n0 ≤ cA_48 := Nat.le_trans (Nat.le_trans (Nat.le_trans (Nat.le_trans (Nat.le_trans (Nat.le_trans (Nat.le_trans (Nat.le_trans (Nat.le_trans (Nat.le_trans (Nat.le_trans (Nat.le_trans (Nat.le_trans (Nat.le_trans Z0 E1.1) (Keep.of_wr W4).1) (Keep.of_wr W7).1) (Keep.of_wr W10).1) (Keep.of_wr W13).1) (Keep.of_wr W16).1) (Keep.of_wr W19).1) (Keep.of_wr W22).1) (Keep.of_wr W25).1) E27.1) K28.1) K42.1) K45.1) p48_2
      have sz_cA_48 : h0.size ≤ cA_48 := Nat.le_trans ((((((((((((((Keep.refl h0 []).ext E1).wr W4 (Or.inr sz_b1)).wr W7 (Or.inr sz_b1)).wr W10 (Or.inr sz_b1)).wr W13 (Or.inr sz_b1)).wr W16 (Or.inr sz_b1)).wr W19 (Or.inr sz_b1)).wr W22 (Or.inr sz_b1)).wr W25 (Or.inr sz_b1)).ext E27).trans K28 (allS (Or.inr sz_b27) all0)).trans K42 (allS (Or.inr sz_b27) (allS (Or.inr sz_bA_28) (allS (Or.inr sz_sA_28) all0)))).trans K45 (allS (Or.inr sz_b27) (allS (Or.inr sz_bA_28) (allS (Or.inr sz_sA_28) all0)))).1 p48_2
      have N48 := Fr.app N45 N48q
      refine own_by (fun t q => oIl X48 hx hby at_260 rfl (oIl X48 hx hby at_262 rfl (XS.iadd X48.here hx rfl (hb hby at_264) rfl (XS.istore X48.here hx rfl (hb hby at_265) rfl (l' := #[iv p0, iv p1, .val (.long q2), .second, iv 3, iv mN, iv mB, rv b1, iv l0, iv l1, iv l2, iv l3, iv f0, iv f1, iv f2, iv f3, rv b27, iv ((((0 : Int32) + l0) + l1) + l2), .unset, .unset, .unset]) rfl (oIl X48 hx hby at_267 rfl (oIc X48 hx hby at_269 q)))))) ?_
      refine own_by (fun t q => oJy X48 hx hby 270 294 at_270 (flt (by decide : ¬ ((3 : Int32) < (3 : Int32)))).2.2.2 (by decide) (by decide) (oIl X48 hx hby at_294 rfl (oIc X48 hx hby at_296 (oJn X48 hx hby at_297 (flt (by decide : ¬ ((3 : Int32) < (3 : Int32)))).1 (oIl X48 hx hby at_300 rfl (oIc X48 hx hby at_302 q)))))) ?_
      refine own_by (fun t q => XS.isub X48.here hx rfl (hb hby at_303) rfl (oIl X48 hx hby at_304 rfl (oJy X48 hx hby 306 316 at_306 (flt (show ¬ ((2 : Int32) < mN) from (by rw [Int32.lt_iff_toInt_lt]; have w0 := own_lits; have v0 := own_eqm p48_26; omega))).2.1 (by decide) (by decide) (oIc X48 hx hby at_316 (oGo X48 hx hby 317 321 at_317 (by decide) (by decide) (XS.istore X48.here hx rfl (hb hby at_321) rfl (l' := #[iv p0, iv p1, .val (.long q2), .second, iv 3, iv mN, iv mB, rv b1, iv l0, iv l1, iv l2, iv l3, iv f0, iv f1, iv f2, iv f3, rv b27, iv ((((0 : Int32) + l0) + l1) + l2), iv 1, .unset, .unset]) rfl q)))))) ?_
      obtain ⟨s51, o51, ja51, jb51, jc51, v51, L51, rfl, ⟨hv51, jN51, jh51⟩, jF51⟩ := sgT1 l Z a0 hw p0 p1 q2 (3 : Int32) mN mB b1 l0 l1 l2 l3 f0 f1 f2 f3 b27 ((((0 : Int32) + l0) + l1) + l2) lim_48 (2 : Int32) u2_48 T48.heap n0 (Nat.le_trans (Nat.le_trans (Nat.le_trans (Nat.le_trans (Nat.le_trans (Nat.le_trans (Nat.le_trans (Nat.le_trans (Nat.le_trans (Nat.le_trans (Nat.le_trans (Nat.le_trans (Nat.le_trans (Nat.le_trans Z0 E1.1) (Keep.of_wr W4).1) (Keep.of_wr W7).1) (Keep.of_wr W10).1) (Keep.of_wr W13).1) (Keep.of_wr W16).1) (Keep.of_wr W19).1) (Keep.of_wr W22).1) (Keep.of_wr W25).1) E27.1) K28.1) K42.1) K45.1) K48.1) p48_6 p48_9 p48_7 p48_8 g_b27 (own_more X48 (by decide) (by decide)) hx hZ hby hml hown Bd.returns Bd.notSynchronized rfl N48 
      exact ⟨s51, _, ja51, jb51, jc51, v51, L51, rfl, ⟨hv51.trans rfl, jN51, trivial⟩, jF51⟩
    · have pl48 := (allS (P := fun x => ∃ cell : Cell, T45.heap[x]? = some cell ∧ cell.vm.isStatics = false) (own_ns p45_0) (allS (P := fun x => ∃ cell : Cell, T45.heap[x]? = some cell ∧ cell.vm.isStatics = false) (own_ns p45_5) (allS (P := fun x => ∃ cell : Cell, T45.heap[x]? = some cell ∧ cell.vm.isStatics = false) (own_ns p45_8) all0)))
      have g_lim_48 : n0 ≤ lim_48 := Nat.le_trans (Nat.le_trans (Nat.le_trans (Nat.le_trans (Nat.le_trans (Nat.le_trans (Nat.le_trans (Nat.le_trans (Nat.le_trans (Nat.le_trans (Nat.le_trans (Nat.le_trans (Nat.le_trans (Nat.le_trans Z0 E1.1) (Keep.of_wr W4).1) (Keep.of_wr W7).1) (Keep.of_wr W10).1) (Keep.of_wr W13).1) (Keep.of_wr W16).1) (Keep.of_wr W19).1) (Keep.of_wr W22).1) (Keep.of_wr W25).1) E27.1) K28.1) K42.1) K45.1) p48_0
      have sz_lim_48 : h0.size ≤ lim_48 := Nat.le_trans ((((((((((((((Keep.refl h0 []).ext E1).wr W4 (Or.inr sz_b1)).wr W7 (Or.inr sz_b1)).wr W10 (Or.inr sz_b1)).wr W13 (Or.inr sz_b1)).wr W16 (Or.inr sz_b1)).wr W19 (Or.inr sz_b1)).wr W22 (Or.inr sz_b1)).wr W25 (Or.inr sz_b1)).ext E27).trans K28 (allS (Or.inr sz_b27) all0)).trans K42 (allS (Or.inr sz_b27) (allS (Or.inr sz_bA_28) (allS (Or.inr sz_sA_28) all0)))).trans K45 (allS (Or.inr sz_b27) (allS (Or.inr sz_bA_28) (allS (Or.inr sz_sA_28) all0)))).1 p48_0
      have g_oA_48 : n0 ≤ oA_48 := Nat.le_trans (Nat.le_trans (Nat.le_trans (Nat.le_trans (Nat.le_trans (Nat.le_trans (Nat.le_trans (Nat.le_trans (Nat.le_trans (Nat.le_trans (Nat.le_trans (Nat.le_trans (Nat.le_trans (Nat.le_trans Z0 E1.1) (Keep.of_wr W4).1) (Keep.of_wr W7).1) (Keep.of_wr W10).1) (Keep.of_wr W13).1) (Keep.of_wr W16).1) (Keep.of_wr W19).1) (Keep.of_wr W22).1) (Keep.of_wr W25).1) E27.1) K28.1) K42.1) K45.1) p48_1
      have sz_oA_48 : h0.size ≤ oA_48 := Nat.le_trans ((((((((((((((Keep.refl h0 []).ext E1).wr W4 (Or.inr sz_b1)).wr W7 (Or.inr sz_b1)).wr W10 (Or.inr sz_b1)).wr W13 (Or.inr sz_b1)).wr W16 (Or.inr sz_b1)).wr W19 (Or.inr sz_b1)).wr W22 (Or.inr sz_b1)).wr W25 (Or.inr sz_b1)).ext E27).trans K28 (allS (Or.inr sz_b27) all0)).trans K42 (allS (Or.inr sz_b27) (allS (Or.inr sz_bA_28) (allS (Or.inr sz_sA_28) all0)))).trans K45 (allS (Or.inr sz_b27) (allS (Or.inr sz_bA_28) (allS (Or.inr sz_sA_28) all0)))).1 p48_1
      have g_cA_48 : n0 ≤ cA_48 := Nat.le_trans (Nat.le_trans (Nat.le_trans (Nat.le_trans (Nat.le_trans (Nat.le_trans (Nat.le_trans (Nat.le_trans (Nat.le_trans (Nat.le_trans (Nat.le_trans (Nat.le_trans (Nat.le_trans (Nat.le_trans Z0 E1.1) (Keep.of_wr W4).1) (Keep.of_wr W7).1) (Keep.of_wr W10).1) (Keep.of_wr W13).1) (Keep.of_wr W16).1) (Keep.of_wr W19).1) (Keep.of_wr W22).1) (Keep.of_wr W25).1) E27.1) K28.1) K42.1) K45.1) p48_2
      have sz_cA_48 : h0.size ≤ cA_48 := Nat.le_trans ((((((((((((((Keep.refl h0 []).ext E1).wr W4 (Or.inr sz_b1)).wr W7 (Or.inr sz_b1)).wr W10 (Or.inr sz_b1)).wr W13 (Or.inr sz_b1)).wr W16 (Or.inr sz_b1)).wr W19 (Or.inr sz_b1)).wr W22 (Or.inr sz_b1)).wr W25 (Or.inr sz_b1)).ext E27).trans K28 (allS (Or.inr sz_b27) all0)).trans K42 (allS (Or.inr sz_b27) (allS (Or.inr sz_bA_28) (allS (Or.inr sz_sA_28) all0)))).trans K45 (allS (Or.inr sz_b27) (allS (Or.inr sz_bA_28) (allS (Or.inr sz_sA_28) all0)))).1 p48_2
      have N48 := Fr.app N45 N48q
      refine own_by (fun t q => oIl X48 hx hby at_260 rfl (oIl X48 hx hby at_262 rfl (XS.iadd X48.here hx rfl (hb hby at_264) rfl (XS.istore X48.here hx rfl (hb hby at_265) rfl (l' := #[iv p0, iv p1, .val (.long q2), .second, iv 3, iv mN, iv mB, rv b1, iv l0, iv l1, iv l2, iv l3, iv f0, iv f1, iv f2, iv f3, rv b27, iv ((((0 : Int32) + l0) + l1) + l2), .unset, .unset, .unset]) rfl (oIl X48 hx hby at_267 rfl (oIc X48 hx hby at_269 q)))))) ?_
      refine own_by (fun t q => oJy X48 hx hby 270 294 at_270 (flt (by decide : ¬ ((3 : Int32) < (3 : Int32)))).2.2.2 (by decide) (by decide) (oIl X48 hx hby at_294 rfl (oIc X48 hx hby at_296 (oJn X48 hx hby at_297 (flt (by decide : ¬ ((3 : Int32) < (3 : Int32)))).1 (oIl X48 hx hby at_300 rfl (oIc X48 hx hby at_302 q)))))) ?_
      refine own_by (fun t q => XS.isub X48.here hx rfl (hb hby at_303) rfl (oIl X48 hx hby at_304 rfl (oJy X48 hx hby 306 316 at_306 (flt (show ¬ ((2 : Int32) < mN) from (by rw [Int32.lt_iff_toInt_lt]; have w0 := own_lits; have v0 := own_eqm p48_26; omega))).2.1 (by decide) (by decide) (oIc X48 hx hby at_316 (oGo X48 hx hby 317 321 at_317 (by decide) (by decide) (XS.istore X48.here hx rfl (hb hby at_321) rfl (l' := #[iv p0, iv p1, .val (.long q2), .second, iv 3, iv mN, iv mB, rv b1, iv l0, iv l1, iv l2, iv l3, iv f0, iv f1, iv f2, iv f3, rv b27, iv ((((0 : Int32) + l0) + l1) + l2), iv 1, .unset, .unset]) rfl q)))))) ?_
      obtain ⟨s52, o52, ja52, jb52, jc52, v52, L52, rfl, ⟨hv52, jN52, jh52⟩, jF52⟩ := sgT1 l Z a0 hw p0 p1 q2 (3 : Int32) mN mB b1 l0 l1 l2 l3 f0 f1 f2 f3 b27 ((((0 : Int32) + l0) + l1) + l2) lim_48 (1 : Int32) u2_48 T48.heap n0 (Nat.le_trans (Nat.le_trans (Nat.le_trans (Nat.le_trans (Nat.le_trans (Nat.le_trans (Nat.le_trans (Nat.le_trans (Nat.le_trans (Nat.le_trans (Nat.le_trans (Nat.le_trans (Nat.le_trans (Nat.le_trans Z0 E1.1) (Keep.of_wr W4).1) (Keep.of_wr W7).1) (Keep.of_wr W10).1) (Keep.of_wr W13).1) (Keep.of_wr W16).1) (Keep.of_wr W19).1) (Keep.of_wr W22).1) (Keep.of_wr W25).1) E27.1) K28.1) K42.1) K45.1) K48.1) p48_6 p48_9 p48_7 p48_8 g_b27 (own_more X48 (by decide) (by decide)) hx hZ hby hml hown Bd.returns Bd.notSynchronized rfl N48 
      exact ⟨s52, _, ja52, jb52, jc52, v52, L52, rfl, ⟨hv52.trans rfl, jN52, trivial⟩, jF52⟩
    · have pl48 := (allS (P := fun x => ∃ cell : Cell, T45.heap[x]? = some cell ∧ cell.vm.isStatics = false) (own_ns p45_0) (allS (P := fun x => ∃ cell : Cell, T45.heap[x]? = some cell ∧ cell.vm.isStatics = false) (own_ns p45_5) (allS (P := fun x => ∃ cell : Cell, T45.heap[x]? = some cell ∧ cell.vm.isStatics = false) (own_ns p45_8) all0)))
      have g_lim_48 : n0 ≤ lim_48 := Nat.le_trans (Nat.le_trans (Nat.le_trans (Nat.le_trans (Nat.le_trans (Nat.le_trans (Nat.le_trans (Nat.le_trans (Nat.le_trans (Nat.le_trans (Nat.le_trans (Nat.le_trans (Nat.le_trans (Nat.le_trans Z0 E1.1) (Keep.of_wr W4).1) (Keep.of_wr W7).1) (Keep.of_wr W10).1) (Keep.of_wr W13).1) (Keep.of_wr W16).1) (Keep.of_wr W19).1) (Keep.of_wr W22).1) (Keep.of_wr W25).1) E27.1) K28.1) K42.1) K45.1) p48_0
      have sz_lim_48 : h0.size ≤ lim_48 := Nat.le_trans ((((((((((((((Keep.refl h0 []).ext E1).wr W4 (Or.inr sz_b1)).wr W7 (Or.inr sz_b1)).wr W10 (Or.inr sz_b1)).wr W13 (Or.inr sz_b1)).wr W16 (Or.inr sz_b1)).wr W19 (Or.inr sz_b1)).wr W22 (Or.inr sz_b1)).wr W25 (Or.inr sz_b1)).ext E27).trans K28 (allS (Or.inr sz_b27) all0)).trans K42 (allS (Or.inr sz_b27) (allS (Or.inr sz_bA_28) (allS (Or.inr sz_sA_28) all0)))).trans K45 (allS (Or.inr sz_b27) (allS (Or.inr sz_bA_28) (allS (Or.inr sz_sA_28) all0)))).1 p48_0
      have g_oA_48 : n0 ≤ oA_48 := Nat.le_trans (Nat.le_trans (Nat.le_trans (Nat.le_trans (Nat.le_trans (Nat.le_trans (Nat.le_trans (Nat.le_trans (Nat.le_trans (Nat.le_trans (Nat.le_trans (Nat.le_trans (Nat.le_trans (Nat.le_trans Z0 E1.1) (Keep.of_wr W4).1) (Keep.of_wr W7).1) (Keep.of_wr W10).1) (Keep.of_wr W13).1) (Keep.of_wr W16).1) (Keep.of_wr W19).1) (Keep.of_wr W22).1) (Keep.of_wr W25).1) E27.1) K28.1) K42.1) K45.1) p48_1
      have sz_oA_48 : h0.size ≤ oA_48 := Nat.le_trans ((((((((((((((Keep.refl h0 []).ext E1).wr W4 (Or.inr sz_b1)).wr W7 (Or.inr sz_b1)).wr W10 (Or.inr sz_b1)).wr W13 (Or.inr sz_b1)).wr W16 (Or.inr sz_b1)).wr W19 (Or.inr sz_b1)).wr W22 (Or.inr sz_b1)).wr W25 (Or.inr sz_b1)).ext E27).trans K28 (allS (Or.inr sz_b27) all0)).trans K42 (allS (Or.inr sz_b27) (allS (Or.inr sz_bA_28) (allS (Or.inr sz_sA_28) all0)))).trans K45 (allS (Or.inr sz_b27) (allS (Or.inr sz_bA_28) (allS (Or.inr sz_sA_28) all0)))).1 p48_1
      have g_cA_48 : n0 ≤ cA_48 := Nat.le_trans (Nat.le_trans (Nat.le_trans (Nat.le_trans (Nat.le_trans (Nat.le_trans (Nat.le_trans (Nat.le_trans (Nat.le_trans (Nat.le_trans (Nat.le_trans (Nat.le_trans (Nat.le_trans (Nat.le_trans Z0 E1.1) (Keep.of_wr W4).1) (Keep.of_wr W7).1) (Keep.of_wr W10).1) (Keep.of_wr W13).1) (Keep.of_wr W16).1) (Keep.of_wr W19).1) (Keep.of_wr W22).1) (Keep.of_wr W25).1) E27.1) K28.1) K42.1) K45.1) p48_2
      have sz_cA_48 : h0.size ≤ cA_48 := Nat.le_trans ((((((((((((((Keep.refl h0 []).ext E1).wr W4 (Or.inr sz_b1)).wr W7 (Or.inr sz_b1)).wr W10 (Or.inr sz_b1)).wr W13 (Or.inr sz_b1)).wr W16 (Or.inr sz_b1)).wr W19 (Or.inr sz_b1)).wr W22 (Or.inr sz_b1)).wr W25 (Or.inr sz_b1)).ext E27).trans K28 (allS (Or.inr sz_b27) all0)).trans K42 (allS (Or.inr sz_b27) (allS (Or.inr sz_bA_28) (allS (Or.inr sz_sA_28) all0)))).trans K45 (allS (Or.inr sz_b27) (allS (Or.inr sz_bA_28) (allS (Or.inr sz_sA_28) all0)))).1 p48_2
      have N48 := Fr.app N45 N48q
      refine own_by (fun t q => oIl X48 hx hby at_260 rfl (oIl X48 hx hby at_262 rfl (XS.iadd X48.here hx rfl (hb hby at_264) rfl (XS.istore X48.here hx rfl (hb hby at_265) rfl (l' := #[iv p0, iv p1, .val (.long q2), .second, iv 3, iv mN, iv mB, rv b1, iv l0, iv l1, iv l2, iv l3, iv f0, iv f1, iv f2, iv f3, rv b27, iv ((((0 : Int32) + l0) + l1) + l2), .unset, .unset, .unset]) rfl (oIl X48 hx hby at_267 rfl (oIc X48 hx hby at_269 q)))))) ?_
      refine own_by (fun t q => oJy X48 hx hby 270 294 at_270 (flt (by decide : ¬ ((3 : Int32) < (3 : Int32)))).2.2.2 (by decide) (by decide) (oIl X48 hx hby at_294 rfl (oIc X48 hx hby at_296 (oJn X48 hx hby at_297 (flt (by decide : ¬ ((3 : Int32) < (3 : Int32)))).1 (oIl X48 hx hby at_300 rfl (oIc X48 hx hby at_302 q)))))) ?_
      refine own_by (fun t q => XS.isub X48.here hx rfl (hb hby at_303) rfl (oIl X48 hx hby at_304 rfl q)) ?_
      by_cases hc306_53 : (2 : Int32) < mN
      · refine own_by (fun t q => oJn X48 hx hby at_306 (tlt hc306_53).2.1 (oIl X48 hx hby at_309 rfl (oIl X48 hx hby at_311 rfl (oJn X48 hx hby at_313 (tlt p48_26).2.2.2 (oIc X48 hx hby at_316 (oGo X48 hx hby 317 321 at_317 (by decide) (by decide) q)))))) ?_
        refine own_by (fun t q => XS.istore X48.here hx rfl (hb hby at_321) rfl (l' := #[iv p0, iv p1, .val (.long q2), .second, iv 3, iv mN, iv mB, rv b1, iv l0, iv l1, iv l2, iv l3, iv f0, iv f1, iv f2, iv f3, rv b27, iv ((((0 : Int32) + l0) + l1) + l2), iv 1, .unset, .unset]) rfl q) ?_
        obtain ⟨s54, o54, ja54, jb54, jc54, v54, L54, rfl, ⟨hv54, jN54, jh54⟩, jF54⟩ := sgT1 l Z a0 hw p0 p1 q2 (3 : Int32) mN mB b1 l0 l1 l2 l3 f0 f1 f2 f3 b27 ((((0 : Int32) + l0) + l1) + l2) lim_48 (2 : Int32) u2_48 T48.heap n0 (Nat.le_trans (Nat.le_trans (Nat.le_trans (Nat.le_trans (Nat.le_trans (Nat.le_trans (Nat.le_trans (Nat.le_trans (Nat.le_trans (Nat.le_trans (Nat.le_trans (Nat.le_trans (Nat.le_trans (Nat.le_trans Z0 E1.1) (Keep.of_wr W4).1) (Keep.of_wr W7).1) (Keep.of_wr W10).1) (Keep.of_wr W13).1) (Keep.of_wr W16).1) (Keep.of_wr W19).1) (Keep.of_wr W22).1) (Keep.of_wr W25).1) E27.1) K28.1) K42.1) K45.1) K48.1) p48_6 p48_9 p48_7 p48_8 g_b27 (own_more X48 (by decide) (by decide)) hx hZ hby hml hown Bd.returns Bd.notSynchronized rfl N48 
        exact ⟨s54, _, ja54, jb54, jc54, v54, L54, rfl, ⟨hv54.trans rfl, jN54, trivial⟩, jF54⟩
      · refine own_by (fun t q => oJy X48 hx hby 306 316 at_306 (flt hc306_53).2.1 (by decide) (by decide) (oIc X48 hx hby at_316 (oGo X48 hx hby 317 321 at_317 (by decide) (by decide) (XS.istore X48.here hx rfl (hb hby at_321) rfl (l' := #[iv p0, iv p1, .val (.long q2), .second, iv 3, iv mN, iv mB, rv b1, iv l0, iv l1, iv l2, iv l3, iv f0, iv f1, iv f2, iv f3, rv b27, iv ((((0 : Int32) + l0) + l1) + l2), iv 1, .unset, .unset]) rfl q)))) ?_
        obtain ⟨s55, o55, ja55, jb55, jc55, v55, L55, rfl, ⟨hv55, jN55, jh55⟩, jF55⟩ := sgT1 l Z a0 hw p0 p1 q2 (3 : Int32) mN mB b1 l0 l1 l2 l3 f0 f1 f2 f3 b27 ((((0 : Int32) + l0) + l1) + l2) lim_48 (2 : Int32) u2_48 T48.heap n0 (Nat.le_trans (Nat.le_trans (Nat.le_trans (Nat.le_trans (Nat.le_trans (Nat.le_trans (Nat.le_trans (Nat.le_trans (Nat.le_trans (Nat.le_trans (Nat.le_trans (Nat.le_trans (Nat.le_trans (Nat.le_trans Z0 E1.1) (Keep.of_wr W4).1) (Keep.of_wr W7).1) (Keep.of_wr W10).1) (Keep.of_wr W13).1) (Keep.of_wr W16).1) (Keep.of_wr W19).1) (Keep.of_wr W22).1) (Keep.of_wr W25).1) E27.1) K28.1) K42.1) K45.1) K48.1) p48_6 p48_9 p48_7 p48_8 g_b27 (own_more X48 (by decide) (by decide)) hx hZ hby hml hown Bd.returns Bd.notSynchronized rfl N48 
        exact ⟨s55, _, ja55, jb55, jc55, v55, L55, rfl, ⟨hv55.trans rfl, jN55, trivial⟩, jF55⟩
    · have pl48 := (allS (P := fun x => ∃ cell : Cell, T45.heap[x]? = some cell ∧ cell.vm.isStatics = false) (own_ns p45_0) (allS (P := fun x => ∃ cell : Cell, T45.heap[x]? = some cell ∧ cell.vm.isStatics = false) (own_ns p45_5) (allS (P := fun x => ∃ cell : Cell, T45.heap[x]? = some cell ∧ cell.vm.isStatics = false) (own_ns p45_8) all0)))
      have g_lim_48 : n0 ≤ lim_48 := Nat.le_trans (Nat.le_trans (Nat.le_trans (Nat.le_trans (Nat.le_trans (Nat.le_trans (Nat.le_trans (Nat.le_trans (Nat.le_trans (Nat.le_trans (Nat.le_trans (Nat.le_trans (Nat.le_trans (Nat.le_trans Z0 E1.1) (Keep.of_wr W4).1) (Keep.of_wr W7).1) (Keep.of_wr W10).1) (Keep.of_wr W13).1) (Keep.of_wr W16).1) (Keep.of_wr W19).1) (Keep.of_wr W22).1) (Keep.of_wr W25).1) E27.1) K28.1) K42.1) K45.1) p48_0
      have sz_lim_48 : h0.size ≤ lim_48 := Nat.le_trans ((((((((((((((Keep.refl h0 []).ext E1).wr W4 (Or.inr sz_b1)).wr W7 (Or.inr sz_b1)).wr W10 (Or.inr sz_b1)).wr W13 (Or.inr sz_b1)).wr W16 (Or.inr sz_b1)).wr W19 (Or.inr sz_b1)).wr W22 (Or.inr sz_b1)).wr W25 (Or.inr sz_b1)).ext E27).trans K28 (allS (Or.inr sz_b27) all0)).trans K42 (allS (Or.inr sz_b27) (allS (Or.inr sz_bA_28) (allS (Or.inr sz_sA_28) all0)))).trans K45 (allS (Or.inr sz_b27) (allS (Or.inr sz_bA_28) (allS (Or.inr sz_sA_28) all0)))).1 p48_0
      have g_oA_48 : n0 ≤ oA_48 := Nat.le_trans (Nat.le_trans (Nat.le_trans (Nat.le_trans (Nat.le_trans (Nat.le_trans (Nat.le_trans (Nat.le_trans (Nat.le_trans (Nat.le_trans (Nat.le_trans (Nat.le_trans (Nat.le_trans (Nat.le_trans Z0 E1.1) (Keep.of_wr W4).1) (Keep.of_wr W7).1) (Keep.of_wr W10).1) (Keep.of_wr W13).1) (Keep.of_wr W16).1) (Keep.of_wr W19).1) (Keep.of_wr W22).1) (Keep.of_wr W25).1) E27.1) K28.1) K42.1) K45.1) p48_1
      have sz_oA_48 : h0.size ≤ oA_48 := Nat.le_trans ((((((((((((((Keep.refl h0 []).ext E1).wr W4 (Or.inr sz_b1)).wr W7 (Or.inr sz_b1)).wr W10 (Or.inr sz_b1)).wr W13 (Or.inr sz_b1)).wr W16 (Or.inr sz_b1)).wr W19 (Or.inr sz_b1)).wr W22 (Or.inr sz_b1)).wr W25 (Or.inr sz_b1)).ext E27).trans K28 (allS (Or.inr sz_b27) all0)).trans K42 (allS (Or.inr sz_b27) (allS (Or.inr sz_bA_28) (allS (Or.inr sz_sA_28) all0)))).trans K45 (allS (Or.inr sz_b27) (allS (Or.inr sz_bA_28) (allS (Or.inr sz_sA_28) all0)))).1 p48_1
      have g_cA_48 : n0 ≤ cA_48 := Nat.le_trans (Nat.le_trans (Nat.le_trans (Nat.le_trans (Nat.le_trans (Nat.le_trans (Nat.le_trans (Nat.le_trans (Nat.le_trans (Nat.le_trans (Nat.le_trans (Nat.le_trans (Nat.le_trans (Nat.le_trans Z0 E1.1) (Keep.of_wr W4).1) (Keep.of_wr W7).1) (Keep.of_wr W10).1) (Keep.of_wr W13).1) (Keep.of_wr W16).1) (Keep.of_wr W19).1) (Keep.of_wr W22).1) (Keep.of_wr W25).1) E27.1) K28.1) K42.1) K45.1) p48_2
      have sz_cA_48 : h0.size ≤ cA_48 := Nat.le_trans ((((((((((((((Keep.refl h0 []).ext E1).wr W4 (Or.inr sz_b1)).wr W7 (Or.inr sz_b1)).wr W10 (Or.inr sz_b1)).wr W13 (Or.inr sz_b1)).wr W16 (Or.inr sz_b1)).wr W19 (Or.inr sz_b1)).wr W22 (Or.inr sz_b1)).wr W25 (Or.inr sz_b1)).ext E27).trans K28 (allS (Or.inr sz_b27) all0)).trans K42 (allS (Or.inr sz_b27) (allS (Or.inr sz_bA_28) (allS (Or.inr sz_sA_28) all0)))).trans K45 (allS (Or.inr sz_b27) (allS (Or.inr sz_bA_28) (allS (Or.inr sz_sA_28) all0)))).1 p48_2
      have N48 := Fr.app N45 N48q
      refine own_by (fun t q => oIl X48 hx hby at_260 rfl (oIl X48 hx hby at_262 rfl (XS.iadd X48.here hx rfl (hb hby at_264) rfl (XS.istore X48.here hx rfl (hb hby at_265) rfl (l' := #[iv p0, iv p1, .val (.long q2), .second, iv 3, iv mN, iv mB, rv b1, iv l0, iv l1, iv l2, iv l3, iv f0, iv f1, iv f2, iv f3, rv b27, iv ((((0 : Int32) + l0) + l1) + l2), .unset, .unset, .unset]) rfl (oIl X48 hx hby at_267 rfl (oIc X48 hx hby at_269 q)))))) ?_
      refine own_by (fun t q => oJy X48 hx hby 270 294 at_270 (flt (by decide : ¬ ((3 : Int32) < (3 : Int32)))).2.2.2 (by decide) (by decide) (oIl X48 hx hby at_294 rfl (oIc X48 hx hby at_296 (oJn X48 hx hby at_297 (flt (by decide : ¬ ((3 : Int32) < (3 : Int32)))).1 (oIl X48 hx hby at_300 rfl (oIc X48 hx hby at_302 q)))))) ?_
      refine own_by (fun t q => XS.isub X48.here hx rfl (hb hby at_303) rfl (oIl X48 hx hby at_304 rfl q)) ?_
      by_cases hc306_56 : (2 : Int32) < mN
      · refine own_by (fun t q => oJn X48 hx hby at_306 (tlt hc306_56).2.1 (oIl X48 hx hby at_309 rfl (oIl X48 hx hby at_311 rfl (oJn X48 hx hby at_313 (tlt p48_26).2.2.2 (oIc X48 hx hby at_316 (oGo X48 hx hby 317 321 at_317 (by decide) (by decide) q)))))) ?_
        refine own_by (fun t q => XS.istore X48.here hx rfl (hb hby at_321) rfl (l' := #[iv p0, iv p1, .val (.long q2), .second, iv 3, iv mN, iv mB, rv b1, iv l0, iv l1, iv l2, iv l3, iv f0, iv f1, iv f2, iv f3, rv b27, iv ((((0 : Int32) + l0) + l1) + l2), iv 1, .unset, .unset]) rfl q) ?_
        obtain ⟨s57, o57, ja57, jb57, jc57, v57, L57, rfl, ⟨hv57, jN57, jh57⟩, jF57⟩ := sgT1 l Z a0 hw p0 p1 q2 (3 : Int32) mN mB b1 l0 l1 l2 l3 f0 f1 f2 f3 b27 ((((0 : Int32) + l0) + l1) + l2) lim_48 (1 : Int32) u2_48 T48.heap n0 (Nat.le_trans (Nat.le_trans (Nat.le_trans (Nat.le_trans (Nat.le_trans (Nat.le_trans (Nat.le_trans (Nat.le_trans (Nat.le_trans (Nat.le_trans (Nat.le_trans (Nat.le_trans (Nat.le_trans (Nat.le_trans Z0 E1.1) (Keep.of_wr W4).1) (Keep.of_wr W7).1) (Keep.of_wr W10).1) (Keep.of_wr W13).1) (Keep.of_wr W16).1) (Keep.of_wr W19).1) (Keep.of_wr W22).1) (Keep.of_wr W25).1) E27.1) K28.1) K42.1) K45.1) K48.1) p48_6 p48_9 p48_7 p48_8 g_b27 (own_more X48 (by decide) (by decide)) hx hZ hby hml hown Bd.returns Bd.notSynchronized rfl N48 
        exact ⟨s57, _, ja57, jb57, jc57, v57, L57, rfl, ⟨hv57.trans rfl, jN57, trivial⟩, jF57⟩
      · refine own_by (fun t q => oJy X48 hx hby 306 316 at_306 (flt hc306_56).2.1 (by decide) (by decide) (oIc X48 hx hby at_316 (oGo X48 hx hby 317 321 at_317 (by decide) (by decide) (XS.istore X48.here hx rfl (hb hby at_321) rfl (l' := #[iv p0, iv p1, .val (.long q2), .second, iv 3, iv mN, iv mB, rv b1, iv l0, iv l1, iv l2, iv l3, iv f0, iv f1, iv f2, iv f3, rv b27, iv ((((0 : Int32) + l0) + l1) + l2), iv 1, .unset, .unset]) rfl q)))) ?_
        obtain ⟨s58, o58, ja58, jb58, jc58, v58, L58, rfl, ⟨hv58, jN58, jh58⟩, jF58⟩ := sgT1 l Z a0 hw p0 p1 q2 (3 : Int32) mN mB b1 l0 l1 l2 l3 f0 f1 f2 f3 b27 ((((0 : Int32) + l0) + l1) + l2) lim_48 (1 : Int32) u2_48 T48.heap n0 (Nat.le_trans (Nat.le_trans (Nat.le_trans (Nat.le_trans (Nat.le_trans (Nat.le_trans (Nat.le_trans (Nat.le_trans (Nat.le_trans (Nat.le_trans (Nat.le_trans (Nat.le_trans (Nat.le_trans (Nat.le_trans Z0 E1.1) (Keep.of_wr W4).1) (Keep.of_wr W7).1) (Keep.of_wr W10).1) (Keep.of_wr W13).1) (Keep.of_wr W16).1) (Keep.of_wr W19).1) (Keep.of_wr W22).1) (Keep.of_wr W25).1) E27.1) K28.1) K42.1) K45.1) K48.1) p48_6 p48_9 p48_7 p48_8 g_b27 (own_more X48 (by decide) (by decide)) hx hZ hby hml hown Bd.returns Bd.notSynchronized rfl N48 
        exact ⟨s58, _, ja58, jb58, jc58, v58, L58, rfl, ⟨hv58.trans rfl, jN58, trivial⟩, jF58⟩
    · have pl48 := (allS (P := fun x => ∃ cell : Cell, T45.heap[x]? = some cell ∧ cell.vm.isStatics = false) (own_ns p45_0) (allS (P := fun x => ∃ cell : Cell, T45.heap[x]? = some cell ∧ cell.vm.isStatics = false) (own_ns p45_5) (allS (P := fun x => ∃ cell : Cell, T45.heap[x]? = some cell ∧ cell.vm.isStatics = false) (own_ns p45_8) all0)))
      have N48 := Fr.app N45 N48q
      refine own_by (fun t q => oIl X48 hx hby at_260 rfl (oIl X48 hx hby at_262 rfl (XS.iadd X48.here hx rfl (hb hby at_264) rfl (XS.istore X48.here hx rfl (hb hby at_265) rfl (l' := #[iv p0, iv p1, .val (.long q2), .second, iv 3, iv mN, iv mB, rv b1, iv l0, iv l1, iv l2, iv l3, iv f0, iv f1, iv f2, iv f3, rv b27, iv ((((0 : Int32) + l0) + l1) + l2), .unset, .unset, .unset]) rfl (oIl X48 hx hby at_267 rfl (oIc X48 hx hby at_269 q)))))) ?_
      refine own_by (fun t q => oJy X48 hx hby 270 294 at_270 (flt (by decide : ¬ ((3 : Int32) < (3 : Int32)))).2.2.2 (by decide) (by decide) (oIl X48 hx hby at_294 rfl (oIc X48 hx hby at_296 (oJn X48 hx hby at_297 (flt (by decide : ¬ ((3 : Int32) < (3 : Int32)))).1 (oIl X48 hx hby at_300 rfl (oIc X48 hx hby at_302 q)))))) ?_
      refine own_by (fun t q => XS.isub X48.here hx rfl (hb hby at_303) rfl (oIl X48 hx hby at_304 rfl (oJn X48 hx hby at_306 (tlt (show (2 : Int32) < mN from (by rw [Int32.lt_iff_toInt_lt]; have w0 := own_lits; have w1a := c_iadd (0 : Int32) l0; have w1b := rng32 ((0 : Int32) + l0); have w2a := c_iadd ((0 : Int32) + l0) l1; have w2b := rng32 (((0 : Int32) + l0) + l1); have w3a := c_iadd (((0 : Int32) + l0) + l1) l2; have w3b := rng32 ((((0 : Int32) + l0) + l1) + l2); have v0 := own_neq p48_15; have v1 := own_nlt p48_16; omega))).2.1 (oIl X48 hx hby at_309 rfl (oIl X48 hx hby at_311 rfl (oJy X48 hx hby 313 320 at_313 (flt p48_16).2.2.2 (by decide) (by decide) q)))))) ?_
      refine own_by (fun t q => oIc X48 hx hby at_320 (XS.istore X48.here hx rfl (hb hby at_321) rfl (l' := #[iv p0, iv p1, .val (.long q2), .second, iv 3, iv mN, iv mB, rv b1, iv l0, iv l1, iv l2, iv l3, iv f0, iv f1, iv f2, iv f3, rv b27, iv ((((0 : Int32) + l0) + l1) + l2), iv 0, .unset, .unset]) rfl q)) ?_
      obtain ⟨s59, o59, ja59, jb59, jc59, v59, L59, rfl, ⟨hv59, jN59, jh59⟩, jF59⟩ := sgT0 l Z a0 hw p0 p1 q2 (3 : Int32) mN mB b1 l0 l1 l2 l3 f0 f1 f2 f3 b27 ((((0 : Int32) + l0) + l1) + l2) (3 : Int32) ((((0 : Int32) + l0) + l1) + l2) T48.heap n0 (Nat.le_trans (Nat.le_trans (Nat.le_trans (Nat.le_trans (Nat.le_trans (Nat.le_trans (Nat.le_trans (Nat.le_trans (Nat.le_trans (Nat.le_trans (Nat.le_trans (Nat.le_trans (Nat.le_trans (Nat.le_trans Z0 E1.1) (Keep.of_wr W4).1) (Keep.of_wr W7).1) (Keep.of_wr W10).1) (Keep.of_wr W13).1) (Keep.of_wr W16).1) (Keep.of_wr W19).1) (Keep.of_wr W22).1) (Keep.of_wr W25).1) E27.1) K28.1) K42.1) K45.1) K48.1) p48_0 p48_11 p48_1 p48_2 g_b27 (own_more X48 (by decide) (by decide)) hx hZ hby hml hown Bd.returns Bd.notSynchronized rfl N48 
      exact ⟨s59, _, ja59, jb59, jc59, v59, L59, rfl, ⟨hv59.trans rfl, jN59, trivial⟩, jF59⟩
  · skip
    have f61 := ((PB.ext E27).keep K28 (ninS (Nat.ne_of_lt (Nat.lt_of_lt_of_le f26.lt (Nat.le_of_eq g27.symm))) nin0))
    have f62 := (f29.keep K28)
    refine own_by (fun t q => XS.ifNo X28.here hx rfl (hb hby at_189) rfl ((if0 _ _).trans (tlt (by decide : (0 : Int32) < (4 : Int32))).2.2.2) (oAl X28 hx hby at_192 rfl rfl (oAl X28 hx hby at_194 rfl rfl (oIl X28 hx hby at_196 rfl (oIl X28 hx hby at_198 rfl (oIl X28 hx hby at_200 rfl q)))))) ?_
    refine own_by (fun t q => XS.iadd X28.here hx rfl (hb hby at_202) rfl q) ?_
    refine own_cW 0 (rm5_0 l Z a0 hw [] b27 b1 f0 l0 bA_28 sA_28 kS_28 (0 : Int32) (0 : Int32) (0 : Int32) (0 : Int32) (0 : Int32) mN mB oA_28 kO_28 cA_28 T28.heap n0 (Nat.le_trans (Nat.le_trans (Nat.le_trans (Nat.le_trans (Nat.le_trans (Nat.le_trans (Nat.le_trans (Nat.le_trans (Nat.le_trans (Nat.le_trans (Nat.le_trans Z0 E1.1) (Keep.of_wr W4).1) (Keep.of_wr W7).1) (Keep.of_wr W10).1) (Keep.of_wr W13).1) (Keep.of_wr W16).1) (Keep.of_wr W19).1) (Keep.of_wr W22).1) (Keep.of_wr W25).1) E27.1) K28.1) p28_6 p28_9 p28_10 p28_12 p28_13 p28_14 p28_15 p28_16 p28_17 p28_7 p28_8 p28_11 p28_18 p28_19 p28_20 f61 f62 h_f0 h_l0 (by have w0 := own_lits; omega) g_bA_28 (Nat.ne_of_lt (Nat.lt_of_lt_of_le A27.lt p28_0)) g_b27 (Ne.symm p28_3) (Ne.symm (Nat.ne_of_lt (Nat.lt_of_lt_of_le A27.lt p28_1))) g_sA_28 (Nat.ne_of_lt (Nat.lt_of_lt_of_le A27.lt p28_1)) (Ne.symm (Nat.ne_of_lt (Nat.lt_of_lt_of_le A27.lt p28_0))) p28_3 p28_4 (Ne.symm (Nat.ne_of_lt (Nat.lt_of_lt_of_le A27.lt p28_2))) p28_5) X28 hx hZ hown hw 40 41 43 42 4 44 rfl rfl rfl rfl rfl rfl b27 p28_6 [(.ref b1), (.int f0), (.int (f0 + l0))] [] hby at_203 hml (lenOf pd_11 rfl) rfl rfl (Nat.le_refl _) (by decide) fun _ T60 L60 X60 hQ60 => ?_
    obtain ⟨rfl, N60q, K60, p60_0, p60_1, p60_2, p60_3, p60_4, p60_5, p60_6, p60_7, p60_8, p60_9, p60_10, p60_11, p60_12, p60_13, p60_14⟩ := hQ60
    have pl60 := (allS (P := fun x => ∃ cell : Cell, T28.heap[x]? = some cell ∧ cell.vm.isStatics = false) (own_ns p28_6) (allS (P := fun x => ∃ cell : Cell, T28.heap[x]? = some cell ∧ cell.vm.isStatics = false) (own_ns p28_14) (allS (P := fun x => ∃ cell : Cell, T28.heap[x]? = some cell ∧ cell.vm.isStatics = false) (own_ns p28_17) all0)))
    have N60 := Fr.app N28 N60q
    have f64 := (f61.keep K60 (ninS (Nat.ne_of_lt (Nat.lt_of_lt_of_le f26.lt (Nat.le_of_eq g27.symm))) (ninS (Nat.ne_of_lt (Nat.lt_of_lt_of_le f29.lt p28_0)) (ninS (Nat.ne_of_lt (Nat.lt_of_lt_of_le f29.lt p28_1)) nin0))))
    have f65 := (f62.keep K60)
    refine own_by (fun t q => oIl X60 hx hby at_206 rfl (oIl X60 hx hby at_208 rfl (XS.iadd X60.here hx rfl (hb hby at_210) rfl (XS.istore X60.here hx rfl (hb hby at_211) rfl (l' := #[iv p0, iv p1, .val (.long q2), .second, iv 4, iv mN, iv mB, rv b1, iv l0, iv l1, iv l2, iv l3, iv f0, iv f1, iv f2, iv f3, rv b27, iv ((0 : Int32) + l0), .unset, .unset, .unset]) rfl (oIl X60 hx hby at_213 rfl (oIc X60 hx hby at_215 q)))))) ?_
    refine own_by (fun t q => oJn X60 hx hby at_216 (tlt (by decide : (1 : Int32) < (4 : Int32))).2.2.2 (oAl X60 hx hby at_219 rfl rfl (oAl X60 hx hby at_221 rfl rfl (oIl X60 hx hby at_223 rfl (oIl X60 hx hby at_225 rfl (oIl X60 hx hby at_227 rfl q)))))) ?_
    refine own_by (fun t q => XS.iadd X60.here hx rfl (hb hby at_229) rfl q) ?_
    refine own_cW 0 (rm5_1 l Z a0 hw [] b27 b1 f1 l1 bA_28 sA_28 kS_28 ((0 : Int32) + l0) (0 : Int32) (0 : Int32) (0 : Int32) (0 : Int32) mN mB oA_28 kO_28 cA_28 T60.heap n0 (Nat.le_trans (Nat.le_trans (Nat.le_trans (Nat.le_trans (Nat.le_trans (Nat.le_trans (Nat.le_trans (Nat.le_trans (Nat.le_trans (Nat.le_trans (Nat.le_trans (Nat.le_trans Z0 E1.1) (Keep.of_wr W4).1) (Keep.of_wr W7).1) (Keep.of_wr W10).1) (Keep.of_wr W13).1) (Keep.of_wr W16).1) (Keep.of_wr W19).1) (Keep.of_wr W22).1) (Keep.of_wr W25).1) E27.1) K28.1) K60.1) p60_0 p60_1 p60_2 p60_3 p60_4 p60_5 p60_6 p60_7 p60_8 p60_9 p60_10 p60_11 p60_12 p60_13 p60_14 f64 f65 h_f1 h_l1 (by have w0 := own_lits; have w1a := c_iadd (0 : Int32) l0; have w1b := rng32 ((0 : Int32) + l0); omega) g_bA_28 (Nat.ne_of_lt (Nat.lt_of_lt_of_le A27.lt p28_0)) g_b27 (Ne.symm p28_3) (Ne.symm (Nat.ne_of_lt (Nat.lt_of_lt_of_le A27.lt p28_1))) g_sA_28 (Nat.ne_of_lt (Nat.lt_of_lt_of_le A27.lt p28_1)) (Ne.symm (Nat.ne_of_lt (Nat.lt_of_lt_of_le A27.lt p28_0))) p28_3 p28_4 (Ne.symm (Nat.ne_of_lt (Nat.lt_of_lt_of_le A27.lt p28_2))) p28_5) X60 hx hZ hown hw 40 41 43 42 4 44 rfl rfl rfl rfl rfl rfl b27 p60_0 [(.ref b1), (.int f1), (.int (f1 + l1))] [] hby at_230 hml (lenOf pd_11 rfl) rfl rfl (Nat.le_refl _) (by decide) fun _ T63 L63 X63 hQ63 => ?_
    obtain ⟨rfl, N63q, K63, p63_0, p63_1, p63_2, p63_3, p63_4, p63_5, p63_6, p63_7, p63_8, p63_9, p63_10, p63_11, p63_12, p63_13, p63_14⟩ := hQ63
    have pl63 := (allS (P := fun x => ∃ cell : Cell, T60.heap[x]? = some cell ∧ cell.vm.isStatics = false) (own_ns p60_0) (allS (P := fun x => ∃ cell : Cell, T60.heap[x]? = some cell ∧ cell.vm.isStatics = false) (own_ns p60_5) (allS (P := fun x => ∃ cell : Cell, T60.heap[x]? = some cell ∧ cell.vm.isStatics = false) (own_ns p60_8) all0)))
    have N63 := Fr.app N60 N63q
    have f67 := (f64.keep K63 (ninS (Nat.ne_of_lt (Nat.lt_of_lt_of_le f26.lt (Nat.le_of_eq g27.symm))) (ninS (Nat.ne_of_lt (Nat.lt_of_lt_of_le f29.lt p28_0)) (ninS (Nat.ne_of_lt (Nat.lt_of_lt_of_le f29.lt p28_1)) nin0))))
    have f68 := (f65.keep K63)
    refine own_by (fun t q => oIl X63 hx hby at_233 rfl (oIl X63 hx hby at_235 rfl (XS.iadd X63.here hx rfl (hb hby at_237) rfl (XS.istore X63.here hx rfl (hb hby at_238) rfl (l' := #[iv p0, iv p1, .val (.long q2), .second, iv 4, iv mN, iv mB, rv b1, iv l0, iv l1, iv l2, iv l3, iv f0, iv f1, iv f2, iv f3, rv b27, iv (((0 : Int32) + l0) + l1), .unset, .unset, .unset]) rfl (oIl X63 hx hby at_240 rfl (oIc X63 hx hby at_242 q)))))) ?_
    refine own_by (fun t q => oJn X63 hx hby at_243 (tlt (by decide : (2 : Int32) < (4 : Int32))).2.2.2 (oAl X63 hx hby at_246 rfl rfl (oAl X63 hx hby at_248 rfl rfl (oIl X63 hx hby at_250 rfl (oIl X63 hx hby at_252 rfl (oIl X63 hx hby at_254 rfl q)))))) ?_
    refine own_by (fun t q => XS.iadd X63.here hx rfl (hb hby at_256) rfl q) ?_
    refine own_cW 0 (rm5_2 l Z a0 hw [] b27 b1 f2 l2 bA_28 sA_28 kS_28 (((0 : Int32) + l0) + l1) (0 : Int32) ((0 : Int32) + l0) (0 : Int32) (0 : Int32) mN mB oA_28 kO_28 cA_28 T63.heap n0 (Nat.le_trans (Nat.le_trans (Nat.le_trans (Nat.le_trans (Nat.le_trans (Nat.le_trans (Nat.le_trans (Nat.le_trans (Nat.le_trans (Nat.le_trans (Nat.le_trans (Nat.le_trans (Nat.le_trans Z0 E1.1) (Keep.of_wr W4).1) (Keep.of_wr W7).1) (Keep.of_wr W10).1) (Keep.of_wr W13).1) (Keep.of_wr W16).1) (Keep.of_wr W19).1) (Keep.of_wr W22).1) (Keep.of_wr W25).1) E27.1) K28.1) K60.1) K63.1) p63_0 p63_1 p63_2 p63_3 p63_4 p63_5 p63_6 p63_7 p63_8 p63_9 p63_10 p63_11 p63_12 p63_13 p63_14 f67 f68 h_f2 h_l2 (by have w0 := own_lits; have w1a := c_iadd (0 : Int32) l0; have w1b := rng32 ((0 : Int32) + l0); have w2a := c_iadd ((0 : Int32) + l0) l1; have w2b := rng32 (((0 : Int32) + l0) + l1); omega) g_b27 (Ne.symm (Nat.ne_of_lt (Nat.lt_of_lt_of_le A27.lt p28_1))) (Ne.symm (Nat.ne_of_lt (Nat.lt_of_lt_of_le A27.lt p28_0))) (Ne.symm (Nat.ne_of_lt (Nat.lt_of_lt_of_le A27.lt p28_2))) g_bA_28 (Nat.ne_of_lt (Nat.lt_of_lt_of_le A27.lt p28_0)) (Ne.symm p28_3) g_sA_28 (Nat.ne_of_lt (Nat.lt_of_lt_of_le A27.lt p28_1)) p28_3 (Nat.ne_of_lt (Nat.lt_of_lt_of_le f29.lt p28_1)) (Nat.ne_of_lt (Nat.lt_of_lt_of_le f29.lt p28_0)) (Nat.ne_of_lt (Nat.lt_of_lt_of_le f26.lt (Nat.le_of_eq g27.symm))) p28_4 p28_5) X63 hx hZ hown hw 40 41 43 42 4 44 rfl rfl rfl rfl rfl rfl b27 p63_0 [(.ref b1), (.int f2), (.int (f2 + l2))] [] hby at_257 hml (lenOf pd_11 rfl) rfl rfl (Nat.le_refl _) (by decide) fun _ T66 L66 X66 hQ66 => ?_
    rcases hQ66 with ⟨lim_66, oA_66, kO_66, cA_66, kC_66, t0_66, t1_66, t2_66, t3_66, g0_66, g1_66, d0_66, d1_66, u2_66, zl_66, rfl, N66q, K66, p66_0, p66_1, p66_2, p66_3, p66_4, p66_5, p66_6, p66_7, p66_8, p66_9, p66_10, p66_11, p66_12, p66_13, p66_14, p66_15, p66_16, p66_17, p66_18, p66_19, p66_20, p66_21, p66_22, p66_23, p66_24, p66_25, p66_26, p66_27⟩ | ⟨lim_66, oA_66, kO_66, cA_66, kC_66, t0_66, t1_66, t2_66, t3_66, g0_66, g1_66, d0_66, d1_66, u2_66, zl_66, rfl, N66q, K66, p66_0, p66_1, p66_2, p66_3, p66_4, p66_5, p66_6, p66_7, p66_8, p66_9, p66_10, p66_11, p66_12, p66_13, p66_14, p66_15, p66_16, p66_17, p66_18, p66_19, p66_20, p66_21, p66_22, p66_23, p66_24, p66_25, p66_26, p66_27⟩ | ⟨lim_66, oA_66, kO_66, cA_66, kC_66, t0_66, t1_66, t2_66, t3_66, g0_66, g1_66, d0_66, d1_66, u2_66, zl_66, rfl, N66q, K66, p66_0, p66_1, p66_2, p66_3, p66_4, p66_5, p66_6, p66_7, p66_8, p66_9, p66_10, p66_11, p66_12, p66_13, p66_14, p66_15, p66_16, p66_17, p66_18, p66_19, p66_20, p66_21, p66_22, p66_23, p66_24, p66_25, p66_26, p66_27⟩ | ⟨lim_66, oA_66, kO_66, cA_66, kC_66, t0_66, t1_66, t2_66, t3_66, g0_66, g1_66, d0_66, d1_66, u2_66, zl_66, rfl, N66q, K66, p66_0, p66_1, p66_2, p66_3, p66_4, p66_5, p66_6, p66_7, p66_8, p66_9, p66_10, p66_11, p66_12, p66_13, p66_14, p66_15, p66_16, p66_17, p66_18, p66_19, p66_20, p66_21, p66_22, p66_23, p66_24, p66_25, p66_26, p66_27⟩ | ⟨rfl, N66q, K66, p66_0, p66_1, p66_2, p66_3, p66_4, p66_5, p66_6, p66_7, p66_8, p66_9, p66_10, p66_11, p66_12, p66_13, p66_14, p66_15, p66_16⟩
    · have pl66 := (allS (P := fun x => ∃ cell : Cell, T63.heap[x]? = some cell ∧ cell.vm.isStatics = false) (own_ns p63_0) (allS (P := fun x => ∃ cell : Cell, T63.heap[x]? = some cell ∧ cell.vm.isStatics = false) (own_ns p63_5) (allS (P := fun x => ∃ cell : Cell, T63.heap[x]? = some cell ∧ cell.vm.isStatics = false) (own_ns p63_8) all0)))
      have g_lim_66 : n0 ≤ lim_66 := Nat.le_trans (Nat.le_trans (Nat.le_trans (Nat.le_trans (Nat.le_trans (Nat.le_trans (Nat.le_trans (Nat.le_trans (Nat.le_trans (Nat.le_trans (Nat.le_trans (Nat.le_trans (Nat.le_trans (Nat.le_trans Z0 E1.1) (Keep.of_wr W4).1) (Keep.of_wr W7).1) (Keep.of_wr W10).1) (Keep.of_wr W13).1) (Keep.of_wr W16).1) (Keep.of_wr W19).1) (Keep.of_wr W22).1) (Keep.of_wr W25).1) E27.1) K28.1) K60.1) K63.1) p66_0
      have sz_lim_66 : h0.size ≤ lim_66 := Nat.le_trans ((((((((((((((Keep.refl h0 []).ext E1).wr W4 (Or.inr sz_b1)).wr W7 (Or.inr sz_b1)).wr W10 (Or.inr sz_b1)).wr W13 (Or.inr sz_b1)).wr W16 (Or.inr sz_b1)).wr W19 (Or.inr sz_b1)).wr W22 (Or.inr sz_b1)).wr W25 (Or.inr sz_b1)).ext E27).trans K28 (allS (Or.inr sz_b27) all0)).trans K60 (allS (Or.inr sz_b27) (allS (Or.inr sz_bA_28) (allS (Or.inr sz_sA_28) all0)))).trans K63 (allS (Or.inr sz_b27) (allS (Or.inr sz_bA_28) (allS (Or.inr sz_sA_28) all0)))).1 p66_0
      have g_oA_66 : n0 ≤ oA_66 := Nat.le_trans (Nat.le_trans (Nat.le_trans (Nat.le_trans (Nat.le_trans (Nat.le_trans (Nat.le_trans (Nat.le_trans (Nat.le_trans (Nat.le_trans (Nat.le_trans (Nat.le_trans (Nat.le_trans (Nat.le_trans Z0 E1.1) (Keep.of_wr W4).1) (Keep.of_wr W7).1) (Keep.of_wr W10).1) (Keep.of_wr W13).1) (Keep.of_wr W16).1) (Keep.of_wr W19).1) (Keep.of_wr W22).1) (Keep.of_wr W25).1) E27.1) K28.1) K60.1) K63.1) p66_1
      have sz_oA_66 : h0.size ≤ oA_66 := Nat.le_trans ((((((((((((((Keep.refl h0 []).ext E1).wr W4 (Or.inr sz_b1)).wr W7 (Or.inr sz_b1)).wr W10 (Or.inr sz_b1)).wr W13 (Or.inr sz_b1)).wr W16 (Or.inr sz_b1)).wr W19 (Or.inr sz_b1)).wr W22 (Or.inr sz_b1)).wr W25 (Or.inr sz_b1)).ext E27).trans K28 (allS (Or.inr sz_b27) all0)).trans K60 (allS (Or.inr sz_b27) (allS (Or.inr sz_bA_28) (allS (Or.inr sz_sA_28) all0)))).trans K63 (allS (Or.inr sz_b27) (allS (Or.inr sz_bA_28) (allS (Or.inr sz_sA_28) all0)))).1 p66_1
      have g_cA_66 : n0 ≤ cA_66 := Nat.le_trans (Nat.le_trans (Nat.le_trans (Nat.le_trans (Nat.le_trans (Nat.le_trans (Nat.le_trans (Nat.le_trans (Nat.le_trans (Nat.le_trans (Nat.le_trans (Nat.le_trans (Nat.le_trans (Nat.le_trans Z0 E1.1) (Keep.of_wr W4).1) (Keep.of_wr W7).1) (Keep.of_wr W10).1) (Keep.of_wr W13).1) (Keep.of_wr W16).1) (Keep.of_wr W19).1) (Keep.of_wr W22).1) (Keep.of_wr W25).1) E27.1) K28.1) K60.1) K63.1) p66_2
      have sz_cA_66 : h0.size ≤ cA_66 := Nat.le_trans ((((((((((((((Keep.refl h0 []).ext E1).wr W4 (Or.inr sz_b1)).wr W7 (Or.inr sz_b1)).wr W10 (Or.inr sz_b1)).wr W13 (Or.inr sz_b1)).wr W16 (Or.inr sz_b1)).wr W19 (Or.inr sz_b1)).wr W22 (Or.inr sz_b1)).wr W25 (Or.inr sz_b1)).ext E27).trans K28 (allS (Or.inr sz_b27) all0)).trans K60 (allS (Or.inr sz_b27) (allS (Or.inr sz_bA_28) (allS (Or.inr sz_sA_28) all0)))).trans K63 (allS (Or.inr sz_b27) (allS (Or.inr sz_bA_28) (allS (Or.inr sz_sA_28) all0)))).1 p66_2
      have N66 := Fr.app N63 N66q
      have f70 := (f67.keep K66 (ninS (Nat.ne_of_lt (Nat.lt_of_lt_of_le f26.lt (Nat.le_of_eq g27.symm))) (ninS (Nat.ne_of_lt (Nat.lt_of_lt_of_le f29.lt p28_0)) (ninS (Nat.ne_of_lt (Nat.lt_of_lt_of_le f29.lt p28_1)) nin0))))
      have f71 := (f68.keep K66)
      refine own_by (fun t q => oIl X66 hx hby at_260 rfl (oIl X66 hx hby at_262 rfl (XS.iadd X66.here hx rfl (hb hby at_264) rfl (XS.istore X66.here hx rfl (hb hby at_265) rfl (l' := #[iv p0, iv p1, .val (.long q2), .second, iv 4, iv mN, iv mB, rv b1, iv l0, iv l1, iv l2, iv l3, iv f0, iv f1, iv f2, iv f3, rv b27, iv ((((0 : Int32) + l0) + l1) + l2), .unset, .unset, .unset]) rfl (oIl X66 hx hby at_267 rfl (oIc X66 hx hby at_269 q)))))) ?_
      refine own_by (fun t q => oJn X66 hx hby at_270 (tlt (by decide : (3 : Int32) < (4 : Int32))).2.2.2 (oAl X66 hx hby at_273 rfl rfl (oAl X66 hx hby at_275 rfl rfl (oIl X66 hx hby at_277 rfl (oIl X66 hx hby at_279 rfl (oIl X66 hx hby at_281 rfl q)))))) ?_
      refine own_by (fun t q => XS.iadd X66.here hx rfl (hb hby at_283) rfl q) ?_
      refine own_cW 0 (rm5_h2 l Z a0 hw [] b27 b1 f3 l3 zl_66 lim_66 bA_28 sA_28 kS_28 u2_66 t0_66 t1_66 t2_66 t3_66 mN mB oA_66 kO_66 cA_66 kC_66 g0_66 g1_66 d0_66 d1_66 T66.heap n0 (Nat.le_trans (Nat.le_trans (Nat.le_trans (Nat.le_trans (Nat.le_trans (Nat.le_trans (Nat.le_trans (Nat.le_trans (Nat.le_trans (Nat.le_trans (Nat.le_trans (Nat.le_trans (Nat.le_trans (Nat.le_trans Z0 E1.1) (Keep.of_wr W4).1) (Keep.of_wr W7).1) (Keep.of_wr W10).1) (Keep.of_wr W13).1) (Keep.of_wr W16).1) (Keep.of_wr W19).1) (Keep.of_wr W22).1) (Keep.of_wr W25).1) E27.1) K28.1) K60.1) K63.1) K66.1) p66_6 p66_7 p66_8 p66_9 p66_10 p66_11 p66_12 p66_13 p66_14 p66_15 p66_18 p66_19 p66_16 p66_17 p66_20 p66_21 p66_22 p66_23 p66_24 p66_25 f70 f71 h_f3 h_l3 p66_27 g_oA_66 (Nat.ne_of_lt (Nat.lt_of_lt_of_le p63_0.lt p66_1)) (Nat.ne_of_lt (Nat.lt_of_lt_of_le p63_5.lt p66_1)) (Nat.ne_of_lt (Nat.lt_of_lt_of_le p63_8.lt p66_1)) (Ne.symm p66_3) g_cA_66 (Nat.ne_of_lt (Nat.lt_of_lt_of_le p63_0.lt p66_2)) (Nat.ne_of_lt (Nat.lt_of_lt_of_le p63_5.lt p66_2)) (Nat.ne_of_lt (Nat.lt_of_lt_of_le p63_8.lt p66_2)) p66_3 (Ne.symm (Nat.ne_of_lt (Nat.lt_of_lt_of_le A27.lt p28_1))) (Ne.symm (Nat.ne_of_lt (Nat.lt_of_lt_of_le A27.lt p28_0))) g_b27 (Ne.symm (Nat.ne_of_lt (Nat.lt_of_lt_of_le p63_0.lt p66_1))) (Ne.symm (Nat.ne_of_lt (Nat.lt_of_lt_of_le p63_0.lt p66_2))) g_bA_28 (Nat.ne_of_lt (Nat.lt_of_lt_of_le A27.lt p28_0)) (Ne.symm p28_3) g_sA_28 (Nat.ne_of_lt (Nat.lt_of_lt_of_le A27.lt p28_1)) p28_3 (Ne.symm (Nat.ne_of_lt (Nat.lt_of_lt_of_le p63_5.lt p66_1))) (Ne.symm (Nat.ne_of_lt (Nat.lt_of_lt_of_le p63_8.lt p66_1))) (Ne.symm (Nat.ne_of_lt (Nat.lt_of_lt_of_le p63_5.lt p66_2))) (Ne.symm (Nat.ne_of_lt (Nat.lt_of_lt_of_le p63_8.lt p66_2))) (Nat.ne_of_lt (Nat.lt_of_lt_of_le f68.lt p66_2)) (Nat.ne_of_lt (Nat.lt_of_lt_of_le f68.lt p66_1)) (Nat.ne_of_lt (Nat.lt_of_lt_of_le f29.lt p28_1)) (Nat.ne_of_lt (Nat.lt_of_lt_of_le f29.lt p28_0)) (Nat.ne_of_lt (Nat.lt_of_lt_of_le f26.lt (Nat.le_of_eq g27.symm)))) X66 hx hZ hown hw 40 41 43 42 4 44 rfl rfl rfl rfl rfl rfl b27 p66_6 [(.ref b1), (.int f3), (.int (f3 + l3))] [] hby at_284 hml (lenOf pd_11 rfl) rfl rfl (Nat.le_refl _) (by decide) fun _ T69 L69 X69 hQ69 => ?_
      have f72 := (p63_13.keep K66 (ninS (Ne.symm (Nat.ne_of_lt (Nat.lt_of_lt_of_le A27.lt p28_2))) (ninS p28_4 (ninS p28_5 nin0))))
      obtain ⟨lm_69, cn_69, us_69, rfl, N69q, K69, p69_0, p69_1, p69_2, p69_3⟩ := hQ69
      have pl69 := (allS (P := fun x => ∃ cell : Cell, T66.heap[x]? = some cell ∧ cell.vm.isStatics = false) (own_ns p66_6) (allS (P := fun x => ∃ cell : Cell, T66.heap[x]? = some cell ∧ cell.vm.isStatics = false) (own_ns p66_12) (allS (P := fun x => ∃ cell : Cell, T66.heap[x]? = some cell ∧ cell.vm.isStatics = false) (own_ns p66_15) (allS (P := fun x => ∃ cell : Cell, T66.heap[x]? = some cell ∧ cell.vm.isStatics = false) (own_ns p66_22) (allS (P := fun x => ∃ cell : Cell, T66.heap[x]? = some cell ∧ cell.vm.isStatics = false) (own_ns p66_25) all0)))))
      have N69 := Fr.app N66 N69q
      refine own_by (fun t q => oIl X69 hx hby at_287 rfl (oIl X69 hx hby at_289 rfl (XS.iadd X69.here hx rfl (hb hby at_291) rfl (XS.istore X69.here hx rfl (hb hby at_292) rfl (l' := #[iv p0, iv p1, .val (.long q2), .second, iv 4, iv mN, iv mB, rv b1, iv l0, iv l1, iv l2, iv l3, iv f0, iv f1, iv f2, iv f3, rv b27, iv (((((0 : Int32) + l0) + l1) + l2) + l3), .unset, .unset, .unset]) rfl (oIl X69 hx hby at_294 rfl (oIc X69 hx hby at_296 q)))))) ?_
      refine own_by (fun t q => oJn X69 hx hby at_297 (flt (by decide : ¬ ((4 : Int32) < (3 : Int32)))).1 (oIl X69 hx hby at_300 rfl (oIc X69 hx hby at_302 (XS.isub X69.here hx rfl (hb hby at_303) rfl (oIl X69 hx hby at_304 rfl (oJy X69 hx hby 306 316 at_306 (flt (show ¬ ((3 : Int32) < mN) from (by rw [Int32.lt_iff_toInt_lt]; have w0 := own_lits; have v0 := own_eqm p66_26; omega))).2.1 (by decide) (by decide) q)))))) ?_
      refine own_by (fun t q => oIc X69 hx hby at_316 (oGo X69 hx hby 317 321 at_317 (by decide) (by decide) (XS.istore X69.here hx rfl (hb hby at_321) rfl (l' := #[iv p0, iv p1, .val (.long q2), .second, iv 4, iv mN, iv mB, rv b1, iv l0, iv l1, iv l2, iv l3, iv f0, iv f1, iv f2, iv f3, rv b27, iv (((((0 : Int32) + l0) + l1) + l2) + l3), iv 1, .unset, .unset]) rfl q))) ?_
      obtain ⟨s73, o73, ja73, jb73, jc73, v73, L73, rfl, ⟨hv73, jN73, jh73⟩, jF73⟩ := sgT1 l Z a0 hw p0 p1 q2 (4 : Int32) mN mB b1 l0 l1 l2 l3 f0 f1 f2 f3 b27 (((((0 : Int32) + l0) + l1) + l2) + l3) lm_69 cn_69 us_69 T69.heap n0 (Nat.le_trans (Nat.le_trans (Nat.le_trans (Nat.le_trans (Nat.le_trans (Nat.le_trans (Nat.le_trans (Nat.le_trans (Nat.le_trans (Nat.le_trans (Nat.le_trans (Nat.le_trans (Nat.le_trans (Nat.le_trans (Nat.le_trans Z0 E1.1) (Keep.of_wr W4).1) (Keep.of_wr W7).1) (Keep.of_wr W10).1) (Keep.of_wr W13).1) (Keep.of_wr W16).1) (Keep.of_wr W19).1) (Keep.of_wr W22).1) (Keep.of_wr W25).1) E27.1) K28.1) K60.1) K63.1) K66.1) K69.1) p69_0 p69_1 p69_2 p69_3 g_b27 (own_more X69 (by decide) (by decide)) hx hZ hby hml hown Bd.returns Bd.notSynchronized rfl N69 
      exact ⟨s73, _, ja73, jb73, jc73, v73, L73, rfl, ⟨hv73.trans rfl, jN73, trivial⟩, jF73⟩
    · have pl66 := (allS (P := fun x => ∃ cell : Cell, T63.heap[x]? = some cell ∧ cell.vm.isStatics = false) (own_ns p63_0) (allS (P := fun x => ∃ cell : Cell, T63.heap[x]? = some cell ∧ cell.vm.isStatics = false) (own_ns p63_5) (allS (P := fun x => ∃ cell : Cell, T63.heap[x]? = some cell ∧ cell.vm.isStatics = false) (own_ns p63_8) all0)))
      have g_lim_66 : n0 ≤ lim_66 := Nat.le_trans (Nat.le_trans (Nat.le_trans (Nat.le_trans (Nat.le_trans (Nat.le_trans (Nat.le_trans (Nat.le_trans (Nat.le_trans (Nat.le_trans (Nat.le_trans (Nat.le_trans (Nat.le_trans (Nat.le_trans Z0 E1.1) (Keep.of_wr W4).1) (Keep.of_wr W7).1) (Keep.of_wr W10).1) (Keep.of_wr W13).1) (Keep.of_wr W16).1) (Keep.of_wr W19).1) (Keep.of_wr W22).1) (Keep.of_wr W25).1) E27.1) K28.1) K60.1) K63.1) p66_0
      have sz_lim_66 : h0.size ≤ lim_66 := Nat.le_trans ((((((((((((((Keep.refl h0 []).ext E1).wr W4 (Or.inr sz_b1)).wr W7 (Or.inr sz_b1)).wr W10 (Or.inr sz_b1)).wr W13 (Or.inr sz_b1)).wr W16 (Or.inr sz_b1)).wr W19 (Or.inr sz_b1)).wr W22 (Or.inr sz_b1)).wr W25 (Or.inr sz_b1)).ext E27).trans K28 (allS (Or.inr sz_b27) all0)).trans K60 (allS (Or.inr sz_b27) (allS (Or.inr sz_bA_28) (allS (Or.inr sz_sA_28) all0)))).trans K63 (allS (Or.inr sz_b27) (allS (Or.inr sz_bA_28) (allS (Or.inr sz_sA_28) all0)))).1 p66_0
      have g_oA_66 : n0 ≤ oA_66 := Nat.le_trans (Nat.le_trans (Nat.le_trans (Nat.le_trans (Nat.le_trans (Nat.le_trans (Nat.le_trans (Nat.le_trans (Nat.le_trans (Nat.le_trans (Nat.le_trans (Nat.le_trans (Nat.le_trans (Nat.le_trans Z0 E1.1) (Keep.of_wr W4).1) (Keep.of_wr W7).1) (Keep.of_wr W10).1) (Keep.of_wr W13).1) (Keep.of_wr W16).1) (Keep.of_wr W19).1) (Keep.of_wr W22).1) (Keep.of_wr W25).1) E27.1) K28.1) K60.1) K63.1) p66_1
      have sz_oA_66 : h0.size ≤ oA_66 := Nat.le_trans ((((((((((((((Keep.refl h0 []).ext E1).wr W4 (Or.inr sz_b1)).wr W7 (Or.inr sz_b1)).wr W10 (Or.inr sz_b1)).wr W13 (Or.inr sz_b1)).wr W16 (Or.inr sz_b1)).wr W19 (Or.inr sz_b1)).wr W22 (Or.inr sz_b1)).wr W25 (Or.inr sz_b1)).ext E27).trans K28 (allS (Or.inr sz_b27) all0)).trans K60 (allS (Or.inr sz_b27) (allS (Or.inr sz_bA_28) (allS (Or.inr sz_sA_28) all0)))).trans K63 (allS (Or.inr sz_b27) (allS (Or.inr sz_bA_28) (allS (Or.inr sz_sA_28) all0)))).1 p66_1
      have g_cA_66 : n0 ≤ cA_66 := Nat.le_trans (Nat.le_trans (Nat.le_trans (Nat.le_trans (Nat.le_trans (Nat.le_trans (Nat.le_trans (Nat.le_trans (Nat.le_trans (Nat.le_trans (Nat.le_trans (Nat.le_trans (Nat.le_trans (Nat.le_trans Z0 E1.1) (Keep.of_wr W4).1) (Keep.of_wr W7).1) (Keep.of_wr W10).1) (Keep.of_wr W13).1) (Keep.of_wr W16).1) (Keep.of_wr W19).1) (Keep.of_wr W22).1) (Keep.of_wr W25).1) E27.1) K28.1) K60.1) K63.1) p66_2
      have sz_cA_66 : h0.size ≤ cA_66 := Nat.le_trans ((((((((((((((Keep.refl h0 []).ext E1).wr W4 (Or.inr sz_b1)).wr W7 (Or.inr sz_b1)).wr W10 (Or.inr sz_b1)).wr W13 (Or.inr sz_b1)).wr W16 (Or.inr sz_b1)).wr W19 (Or.inr sz_b1)).wr W22 (Or.inr sz_b1)).wr W25 (Or.inr sz_b1)).ext E27).trans K28 (allS (Or.inr sz_b27) all0)).trans K60 (allS (Or.inr sz_b27) (allS (Or.inr sz_bA_28) (allS (Or.inr sz_sA_28) all0)))).trans K63 (allS (Or.inr sz_b27) (allS (Or.inr sz_bA_28) (allS (Or.inr sz_sA_28) all0)))).1 p66_2
      have N66 := Fr.app N63 N66q
      have f75 := (f67.keep K66 (ninS (Nat.ne_of_lt (Nat.lt_of_lt_of_le f26.lt (Nat.le_of_eq g27.symm))) (ninS (Nat.ne_of_lt (Nat.lt_of_lt_of_le f29.lt p28_0)) (ninS (Nat.ne_of_lt (Nat.lt_of_lt_of_le f29.lt p28_1)) nin0))))
      have f76 := (f68.keep K66)
      refine own_by (fun t q => oIl X66 hx hby at_260 rfl (oIl X66 hx hby at_262 rfl (XS.iadd X66.here hx rfl (hb hby at_264) rfl (XS.istore X66.here hx rfl (hb hby at_265) rfl (l' := #[iv p0, iv p1, .val (.long q2), .second, iv 4, iv mN, iv mB, rv b1, iv l0, iv l1, iv l2, iv l3, iv f0, iv f1, iv f2, iv f3, rv b27, iv ((((0 : Int32) + l0) + l1) + l2), .unset, .unset, .unset]) rfl (oIl X66 hx hby at_267 rfl (oIc X66 hx hby at_269 q)))))) ?_
      refine own_by (fun t q => oJn X66 hx hby at_270 (tlt (by decide : (3 : Int32) < (4 : Int32))).2.2.2 (oAl X66 hx hby at_273 rfl rfl (oAl X66 hx hby at_275 rfl rfl (oIl X66 hx hby at_277 rfl (oIl X66 hx hby at_279 rfl (oIl X66 hx hby at_281 rfl q)))))) ?_
      refine own_by (fun t q => XS.iadd X66.here hx rfl (hb hby at_283) rfl q) ?_
      refine own_cW 0 (rm5_h1 l Z a0 hw [] b27 b1 f3 l3 zl_66 lim_66 bA_28 sA_28 kS_28 u2_66 t0_66 t1_66 t2_66 t3_66 mN mB oA_66 kO_66 cA_66 kC_66 g0_66 g1_66 d0_66 d1_66 T66.heap n0 (Nat.le_trans (Nat.le_trans (Nat.le_trans (Nat.le_trans (Nat.le_trans (Nat.le_trans (Nat.le_trans (Nat.le_trans (Nat.le_trans (Nat.le_trans (Nat.le_trans (Nat.le_trans (Nat.le_trans (Nat.le_trans Z0 E1.1) (Keep.of_wr W4).1) (Keep.of_wr W7).1) (Keep.of_wr W10).1) (Keep.of_wr W13).1) (Keep.of_wr W16).1) (Keep.of_wr W19).1) (Keep.of_wr W22).1) (Keep.of_wr W25).1) E27.1) K28.1) K60.1) K63.1) K66.1) p66_6 p66_7 p66_8 p66_9 p66_10 p66_11 p66_12 p66_13 p66_14 p66_15 p66_18 p66_19 p66_16 p66_17 p66_20 p66_21 p66_22 p66_23 p66_24 p66_25 f75 f76 h_f3 h_l3 p66_27 g_bA_28 (Nat.ne_of_lt (Nat.lt_of_lt_of_le A27.lt p28_0)) g_b27 (Ne.symm p28_3) (Ne.symm (Nat.ne_of_lt (Nat.lt_of_lt_of_le A27.lt p28_1))) g_sA_28 (Nat.ne_of_lt (Nat.lt_of_lt_of_le A27.lt p28_1))) X66 hx hZ hown hw 40 41 43 42 4 44 rfl rfl rfl rfl rfl rfl b27 p66_6 [(.ref b1), (.int f3), (.int (f3 + l3))] [] hby at_284 hml (lenOf pd_11 rfl) rfl rfl (Nat.le_refl _) (by decide) fun _ T74 L74 X74 hQ74 => ?_
      have f77 := (p63_13.keep K66 (ninS (Ne.symm (Nat.ne_of_lt (Nat.lt_of_lt_of_le A27.lt p28_2))) (ninS p28_4 (ninS p28_5 nin0))))
      obtain ⟨lm_74, cn_74, us_74, rfl, N74q, K74, p74_0, p74_1, p74_2, p74_3⟩ := hQ74
      have pl74 := (allS (P := fun x => ∃ cell : Cell, T66.heap[x]? = some cell ∧ cell.vm.isStatics = false) (own_ns p66_6) (allS (P := fun x => ∃ cell : Cell, T66.heap[x]? = some cell ∧ cell.vm.isStatics = false) (own_ns p66_12) (allS (P := fun x => ∃ cell : Cell, T66.heap[x]? = some cell ∧ cell.vm.isStatics = false) (own_ns p66_15) (allS (P := fun x => ∃ cell : Cell, T66.heap[x]? = some cell ∧ cell.vm.isStatics = false) (own_ns p66_22) (allS (P := fun x => ∃ cell : Cell, T66.heap[x]? = some cell ∧ cell.vm.isStatics = false) (own_ns p66_25) all0)))))
      have N74 := Fr.app N66 N74q
      refine own_by (fun t q => oIl X74 hx hby at_287 rfl (oIl X74 hx hby at_289 rfl (XS.iadd X74.here hx rfl (hb hby at_291) rfl (XS.istore X74.here hx rfl (hb hby at_292) rfl (l' := #[iv p0, iv p1, .val (.long q2), .second, iv 4, iv mN, iv mB, rv b1, iv l0, iv l1, iv l2, iv l3, iv f0, iv f1, iv f2, iv f3, rv b27, iv (((((0 : Int32) + l0) + l1) + l2) + l3), .unset, .unset, .unset]) rfl (oIl X74 hx hby at_294 rfl (oIc X74 hx hby at_296 q)))))) ?_
      refine own_by (fun t q => oJn X74 hx hby at_297 (flt (by decide : ¬ ((4 : Int32) < (3 : Int32)))).1 (oIl X74 hx hby at_300 rfl (oIc X74 hx hby at_302 (XS.isub X74.here hx rfl (hb hby at_303) rfl (oIl X74 hx hby at_304 rfl (oJy X74 hx hby 306 316 at_306 (flt (show ¬ ((3 : Int32) < mN) from (by rw [Int32.lt_iff_toInt_lt]; have w0 := own_lits; have v0 := own_eqm p66_26; omega))).2.1 (by decide) (by decide) q)))))) ?_
      refine own_by (fun t q => oIc X74 hx hby at_316 (oGo X74 hx hby 317 321 at_317 (by decide) (by decide) (XS.istore X74.here hx rfl (hb hby at_321) rfl (l' := #[iv p0, iv p1, .val (.long q2), .second, iv 4, iv mN, iv mB, rv b1, iv l0, iv l1, iv l2, iv l3, iv f0, iv f1, iv f2, iv f3, rv b27, iv (((((0 : Int32) + l0) + l1) + l2) + l3), iv 1, .unset, .unset]) rfl q))) ?_
      obtain ⟨s78, o78, ja78, jb78, jc78, v78, L78, rfl, ⟨hv78, jN78, jh78⟩, jF78⟩ := sgT1 l Z a0 hw p0 p1 q2 (4 : Int32) mN mB b1 l0 l1 l2 l3 f0 f1 f2 f3 b27 (((((0 : Int32) + l0) + l1) + l2) + l3) lm_74 cn_74 us_74 T74.heap n0 (Nat.le_trans (Nat.le_trans (Nat.le_trans (Nat.le_trans (Nat.le_trans (Nat.le_trans (Nat.le_trans (Nat.le_trans (Nat.le_trans (Nat.le_trans (Nat.le_trans (Nat.le_trans (Nat.le_trans (Nat.le_trans (Nat.le_trans Z0 E1.1) (Keep.of_wr W4).1) (Keep.of_wr W7).1) (Keep.of_wr W10).1) (Keep.of_wr W13).1) (Keep.of_wr W16).1) (Keep.of_wr W19).1) (Keep.of_wr W22).1) (Keep.of_wr W25).1) E27.1) K28.1) K60.1) K63.1) K66.1) K74.1) p74_0 p74_1 p74_2 p74_3 g_b27 (own_more X74 (by decide) (by decide)) hx hZ hby hml hown Bd.returns Bd.notSynchronized rfl N74 
      exact ⟨s78, _, ja78, jb78, jc78, v78, L78, rfl, ⟨hv78.trans rfl, jN78, trivial⟩, jF78⟩
    · have pl66 := (allS (P := fun x => ∃ cell : Cell, T63.heap[x]? = some cell ∧ cell.vm.isStatics = false) (own_ns p63_0) (allS (P := fun x => ∃ cell : Cell, T63.heap[x]? = some cell ∧ cell.vm.isStatics = false) (own_ns p63_5) (allS (P := fun x => ∃ cell : Cell, T63.heap[x]? = some cell ∧ cell.vm.isStatics = false) (own_ns p63_8) all0)))
      have g_lim_66 : n0 ≤ lim_66 := Nat.le_trans (Nat.le_trans (Nat.le_trans (Nat.le_trans (Nat.le_trans (Nat.le_trans (Nat.le_trans (Nat.le_trans (Nat.le_trans (Nat.le_trans (Nat.le_trans (Nat.le_trans (Nat.le_trans (Nat.le_trans Z0 E1.1) (Keep.of_wr W4).1) (Keep.of_wr W7).1) (Keep.of_wr W10).1) (Keep.of_wr W13).1) (Keep.of_wr W16).1) (Keep.of_wr W19).1) (Keep.of_wr W22).1) (Keep.of_wr W25).1) E27.1) K28.1) K60.1) K63.1) p66_0
      have sz_lim_66 : h0.size ≤ lim_66 := Nat.le_trans ((((((((((((((Keep.refl h0 []).ext E1).wr W4 (Or.inr sz_b1)).wr W7 (Or.inr sz_b1)).wr W10 (Or.inr sz_b1)).wr W13 (Or.inr sz_b1)).wr W16 (Or.inr sz_b1)).wr W19 (Or.inr sz_b1)).wr W22 (Or.inr sz_b1)).wr W25 (Or.inr sz_b1)).ext E27).trans K28 (allS (Or.inr sz_b27) all0)).trans K60 (allS (Or.inr sz_b27) (allS (Or.inr sz_bA_28) (allS (Or.inr sz_sA_28) all0)))).trans K63 (allS (Or.inr sz_b27) (allS (Or.inr sz_bA_28) (allS (Or.inr sz_sA_28) all0)))).1 p66_0
      have g_oA_66 : n0 ≤ oA_66 := Nat.le_trans (Nat.le_trans (Nat.le_trans (Nat.le_trans (Nat.le_trans (Nat.le_trans (Nat.le_trans (Nat.le_trans (Nat.le_trans (Nat.le_trans (Nat.le_trans (Nat.le_trans (Nat.le_trans (Nat.le_trans Z0 E1.1) (Keep.of_wr W4).1) (Keep.of_wr W7).1) (Keep.of_wr W10).1) (Keep.of_wr W13).1) (Keep.of_wr W16).1) (Keep.of_wr W19).1) (Keep.of_wr W22).1) (Keep.of_wr W25).1) E27.1) K28.1) K60.1) K63.1) p66_1
      have sz_oA_66 : h0.size ≤ oA_66 := Nat.le_trans ((((((((((((((Keep.refl h0 []).ext E1).wr W4 (Or.inr sz_b1)).wr W7 (Or.inr sz_b1)).wr W10 (Or.inr sz_b1)).wr W13 (Or.inr sz_b1)).wr W16 (Or.inr sz_b1)).wr W19 (Or.inr sz_b1)).wr W22 (Or.inr sz_b1)).wr W25 (Or.inr sz_b1)).ext E27).trans K28 (allS (Or.inr sz_b27) all0)).trans K60 (allS (Or.inr sz_b27) (allS (Or.inr sz_bA_28) (allS (Or.inr sz_sA_28) all0)))).trans K63 (allS (Or.inr sz_b27) (allS (Or.inr sz_bA_28) (allS (Or.inr sz_sA_28) all0)))).1 p66_1
      have g_cA_66 : n0 ≤ cA_66 := Nat.le_trans (Nat.le_trans (Nat.le_trans (Nat.le_trans (Nat.le_trans (Nat.le_trans (Nat.le_trans (Nat.le_trans (Nat.le_trans (Nat.le_trans (Nat.le_trans (Nat.le_trans (Nat.le_trans (Nat.le_trans Z0 E1.1) (Keep.of_wr W4).1) (Keep.of_wr W7).1) (Keep.of_wr W10).1) (Keep.of_wr W13).1) (Keep.of_wr W16).1) (Keep.of_wr W19).1) (Keep.of_wr W22).1) (Keep.of_wr W25).1) E27.1) K28.1) K60.1) K63.1) p66_2
      have sz_cA_66 : h0.size ≤ cA_66 := Nat.le_trans ((((((((((((((Keep.refl h0 []).ext E1).wr W4 (Or.inr sz_b1)).wr W7 (Or.inr sz_b1)).wr W10 (Or.inr sz_b1)).wr W13 (Or.inr sz_b1)).wr W16 (Or.inr sz_b1)).wr W19 (Or.inr sz_b1)).wr W22 (Or.inr sz_b1)).wr W25 (Or.inr sz_b1)).ext E27).trans K28 (allS (Or.inr sz_b27) all0)).trans K60 (allS (Or.inr sz_b27) (allS (Or.inr sz_bA_28) (allS (Or.inr sz_sA_28) all0)))).trans K63 (allS (Or.inr sz_b27) (allS (Or.inr sz_bA_28) (allS (Or.inr sz_sA_28) all0)))).1 p66_2
      have N66 := Fr.app N63 N66q
      have f80 := (f67.keep K66 (ninS (Nat.ne_of_lt (Nat.lt_of_lt_of_le f26.lt (Nat.le_of_eq g27.symm))) (ninS (Nat.ne_of_lt (Nat.lt_of_lt_of_le f29.lt p28_0)) (ninS (Nat.ne_of_lt (Nat.lt_of_lt_of_le f29.lt p28_1)) nin0))))
      have f81 := (f68.keep K66)
      refine own_by (fun t q => oIl X66 hx hby at_260 rfl (oIl X66 hx hby at_262 rfl (XS.iadd X66.here hx rfl (hb hby at_264) rfl (XS.istore X66.here hx rfl (hb hby at_265) rfl (l' := #[iv p0, iv p1, .val (.long q2), .second, iv 4, iv mN, iv mB, rv b1, iv l0, iv l1, iv l2, iv l3, iv f0, iv f1, iv f2, iv f3, rv b27, iv ((((0 : Int32) + l0) + l1) + l2), .unset, .unset, .unset]) rfl (oIl X66 hx hby at_267 rfl (oIc X66 hx hby at_269 q)))))) ?_
      refine own_by (fun t q => oJn X66 hx hby at_270 (tlt (by decide : (3 : Int32) < (4 : Int32))).2.2.2 (oAl X66 hx hby at_273 rfl rfl (oAl X66 hx hby at_275 rfl rfl (oIl X66 hx hby at_277 rfl (oIl X66 hx hby at_279 rfl (oIl X66 hx hby at_281 rfl q)))))) ?_
      refine own_by (fun t q => XS.iadd X66.here hx rfl (hb hby at_283) rfl q) ?_
      refine own_cW 0 (rm5_h2 l Z a0 hw [] b27 b1 f3 l3 zl_66 lim_66 bA_28 sA_28 kS_28 u2_66 t0_66 t1_66 t2_66 t3_66 mN mB oA_66 kO_66 cA_66 kC_66 g0_66 g1_66 d0_66 d1_66 T66.heap n0 (Nat.le_trans (Nat.le_trans (Nat.le_trans (Nat.le_trans (Nat.le_trans (Nat.le_trans (Nat.le_trans (Nat.le_trans (Nat.le_trans (Nat.le_trans (Nat.le_trans (Nat.le_trans (Nat.le_trans (Nat.le_trans Z0 E1.1) (Keep.of_wr W4).1) (Keep.of_wr W7).1) (Keep.of_wr W10).1) (Keep.of_wr W13).1) (Keep.of_wr W16).1) (Keep.of_wr W19).1) (Keep.of_wr W22).1) (Keep.of_wr W25).1) E27.1) K28.1) K60.1) K63.1) K66.1) p66_6 p66_7 p66_8 p66_9 p66_10 p66_11 p66_12 p66_13 p66_14 p66_15 p66_18 p66_19 p66_16 p66_17 p66_20 p66_21 p66_22 p66_23 p66_24 p66_25 f80 f81 h_f3 h_l3 p66_27 g_oA_66 (Nat.ne_of_lt (Nat.lt_of_lt_of_le p63_0.lt p66_1)) (Nat.ne_of_lt (Nat.lt_of_lt_of_le p63_5.lt p66_1)) (Nat.ne_of_lt (Nat.lt_of_lt_of_le p63_8.lt p66_1)) (Ne.symm p66_3) g_cA_66 (Nat.ne_of_lt (Nat.lt_of_lt_of_le p63_0.lt p66_2)) (Nat.ne_of_lt (Nat.lt_of_lt_of_le p63_5.lt p66_2)) (Nat.ne_of_lt (Nat.lt_of_lt_of_le p63_8.lt p66_2)) p66_3 (Ne.symm (Nat.ne_of_lt (Nat.lt_of_lt_of_le A27.lt p28_1))) (Ne.symm (Nat.ne_of_lt (Nat.lt_of_lt_of_le A27.lt p28_0))) g_b27 (Ne.symm (Nat.ne_of_lt (Nat.lt_of_lt_of_le p63_0.lt p66_1))) (Ne.symm (Nat.ne_of_lt (Nat.lt_of_lt_of_le p63_0.lt p66_2))) g_bA_28 (Nat.ne_of_lt (Nat.lt_of_lt_of_le A27.lt p28_0)) (Ne.symm p28_3) g_sA_28 (Nat.ne_of_lt (Nat.lt_of_lt_of_le A27.lt p28_1)) p28_3 (Ne.symm (Nat.ne_of_lt (Nat.lt_of_lt_of_le p63_5.lt p66_1))) (Ne.symm (Nat.ne_of_lt (Nat.lt_of_lt_of_le p63_8.lt p66_1))) (Ne.symm (Nat.ne_of_lt (Nat.lt_of_lt_of_le p63_5.lt p66_2))) (Ne.symm (Nat.ne_of_lt (Nat.lt_of_lt_of_le p63_8.lt p66_2))) (Nat.ne_of_lt (Nat.lt_of_lt_of_le f68.lt p66_2)) (Nat.ne_of_lt (Nat.lt_of_lt_of_le f68.lt p66_1)) (Nat.ne_of_lt (Nat.lt_of_lt_of_le f29.lt p28_1)) (Nat.ne_of_lt (Nat.lt_of_lt_of_le f29.lt p28_0)) (Nat.ne_of_lt (Nat.lt_of_lt_of_le f26.lt (Nat.le_of_eq g27.symm)))) X66 hx hZ hown hw 40 41 43 42 4 44 rfl rfl rfl rfl rfl rfl b27 p66_6 [(.ref b1), (.int f3), (.int (f3 + l3))] [] hby at_284 hml (lenOf pd_11 rfl) rfl rfl (Nat.le_refl _) (by decide) fun _ T79 L79 X79 hQ79 => ?_
      have f82 := (p63_13.keep K66 (ninS (Ne.symm (Nat.ne_of_lt (Nat.lt_of_lt_of_le A27.lt p28_2))) (ninS p28_4 (ninS p28_5 nin0))))
      obtain ⟨lm_79, cn_79, us_79, rfl, N79q, K79, p79_0, p79_1, p79_2, p79_3⟩ := hQ79
      have pl79 := (allS (P := fun x => ∃ cell : Cell, T66.heap[x]? = some cell ∧ cell.vm.isStatics = false) (own_ns p66_6) (allS (P := fun x => ∃ cell : Cell, T66.heap[x]? = some cell ∧ cell.vm.isStatics = false) (own_ns p66_12) (allS (P := fun x => ∃ cell : Cell, T66.heap[x]? = some cell ∧ cell.vm.isStatics = false) (own_ns p66_15) (allS (P := fun x => ∃ cell : Cell, T66.heap[x]? = some cell ∧ cell.vm.isStatics = false) (own_ns p66_22) (allS (P := fun x => ∃ cell : Cell, T66.heap[x]? = some cell ∧ cell.vm.isStatics = false) (own_ns p66_25) all0)))))
      have N79 := Fr.app N66 N79q
      refine own_by (fun t q => oIl X79 hx hby at_287 rfl (oIl X79 hx hby at_289 rfl (XS.iadd X79.here hx rfl (hb hby at_291) rfl (XS.istore X79.here hx rfl (hb hby at_292) rfl (l' := #[iv p0, iv p1, .val (.long q2), .second, iv 4, iv mN, iv mB, rv b1, iv l0, iv l1, iv l2, iv l3, iv f0, iv f1, iv f2, iv f3, rv b27, iv (((((0 : Int32) + l0) + l1) + l2) + l3), .unset, .unset, .unset]) rfl (oIl X79 hx hby at_294 rfl (oIc X79 hx hby at_296 q)))))) ?_
      refine own_by (fun t q => oJn X79 hx hby at_297 (flt (by decide : ¬ ((4 : Int32) < (3 : Int32)))).1 (oIl X79 hx hby at_300 rfl (oIc X79 hx hby at_302 (XS.isub X79.here hx rfl (hb hby at_303) rfl (oIl X79 hx hby at_304 rfl q))))) ?_
      by_cases hc306_83 : (3 : Int32) < mN
      · refine own_by (fun t q => oJn X79 hx hby at_306 (tlt hc306_83).2.1 (oIl X79 hx hby at_309 rfl (oIl X79 hx hby at_311 rfl (oJn X79 hx hby at_313 (tlt (by rw [Int32.lt_iff_toInt_lt]; have w0 := own_lits; have w1a := c_iadd (0 : Int32) l0; have w1b := rng32 ((0 : Int32) + l0); have w2a := c_iadd ((0 : Int32) + l0) l1; have w2b := rng32 (((0 : Int32) + l0) + l1); have w3a := c_iadd (((0 : Int32) + l0) + l1) l2; have w3b := rng32 ((((0 : Int32) + l0) + l1) + l2); have w4a := c_iadd ((((0 : Int32) + l0) + l1) + l2) l3; have w4b := rng32 (((((0 : Int32) + l0) + l1) + l2) + l3); have v0 := own_ltm p66_26; have v1 := own_ltm hc306_83; omega)).2.2.2 (oIc X79 hx hby at_316 (oGo X79 hx hby 317 321 at_317 (by decide) (by decide) q)))))) ?_
        refine own_by (fun t q => XS.istore X79.here hx rfl (hb hby at_321) rfl (l' := #[iv p0, iv p1, .val (.long q2), .second, iv 4, iv mN, iv mB, rv b1, iv l0, iv l1, iv l2, iv l3, iv f0, iv f1, iv f2, iv f3, rv b27, iv (((((0 : Int32) + l0) + l1) + l2) + l3), iv 1, .unset, .unset]) rfl q) ?_
        obtain ⟨s84, o84, ja84, jb84, jc84, v84, L84, rfl, ⟨hv84, jN84, jh84⟩, jF84⟩ := sgT1 l Z a0 hw p0 p1 q2 (4 : Int32) mN mB b1 l0 l1 l2 l3 f0 f1 f2 f3 b27 (((((0 : Int32) + l0) + l1) + l2) + l3) lm_79 cn_79 us_79 T79.heap n0 (Nat.le_trans (Nat.le_trans (Nat.le_trans (Nat.le_trans (Nat.le_trans (Nat.le_trans (Nat.le_trans (Nat.le_trans (Nat.le_trans (Nat.le_trans (Nat.le_trans (Nat.le_trans (Nat.le_trans (Nat.le_trans (Nat.le_trans Z0 E1.1) (Keep.of_wr W4).1) (Keep.of_wr W7).1) (Keep.of_wr W10).1) (Keep.of_wr W13).1) (Keep.of_wr W16).1) (Keep.of_wr W19).1) (Keep.of_wr W22).1) (Keep.of_wr W25).1) E27.1) K28.1) K60.1) K63.1) K66.1) K79.1) p79_0 p79_1 p79_2 p79_3 g_b27 (own_more X79 (by decide) (by decide)) hx hZ hby hml hown Bd.returns Bd.notSynchronized rfl N79 
        exact ⟨s84, _, ja84, jb84, jc84, v84, L84, rfl, ⟨hv84.trans rfl, jN84, trivial⟩, jF84⟩
      · refine own_by (fun t q => oJy X79 hx hby 306 316 at_306 (flt hc306_83).2.1 (by decide) (by decide) (oIc X79 hx hby at_316 (oGo X79 hx hby 317 321 at_317 (by decide) (by decide) (XS.istore X79.here hx rfl (hb hby at_321) rfl (l' := #[iv p0, iv p1, .val (.long q2), .second, iv 4, iv mN, iv mB, rv b1, iv l0, iv l1, iv l2, iv l3, iv f0, iv f1, iv f2, iv f3, rv b27, iv (((((0 : Int32) + l0) + l1) + l2) + l3), iv 1, .unset, .unset]) rfl q)))) ?_
        obtain ⟨s85, o85, ja85, jb85, jc85, v85, L85, rfl, ⟨hv85, jN85, jh85⟩, jF85⟩ := sgT1 l Z a0 hw p0 p1 q2 (4 : Int32) mN mB b1 l0 l1 l2 l3 f0 f1 f2 f3 b27 (((((0 : Int32) + l0) + l1) + l2) + l3) lm_79 cn_79 us_79 T79.heap n0 (Nat.le_trans (Nat.le_trans (Nat.le_trans (Nat.le_trans (Nat.le_trans (Nat.le_trans (Nat.le_trans (Nat.le_trans (Nat.le_trans (Nat.le_trans (Nat.le_trans (Nat.le_trans (Nat.le_trans (Nat.le_trans (Nat.le_trans Z0 E1.1) (Keep.of_wr W4).1) (Keep.of_wr W7).1) (Keep.of_wr W10).1) (Keep.of_wr W13).1) (Keep.of_wr W16).1) (Keep.of_wr W19).1) (Keep.of_wr W22).1) (Keep.of_wr W25).1) E27.1) K28.1) K60.1) K63.1) K66.1) K79.1) p79_0 p79_1 p79_2 p79_3 g_b27 (own_more X79 (by decide) (by decide)) hx hZ hby hml hown Bd.returns Bd.notSynchronized rfl N79 
        exact ⟨s85, _, ja85, jb85, jc85, v85, L85, rfl, ⟨hv85.trans rfl, jN85, trivial⟩, jF85⟩
    · have pl66 := (allS (P := fun x => ∃ cell : Cell, T63.heap[x]? = some cell ∧ cell.vm.isStatics = false) (own_ns p63_0) (allS (P := fun x => ∃ cell : Cell, T63.heap[x]? = some cell ∧ cell.vm.isStatics = false) (own_ns p63_5) (allS (P := fun x => ∃ cell : Cell, T63.heap[x]? = some cell ∧ cell.vm.isStatics = false) (own_ns p63_8) all0)))
      have g_lim_66 : n0 ≤ lim_66 := Nat.le_trans (Nat.le_trans (Nat.le_trans (Nat.le_trans (Nat.le_trans (Nat.le_trans (Nat.le_trans (Nat.le_trans (Nat.le_trans (Nat.le_trans (Nat.le_trans (Nat.le_trans (Nat.le_trans (Nat.le_trans Z0 E1.1) (Keep.of_wr W4).1) (Keep.of_wr W7).1) (Keep.of_wr W10).1) (Keep.of_wr W13).1) (Keep.of_wr W16).1) (Keep.of_wr W19).1) (Keep.of_wr W22).1) (Keep.of_wr W25).1) E27.1) K28.1) K60.1) K63.1) p66_0
      have sz_lim_66 : h0.size ≤ lim_66 := Nat.le_trans ((((((((((((((Keep.refl h0 []).ext E1).wr W4 (Or.inr sz_b1)).wr W7 (Or.inr sz_b1)).wr W10 (Or.inr sz_b1)).wr W13 (Or.inr sz_b1)).wr W16 (Or.inr sz_b1)).wr W19 (Or.inr sz_b1)).wr W22 (Or.inr sz_b1)).wr W25 (Or.inr sz_b1)).ext E27).trans K28 (allS (Or.inr sz_b27) all0)).trans K60 (allS (Or.inr sz_b27) (allS (Or.inr sz_bA_28) (allS (Or.inr sz_sA_28) all0)))).trans K63 (allS (Or.inr sz_b27) (allS (Or.inr sz_bA_28) (allS (Or.inr sz_sA_28) all0)))).1 p66_0
      have g_oA_66 : n0 ≤ oA_66 := Nat.le_trans (Nat.le_trans (Nat.le_trans (Nat.le_trans (Nat.le_trans (Nat.le_trans (Nat.le_trans (Nat.le_trans (Nat.le_trans (Nat.le_trans (Nat.le_trans (Nat.le_trans (Nat.le_trans (Nat.le_trans Z0 E1.1) (Keep.of_wr W4).1) (Keep.of_wr W7).1) (Keep.of_wr W10).1) (Keep.of_wr W13).1) (Keep.of_wr W16).1) (Keep.of_wr W19).1) (Keep.of_wr W22).1) (Keep.of_wr W25).1) E27.1) K28.1) K60.1) K63.1) p66_1
      have sz_oA_66 : h0.size ≤ oA_66 := Nat.le_trans ((((((((((((((Keep.refl h0 []).ext E1).wr W4 (Or.inr sz_b1)).wr W7 (Or.inr sz_b1)).wr W10 (Or.inr sz_b1)).wr W13 (Or.inr sz_b1)).wr W16 (Or.inr sz_b1)).wr W19 (Or.inr sz_b1)).wr W22 (Or.inr sz_b1)).wr W25 (Or.inr sz_b1)).ext E27).trans K28 (allS (Or.inr sz_b27) all0)).trans K60 (allS (Or.inr sz_b27) (allS (Or.inr sz_bA_28) (allS (Or.inr sz_sA_28) all0)))).trans K63 (allS (Or.inr sz_b27) (allS (Or.inr sz_bA_28) (allS (Or.inr sz_sA_28) all0)))).1 p66_1
      have g_cA_66 : n0 ≤ cA_66 := Nat.le_trans (Nat.le_trans (Nat.le_trans (Nat.le_trans (Nat.le_trans (Nat.le_trans (Nat.le_trans (Nat.le_trans (Nat.le_trans (Nat.le_trans (Nat.le_trans (Nat.le_trans (Nat.le_trans (Nat.le_trans Z0 E1.1) (Keep.of_wr W4).1) (Keep.of_wr W7).1) (Keep.of_wr W10).1) (Keep.of_wr W13).1) (Keep.of_wr W16).1) (Keep.of_wr W19).1) (Keep.of_wr W22).1) (Keep.of_wr W25).1) E27.1) K28.1) K60.1) K63.1) p66_2
      have sz_cA_66 : h0.size ≤ cA_66 := Nat.le_trans ((((((((((((((Keep.refl h0 []).ext E1).wr W4 (Or.inr sz_b1)).wr W7 (Or.inr sz_b1)).wr W10 (Or.inr sz_b1)).wr W13 (Or.inr sz_b1)).wr W16 (Or.inr sz_b1)).wr W19 (Or.inr sz_b1)).wr W22 (Or.inr sz_b1)).wr W25 (Or.inr sz_b1)).ext E27).trans K28 (allS (Or.inr sz_b27) all0)).trans K60 (allS (Or.inr sz_b27) (allS (Or.inr sz_bA_28) (allS (Or.inr sz_sA_28) all0)))).trans K63 (allS (Or.inr sz_b27) (allS (Or.inr sz_bA_28) (allS (Or.inr sz_sA_28) all0)))).1 p66_2
      have N66 := Fr.app N63 N66q
      have f87 := (f67.keep K66 (ninS (Nat.ne_of_lt (Nat.lt_of_lt_of_le f26.lt (Nat.le_of_eq g27.symm))) (ninS (Nat.ne_of_lt (Nat.lt_of_lt_of_le f29.lt p28_0)) (ninS (Nat.ne_of_lt (Nat.lt_of_lt_of_le f29.lt p28_1)) nin0))))
      have f88 := (f68.keep K66)
      refine own_by (fun t q => oIl X66 hx hby at_260 rfl (oIl X66 hx hby at_262 rfl (XS.iadd X66.here hx rfl (hb hby at_264) rfl (XS.istore X66.here hx rfl (hb hby at_265) rfl (l' := #[iv p0, iv p1, .val (.long q2), .second, iv 4, iv mN, iv mB, rv b1, iv l0, iv l1, iv l2, iv l3, iv f0, iv f1, iv f2, iv f3, rv b27, iv ((((0 : Int32) + l0) + l1) + l2), .unset, .unset, .unset]) rfl (oIl X66 hx hby at_267 rfl (oIc X66 hx hby at_269 q)))))) ?_
      refine own_by (fun t q => oJn X66 hx hby at_270 (tlt (by decide : (3 : Int32) < (4 : Int32))).2.2.2 (oAl X66 hx hby at_273 rfl rfl (oAl X66 hx hby at_275 rfl rfl (oIl X66 hx hby at_277 rfl (oIl X66 hx hby at_279 rfl (oIl X66 hx hby at_281 rfl q)))))) ?_
      refine own_by (fun t q => XS.iadd X66.here hx rfl (hb hby at_283) rfl q) ?_
      refine own_cW 0 (rm5_h1 l Z a0 hw [] b27 b1 f3 l3 zl_66 lim_66 bA_28 sA_28 kS_28 u2_66 t0_66 t1_66 t2_66 t3_66 mN mB oA_66 kO_66 cA_66 kC_66 g0_66 g1_66 d0_66 d1_66 T66.heap n0 (Nat.le_trans (Nat.le_trans (Nat.le_trans (Nat.le_trans (Nat.le_trans (Nat.le_trans (Nat.le_trans (Nat.le_trans (Nat.le_trans (Nat.le_trans (Nat.le_trans (Nat.le_trans (Nat.le_trans (Nat.le_trans Z0 E1.1) (Keep.of_wr W4).1) (Keep.of_wr W7).1) (Keep.of_wr W10).1) (Keep.of_wr W13).1) (Keep.of_wr W16).1) (Keep.of_wr W19).1) (Keep.of_wr W22).1) (Keep.of_wr W25).1) E27.1) K28.1) K60.1) K63.1) K66.1) p66_6 p66_7 p66_8 p66_9 p66_10 p66_11 p66_12 p66_13 p66_14 p66_15 p66_18 p66_19 p66_16 p66_17 p66_20 p66_21 p66_22 p66_23 p66_24 p66_25 f87 f88 h_f3 h_l3 p66_27 g_bA_28 (Nat.ne_of_lt (Nat.lt_of_lt_of_le A27.lt p28_0)) g_b27 (Ne.symm p28_3) (Ne.symm (Nat.ne_of_lt (Nat.lt_of_lt_of_le A27.lt p28_1))) g_sA_28 (Nat.ne_of_lt (Nat.lt_of_lt_of_le A27.lt p28_1))) X66 hx hZ hown hw 40 41 43 42 4 44 rfl rfl rfl rfl rfl rfl b27 p66_6 [(.ref b1), (.int f3), (.int (f3 + l3))] [] hby at_284 hml (lenOf pd_11 rfl) rfl rfl (Nat.le_refl _) (by decide) fun _ T86 L86 X86 hQ86 => ?_
      have f89 := (p63_13.keep K66 (ninS (Ne.symm (Nat.ne_of_lt (Nat.lt_of_lt_of_le A27.lt p28_2))) (ninS p28_4 (ninS p28_5 nin0))))
      obtain ⟨lm_86, cn_86, us_86, rfl, N86q, K86, p86_0, p86_1, p86_2, p86_3⟩ := hQ86
      have pl86 := (allS (P := fun x => ∃ cell : Cell, T66.heap[x]? = some cell ∧ cell.vm.isStatics = false) (own_ns p66_6) (allS (P := fun x => ∃ cell : Cell, T66.heap[x]? = some cell ∧ cell.vm.isStatics = false) (own_ns p66_12) (allS (P := fun x => ∃ cell : Cell, T66.heap[x]? = some cell ∧ cell.vm.isStatics = false) (own_ns p66_15) (allS (P := fun x => ∃ cell : Cell, T66.heap[x]? = some cell ∧ cell.vm.isStatics = false) (own_ns p66_22) (allS (P := fun x => ∃ cell : Cell, T66.heap[x]? = some cell ∧ cell.vm.isStatics = false) (own_ns p66_25) all0)))))
      have N86 := Fr.app N66 N86q
      refine own_by (fun t q => oIl X86 hx hby at_287 rfl (oIl X86 hx hby at_289 rfl (XS.iadd X86.here hx rfl (hb hby at_291) rfl (XS.istore X86.here hx rfl (hb hby at_292) rfl (l' := #[iv p0, iv p1, .val (.long q2), .second, iv 4, iv mN, iv mB, rv b1, iv l0, iv l1, iv l2, iv l3, iv f0, iv f1, iv f2, iv f3, rv b27, iv (((((0 : Int32) + l0) + l1) + l2) + l3), .unset, .unset, .unset]) rfl (oIl X86 hx hby at_294 rfl (oIc X86 hx hby at_296 q)))))) ?_
      refine own_by (fun t q => oJn X86 hx hby at_297 (flt (by decide : ¬ ((4 : Int32) < (3 : Int32)))).1 (oIl X86 hx hby at_300 rfl (oIc X86 hx hby at_302 (XS.isub X86.here hx rfl (hb hby at_303) rfl (oIl X86 hx hby at_304 rfl q))))) ?_
      by_cases hc306_90 : (3 : Int32) < mN
      · refine own_by (fun t q => oJn X86 hx hby at_306 (tlt hc306_90).2.1 (oIl X86 hx hby at_309 rfl (oIl X86 hx hby at_311 rfl (oJn X86 hx hby at_313 (tlt (by rw [Int32.lt_iff_toInt_lt]; have w0 := own_lits; have w1a := c_iadd (0 : Int32) l0; have w1b := rng32 ((0 : Int32) + l0); have w2a := c_iadd ((0 : Int32) + l0) l1; have w2b := rng32 (((0 : Int32) + l0) + l1); have w3a := c_iadd (((0 : Int32) + l0) + l1) l2; have w3b := rng32 ((((0 : Int32) + l0) + l1) + l2); have w4a := c_iadd ((((0 : Int32) + l0) + l1) + l2) l3; have w4b := rng32 (((((0 : Int32) + l0) + l1) + l2) + l3); have v0 := own_ltm p66_26; have v1 := own_ltm hc306_90; omega)).2.2.2 (oIc X86 hx hby at_316 (oGo X86 hx hby 317 321 at_317 (by decide) (by decide) q)))))) ?_
        refine own_by (fun t q => XS.istore X86.here hx rfl (hb hby at_321) rfl (l' := #[iv p0, iv p1, .val (.long q2), .second, iv 4, iv mN, iv mB, rv b1, iv l0, iv l1, iv l2, iv l3, iv f0, iv f1, iv f2, iv f3, rv b27, iv (((((0 : Int32) + l0) + l1) + l2) + l3), iv 1, .unset, .unset]) rfl q) ?_
        obtain ⟨s91, o91, ja91, jb91, jc91, v91, L91, rfl, ⟨hv91, jN91, jh91⟩, jF91⟩ := sgT1 l Z a0 hw p0 p1 q2 (4 : Int32) mN mB b1 l0 l1 l2 l3 f0 f1 f2 f3 b27 (((((0 : Int32) + l0) + l1) + l2) + l3) lm_86 cn_86 us_86 T86.heap n0 (Nat.le_trans (Nat.le_trans (Nat.le_trans (Nat.le_trans (Nat.le_trans (Nat.le_trans (Nat.le_trans (Nat.le_trans (Nat.le_trans (Nat.le_trans (Nat.le_trans (Nat.le_trans (Nat.le_trans (Nat.le_trans (Nat.le_trans Z0 E1.1) (Keep.of_wr W4).1) (Keep.of_wr W7).1) (Keep.of_wr W10).1) (Keep.of_wr W13).1) (Keep.of_wr W16).1) (Keep.of_wr W19).1) (Keep.of_wr W22).1) (Keep.of_wr W25).1) E27.1) K28.1) K60.1) K63.1) K66.1) K86.1) p86_0 p86_1 p86_2 p86_3 g_b27 (own_more X86 (by decide) (by decide)) hx hZ hby hml hown Bd.returns Bd.notSynchronized rfl N86 
        exact ⟨s91, _, ja91, jb91, jc91, v91, L91, rfl, ⟨hv91.trans rfl, jN91, trivial⟩, jF91⟩
      · refine own_by (fun t q => oJy X86 hx hby 306 316 at_306 (flt hc306_90).2.1 (by decide) (by decide) (oIc X86 hx hby at_316 (oGo X86 hx hby 317 321 at_317 (by decide) (by decide) (XS.istore X86.here hx rfl (hb hby at_321) rfl (l' := #[iv p0, iv p1, .val (.long q2), .second, iv 4, iv mN, iv mB, rv b1, iv l0, iv l1, iv l2, iv l3, iv f0, iv f1, iv f2, iv f3, rv b27, iv (((((0 : Int32) + l0) + l1) + l2) + l3), iv 1, .unset, .unset]) rfl q)))) ?_
        obtain ⟨s92, o92, ja92, jb92, jc92, v92, L92, rfl, ⟨hv92, jN92, jh92⟩, jF92⟩ := sgT1 l Z a0 hw p0 p1 q2 (4 : Int32) mN mB b1 l0 l1 l2 l3 f0 f1 f2 f3 b27 (((((0 : Int32) + l0) + l1) + l2) + l3) lm_86 cn_86 us_86 T86.heap n0 (Nat.le_trans (Nat.le_trans (Nat.le_trans (Nat.le_trans (Nat.le_trans (Nat.le_trans (Nat.le_trans (Nat.le_trans (Nat.le_trans (Nat.le_trans (Nat.le_trans (Nat.le_trans (Nat.le_trans (Nat.le_trans (Nat.le_trans Z0 E1.1) (Keep.of_wr W4).1) (Keep.of_wr W7).1) (Keep.of_wr W10).1) (Keep.of_wr W13).1) (Keep.of_wr W16).1) (Keep.of_wr W19).1) (Keep.of_wr W22).1) (Keep.of_wr W25).1) E27.1) K28.1) K60.1) K63.1) K66.1) K86.1) p86_0 p86_1 p86_2 p86_3 g_b27 (own_more X86 (by decide) (by decide)) hx hZ hby hml hown Bd.returns Bd.notSynchronized rfl N86 
        exact ⟨s92, _, ja92, jb92, jc92, v92, L92, rfl, ⟨hv92.trans rfl, jN92, trivial⟩, jF92⟩
    · have pl66 := (allS (P := fun x => ∃ cell : Cell, T63.heap[x]? = some cell ∧ cell.vm.isStatics = false) (own_ns p63_0) (allS (P := fun x => ∃ cell : Cell, T63.heap[x]? = some cell ∧ cell.vm.isStatics = false) (own_ns p63_5) (allS (P := fun x => ∃ cell : Cell, T63.heap[x]? = some cell ∧ cell.vm.isStatics = false) (own_ns p63_8) all0)))
      have N66 := Fr.app N63 N66q
      have f94 := (f67.keep K66 (ninS (Nat.ne_of_lt (Nat.lt_of_lt_of_le f26.lt (Nat.le_of_eq g27.symm))) (ninS (Nat.ne_of_lt (Nat.lt_of_lt_of_le f29.lt p28_0)) (ninS (Nat.ne_of_lt (Nat.lt_of_lt_of_le f29.lt p28_1)) nin0))))
      have f95 := (f68.keep K66)
      refine own_by (fun t q => oIl X66 hx hby at_260 rfl (oIl X66 hx hby at_262 rfl (XS.iadd X66.here hx rfl (hb hby at_264) rfl (XS.istore X66.here hx rfl (hb hby at_265) rfl (l' := #[iv p0, iv p1, .val (.long q2), .second, iv 4, iv mN, iv mB, rv b1, iv l0, iv l1, iv l2, iv l3, iv f0, iv f1, iv f2, iv f3, rv b27, iv ((((0 : Int32) + l0) + l1) + l2), .unset, .unset, .unset]) rfl (oIl X66 hx hby at_267 rfl (oIc X66 hx hby at_269 q)))))) ?_
      refine own_by (fun t q => oJn X66 hx hby at_270 (tlt (by decide : (3 : Int32) < (4 : Int32))).2.2.2 (oAl X66 hx hby at_273 rfl rfl (oAl X66 hx hby at_275 rfl rfl (oIl X66 hx hby at_277 rfl (oIl X66 hx hby at_279 rfl (oIl X66 hx hby at_281 rfl q)))))) ?_
      refine own_by (fun t q => XS.iadd X66.here hx rfl (hb hby at_283) rfl q) ?_
      refine own_cW 0 (rm5_3 l Z a0 hw [] b27 b1 f3 l3 bA_28 sA_28 kS_28 ((((0 : Int32) + l0) + l1) + l2) (0 : Int32) ((0 : Int32) + l0) (((0 : Int32) + l0) + l1) (0 : Int32) mN mB oA_28 kO_28 cA_28 T66.heap n0 (Nat.le_trans (Nat.le_trans (Nat.le_trans (Nat.le_trans (Nat.le_trans (Nat.le_trans (Nat.le_trans (Nat.le_trans (Nat.le_trans (Nat.le_trans (Nat.le_trans (Nat.le_trans (Nat.le_trans (Nat.le_trans Z0 E1.1) (Keep.of_wr W4).1) (Keep.of_wr W7).1) (Keep.of_wr W10).1) (Keep.of_wr W13).1) (Keep.of_wr W16).1) (Keep.of_wr W19).1) (Keep.of_wr W22).1) (Keep.of_wr W25).1) E27.1) K28.1) K60.1) K63.1) K66.1) p66_0 p66_1 p66_2 p66_3 p66_4 p66_5 p66_6 p66_7 p66_8 p66_9 p66_10 p66_11 p66_12 p66_13 p66_14 f94 f95 h_f3 h_l3 (by have w0 := own_lits; have w1a := c_iadd (0 : Int32) l0; have w1b := rng32 ((0 : Int32) + l0); have w2a := c_iadd ((0 : Int32) + l0) l1; have w2b := rng32 (((0 : Int32) + l0) + l1); have w3a := c_iadd (((0 : Int32) + l0) + l1) l2; have w3b := rng32 ((((0 : Int32) + l0) + l1) + l2); have v0 := own_neq p66_15; have v1 := own_nlt p66_16; omega) g_b27 (Ne.symm (Nat.ne_of_lt (Nat.lt_of_lt_of_le A27.lt p28_1))) (Ne.symm (Nat.ne_of_lt (Nat.lt_of_lt_of_le A27.lt p28_0))) (Ne.symm (Nat.ne_of_lt (Nat.lt_of_lt_of_le A27.lt p28_2))) g_bA_28 (Nat.ne_of_lt (Nat.lt_of_lt_of_le A27.lt p28_0)) (Ne.symm p28_3) g_sA_28 (Nat.ne_of_lt (Nat.lt_of_lt_of_le A27.lt p28_1)) p28_3 (Nat.ne_of_lt (Nat.lt_of_lt_of_le f29.lt p28_1)) (Nat.ne_of_lt (Nat.lt_of_lt_of_le f29.lt p28_0)) (Nat.ne_of_lt (Nat.lt_of_lt_of_le f26.lt (Nat.le_of_eq g27.symm))) p28_4 p28_5) X66 hx hZ hown hw 40 41 43 42 4 44 rfl rfl rfl rfl rfl rfl b27 p66_0 [(.ref b1), (.int f3), (.int (f3 + l3))] [] hby at_284 hml (lenOf pd_11 rfl) rfl rfl (Nat.le_refl _) (by decide) fun _ T93 L93 X93 hQ93 => ?_
      rcases hQ93 with ⟨lim_93, cn_93, us_93, rfl, N93q, K93, p93_0, p93_1, p93_2, p93_3, p93_4⟩ | ⟨lim_93, cn_93, us_93, rfl, N93q, K93, p93_0, p93_1, p93_2, p93_3, p93_4⟩ | ⟨rfl, N93q, K93, p93_0, p93_1, p93_2, p93_3, p93_4, p93_5, p93_6, p93_7, p93_8, p93_9, p93_10, p93_11, p93_12, p93_13, p93_14, p93_15, p93_16⟩
      · have pl93 := (allS (P := fun x => ∃ cell : Cell, T66.heap[x]? = some cell ∧ cell.vm.isStatics = false) (own_ns p66_0) (allS (P := fun x => ∃ cell : Cell, T66.heap[x]? = some cell ∧ cell.vm.isStatics = false) (own_ns p66_5) (allS (P := fun x => ∃ cell : Cell, T66.heap[x]? = some cell ∧ cell.vm.isStatics = false) (own_ns p66_8) all0)))
        have N93 := Fr.app N66 N93q
        refine own_by (fun t q => oIl X93 hx hby at_287 rfl (oIl X93 hx hby at_289 rfl (XS.iadd X93.here hx rfl (hb hby at_291) rfl (XS.istore X93.here hx rfl (hb hby at_292) rfl (l' := #[iv p0, iv p1, .val (.long q2), .second, iv 4, iv mN, iv mB, rv b1, iv l0, iv l1, iv l2, iv l3, iv f0, iv f1, iv f2, iv f3, rv b27, iv (((((0 : Int32) + l0) + l1) + l2) + l3), .unset, .unset, .unset]) rfl (oIl X93 hx hby at_294 rfl (oIc X93 hx hby at_296 q)))))) ?_
        refine own_by (fun t q => oJn X93 hx hby at_297 (flt (by decide : ¬ ((4 : Int32) < (3 : Int32)))).1 (oIl X93 hx hby at_300 rfl (oIc X93 hx hby at_302 (XS.isub X93.here hx rfl (hb hby at_303) rfl (oIl X93 hx hby at_304 rfl (oJy X93 hx hby 306 316 at_306 (flt (show ¬ ((3 : Int32) < mN) from (by rw [Int32.lt_iff_toInt_lt]; have w0 := own_lits; have w1a := c_iadd (0 : Int32) l0; have w1b := rng32 ((0 : Int32) + l0); have w2a := c_iadd ((0 : Int32) + l0) l1; have w2b := rng32 (((0 : Int32) + l0) + l1); have w3a := c_iadd (((0 : Int32) + l0) + l1) l2; have w3b := rng32 ((((0 : Int32) + l0) + l1) + l2); have v0 := own_neq p66_15; have v1 := own_nlt p66_16; have v2 := own_eqm p93_4; omega))).2.1 (by decide) (by decide) q)))))) ?_
        refine own_by (fun t q => oIc X93 hx hby at_316 (oGo X93 hx hby 317 321 at_317 (by decide) (by decide) (XS.istore X93.here hx rfl (hb hby at_321) rfl (l' := #[iv p0, iv p1, .val (.long q2), .second, iv 4, iv mN, iv mB, rv b1, iv l0, iv l1, iv l2, iv l3, iv f0, iv f1, iv f2, iv f3, rv b27, iv (((((0 : Int32) + l0) + l1) + l2) + l3), iv 1, .unset, .unset]) rfl q))) ?_
        obtain ⟨s96, o96, ja96, jb96, jc96, v96, L96, rfl, ⟨hv96, jN96, jh96⟩, jF96⟩ := sgT1 l Z a0 hw p0 p1 q2 (4 : Int32) mN mB b1 l0 l1 l2 l3 f0 f1 f2 f3 b27 (((((0 : Int32) + l0) + l1) + l2) + l3) lim_93 cn_93 us_93 T93.heap n0 (Nat.le_trans (Nat.le_trans (Nat.le_trans (Nat.le_trans (Nat.le_trans (Nat.le_trans (Nat.le_trans (Nat.le_trans (Nat.le_trans (Nat.le_trans (Nat.le_trans (Nat.le_trans (Nat.le_trans (Nat.le_trans (Nat.le_trans Z0 E1.1) (Keep.of_wr W4).1) (Keep.of_wr W7).1) (Keep.of_wr W10).1) (Keep.of_wr W13).1) (Keep.of_wr W16).1) (Keep.of_wr W19).1) (Keep.of_wr W22).1) (Keep.of_wr W25).1) E27.1) K28.1) K60.1) K63.1) K66.1) K93.1) p93_0 p93_1 p93_2 p93_3 g_b27 (own_more X93 (by decide) (by decide)) hx hZ hby hml hown Bd.returns Bd.notSynchronized rfl N93 
        exact ⟨s96, _, ja96, jb96, jc96, v96, L96, rfl, ⟨hv96.trans rfl, jN96, trivial⟩, jF96⟩
      · have pl93 := (allS (P := fun x => ∃ cell : Cell, T66.heap[x]? = some cell ∧ cell.vm.isStatics = false) (own_ns p66_0) (allS (P := fun x => ∃ cell : Cell, T66.heap[x]? = some cell ∧ cell.vm.isStatics = false) (own_ns p66_5) (allS (P := fun x => ∃ cell : Cell, T66.heap[x]? = some cell ∧ cell.vm.isStatics = false) (own_ns p66_8) all0)))
        have N93 := Fr.app N66 N93q
        refine own_by (fun t q => oIl X93 hx hby at_287 rfl (oIl X93 hx hby at_289 rfl (XS.iadd X93.here hx rfl (hb hby at_291) rfl (XS.istore X93.here hx rfl (hb hby at_292) rfl (l' := #[iv p0, iv p1, .val (.long q2), .second, iv 4, iv mN, iv mB, rv b1, iv l0, iv l1, iv l2, iv l3, iv f0, iv f1, iv f2, iv f3, rv b27, iv (((((0 : Int32) + l0) + l1) + l2) + l3), .unset, .unset, .unset]) rfl (oIl X93 hx hby at_294 rfl (oIc X93 hx hby at_296 q)))))) ?_
        refine own_by (fun t q => oJn X93 hx hby at_297 (flt (by decide : ¬ ((4 : Int32) < (3 : Int32)))).1 (oIl X93 hx hby at_300 rfl (oIc X93 hx hby at_302 (XS.isub X93.here hx rfl (hb hby at_303) rfl (oIl X93 hx hby at_304 rfl q))))) ?_
        by_cases hc306_97 : (3 : Int32) < mN
        · refine own_by (fun t q => oJn X93 hx hby at_306 (tlt hc306_97).2.1 (oIl X93 hx hby at_309 rfl (oIl X93 hx hby at_311 rfl (oJn X93 hx hby at_313 (tlt p93_4).2.2.2 (oIc X93 hx hby at_316 (oGo X93 hx hby 317 321 at_317 (by decide) (by decide) q)))))) ?_
          refine own_by (fun t q => XS.istore X93.here hx rfl (hb hby at_321) rfl (l' := #[iv p0, iv p1, .val (.long q2), .second, iv 4, iv mN, iv mB, rv b1, iv l0, iv l1, iv l2, iv l3, iv f0, iv f1, iv f2, iv f3, rv b27, iv (((((0 : Int32) + l0) + l1) + l2) + l3), iv 1, .unset, .unset]) rfl q) ?_
          obtain ⟨s98, o98, ja98, jb98, jc98, v98, L98, rfl, ⟨hv98, jN98, jh98⟩, jF98⟩ := sgT1 l Z a0 hw p0 p1 q2 (4 : Int32) mN mB b1 l0 l1 l2 l3 f0 f1 f2 f3 b27 (((((0 : Int32) + l0) + l1) + l2) + l3) lim_93 cn_93 us_93 T93.heap n0 (Nat.le_trans (Nat.le_trans (Nat.le_trans (Nat.le_trans (Nat.le_trans (Nat.le_trans (Nat.le_trans (Nat.le_trans (Nat.le_trans (Nat.le_trans (Nat.le_trans (Nat.le_trans (Nat.le_trans (Nat.le_trans (Nat.le_trans Z0 E1.1) (Keep.of_wr W4).1) (Keep.of_wr W7).1) (Keep.of_wr W10).1) (Keep.of_wr W13).1) (Keep.of_wr W16).1) (Keep.of_wr W19).1) (Keep.of_wr W22).1) (Keep.of_wr W25).1) E27.1) K28.1) K60.1) K63.1) K66.1) K93.1) p93_0 p93_1 p93_2 p93_3 g_b27 (own_more X93 (by decide) (by decide)) hx hZ hby hml hown Bd.returns Bd.notSynchronized rfl N93 
          exact ⟨s98, _, ja98, jb98, jc98, v98, L98, rfl, ⟨hv98.trans rfl, jN98, trivial⟩, jF98⟩
        · refine own_by (fun t q => oJy X93 hx hby 306 316 at_306 (flt hc306_97).2.1 (by decide) (by decide) (oIc X93 hx hby at_316 (oGo X93 hx hby 317 321 at_317 (by decide) (by decide) (XS.istore X93.here hx rfl (hb hby at_321) rfl (l' := #[iv p0, iv p1, .val (.long q2), .second, iv 4, iv mN, iv mB, rv b1, iv l0, iv l1, iv l2, iv l3, iv f0, iv f1, iv f2, iv f3, rv b27, iv (((((0 : Int32) + l0) + l1) + l2) + l3), iv 1, .unset, .unset]) rfl q)))) ?_
          obtain ⟨s99, o99, ja99, jb99, jc99, v99, L99, rfl, ⟨hv99, jN99, jh99⟩, jF99⟩ := sgT1 l Z a0 hw p0 p1 q2 (4 : Int32) mN mB b1 l0 l1 l2 l3 f0 f1 f2 f3 b27 (((((0 : Int32) + l0) + l1) + l2) + l3) lim_93 cn_93 us_93 T93.heap n0 (Nat.le_trans (Nat.le_trans (Nat.le_trans (Nat.le_trans (Nat.le_trans (Nat.le_trans (Nat.le_trans (Nat.le_trans (Nat.le_trans (Nat.le_trans (Nat.le_trans (Nat.le_trans (Nat.le_trans (Nat.le_trans (Nat.le_trans Z0 E1.1) (Keep.of_wr W4).1) (Keep.of_wr W7).1) (Keep.of_wr W10).1) (Keep.of_wr W13).1) (Keep.of_wr W16).1) (Keep.of_wr W19).1) (Keep.of_wr W22).1) (Keep.of_wr W25).1) E27.1) K28.1) K60.1) K63.1) K66.1) K93.1) p93_0 p93_1 p93_2 p93_3 g_b27 (own_more X93 (by decide) (by decide)) hx hZ hby hml hown Bd.returns Bd.notSynchronized rfl N93 
          exact ⟨s99, _, ja99, jb99, jc99, v99, L99, rfl, ⟨hv99.trans rfl, jN99, trivial⟩, jF99⟩
      · have pl93 := (allS (P := fun x => ∃ cell : Cell, T66.heap[x]? = some cell ∧ cell.vm.isStatics = false) (own_ns p66_0) (allS (P := fun x => ∃ cell : Cell, T66.heap[x]? = some cell ∧ cell.vm.isStatics = false) (own_ns p66_5) (allS (P := fun x => ∃ cell : Cell, T66.heap[x]? = some cell ∧ cell.vm.isStatics = false) (own_ns p66_8) all0)))
        have N93 := Fr.app N66 N93q
        refine own_by (fun t q => oIl X93 hx hby at_287 rfl (oIl X93 hx hby at_289 rfl (XS.iadd X93.here hx rfl (hb hby at_291) rfl (XS.istore X93.here hx rfl (hb hby at_292) rfl (l' := #[iv p0, iv p1, .val (.long q2), .second, iv 4, iv mN, iv mB, rv b1, iv l0, iv l1, iv l2, iv l3, iv f0, iv f1, iv f2, iv f3, rv b27, iv (((((0 : Int32) + l0) + l1) + l2) + l3), .unset, .unset, .unset]) rfl (oIl X93 hx hby at_294 rfl (oIc X93 hx hby at_296 q)))))) ?_
        refine own_by (fun t q => oJn X93 hx hby at_297 (flt (by decide : ¬ ((4 : Int32) < (3 : Int32)))).1 (oIl X93 hx hby at_300 rfl (oIc X93 hx hby at_302 (XS.isub X93.here hx rfl (hb hby at_303) rfl (oIl X93 hx hby at_304 rfl (oJn X93 hx hby at_306 (tlt (show (3 : Int32) < mN from (by rw [Int32.lt_iff_toInt_lt]; have w0 := own_lits; have w1a := c_iadd (0 : Int32) l0; have w1b := rng32 ((0 : Int32) + l0); have w2a := c_iadd ((0 : Int32) + l0) l1; have w2b := rng32 (((0 : Int32) + l0) + l1); have w3a := c_iadd (((0 : Int32) + l0) + l1) l2; have w3b := rng32 ((((0 : Int32) + l0) + l1) + l2); have w4a := c_iadd ((((0 : Int32) + l0) + l1) + l2) l3; have w4b := rng32 (((((0 : Int32) + l0) + l1) + l2) + l3); have v0 := own_neq p66_15; have v1 := own_nlt p66_16; have v2 := own_neq p93_15; have v3 := own_nlt p93_16; omega))).2.1 q)))))) ?_
        refine own_by (fun t q => oIl X93 hx hby at_309 rfl (oIl X93 hx hby at_311 rfl (oJy X93 hx hby 313 320 at_313 (flt p93_16).2.2.2 (by decide) (by decide) (oIc X93 hx hby at_320 (XS.istore X93.here hx rfl (hb hby at_321) rfl (l' := #[iv p0, iv p1, .val (.long q2), .second, iv 4, iv mN, iv mB, rv b1, iv l0, iv l1, iv l2, iv l3, iv f0, iv f1, iv f2, iv f3, rv b27, iv (((((0 : Int32) + l0) + l1) + l2) + l3), iv 0, .unset, .unset]) rfl q))))) ?_
        obtain ⟨s100, o100, ja100, jb100, jc100, v100, L100, rfl, ⟨hv100, jN100, jh100⟩, jF100⟩ := sgT0 l Z a0 hw p0 p1 q2 (4 : Int32) mN mB b1 l0 l1 l2 l3 f0 f1 f2 f3 b27 (((((0 : Int32) + l0) + l1) + l2) + l3) (4 : Int32) (((((0 : Int32) + l0) + l1) + l2) + l3) T93.heap n0 (Nat.le_trans (Nat.le_trans (Nat.le_trans (Nat.le_trans (Nat.le_trans (Nat.le_trans (Nat.le_trans (Nat.le_trans (Nat.le_trans (Nat.le_trans (Nat.le_trans (Nat.le_trans (Nat.le_trans (Nat.le_trans (Nat.le_trans Z0 E1.1) (Keep.of_wr W4).1) (Keep.of_wr W7).1) (Keep.of_wr W10).1) (Keep.of_wr W13).1) (Keep.of_wr W16).1) (Keep.of_wr W19).1) (Keep.of_wr W22).1) (Keep.of_wr W25).1) E27.1) K28.1) K60.1) K63.1) K66.1) K93.1) p93_0 p93_11 p93_1 p93_2 g_b27 (own_more X93 (by decide) (by decide)) hx hZ hby hml hown Bd.returns Bd.notSynchronized rfl N93 
        exact ⟨s100, _, ja100, jb100, jc100, v100, L100, rfl, ⟨hv100.trans rfl, jN100, trivial⟩, jF100⟩
set_option maxRecDepth 65536 in
set_option maxHeartbeats 40000000 in
theorem comes_1 {Post : Tables → Env → Array Value → State → Outcome → State → Prop} (hpost : ∀ tb e args s v u, (limb_1_1.after args s (.returned v) u = true ∧ limb_1_2.after args s (.returned v) u = true ∧ True) → FrameEnd s (.returned v) u (Jvm.fieldLocs frame_1_writes args s ++ Jvm.arrayLocs frame_1_arrays args s ++ Jvm.staticLocs frame_1_statics s) 32 9856 → Post tb e args s (.returned v) u) :
    ArmFor flags0 classFile x code maxLocals ret World_1 tables_1 room_1 Calls_1 rest_1 Pre_1 Post := by
  intro l hfl _ _ p e ha hc hk s m args below hf hA hF happ hP
  obtain ⟨hcalls, hrest, hpre⟩ := hP
  obtain ⟨-, -, -, hnamed, -, -, -, hat⟩ := (Spec.applies_iff hf).mp happ
  obtain ⟨hg, hn⟩ := and_e (Cond.before_iff.mp (show (Jvm.Cond.and given_1 narrow_1).before args s = true from hpre))
  have hw := fun d (hd : d ∈ tables_1) => atoms_spec (ws := Jvm.Cond.code x code maxLocals ret :: tables_1) hat d (List.mem_cons_of_mem _ hd)
  have hfit : Fit s := fun {y c} hc i hi => by
    obtain ⟨ha, rfl⟩ := Array.getElem?_eq_some_iff.mp hc
    have q := List.all_eq_true.mp ((Array.all_eq_true_iff_forall_mem.mp hF) _ (Array.getElem_mem ha)) i (List.mem_range.mpr hi)
    simpa [Array.getElem?_eq_getElem hi] using q
  obtain ⟨cj1, cj2⟩ := and_e hg
  obtain ⟨cj3, cj4⟩ := and_e cj2
  obtain ⟨cj5, cj6⟩ := and_e cj4
  obtain ⟨w0, w1, w2, rfl⟩ : ∃ w0 w1 w2 : Value, args = #[w0, w1, w2] := by
    have hs : args.size = 3 := by simpa [Cond.value, given_1] using cj1
    obtain ⟨L⟩ := args
    match L, hs with
    | [w0, w1, w2], _ => exact ⟨w0, w1, w2, rfl⟩
  obtain ⟨i0, ei0⟩ := is_v cj3
  obtain rfl : w0 = (.int i0) := Option.some.inj ei0
  obtain ⟨i1, ei1⟩ := is_v cj5
  obtain rfl : w1 = (.int i1) := Option.some.inj ei1
  obtain ⟨i2, ei2⟩ := isL_v cj6
  obtain rfl : w2 = (.long i2) := Option.some.inj ei2
  obtain ⟨n, o, h1, h2, h3, _, L, rfl, ⟨rfl, N, -⟩, hq⟩ := rm0 l s _ hw tables_1 i0 i1 i2 s.heap s.heap.size (Nat.le_refl _)  p e ha hc hk s m _ below hf ((Spec.applies_iff_loose hf).mp happ).1 ⟨rfl, State.Warmed39.refl s, rfl⟩ trivial
  refine ⟨n, _, h1, h2, h3, hpost _ _ _ _ _ _ ⟨Cond.after_iff.mpr rfl, Cond.after_iff.mpr (eq_i res_at (Term.int_eval (1)) rfl), trivial⟩ ⟨hq.1, hq.2.1, (hq.2.2.sift fun y hy => Or.inr (N y hy)).mono (by decide) (by decide)⟩⟩
theorem main_1_1 : Claimed_1_1 := comes_1 fun _ _ _ _ _ _ h hF => ⟨h.1, hF⟩
theorem main_1_2 : Claimed_1_2 := comes_1 fun _ _ _ _ _ _ h hF => ⟨h.2.1, hF⟩
end Jvm.Pilot.@@N@@
namespace Jvm.Pilot.@@N@@
open Jvm Jvm.ClassFile Sem Op Lib Jvm.Free Jvm.Stand Jvm.Pilot.@@N@@.Jvm.D
/-! MADE BY PROGRAM (witnessworld.py) out of the Statement's table words and the real class files: 17 classes; the members and pool entries that the words name. The judged class is class 1, her method 1. -/
namespace start1
open Jvm.ClassFile
def u (s : String) : CpInfo := .utf8 (stringToUtf16 s)
/-- a pool by its gaps: so many unusable entries, then the entry; so many at the end -/
def gap : Nat → List CpInfo → List CpInfo
  | 0, r => r
  | n + 1, r => .unusable :: gap n r
def poolList (es : List (Nat × CpInfo)) (last : Nat) : List CpInfo := es.foldr (fun e r => gap e.1 (e.2 :: r)) (gap last [])
def pool (es : List (Nat × CpInfo)) (last : Nat) : Array CpInfo := ⟨poolList es last⟩
def fileOf (pool : Array CpInfo) (this : Nat) (attrs : Array Attribute := #[]) (ms : Array MethodInfo := #[]) (fl : Nat := 33) (sup : Nat := 0) (ifs : Array Nat := #[]) (fds : Array FieldInfo := #[]) : ClassFile where
  minorVersion := 0
  majorVersion := 65
  constantPool := pool
  accessFlags := fl
  thisClass := this
  superClass := sup
  interfaces := ifs
  fields := fds
  methods := ms
  attributes := attrs
def plain (name : String) (sup : Option ClassId) : Class where
  name := name
  kind := .ordinary
  loader := none
  accessFlags := 33
  super := sup
  interfaces := #[]
  cf := none
  fields := #[]
  methods := #[]
  instanceTypes := #[]
  staticTypes := #[]
  resolved := #[]
  callSites := []
  init := .initialized
  statics := none
  mirror := none

def pool0 : Array CpInfo := pool [(5, u "<init>"), (0, u "()V"), (1, .class_ 10), (1, u "java/lang/Object")] 113

def k0c0 : Code := { maxStack := 0, maxLocals := 1, code := object_method_1_code, exceptionTable := #[], attributes := #[] }
def k0m0 : Method := { name := "<init>", desc := "()V", sig := { parameters := [], returnType := none }, accessFlags := 1, code := some k0c0 }
/-- java/lang/Object -/
def k0 : Class := { plain "java/lang/Object" none with
  accessFlags := 33
  interfaces := #[]
  cf := some (fileOf pool0 8 #[] #[{ accessFlags := 1, nameIndex := 5, descriptorIndex := 6, attributes := #[] }] 33 0 #[] #[])
  fields := #[]
  methods := #[k0m0]
  instanceTypes := #[]
  staticTypes := #[]
  resolved := Array.replicate 124 none
  statics := none }

def pool1 : Array CpInfo := pool [(2, .class_ 4), (1, u "java/lang/Object"), (0, u "<init>"), (0, u "()V"), (0, .integer 2147483647), (0, .class_ 9), (0, u "com/example/measurewright/measurewright/cli/NameBatch"), (0, .methodref 8 11), (0, .nameAndType 5 12), (0, u "(II)V"), (0, .methodref 8 14), (0, .nameAndType 15 16), (0, u "offer"), (0, u "([BII)V"), (0, .methodref 8 18), (0, .nameAndType 19 20), (0, u "letAnyGo"), (0, u "()Z"), (0, .methodref 8 22), (0, .nameAndType 23 6), (0, u "clear"), (0, .class_ 25), (0, u "com/example/measurewright/measurewright/cli/NameBatchLetAnyGoPinLaw"), (2, u "law"), (0, u "(IIJ)Z")] 5

def k1m0 : Method := { name := "<init>", desc := "()V", sig := { parameters := [], returnType := none }, accessFlags := 1, code := none }
def k1c1 : Code := { maxStack := 5, maxLocals := 21, code := code, exceptionTable := #[], attributes := #[] }
def k1m1 : Method := { name := "law", desc := "(IIJ)Z", sig := { parameters := [.int, .int, .long], returnType := some .boolean }, accessFlags := 9, code := some k1c1 }
/-- com/example/measurewright/measurewright/cli/NameBatchLetAnyGoPinLaw -/
def k1 : Class := { plain "com/example/measurewright/measurewright/cli/NameBatchLetAnyGoPinLaw" (some 0) with
  accessFlags := 49
  interfaces := #[]
  cf := some (fileOf pool1 24 #[] #[{ accessFlags := 1, nameIndex := 5, descriptorIndex := 6, attributes := #[] }, { accessFlags := 9, nameIndex := 28, descriptorIndex := 29, attributes := #[] }] 49 2 #[] #[])
  fields := #[]
  methods := #[k1m0, k1m1]
  instanceTypes := #[]
  staticTypes := #[]
  resolved := Array.replicate 35 none
  statics := none }

def pool2 : Array CpInfo := pool [(1, .methodref 2 3), (0, .class_ 4), (0, .nameAndType 5 6), (0, u "java/lang/Object"), (0, u "<init>"), (0, u "()V"), (0, .fieldref 8 9), (0, .class_ 10), (0, .nameAndType 11 12), (0, u "com/example/measurewright/measurewright/cli/NameBatch"), (0, u "bytes"), (0, u "[B"), (0, .fieldref 8 14), (0, .nameAndType 15 16), (0, u "starts"), (0, u "[I"), (0, .fieldref 8 18), (0, .nameAndType 19 16), (0, u "order"), (0, .fieldref 8 21), (0, .nameAndType 22 16), (0, u "scratch"), (0, .fieldref 8 24), (0, .nameAndType 25 26), (0, u "maxNames"), (0, u "I"), (0, .fieldref 8 28), (0, .nameAndType 29 26), (0, u "maxBytes"), (0, .fieldref 8 31), (0, .nameAndType 32 26), (0, u "count"), (0, .fieldref 8 34), (0, .nameAndType 35 26), (0, u "used"), (0, .fieldref 8 37), (0, .nameAndType 38 12), (0, u "limit"), (0, .methodref 40 41), (0, .class_ 42), (0, .nameAndType 43 44), (0, u "java/util/Arrays"), (0, u "compareUnsigned"), (0, u "([BII[BII)I"), (0, .methodref 8 46), (0, .nameAndType 47 6), (0, u "halve"), (0, .methodref 49 50), (0, .class_ 51), (0, .nameAndType 52 53), (0, u "java/lang/Math"), (0, u "min"), (0, u "(II)I"), (10, .methodref 65 66), (0, .class_ 67), (0, .nameAndType 68 69), (0, u "java/lang/System"), (0, u "arraycopy"), (0, u "(Ljava/lang/Object;ILjava/lang/Object;II)V"), (0, .methodref 8 71), (0, .nameAndType 72 73), (0, u "merge"), (0, u "(III)V"), (0, .methodref 8 75), (0, .nameAndType 76 77), (0, u "end"), (0, u "(I)I"), (0, .methodref 40 79), (0, .nameAndType 80 81), (0, u "copyOfRange"), (0, u "([BII)[B"), (0, .methodref 8 83), (0, .nameAndType 84 6), (0, u "sort"), (0, .methodref 8 86), (0, .nameAndType 87 53), (0, u "compare"), (0, u "(II)V"), (2, u "clear"), (0, u "offer"), (0, u "([BII)V"), (1, u "letAnyGo"), (0, u "()Z")] 5

def k2c0 : Code := { maxStack := 2, maxLocals := 3, code := prog_6_method_1_code, exceptionTable := #[], attributes := #[] }
def k2m0 : Method := { name := "<init>", desc := "(II)V", sig := { parameters := [.int, .int], returnType := none }, accessFlags := 0, code := some k2c0 }
def k2c1 : Code := { maxStack := 2, maxLocals := 1, code := prog_6_method_2_code, exceptionTable := #[], attributes := #[] }
def k2m1 : Method := { name := "clear", desc := "()V", sig := { parameters := [], returnType := none }, accessFlags := 0, code := some k2c1 }
def k2c2 : Code := { maxStack := 6, maxLocals := 5, code := prog_6_method_3_code, exceptionTable := #[], attributes := #[] }
def k2m2 : Method := { name := "offer", desc := "([BII)V", sig := { parameters := [(.array .byte), .int, .int], returnType := none }, accessFlags := 0, code := some k2c2 }
def k2c3 : Code := { maxStack := 1, maxLocals := 1, code := prog_6_method_4_code, exceptionTable := #[], attributes := #[] }
def k2m3 : Method := { name := "letAnyGo", desc := "()Z", sig := { parameters := [], returnType := some .boolean }, accessFlags := 0, code := some k2c3 }
def k2c4 : Code := { maxStack := 6, maxLocals := 3, code := prog_6_method_6_code, exceptionTable := #[], attributes := #[] }
def k2m4 : Method := { name := "sort", desc := "()V", sig := { parameters := [], returnType := none }, accessFlags := 0, code := some k2c4 }
def k2c5 : Code := { maxStack := 6, maxLocals := 7, code := prog_6_method_8_code, exceptionTable := #[], attributes := #[] }
def k2m5 : Method := { name := "halve", desc := "()V", sig := { parameters := [], returnType := none }, accessFlags := 2, code := some k2c5 }
def k2c6 : Code := { maxStack := 6, maxLocals := 7, code := prog_6_method_9_code, exceptionTable := #[], attributes := #[] }
def k2m6 : Method := { name := "merge", desc := "(III)V", sig := { parameters := [.int, .int, .int], returnType := none }, accessFlags := 2, code := some k2c6 }
def k2c7 : Code := { maxStack := 7, maxLocals := 3, code := prog_6_method_10_code, exceptionTable := #[], attributes := #[] }
def k2m7 : Method := { name := "compare", desc := "(II)I", sig := { parameters := [.int, .int], returnType := some .int }, accessFlags := 2, code := some k2c7 }
def k2c8 : Code := { maxStack := 3, maxLocals := 2, code := prog_6_method_11_code, exceptionTable := #[], attributes := #[] }
def k2m8 : Method := { name := "end", desc := "(I)I", sig := { parameters := [.int], returnType := some .int }, accessFlags := 2, code := some k2c8 }
/-- com/example/measurewright/measurewright/cli/NameBatch -/
def k2 : Class := { plain "com/example/measurewright/measurewright/cli/NameBatch" (some 0) with
  accessFlags := 48
  interfaces := #[]
  cf := some (fileOf pool2 8 #[] #[{ accessFlags := 0, nameIndex := 5, descriptorIndex := 88, attributes := #[] }, { accessFlags := 0, nameIndex := 91, descriptorIndex := 6, attributes := #[] }, { accessFlags := 0, nameIndex := 92, descriptorIndex := 93, attributes := #[] }, { accessFlags := 0, nameIndex := 95, descriptorIndex := 96, attributes := #[] }, { accessFlags := 0, nameIndex := 84, descriptorIndex := 6, attributes := #[] }, { accessFlags := 2, nameIndex := 47, descriptorIndex := 6, attributes := #[] }, { accessFlags := 2, nameIndex := 72, descriptorIndex := 73, attributes := #[] }, { accessFlags := 2, nameIndex := 87, descriptorIndex := 53, attributes := #[] }, { accessFlags := 2, nameIndex := 76, descriptorIndex := 77, attributes := #[] }] 48 2 #[] #[{ accessFlags := 18, nameIndex := 25, descriptorIndex := 26, attributes := #[] }, { accessFlags := 18, nameIndex := 29, descriptorIndex := 26, attributes := #[] }, { accessFlags := 2, nameIndex := 11, descriptorIndex := 12, attributes := #[] }, { accessFlags := 2, nameIndex := 15, descriptorIndex := 16, attributes := #[] }, { accessFlags := 2, nameIndex := 32, descriptorIndex := 26, attributes := #[] }, { accessFlags := 2, nameIndex := 35, descriptorIndex := 26, attributes := #[] }, { accessFlags := 2, nameIndex := 19, descriptorIndex := 16, attributes := #[] }, { accessFlags := 2, nameIndex := 22, descriptorIndex := 16, attributes := #[] }, { accessFlags := 2, nameIndex := 38, descriptorIndex := 12, attributes := #[] }])
  fields := #[{ name := "maxNames", type := .int, accessFlags := 18, slot := 0, constantValue := 0 }, { name := "maxBytes", type := .int, accessFlags := 18, slot := 1, constantValue := 0 }, { name := "bytes", type := (.array .byte), accessFlags := 2, slot := 2, constantValue := 0 }, { name := "starts", type := (.array .int), accessFlags := 2, slot := 3, constantValue := 0 }, { name := "count", type := .int, accessFlags := 2, slot := 4, constantValue := 0 }, { name := "used", type := .int, accessFlags := 2, slot := 5, constantValue := 0 }, { name := "order", type := (.array .int), accessFlags := 2, slot := 6, constantValue := 0 }, { name := "scratch", type := (.array .int), accessFlags := 2, slot := 7, constantValue := 0 }, { name := "limit", type := (.array .byte), accessFlags := 2, slot := 8, constantValue := 0 }]
  methods := #[k2m0, k2m1, k2m2, k2m3, k2m4, k2m5, k2m6, k2m7, k2m8]
  instanceTypes := #[.int, .int, (.array .byte), (.array .int), .int, .int, (.array .int), (.array .int), (.array .byte)]
  staticTypes := #[]
  resolved := Array.replicate 102 none
  statics := none }

def pool3 : Array CpInfo := pool [(2, .class_ 4), (1, u "java/lang/Object"), (0, u "<init>"), (0, u "()V"), (1, .class_ 10), (1, u "java/lang/System"), (0, u "allowSecurityManager"), (0, u "I"), (16, u "cons"), (0, u "Ljava/io/Console;"), (77, .class_ 110), (1, u "java/lang/System$CallersHolder"), (43, u "initialErrStream"), (0, u "Ljava/io/PrintStream;"), (19, u "security"), (0, u "Ljava/lang/SecurityManager;"), (31, .class_ 209), (0, u "java/lang/System$1"), (7, u "props"), (0, u "Ljava/util/Properties;"), (2, u "lineSeparator"), (0, u "Ljava/lang/String;"), (96, .class_ 321), (1, u "java/lang/System$LoggerFinder"), (5, .class_ 328), (0, u "java/lang/System$Logger"), (67, u "err"), (2, u "out"), (91, u "notSupportedJnuEncoding"), (15, u "in"), (17, u "initialIn"), (0, u "Ljava/io/InputStream;"), (35, u "bootLayer"), (0, u "Ljava/lang/ModuleLayer;"), (99, .class_ 664), (0, u "java/lang/System$2"), (9, u "NEVER"), (2, u "MAYBE"), (49, u "arraycopy"), (0, u "(Ljava/lang/Object;ILjava/lang/Object;II)V"), (72, .class_ 802), (0, u "java/lang/System$Logger$Level")] 31

def k3m0 : Method := { name := "<init>", desc := "()V", sig := { parameters := [], returnType := none }, accessFlags := 2, code := none }
def k3m1 : Method := { name := "arraycopy", desc := "(Ljava/lang/Object;ILjava/lang/Object;II)V", sig := { parameters := [(.object "java/lang/Object"), .int, (.object "java/lang/Object"), .int, .int], returnType := none }, accessFlags := 265, code := none }
/-- java/lang/System -/
def k3 : Class := { plain "java/lang/System" (some 0) with
  accessFlags := 49
  interfaces := #[]
  cf := some (fileOf pool3 8 #[.nestMembers #[319, 327, 801, 108, 663, 208]] #[{ accessFlags := 2, nameIndex := 5, descriptorIndex := 6, attributes := #[] }, { accessFlags := 265, nameIndex := 727, descriptorIndex := 728, attributes := #[] }] 49 2 #[] #[{ accessFlags := 25, nameIndex := 507, descriptorIndex := 526, attributes := #[] }, { accessFlags := 25, nameIndex := 399, descriptorIndex := 155, attributes := #[] }, { accessFlags := 25, nameIndex := 396, descriptorIndex := 155, attributes := #[] }, { accessFlags := 10, nameIndex := 525, descriptorIndex := 526, attributes := #[] }, { accessFlags := 26, nameIndex := 674, descriptorIndex := 12, attributes := #[] }, { accessFlags := 26, nameIndex := 677, descriptorIndex := 12, attributes := #[] }, { accessFlags := 10, nameIndex := 11, descriptorIndex := 12, attributes := #[] }, { accessFlags := 74, nameIndex := 175, descriptorIndex := 176, attributes := #[] }, { accessFlags := 10, nameIndex := 491, descriptorIndex := 222, attributes := #[] }, { accessFlags := 74, nameIndex := 29, descriptorIndex := 30, attributes := #[] }, { accessFlags := 74, nameIndex := 154, descriptorIndex := 155, attributes := #[] }, { accessFlags := 10, nameIndex := 217, descriptorIndex := 218, attributes := #[] }, { accessFlags := 10, nameIndex := 221, descriptorIndex := 222, attributes := #[] }, { accessFlags := 8, nameIndex := 562, descriptorIndex := 563, attributes := #[] }])
  fields := #[{ name := "in", type := (.object "java/io/InputStream"), accessFlags := 25, slot := 0, constantValue := 0 }, { name := "out", type := (.object "java/io/PrintStream"), accessFlags := 25, slot := 1, constantValue := 0 }, { name := "err", type := (.object "java/io/PrintStream"), accessFlags := 25, slot := 2, constantValue := 0 }, { name := "initialIn", type := (.object "java/io/InputStream"), accessFlags := 10, slot := 3, constantValue := 0 }, { name := "NEVER", type := .int, accessFlags := 26, slot := 4, constantValue := 0 }, { name := "MAYBE", type := .int, accessFlags := 26, slot := 5, constantValue := 0 }, { name := "allowSecurityManager", type := .int, accessFlags := 10, slot := 6, constantValue := 0 }, { name := "security", type := (.object "java/lang/SecurityManager"), accessFlags := 74, slot := 7, constantValue := 0 }, { name := "notSupportedJnuEncoding", type := (.object "java/lang/String"), accessFlags := 10, slot := 8, constantValue := 0 }, { name := "cons", type := (.object "java/io/Console"), accessFlags := 74, slot := 9, constantValue := 0 }, { name := "initialErrStream", type := (.object "java/io/PrintStream"), accessFlags := 74, slot := 10, constantValue := 0 }, { name := "props", type := (.object "java/util/Properties"), accessFlags := 10, slot := 11, constantValue := 0 }, { name := "lineSeparator", type := (.object "java/lang/String"), accessFlags := 10, slot := 12, constantValue := 0 }, { name := "bootLayer", type := (.object "java/lang/ModuleLayer"), accessFlags := 8, slot := 13, constantValue := 0 }]
  methods := #[k3m0, k3m1]
  instanceTypes := #[]
  staticTypes := #[(.object "java/io/InputStream"), (.object "java/io/PrintStream"), (.object "java/io/PrintStream"), (.object "java/io/InputStream"), .int, .int, .int, (.object "java/lang/SecurityManager"), (.object "java/lang/String"), (.object "java/io/Console"), (.object "java/io/PrintStream"), (.object "java/util/Properties"), (.object "java/lang/String"), (.object "java/lang/ModuleLayer")]
  resolved := Array.replicate 834 none
  statics := none }

def pool4 : Array CpInfo := pool [(1, .class_ 2), (0, u "java/lang/Math"), (1, .class_ 6), (1, u "java/lang/Object"), (0, u "<init>"), (0, u "()V"), (89, .class_ 100), (1, u "java/lang/Math$RandomNumberGeneratorHolder"), (71, u "negativeZeroFloatBits"), (0, u "J"), (2, u "negativeZeroDoubleBits"), (24, u "min"), (43, u "$assertionsDisabled"), (0, u "Z"), (88, u "(II)I"), (2, u "twoToTheDoubleScaleDown"), (0, u "D"), (4, u "twoToTheDoubleScaleUp"), (9, u "E"), (3, u "PI"), (2, u "TAU"), (2, u "DEGREES_TO_RADIANS"), (0, u "RADIANS_TO_DEGREES")] 94

def k4m0 : Method := { name := "<init>", desc := "()V", sig := { parameters := [], returnType := none }, accessFlags := 2, code := none }
def k4c1 : Code := { maxStack := 2, maxLocals := 2, code := jdk_29_method_69_code, exceptionTable := #[], attributes := #[] }
def k4m1 : Method := { name := "min", desc := "(II)I", sig := { parameters := [.int, .int], returnType := some .int }, accessFlags := 9, code := some k4c1 }
/-- java/lang/Math -/
def k4 : Class := { plain "java/lang/Math" (some 0) with
  accessFlags := 49
  interfaces := #[]
  cf := some (fileOf pool4 1 #[.nestMembers #[98]] #[{ accessFlags := 2, nameIndex := 7, descriptorIndex := 8, attributes := #[] }, { accessFlags := 9, nameIndex := 201, descriptorIndex := 335, attributes := #[] }] 49 4 #[] #[{ accessFlags := 25, nameIndex := 354, descriptorIndex := 339, attributes := #[] }, { accessFlags := 25, nameIndex := 358, descriptorIndex := 339, attributes := #[] }, { accessFlags := 25, nameIndex := 361, descriptorIndex := 339, attributes := #[] }, { accessFlags := 26, nameIndex := 364, descriptorIndex := 339, attributes := #[] }, { accessFlags := 26, nameIndex := 365, descriptorIndex := 339, attributes := #[] }, { accessFlags := 26, nameIndex := 172, descriptorIndex := 173, attributes := #[] }, { accessFlags := 26, nameIndex := 176, descriptorIndex := 173, attributes := #[] }, { accessFlags := 8, nameIndex := 344, descriptorIndex := 339, attributes := #[] }, { accessFlags := 8, nameIndex := 338, descriptorIndex := 339, attributes := #[] }, { accessFlags := 4120, nameIndex := 245, descriptorIndex := 246, attributes := #[] }])
  fields := #[{ name := "E", type := .double, accessFlags := 25, slot := 0, constantValue := 0 }, { name := "PI", type := .double, accessFlags := 25, slot := 1, constantValue := 0 }, { name := "TAU", type := .double, accessFlags := 25, slot := 2, constantValue := 0 }, { name := "DEGREES_TO_RADIANS", type := .double, accessFlags := 26, slot := 3, constantValue := 0 }, { name := "RADIANS_TO_DEGREES", type := .double, accessFlags := 26, slot := 4, constantValue := 0 }, { name := "negativeZeroFloatBits", type := .long, accessFlags := 26, slot := 5, constantValue := 0 }, { name := "negativeZeroDoubleBits", type := .long, accessFlags := 26, slot := 6, constantValue := 0 }, { name := "twoToTheDoubleScaleUp", type := .double, accessFlags := 8, slot := 7, constantValue := 0 }, { name := "twoToTheDoubleScaleDown", type := .double, accessFlags := 8, slot := 8, constantValue := 0 }, { name := "$assertionsDisabled", type := .boolean, accessFlags := 4120, slot := 9, constantValue := 0 }]
  methods := #[k4m0, k4m1]
  instanceTypes := #[]
  staticTypes := #[.double, .double, .double, .double, .double, .long, .long, .double, .double, .boolean]
  resolved := Array.replicate 460 none
  statics := none }

def pool5 : Array CpInfo := pool [(2, .class_ 4), (1, u "java/lang/Object"), (0, u "<init>"), (0, u "()V"), (6, .methodref 14 15), (0, .class_ 16), (0, .nameAndType 17 18), (0, u "java/util/Arrays"), (0, u "rangeCheck"), (0, u "(III)V"), (55, .class_ 76), (1, u "java/util/Arrays$NaturalOrder"), (36, .class_ 115), (1, u "java/util/Arrays$LegacyMergeSort"), (1, u "Z"), (21, u "copyOfRange"), (10, .methodref 151 152), (0, .class_ 153), (0, .nameAndType 154 155), (0, u "java/lang/System"), (0, u "arraycopy"), (0, u "(Ljava/lang/Object;ILjava/lang/Object;II)V"), (90, .class_ 248), (1, u "jdk/internal/util/ArraysSupport"), (0, u "mismatch"), (25, .methodref 246 276), (0, .nameAndType 249 277), (0, u "([BI[BII)I"), (26, .methodref 305 306), (0, .class_ 307), (0, .nameAndType 308 309), (0, u "java/lang/Math"), (0, u "min"), (0, u "(II)I"), (29, .methodref 14 340), (0, .nameAndType 341 342), (0, u "copyOfRangeByte"), (0, u "([BII)[B"), (0, .methodref 14 344), (0, .nameAndType 345 346), (0, u "checkLength"), (0, u "(II)V"), (28, .class_ 376), (0, u "java/util/Arrays$ArrayList"), (18, .class_ 397), (1, u "java/lang/Byte"), (47, u "$assertionsDisabled"), (239, u "(BB)I"), (0, .methodref 395 687), (0, .nameAndType 688 685), (0, u "compareUnsigned"), (26, u "MIN_ARRAY_SORT_GRAN"), (0, u "I"), (2, u "INSERTIONSORT_THRESHOLD"), (217, u "([BII[BII)I"), (37, .class_ 976), (0, u "java/util/Arrays$ArrayItr")] 52

def k5m0 : Method := { name := "<init>", desc := "()V", sig := { parameters := [], returnType := none }, accessFlags := 2, code := none }
def k5c1 : Code := { maxStack := 4, maxLocals := 3, code := jdk_65_method_30_code, exceptionTable := #[], attributes := #[] }
def k5m1 : Method := { name := "rangeCheck", desc := "(III)V", sig := { parameters := [.int, .int, .int], returnType := none }, accessFlags := 8, code := some k5c1 }
def k5c2 : Code := { maxStack := 4, maxLocals := 2, code := jdk_65_method_131_code, exceptionTable := #[], attributes := #[] }
def k5m2 : Method := { name := "checkLength", desc := "(II)V", sig := { parameters := [.int, .int], returnType := none }, accessFlags := 10, code := some k5c2 }
def k5c3 : Code := { maxStack := 3, maxLocals := 3, code := jdk_65_method_132_code, exceptionTable := #[], attributes := #[] }
def k5m3 : Method := { name := "copyOfRange", desc := "([BII)[B", sig := { parameters := [(.array .byte), .int, .int], returnType := some (.array .byte) }, accessFlags := 9, code := some k5c3 }
def k5c4 : Code := { maxStack := 6, maxLocals := 5, code := jdk_65_method_133_code, exceptionTable := #[], attributes := #[] }
def k5m4 : Method := { name := "copyOfRangeByte", desc := "([BII)[B", sig := { parameters := [(.array .byte), .int, .int], returnType := some (.array .byte) }, accessFlags := 10, code := some k5c4 }
def k5c5 : Code := { maxStack := 6, maxLocals := 9, code := jdk_65_method_202_code, exceptionTable := #[], attributes := #[] }
def k5m5 : Method := { name := "compareUnsigned", desc := "([BII[BII)I", sig := { parameters := [(.array .byte), .int, .int, (.array .byte), .int, .int], returnType := some .int }, accessFlags := 9, code := some k5c5 }
/-- java/util/Arrays -/
def k5 : Class := { plain "java/util/Arrays" (some 0) with
  accessFlags := 49
  interfaces := #[]
  cf := some (fileOf pool5 14 #[.nestMembers #[975, 375, 113, 74]] #[{ accessFlags := 2, nameIndex := 5, descriptorIndex := 6, attributes := #[] }, { accessFlags := 8, nameIndex := 17, descriptorIndex := 18, attributes := #[] }, { accessFlags := 10, nameIndex := 345, descriptorIndex := 346, attributes := #[] }, { accessFlags := 9, nameIndex := 139, descriptorIndex := 342, attributes := #[] }, { accessFlags := 10, nameIndex := 341, descriptorIndex := 342, attributes := #[] }, { accessFlags := 9, nameIndex := 688, descriptorIndex := 937, attributes := #[] }] 49 2 #[] #[{ accessFlags := 26, nameIndex := 715, descriptorIndex := 716, attributes := #[] }, { accessFlags := 26, nameIndex := 719, descriptorIndex := 716, attributes := #[] }, { accessFlags := 4120, nameIndex := 445, descriptorIndex := 117, attributes := #[] }])
  fields := #[{ name := "MIN_ARRAY_SORT_GRAN", type := .int, accessFlags := 26, slot := 0, constantValue := 0 }, { name := "INSERTIONSORT_THRESHOLD", type := .int, accessFlags := 26, slot := 1, constantValue := 0 }, { name := "$assertionsDisabled", type := .boolean, accessFlags := 4120, slot := 2, constantValue := 0 }]
  methods := #[k5m0, k5m1, k5m2, k5m3, k5m4, k5m5]
  instanceTypes := #[]
  staticTypes := #[.int, .int, .boolean]
  resolved := Array.replicate 1029 none
  statics := none }

def pool6 : Array CpInfo := pool [(9, u "<init>"), (6, .class_ 18), (1, u "java/lang/Object"), (0, u "()V"), (1, .class_ 23), (1, u "jdk/internal/util/ArraysSupport"), (0, u "LOG2_ARRAY_LONG_INDEX_SCALE"), (0, u "I"), (2, u "U"), (0, u "Ljdk/internal/misc/Unsafe;"), (8, u "BIG_ENDIAN"), (0, u "Z"), (8, u "LOG2_BYTE_BIT_SIZE"), (4, u "LOG2_ARRAY_INT_INDEX_SCALE"), (54, u "JLA"), (0, u "Ljdk/internal/access/JavaLangAccess;"), (11, u "LOG2_ARRAY_BOOLEAN_INDEX_SCALE"), (9, u "LOG2_ARRAY_BYTE_INDEX_SCALE"), (5, u "LOG2_ARRAY_CHAR_INDEX_SCALE"), (5, u "LOG2_ARRAY_SHORT_INDEX_SCALE"), (5, u "mismatch"), (12, u "LOG2_ARRAY_FLOAT_INDEX_SCALE"), (24, u "LOG2_ARRAY_DOUBLE_INDEX_SCALE"), (89, u "T_BOOLEAN"), (2, u "T_CHAR"), (1, u "T_FLOAT"), (1, u "T_DOUBLE"), (1, u "T_BYTE"), (1, u "T_SHORT"), (1, u "T_INT"), (1, u "T_LONG"), (1, u "SOFT_MAX_ARRAY_LENGTH"), (42, u "([BI[BII)I")] 40

def k6m0 : Method := { name := "<init>", desc := "()V", sig := { parameters := [], returnType := none }, accessFlags := 2, code := none }
def k6c1 : Code := { maxStack := 8, maxLocals := 8, code := jdk_48_method_14_code, exceptionTable := #[], attributes := #[] }
def k6m1 : Method := { name := "mismatch", desc := "([BI[BII)I", sig := { parameters := [(.array .byte), .int, (.array .byte), .int, .int], returnType := some .int }, accessFlags := 9, code := some k6c1 }
/-- jdk/internal/util/ArraysSupport -/
def k6 : Class := { plain "jdk/internal/util/ArraysSupport" (some 0) with
  accessFlags := 33
  interfaces := #[]
  cf := some (fileOf pool6 21 #[] #[{ accessFlags := 2, nameIndex := 9, descriptorIndex := 19, attributes := #[] }, { accessFlags := 9, nameIndex := 149, descriptorIndex := 337, attributes := #[] }] 33 16 #[] #[{ accessFlags := 24, nameIndex := 28, descriptorIndex := 29, attributes := #[] }, { accessFlags := 26, nameIndex := 38, descriptorIndex := 39, attributes := #[] }, { accessFlags := 25, nameIndex := 121, descriptorIndex := 25, attributes := #[] }, { accessFlags := 25, nameIndex := 131, descriptorIndex := 25, attributes := #[] }, { accessFlags := 25, nameIndex := 137, descriptorIndex := 25, attributes := #[] }, { accessFlags := 25, nameIndex := 143, descriptorIndex := 25, attributes := #[] }, { accessFlags := 25, nameIndex := 53, descriptorIndex := 25, attributes := #[] }, { accessFlags := 25, nameIndex := 24, descriptorIndex := 25, attributes := #[] }, { accessFlags := 25, nameIndex := 162, descriptorIndex := 25, attributes := #[] }, { accessFlags := 25, nameIndex := 187, descriptorIndex := 25, attributes := #[] }, { accessFlags := 26, nameIndex := 48, descriptorIndex := 25, attributes := #[] }, { accessFlags := 25, nameIndex := 277, descriptorIndex := 25, attributes := #[] }, { accessFlags := 25, nameIndex := 280, descriptorIndex := 25, attributes := #[] }, { accessFlags := 25, nameIndex := 282, descriptorIndex := 25, attributes := #[] }, { accessFlags := 25, nameIndex := 284, descriptorIndex := 25, attributes := #[] }, { accessFlags := 25, nameIndex := 286, descriptorIndex := 25, attributes := #[] }, { accessFlags := 25, nameIndex := 288, descriptorIndex := 25, attributes := #[] }, { accessFlags := 25, nameIndex := 290, descriptorIndex := 25, attributes := #[] }, { accessFlags := 25, nameIndex := 292, descriptorIndex := 25, attributes := #[] }, { accessFlags := 26, nameIndex := 108, descriptorIndex := 109, attributes := #[] }, { accessFlags := 25, nameIndex := 294, descriptorIndex := 25, attributes := #[] }])
  fields := #[{ name := "U", type := (.object "jdk/internal/misc/Unsafe"), accessFlags := 24, slot := 0, constantValue := 0 }, { name := "BIG_ENDIAN", type := .boolean, accessFlags := 26, slot := 1, constantValue := 0 }, { name := "LOG2_ARRAY_BOOLEAN_INDEX_SCALE", type := .int, accessFlags := 25, slot := 2, constantValue := 0 }, { name := "LOG2_ARRAY_BYTE_INDEX_SCALE", type := .int, accessFlags := 25, slot := 3, constantValue := 0 }, { name := "LOG2_ARRAY_CHAR_INDEX_SCALE", type := .int, accessFlags := 25, slot := 4, constantValue := 0 }, { name := "LOG2_ARRAY_SHORT_INDEX_SCALE", type := .int, accessFlags := 25, slot := 5, constantValue := 0 }, { name := "LOG2_ARRAY_INT_INDEX_SCALE", type := .int, accessFlags := 25, slot := 6, constantValue := 0 }, { name := "LOG2_ARRAY_LONG_INDEX_SCALE", type := .int, accessFlags := 25, slot := 7, constantValue := 0 }, { name := "LOG2_ARRAY_FLOAT_INDEX_SCALE", type := .int, accessFlags := 25, slot := 8, constantValue := 0 }, { name := "LOG2_ARRAY_DOUBLE_INDEX_SCALE", type := .int, accessFlags := 25, slot := 9, constantValue := 0 }, { name := "LOG2_BYTE_BIT_SIZE", type := .int, accessFlags := 26, slot := 10, constantValue := 0 }, { name := "T_BOOLEAN", type := .int, accessFlags := 25, slot := 11, constantValue := 0 }, { name := "T_CHAR", type := .int, accessFlags := 25, slot := 12, constantValue := 0 }, { name := "T_FLOAT", type := .int, accessFlags := 25, slot := 13, constantValue := 0 }, { name := "T_DOUBLE", type := .int, accessFlags := 25, slot := 14, constantValue := 0 }, { name := "T_BYTE", type := .int, accessFlags := 25, slot := 15, constantValue := 0 }, { name := "T_SHORT", type := .int, accessFlags := 25, slot := 16, constantValue := 0 }, { name := "T_INT", type := .int, accessFlags := 25, slot := 17, constantValue := 0 }, { name := "T_LONG", type := .int, accessFlags := 25, slot := 18, constantValue := 0 }, { name := "JLA", type := (.object "jdk/internal/access/JavaLangAccess"), accessFlags := 26, slot := 19, constantValue := 0 }, { name := "SOFT_MAX_ARRAY_LENGTH", type := .int, accessFlags := 25, slot := 20, constantValue := 0 }]
  methods := #[k6m0, k6m1]
  instanceTypes := #[]
  staticTypes := #[(.object "jdk/internal/misc/Unsafe"), .boolean, .int, .int, .int, .int, .int, .int, .int, .int, .int, .int, .int, .int, .int, .int, .int, .int, .int, (.object "jdk/internal/access/JavaLangAccess"), .int]
  resolved := Array.replicate 378 none
  statics := none }

def pool7 : Array CpInfo := pool [(1, .class_ 2), (0, u "java/io/Serializable"), (0, .class_ 4), (0, u "java/lang/Object")] 2

/-- java/io/Serializable -/
def k7 : Class := { plain "java/io/Serializable" (some 0) with
  accessFlags := 1537
  interfaces := #[]
  cf := some (fileOf pool7 1 #[] #[] 1537 3 #[] #[])
  fields := #[]
  methods := #[]
  instanceTypes := #[]
  staticTypes := #[]
  resolved := Array.replicate 7 none
  statics := none }

def pool8 : Array CpInfo := pool [(2, .class_ 4), (1, u "java/lang/Object"), (0, u "<init>"), (0, u "()V"), (1, .class_ 10), (1, u "java/lang/Number"), (2, .class_ 14), (0, u "java/io/Serializable"), (0, u "serialVersionUID"), (0, u "J")] 20

def k8m0 : Method := { name := "<init>", desc := "()V", sig := { parameters := [], returnType := none }, accessFlags := 1, code := none }
/-- java/lang/Number -/
def k8 : Class := { plain "java/lang/Number" (some 0) with
  accessFlags := 1057
  interfaces := #[7]
  cf := some (fileOf pool8 8 #[] #[{ accessFlags := 1, nameIndex := 5, descriptorIndex := 6, attributes := #[] }] 1057 2 #[13] #[{ accessFlags := 26, nameIndex := 15, descriptorIndex := 16, attributes := #[] }])
  fields := #[{ name := "serialVersionUID", type := .long, accessFlags := 26, slot := 0, constantValue := 0 }]
  methods := #[k8m0]
  instanceTypes := #[]
  staticTypes := #[.long]
  resolved := Array.replicate 37 none
  statics := none }

def pool9 : Array CpInfo := pool [(1, .class_ 2), (0, u "java/lang/Comparable"), (0, .class_ 4), (0, u "java/lang/Object")] 7

/-- java/lang/Comparable -/
def k9 : Class := { plain "java/lang/Comparable" (some 0) with
  accessFlags := 1537
  interfaces := #[]
  cf := some (fileOf pool9 1 #[] #[] 1537 3 #[] #[])
  fields := #[]
  methods := #[]
  instanceTypes := #[]
  staticTypes := #[]
  resolved := Array.replicate 12 none
  statics := none }

def pool10 : Array CpInfo := pool [(1, .class_ 2), (0, u "java/lang/constant/Constable"), (0, .class_ 4), (0, u "java/lang/Object")] 6

/-- java/lang/constant/Constable -/
def k10 : Class := { plain "java/lang/constant/Constable" (some 0) with
  accessFlags := 1537
  interfaces := #[]
  cf := some (fileOf pool10 1 #[] #[] 1537 3 #[] #[])
  fields := #[]
  methods := #[]
  instanceTypes := #[]
  staticTypes := #[]
  resolved := Array.replicate 11 none
  statics := none }

def pool11 : Array CpInfo := pool [(1, .class_ 2), (0, u "java/lang/Byte"), (41, .class_ 46), (1, u "java/lang/Byte$ByteCache"), (51, .class_ 99), (0, u "java/lang/Number"), (2, u "value"), (0, u "B"), (3, u "(B)I"), (7, u "(BB)I"), (0, .methodref 1 117), (0, .nameAndType 118 107), (0, u "toUnsignedInt"), (16, u "TYPE"), (0, u "Ljava/lang/Class;"), (0, .class_ 138), (0, u "java/lang/Comparable"), (0, .class_ 140), (0, u "java/lang/constant/Constable"), (0, u "MIN_VALUE"), (2, u "MAX_VALUE"), (3, u "SIZE"), (0, u "I"), (1, u "BYTES"), (1, u "serialVersionUID"), (0, u "J"), (45, u "compareUnsigned")] 12

def k11c0 : Code := { maxStack := 2, maxLocals := 2, code := jdk_2056_method_23_code, exceptionTable := #[], attributes := #[] }
def k11m0 : Method := { name := "compareUnsigned", desc := "(BB)I", sig := { parameters := [.byte, .byte], returnType := some .int }, accessFlags := 9, code := some k11c0 }
def k11c1 : Code := { maxStack := 2, maxLocals := 1, code := jdk_2056_method_24_code, exceptionTable := #[], attributes := #[] }
def k11m1 : Method := { name := "toUnsignedInt", desc := "(B)I", sig := { parameters := [.byte], returnType := some .int }, accessFlags := 9, code := some k11c1 }
/-- java/lang/Byte -/
def k11 : Class := { plain "java/lang/Byte" (some 8) with
  accessFlags := 49
  interfaces := #[9, 10]
  cf := some (fileOf pool11 1 #[.nestMembers #[44]] #[{ accessFlags := 9, nameIndex := 200, descriptorIndex := 115, attributes := #[] }, { accessFlags := 9, nameIndex := 118, descriptorIndex := 107, attributes := #[] }] 49 98 #[137, 139] #[{ accessFlags := 25, nameIndex := 141, descriptorIndex := 103, attributes := #[] }, { accessFlags := 25, nameIndex := 144, descriptorIndex := 103, attributes := #[] }, { accessFlags := 25, nameIndex := 135, descriptorIndex := 136, attributes := #[] }, { accessFlags := 18, nameIndex := 102, descriptorIndex := 103, attributes := #[] }, { accessFlags := 25, nameIndex := 148, descriptorIndex := 149, attributes := #[] }, { accessFlags := 25, nameIndex := 151, descriptorIndex := 149, attributes := #[] }, { accessFlags := 26, nameIndex := 153, descriptorIndex := 154, attributes := #[] }])
  fields := #[{ name := "MIN_VALUE", type := .byte, accessFlags := 25, slot := 0, constantValue := 0 }, { name := "MAX_VALUE", type := .byte, accessFlags := 25, slot := 1, constantValue := 0 }, { name := "TYPE", type := (.object "java/lang/Class"), accessFlags := 25, slot := 2, constantValue := 0 }, { name := "value", type := .byte, accessFlags := 18, slot := 0, constantValue := 0 }, { name := "SIZE", type := .int, accessFlags := 25, slot := 3, constantValue := 0 }, { name := "BYTES", type := .int, accessFlags := 25, slot := 4, constantValue := 0 }, { name := "serialVersionUID", type := .long, accessFlags := 26, slot := 5, constantValue := 0 }]
  methods := #[k11m0, k11m1]
  instanceTypes := #[.byte]
  staticTypes := #[.byte, .byte, (.object "java/lang/Class"), .int, .int, .long]
  resolved := Array.replicate 213 none
  statics := none }

def pool12 : Array CpInfo := pool [(1, u "java/lang/Cloneable"), (0, .class_ 1), (0, u "java/lang/Object"), (0, .class_ 3)] 3

/-- java/lang/Cloneable -/
def k12 : Class := { plain "java/lang/Cloneable" (some 0) with
  accessFlags := 1537
  interfaces := #[]
  cf := some (fileOf pool12 2 #[] #[] 1537 4 #[] #[])
  fields := #[]
  methods := #[]
  instanceTypes := #[]
  staticTypes := #[]
  resolved := Array.replicate 8 none
  statics := none }

/-- the primitive byte -/
def k13 : Class := { plain "byte" none with kind := .primitive 'B', accessFlags := 0x411 }
/-- [B -/
def k14 : Class := { plain "[B" (some 0) with kind := .array 13 .byte, interfaces := #[12, 7], accessFlags := 1041 }

/-- the primitive int -/
def k15 : Class := { plain "int" none with kind := .primitive 'I', accessFlags := 0x411 }
/-- [I -/
def k16 : Class := { plain "[I" (some 0) with kind := .array 15 .int, interfaces := #[12, 7], accessFlags := 1041 }

def heap : Heap := #[]
def classes : Array Class := #[k0, k1, k2, k3, k4, k5, k6, k7, k8, k9, k10, k11, k12, k13, k14, k15, k16]
def interned : List (Array UInt16 × Addr) := []
def slotsUsed : Nat := 0
def theMethod : MethodId := ⟨1, 1⟩
def args0 : Array Value := #[.int 5, .int 6, .long 7]
def aboutOver (below : List Frame) : State where
  vm := { classes := classes, interned := interned.toArray }
  heap := heap
  slotsUsed := slotsUsed
  threads := #[{ frames := .invoking theMethod args0 :: below }]
def below0 : List Frame := [.native { method := ⟨0, 0⟩, args := #[] }]
def about1 : State := aboutOver below0
def p0 : Program := .bare "" "" ""
def e0 : Env := launch0.env 0 0 0
theorem w_frames : about1.frames = Frame.invoking theMethod args0 :: below0 := rfl
set_option maxRecDepth 65536 in
theorem w_args : argsFit about1.vm theMethod args0 = true := by decide +kernel
set_option maxRecDepth 65536 in
theorem w_heap : heapFits about1 = true := by decide +kernel
set_option maxRecDepth 65536 in
theorem w_runnable : about1.curStatus? = some .runnable := by decide +kernel
set_option maxRecDepth 65536 in
theorem w_alone : about1.alone = true := by decide +kernel
set_option maxRecDepth 65536 in
theorem w_named : about1.methodNamed? x = some theMethod := by decide +kernel
set_option maxRecDepth 65536 in
theorem w_hears : about1.hears theMethod below0 = true := by decide +kernel
set_option maxRecDepth 65536 in
theorem w_ripe : about1.ripe theMethod args0 below0 = true := by decide +kernel
theorem w_running : about1.status = .running := rfl
set_option maxRecDepth 65536 in
theorem w_room : about1.hasRoom e0.platform room_1 = true :=
  launch0.hasRoom_least _ room_1 (by decide +kernel) (by decide +kernel) (by decide +kernel) (by decide +kernel) (by decide +kernel) (by decide +kernel)
theorem allAtoms_all (ts : List Jvm.Cond) (a : Array Jvm.Value) (st : Jvm.State) : (allAtoms ts).before a st = ts.all (fun c => c.before a st) := by
  induction ts with
  | nil => rfl
  | cons c t ih =>
    show (Jvm.Cond.and c (allAtoms t)).before a st = _
    rw [Jvm.Cond.before_and, ih, List.all_cons]
def words1 : List Jvm.Cond := Jvm.Cond.code x code maxLocals ret :: tables_1
/-- a 'code' word, met by the world's own term for the bytes: nothing is compared byte by byte -/
theorem code_word {y : MethodName} {bytes : ByteArray} {mx : Nat} {rt : Option FieldType} {a : Array Value} {s : State} {m : MethodId} {meth : Method} {c : Code} (h1 : s.methodNamed? y = some m) (h2 : s.vm.method? m = some meth) (h3 : meth.code = some c) (h4 : c.code = bytes)
    (h5 : (c.maxLocals == mx && c.exceptionTable.isEmpty && decide (c.maxStack ≤ mostOperands) && decide (meth.sig.returnType = rt) && !meth.locks && decide (parseMethodDescriptor y.desc = some meth.sig)) = true) : (Jvm.Cond.code y bytes mx rt).before a s = true := by
  simp only [Bool.and_eq_true, beq_iff_eq, Bool.not_eq_true', decide_eq_true_eq] at h5
  obtain ⟨⟨⟨⟨⟨g1, g2⟩, g3⟩, g4⟩, g5⟩, g6⟩ := h5
  simp [Cond.before, Cond.holds, Cond.value, h1, h2, h3, h4, g1, g2, g3, g4, g5, g6]
def isCode : Jvm.Cond → Bool
  | .code _ _ _ _ => true
  | _ => false
theorem all_split {L : List Jvm.Cond} {P : Jvm.Cond → Bool} (h1 : L.all (fun c => isCode c || P c) = true) (h2 : ∀ c ∈ L.filter isCode, P c = true) : L.all P = true := by
  refine List.all_eq_true.mpr fun c hc => ?_
  have h := List.all_eq_true.mp h1 c hc
  rcases Bool.eq_false_or_eq_true (isCode c) with hi | hi
  · exact h2 c (List.mem_filter.mpr ⟨hc, hi⟩)
  · simpa [hi] using h
set_option maxRecDepth 65536 in
theorem w_c0 : (Jvm.Cond.code x code maxLocals ret).before args0 about1 = true := code_word (m := ⟨1, 1⟩) (meth := k1m1) (c := k1c1) (by decide +kernel) rfl rfl rfl (by decide +kernel)
set_option maxRecDepth 65536 in
theorem w_c1 : (Jvm.Cond.code ({ cls := "com/example/measurewright/measurewright/cli/NameBatch", name := "<init>", desc := "(II)V" } : Jvm.MethodName) prog_6_method_1_code (3 : Nat) (Option.none : Option Jvm.ClassFile.FieldType)).before args0 about1 = true := code_word (m := ⟨2, 0⟩) (meth := k2m0) (c := k2c0) (by decide +kernel) rfl rfl rfl (by decide +kernel)
set_option maxRecDepth 65536 in
theorem w_c2 : (Jvm.Cond.code ({ cls := "java/lang/Object", name := "<init>", desc := "()V" } : Jvm.MethodName) object_method_1_code (1 : Nat) (Option.none : Option Jvm.ClassFile.FieldType)).before args0 about1 = true := code_word (m := ⟨0, 0⟩) (meth := k0m0) (c := k0c0) (by decide +kernel) rfl rfl rfl (by decide +kernel)
set_option maxRecDepth 65536 in
theorem w_c3 : (Jvm.Cond.code ({ cls := "com/example/measurewright/measurewright/cli/NameBatch", name := "letAnyGo", desc := "()Z" } : Jvm.MethodName) prog_6_method_4_code (1 : Nat) (Option.some Jvm.ClassFile.FieldType.boolean)).before args0 about1 = true := code_word (m := ⟨2, 3⟩) (meth := k2m3) (c := k2c3) (by decide +kernel) rfl rfl rfl (by decide +kernel)
set_option maxRecDepth 65536 in
theorem w_c4 : (Jvm.Cond.code ({ cls := "com/example/measurewright/measurewright/cli/NameBatch", name := "clear", desc := "()V" } : Jvm.MethodName) prog_6_method_2_code (1 : Nat) (Option.none : Option Jvm.ClassFile.FieldType)).before args0 about1 = true := code_word (m := ⟨2, 1⟩) (meth := k2m1) (c := k2c1) (by decide +kernel) rfl rfl rfl (by decide +kernel)
set_option maxRecDepth 65536 in
theorem w_c5 : (Jvm.Cond.code ({ cls := "com/example/measurewright/measurewright/cli/NameBatch", name := "offer", desc := "([BII)V" } : Jvm.MethodName) prog_6_method_3_code (5 : Nat) (Option.none : Option Jvm.ClassFile.FieldType)).before args0 about1 = true := code_word (m := ⟨2, 2⟩) (meth := k2m2) (c := k2c2) (by decide +kernel) rfl rfl rfl (by decide +kernel)
set_option maxRecDepth 65536 in
theorem w_c6 : (Jvm.Cond.code ({ cls := "com/example/measurewright/measurewright/cli/NameBatch", name := "halve", desc := "()V" } : Jvm.MethodName) prog_6_method_8_code (7 : Nat) (Option.none : Option Jvm.ClassFile.FieldType)).before args0 about1 = true := code_word (m := ⟨2, 5⟩) (meth := k2m5) (c := k2c5) (by decide +kernel) rfl rfl rfl (by decide +kernel)
set_option maxRecDepth 65536 in
theorem w_c7 : (Jvm.Cond.code ({ cls := "com/example/measurewright/measurewright/cli/NameBatch", name := "sort", desc := "()V" } : Jvm.MethodName) prog_6_method_6_code (3 : Nat) (Option.none : Option Jvm.ClassFile.FieldType)).before args0 about1 = true := code_word (m := ⟨2, 4⟩) (meth := k2m4) (c := k2c4) (by decide +kernel) rfl rfl rfl (by decide +kernel)
set_option maxRecDepth 65536 in
theorem w_c8 : (Jvm.Cond.code ({ cls := "java/lang/Math", name := "min", desc := "(II)I" } : Jvm.MethodName) jdk_29_method_69_code (2 : Nat) (Option.some Jvm.ClassFile.FieldType.int)).before args0 about1 = true := code_word (m := ⟨4, 1⟩) (meth := k4m1) (c := k4c1) (by decide +kernel) rfl rfl rfl (by decide +kernel)
set_option maxRecDepth 65536 in
theorem w_c9 : (Jvm.Cond.code ({ cls := "com/example/measurewright/measurewright/cli/NameBatch", name := "merge", desc := "(III)V" } : Jvm.MethodName) prog_6_method_9_code (7 : Nat) (Option.none : Option Jvm.ClassFile.FieldType)).before args0 about1 = true := code_word (m := ⟨2, 6⟩) (meth := k2m6) (c := k2c6) (by decide +kernel) rfl rfl rfl (by decide +kernel)
set_option maxRecDepth 65536 in
theorem w_c10 : (Jvm.Cond.code ({ cls := "com/example/measurewright/measurewright/cli/NameBatch", name := "compare", desc := "(II)I" } : Jvm.MethodName) prog_6_method_10_code (3 : Nat) (Option.some Jvm.ClassFile.FieldType.int)).before args0 about1 = true := code_word (m := ⟨2, 7⟩) (meth := k2m7) (c := k2c7) (by decide +kernel) rfl rfl rfl (by decide +kernel)
set_option maxRecDepth 65536 in
theorem w_c11 : (Jvm.Cond.code ({ cls := "com/example/measurewright/measurewright/cli/NameBatch", name := "end", desc := "(I)I" } : Jvm.MethodName) prog_6_method_11_code (2 : Nat) (Option.some Jvm.ClassFile.FieldType.int)).before args0 about1 = true := code_word (m := ⟨2, 8⟩) (meth := k2m8) (c := k2c8) (by decide +kernel) rfl rfl rfl (by decide +kernel)
set_option maxRecDepth 65536 in
theorem w_c12 : (Jvm.Cond.code ({ cls := "java/util/Arrays", name := "compareUnsigned", desc := "([BII[BII)I" } : Jvm.MethodName) jdk_65_method_202_code (9 : Nat) (Option.some Jvm.ClassFile.FieldType.int)).before args0 about1 = true := code_word (m := ⟨5, 5⟩) (meth := k5m5) (c := k5c5) (by decide +kernel) rfl rfl rfl (by decide +kernel)
set_option maxRecDepth 65536 in
theorem w_c13 : (Jvm.Cond.code ({ cls := "java/util/Arrays", name := "rangeCheck", desc := "(III)V" } : Jvm.MethodName) jdk_65_method_30_code (3 : Nat) (Option.none : Option Jvm.ClassFile.FieldType)).before args0 about1 = true := code_word (m := ⟨5, 1⟩) (meth := k5m1) (c := k5c1) (by decide +kernel) rfl rfl rfl (by decide +kernel)
set_option maxRecDepth 65536 in
theorem w_c14 : (Jvm.Cond.code ({ cls := "jdk/internal/util/ArraysSupport", name := "mismatch", desc := "([BI[BII)I" } : Jvm.MethodName) jdk_48_method_14_code (8 : Nat) (Option.some Jvm.ClassFile.FieldType.int)).before args0 about1 = true := code_word (m := ⟨6, 1⟩) (meth := k6m1) (c := k6c1) (by decide +kernel) rfl rfl rfl (by decide +kernel)
set_option maxRecDepth 65536 in
theorem w_c15 : (Jvm.Cond.code ({ cls := "java/util/Arrays", name := "copyOfRange", desc := "([BII)[B" } : Jvm.MethodName) jdk_65_method_132_code (3 : Nat) (Option.some (Jvm.ClassFile.FieldType.array Jvm.ClassFile.FieldType.byte))).before args0 about1 = true := code_word (m := ⟨5, 3⟩) (meth := k5m3) (c := k5c3) (by decide +kernel) rfl rfl rfl (by decide +kernel)
set_option maxRecDepth 65536 in
theorem w_c16 : (Jvm.Cond.code ({ cls := "java/util/Arrays", name := "copyOfRangeByte", desc := "([BII)[B" } : Jvm.MethodName) jdk_65_method_133_code (5 : Nat) (Option.some (Jvm.ClassFile.FieldType.array Jvm.ClassFile.FieldType.byte))).before args0 about1 = true := code_word (m := ⟨5, 4⟩) (meth := k5m4) (c := k5c4) (by decide +kernel) rfl rfl rfl (by decide +kernel)
set_option maxRecDepth 65536 in
theorem w_c17 : (Jvm.Cond.code ({ cls := "java/util/Arrays", name := "checkLength", desc := "(II)V" } : Jvm.MethodName) jdk_65_method_131_code (2 : Nat) (Option.none : Option Jvm.ClassFile.FieldType)).before args0 about1 = true := code_word (m := ⟨5, 2⟩) (meth := k5m2) (c := k5c2) (by decide +kernel) rfl rfl rfl (by decide +kernel)
set_option maxRecDepth 65536 in
theorem w_c18 : (Jvm.Cond.code ({ cls := "java/lang/Byte", name := "compareUnsigned", desc := "(BB)I" } : Jvm.MethodName) jdk_2056_method_23_code (2 : Nat) (Option.some Jvm.ClassFile.FieldType.int)).before args0 about1 = true := code_word (m := ⟨11, 0⟩) (meth := k11m0) (c := k11c0) (by decide +kernel) rfl rfl rfl (by decide +kernel)
set_option maxRecDepth 65536 in
theorem w_c19 : (Jvm.Cond.code ({ cls := "java/lang/Byte", name := "toUnsignedInt", desc := "(B)I" } : Jvm.MethodName) jdk_2056_method_24_code (1 : Nat) (Option.some Jvm.ClassFile.FieldType.int)).before args0 about1 = true := code_word (m := ⟨11, 1⟩) (meth := k11m1) (c := k11c1) (by decide +kernel) rfl rfl rfl (by decide +kernel)
def codes1 : List Jvm.Cond := [Jvm.Cond.code x code maxLocals ret, Jvm.Cond.code ({ cls := "com/example/measurewright/measurewright/cli/NameBatch", name := "<init>", desc := "(II)V" } : Jvm.MethodName) prog_6_method_1_code (3 : Nat) (Option.none : Option Jvm.ClassFile.FieldType), Jvm.Cond.code ({ cls := "java/lang/Object", name := "<init>", desc := "()V" } : Jvm.MethodName) object_method_1_code (1 : Nat) (Option.none : Option Jvm.ClassFile.FieldType), Jvm.Cond.code ({ cls := "com/example/measurewright/measurewright/cli/NameBatch", name := "letAnyGo", desc := "()Z" } : Jvm.MethodName) prog_6_method_4_code (1 : Nat) (Option.some Jvm.ClassFile.FieldType.boolean), Jvm.Cond.code ({ cls := "com/example/measurewright/measurewright/cli/NameBatch", name := "clear", desc := "()V" } : Jvm.MethodName) prog_6_method_2_code (1 : Nat) (Option.none : Option Jvm.ClassFile.FieldType), Jvm.Cond.code ({ cls := "com/example/measurewright/measurewright/cli/NameBatch", name := "offer", desc := "([BII)V" } : Jvm.MethodName) prog_6_method_3_code (5 : Nat) (Option.none : Option Jvm.ClassFile.FieldType), Jvm.Cond.code ({ cls := "com/example/measurewright/measurewright/cli/NameBatch", name := "halve", desc := "()V" } : Jvm.MethodName) prog_6_method_8_code (7 : Nat) (Option.none : Option Jvm.ClassFile.FieldType), Jvm.Cond.code ({ cls := "com/example/measurewright/measurewright/cli/NameBatch", name := "sort", desc := "()V" } : Jvm.MethodName) prog_6_method_6_code (3 : Nat) (Option.none : Option Jvm.ClassFile.FieldType), Jvm.Cond.code ({ cls := "java/lang/Math", name := "min", desc := "(II)I" } : Jvm.MethodName) jdk_29_method_69_code (2 : Nat) (Option.some Jvm.ClassFile.FieldType.int), Jvm.Cond.code ({ cls := "com/example/measurewright/measurewright/cli/NameBatch", name := "merge", desc := "(III)V" } : Jvm.MethodName) prog_6_method_9_code (7 : Nat) (Option.none : Option Jvm.ClassFile.FieldType), Jvm.Cond.code ({ cls := "com/example/measurewright/measurewright/cli/NameBatch", name := "compare", desc := "(II)I" } : Jvm.MethodName) prog_6_method_10_code (3 : Nat) (Option.some Jvm.ClassFile.FieldType.int), Jvm.Cond.code ({ cls := "com/example/measurewright/measurewright/cli/NameBatch", name := "end", desc := "(I)I" } : Jvm.MethodName) prog_6_method_11_code (2 : Nat) (Option.some Jvm.ClassFile.FieldType.int), Jvm.Cond.code ({ cls := "java/util/Arrays", name := "compareUnsigned", desc := "([BII[BII)I" } : Jvm.MethodName) jdk_65_method_202_code (9 : Nat) (Option.some Jvm.ClassFile.FieldType.int), Jvm.Cond.code ({ cls := "java/util/Arrays", name := "rangeCheck", desc := "(III)V" } : Jvm.MethodName) jdk_65_method_30_code (3 : Nat) (Option.none : Option Jvm.ClassFile.FieldType), Jvm.Cond.code ({ cls := "jdk/internal/util/ArraysSupport", name := "mismatch", desc := "([BI[BII)I" } : Jvm.MethodName) jdk_48_method_14_code (8 : Nat) (Option.some Jvm.ClassFile.FieldType.int), Jvm.Cond.code ({ cls := "java/util/Arrays", name := "copyOfRange", desc := "([BII)[B" } : Jvm.MethodName) jdk_65_method_132_code (3 : Nat) (Option.some (Jvm.ClassFile.FieldType.array Jvm.ClassFile.FieldType.byte)), Jvm.Cond.code ({ cls := "java/util/Arrays", name := "copyOfRangeByte", desc := "([BII)[B" } : Jvm.MethodName) jdk_65_method_133_code (5 : Nat) (Option.some (Jvm.ClassFile.FieldType.array Jvm.ClassFile.FieldType.byte)), Jvm.Cond.code ({ cls := "java/util/Arrays", name := "checkLength", desc := "(II)V" } : Jvm.MethodName) jdk_65_method_131_code (2 : Nat) (Option.none : Option Jvm.ClassFile.FieldType), Jvm.Cond.code ({ cls := "java/lang/Byte", name := "compareUnsigned", desc := "(BB)I" } : Jvm.MethodName) jdk_2056_method_23_code (2 : Nat) (Option.some Jvm.ClassFile.FieldType.int), Jvm.Cond.code ({ cls := "java/lang/Byte", name := "toUnsignedInt", desc := "(B)I" } : Jvm.MethodName) jdk_2056_method_24_code (1 : Nat) (Option.some Jvm.ClassFile.FieldType.int)]
set_option maxRecDepth 65536 in
theorem codes_eq : words1.filter isCode = codes1 := rfl
theorem w_codes : ∀ c ∈ words1.filter isCode, c.before args0 about1 = true := by
  rw [codes_eq]
  intro c hc
  simp only [codes1, List.mem_cons, List.not_mem_nil, or_false] at hc
  rcases hc with rfl | rfl | rfl | rfl | rfl | rfl | rfl | rfl | rfl | rfl | rfl | rfl | rfl | rfl | rfl | rfl | rfl | rfl | rfl | rfl
  · exact w_c0
  · exact w_c1
  · exact w_c2
  · exact w_c3
  · exact w_c4
  · exact w_c5
  · exact w_c6
  · exact w_c7
  · exact w_c8
  · exact w_c9
  · exact w_c10
  · exact w_c11
  · exact w_c12
  · exact w_c13
  · exact w_c14
  · exact w_c15
  · exact w_c16
  · exact w_c17
  · exact w_c18
  · exact w_c19
set_option maxRecDepth 65536 in
theorem w_t1 : (words1.take 24).all (fun c => isCode c || c.before args0 about1) = true := by decide +kernel
set_option maxRecDepth 65536 in
theorem w_t2 : ((words1.drop 24).take 24).all (fun c => isCode c || c.before args0 about1) = true := by decide +kernel
set_option maxRecDepth 65536 in
theorem w_t3 : (((words1.drop 24).drop 24).take 24).all (fun c => isCode c || c.before args0 about1) = true := by decide +kernel
set_option maxRecDepth 65536 in
theorem w_t4 : ((((words1.drop 24).drop 24).drop 24).take 24).all (fun c => isCode c || c.before args0 about1) = true := by decide +kernel
set_option maxRecDepth 65536 in
theorem w_t5 : ((((words1.drop 24).drop 24).drop 24).drop 24).all (fun c => isCode c || c.before args0 about1) = true := by decide +kernel
theorem w_tables : (allAtoms (Jvm.Cond.code x code maxLocals ret :: tables_1)).before args0 about1 = true := by
  rw [allAtoms_all]
  show words1.all (fun c => c.before args0 about1) = true
  refine all_split ?_ w_codes
  rw [← List.take_append_drop 24 words1, List.all_append, w_t1, ← List.take_append_drop 24 (words1.drop 24), List.all_append, w_t2, ← List.take_append_drop 24 ((words1.drop 24).drop 24), List.all_append, w_t3, ← List.take_append_drop 24 (((words1.drop 24).drop 24).drop 24), List.all_append, w_t4, w_t5]
  rfl
set_option maxRecDepth 65536 in
theorem w_case : (Jvm.Cond.and given_1 narrow_1).before args0 about1 = true := by decide +kernel
theorem w_applies : (headSpec (Jvm.Cond.code x code maxLocals ret :: tables_1) room_1).applies x e0.platform about1 = true :=
  (Spec.applies_iff w_frames).mpr ⟨w_running, w_runnable, w_alone, w_named, w_hears, w_ripe, w_room, w_tables⟩
theorem atStart : AtStart classFile x code maxLocals ret World_1 tables_1 room_1 Calls_1 rest_1 Pre_1 launch0 p0 e0 about1 theMethod args0 below0 :=
  ⟨lists_1, trivial, launch0.admits_env _ _ _, launch0.least_env, fairChoices_fair.cas, fairChoices_fair.clock, w_frames, w_args, w_heap, w_applies, trivial, trivial, w_case⟩
end start1
theorem witness_1 : WitnessClaimed_1 := ⟨start1.p0, start1.e0, start1.about1, start1.theMethod, start1.args0, start1.below0, start1.atStart⟩
end Jvm.Pilot.@@N@@
