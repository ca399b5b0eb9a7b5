import JvmDerived
import JvmDerived.Pilot.@@N@@Statement
import JvmDerived.Pilot.@@N@@Code
set_option linter.unusedVariables false
set_option linter.unusedSimpArgs false
namespace Jvm.RoadKit
open Sem ClassFile Op Lib Jvm.Stand Jvm.Free Jvm.LawKit
section New
variable {p : Program} {l : Launch} {e : Env} {R : Room} {s : State} {m : MethodId} {args : Array Value} {below : List Frame} {meth : Method} {c : Code} {T : State} {locs : List Loc} {cells slots : Nat}
theorem retI (X : Stand p l e R s m args below meth c T locs cells slots) (hx : p.tables.exec = Jvm.exec) {pc : Nat} {Ls : Array Slot} {z : Int32} {rest : List Value} (hret : meth.sig.returnType = some .int) (hd : decode c.code pc = .ok (.ireturn, 1)) {fs : List Frame}
    (hl : ∀ (f : JFrame) (acts : List Action), f.method = m → f.locked = none → f.entered = [] → (doReturn e (T.setTop f) acts (some (.int z))).1 = T.setFrames fs) : Steps p.tables e below (T.setTop (mkF m pc Ls (.int z :: rest))) (T.setFrames fs) := by
  have hm' : T.vm.method? m = some meth := X.method'
  have hn : narrow .int (.int z) = .int z := rfl
  show Steps p.tables e below (T.setTop { method := m, pc := pc, locals := Ls, stack := _ :: rest, locked := none }) _
  jvm_step X.here [X.here.top, hx, hd, hm', hret, hn]
  first | (intro acts; rw [hl _ acts rfl rfl rfl]) | rw [hl _ _ rfl rfl rfl]
  exact Steps.refl _
theorem retD (X : Stand p l e R s m args below meth c T locs cells slots) (hx : p.tables.exec = Jvm.exec) {pc : Nat} {Ls : Array Slot} {z : UInt64} {rest : List Value} (hret : meth.sig.returnType = some .double) (hd : decode c.code pc = .ok (.dreturn, 1)) {fs : List Frame}
    (hl : ∀ (f : JFrame) (acts : List Action), f.method = m → f.locked = none → f.entered = [] → (doReturn e (T.setTop f) acts (some (.double z))).1 = T.setFrames fs) : Steps p.tables e below (T.setTop (mkF m pc Ls (.double z :: rest))) (T.setFrames fs) := by
  have hm' : T.vm.method? m = some meth := X.method'
  have hn : narrow .double (.double z) = .double z := rfl
  show Steps p.tables e below (T.setTop { method := m, pc := pc, locals := Ls, stack := _ :: rest, locked := none }) _
  jvm_step X.here [X.here.top, hx, hd, hm', hret, hn]
  first | (intro acts; rw [hl _ acts rfl rfl rfl]) | rw [hl _ _ rfl rfl rfl]
  exact Steps.refl _
end New
end Jvm.RoadKit
namespace Jvm.Pilot.@@N@@
open Jvm Jvm.ClassFile Sem Op Lib Jvm.Free Jvm.Stand Jvm.LawKit Jvm.RoadKit Bundle Jvm.Pilot.@@N@@.Jvm.D
theorem own_at {Z : State} {a0 : Array Value} (hw : ∀ d ∈ tables_1, d.before a0 Z = true) (i : Nat) {d : Jvm.Cond} (h : tables_1[i]? = some d) : d.before a0 Z = true := hw _ (List.mem_of_getElem? h)
abbrev OwnS (p : Program) (e : Env) (below : List Frame) (T : State) (g : JFrame) (t : State) : Prop := Steps p.tables e below (T.setTop g) t
theorem own_selpriv {s : State} {args : Array Value} {y : MethodName} {n : Nat} (hy : y.cls ≠ "java/lang/invoke/MethodHandle" ∧ y.cls ≠ "java/lang/invoke/VarHandle") (hins : (Jvm.Cond.instantiable y.cls n).before args s = true) (hp : (Jvm.Cond.privateMethod y).before args s = true) (hi : (Jvm.Cond.instanceMethod y).before args s = true) : (Jvm.Cond.selects y.cls y y).before args s = true := by
  obtain ⟨c, k, hc, hk, -, hniab, -⟩ := Cond.instantiable_spec hins
  exact selects_self_of_private hc hk (Bool.or_eq_false_iff.mp hniab).1 (Cond.privateMethod_at hp) hi hy
theorem own_irr (x : Int32) : ¬ (x < x) := by rw [Int32.lt_iff_toInt_lt]; omega
theorem own_asymm {x y : Int32} (h : x < y) : ¬ (y < x) := by rw [Int32.lt_iff_toInt_lt] at *; omega
theorem own_irr64 (x : Int64) : ¬ (x < x) := by rw [Int64.lt_iff_toInt_lt]; omega
theorem own_asymm64 {x y : Int64} (h : x < y) : ¬ (y < x) := by rw [Int64.lt_iff_toInt_lt] at *; omega
theorem own_ne {x y : Int32} (h : x < y) : ¬ (x = y) := fun q => own_irr x (by rw [← q] at h; exact h)
theorem own_ne' {x y : Int32} (h : x < y) : ¬ (y = x) := fun q => own_irr x (by rw [q] at h; exact h)
theorem own_tri (x y : Int32) : x < y ∨ x = y ∨ y < x := by
  rw [Int32.lt_iff_toInt_lt, Int32.lt_iff_toInt_lt, ← Int32.toInt_inj]; omega
theorem own_ns {Z : State} {h : Heap} {a : Addr} {C : String} (F : Exa Z h a C) : ∃ cell : Cell, h[a]? = some cell ∧ cell.vm.isStatics = false := by
  obtain ⟨cell, k, h1, -, -, h4, -⟩ := F; exact ⟨cell, h1, h4⟩
theorem own_sta_keep {Z : State} {h h' : Heap} {ws : List Addr} {C n d : String} {v : Value} (F : Sta Z h C n d v) (K : Keep h h' ws) (q : ∀ x ∈ ws, ∃ cell : Cell, h[x]? = some cell ∧ cell.vm.isStatics = false) : Sta Z h' C n d v := by
  obtain ⟨cf, i, k, f, st, cell, h1, h2, h3, h4, h5, h6, h7⟩ := F
  refine ⟨cf, i, k, f, st, cell, h1, h2, h3, h4, K.2.1 st cell h5 fun r => ?_, h6, h7⟩
  obtain ⟨c2, g1, g2⟩ := q st r
  cases h5.symm.trans g1
  rw [g2] at h6; cases h6
theorem own_eq_int {args : Array Value} {first s : State} {o : Option Outcome} {idx : List Nat} {t : Term} {k : Int32} (h : (Jvm.Cond.eq t (.int k)).value args first o s idx = some true) : t.eval args first o idx s = some (.int k) := by
  simp only [Cond.value, Term.eval] at h
  cases ht : t.eval args first o idx s with
  | none => simp [ht] at h
  | some x => cases x <;> simp [ht] at h ⊢; exact h
section
variable {p : Program} {l : Launch} {e : Env} {R : Room} {s : State} {m : MethodId} {args : Array Value} {below : List Frame} {meth : Method} {c : Code} {T t : State} {locs : List Loc} {cells slots : Nat} {cd : ByteArray} {pc : Nat} {ls : Array Slot} {st : List Value}
theorem oIn (X : Stand p l e R s m args below meth c T locs cells slots) (hx : p.tables.exec = Jvm.exec) (hy : c.code = cd) {k : Fin 4} {v : Int32} (hd : decode cd pc = .ok (.iload_n k, 1)) (hl : ls[k.val]? = some (.val (.int v))) (hr : OwnS p e below T (mkF m (pc + 1) ls (.int v :: st)) t) : OwnS p e below T (mkF m pc ls st) t := XS.iloadN X.here hx rfl (hb hy hd) hl hr
theorem oIl (X : Stand p l e R s m args below meth c T locs cells slots) (hx : p.tables.exec = Jvm.exec) (hy : c.code = cd) {k : Nat} {v : Int32} (hd : decode cd pc = .ok (.iload k, 2)) (hl : ls[k]? = some (.val (.int v))) (hr : OwnS p e below T (mkF m (pc + 2) ls (.int v :: st)) t) : OwnS p e below T (mkF m pc ls st) t := XS.iload X.here hx rfl (hb hy hd) hl hr
theorem oAn (X : Stand p l e R s m args below meth c T locs cells slots) (hx : p.tables.exec = Jvm.exec) (hy : c.code = cd) {k : Fin 4} {v : Value} (hd : decode cd pc = .ok (.aload_n k, 1)) (hl : ls[k.val]? = some (.val v)) (hv : v.isRef = true) (hr : OwnS p e below T (mkF m (pc + 1) ls (v :: st)) t) : OwnS p e below T (mkF m pc ls st) t := XS.aloadN X.here hx rfl (hb hy hd) hl hv hr
theorem oAl (X : Stand p l e R s m args below meth c T locs cells slots) (hx : p.tables.exec = Jvm.exec) (hy : c.code = cd) {k : Nat} {v : Value} (hd : decode cd pc = .ok (.aload k, 2)) (hl : ls[k]? = some (.val v)) (hv : v.isRef = true) (hr : OwnS p e below T (mkF m (pc + 2) ls (v :: st)) t) : OwnS p e below T (mkF m pc ls st) t := XS.aload X.here hx rfl (hb hy hd) hl hv hr
theorem oIc (X : Stand p l e R s m args below meth c T locs cells slots) (hx : p.tables.exec = Jvm.exec) (hy : c.code = cd) {i : Int} (hd : decode cd pc = .ok (.iconst i, 1)) (hr : OwnS p e below T (mkF m (pc + 1) ls (.int (Int32.ofInt i) :: st)) t) : OwnS p e below T (mkF m pc ls st) t := XS.iconst X.here hx rfl (hb hy hd) hr
theorem oBp (X : Stand p l e R s m args below meth c T locs cells slots) (hx : p.tables.exec = Jvm.exec) (hy : c.code = cd) {i : Int} (hd : decode cd pc = .ok (.bipush i, 2)) (hr : OwnS p e below T (mkF m (pc + 2) ls (.int (Int8.ofInt i).toInt32 :: st)) t) : OwnS p e below T (mkF m pc ls st) t := XS.bipush X.here hx rfl (hb hy hd) hr
theorem oGo (X : Stand p l e R s m args below meth c T locs cells slots) (hx : p.tables.exec = Jvm.exec) (hy : c.code = cd) {o : Int} (a q : Nat) (hd : decode cd a = .ok (.goto o, 3)) (h1 : 0 ≤ (a : Int) + o) (h2 : ((a : Int) + o).toNat = q) (hr : OwnS p e below T (mkF m q ls st) t) : OwnS p e below T (mkF m a ls st) t := XS.goto X.here hx rfl (pc0 := a) (pc' := q) rfl (hb hy hd) h1 h2 hr
end
theorem own_os3 {a b d sl : Slot} {v : Int32} (h : One sl) : storeLocals #[a, b, d, sl] 3 (.int v) = some #[a, b, d, .val (.int v)] := by
  rcases h with rfl | ⟨w, rfl, hw⟩
  · rfl
  · cases w <;> first | rfl | (simp [Value.category] at hw)
def own_ch (x : Int32) : Prop := 0 ≤ x.toInt ∧ x.toInt < 65536
theorem own_chc (x : Int32) : own_ch x.toUInt32.toUInt16.toUInt32.toInt32 := (c_i2c x).2
theorem own_i2cid {x : Int32} (h : own_ch x) : x.toUInt32.toUInt16.toUInt32.toInt32 = x := by
  apply Int32.toInt_inj.mp
  have a := c_i2c x
  obtain ⟨h1, h2⟩ := h
  omega
theorem own_m255 (y : Int32) : (y &&& (255 : Int32)).toInt = y.toInt % 256 := by
  have := c_mask y 255 8 (by decide) (by decide)
  simpa using this
theorem own_latc {x : Int32} (h : own_ch x) (hl : ¬ ((255 : Int32) < x)) : (((((x.toInt8.toInt32).toInt8.toInt32) &&& (255 : Int32)).toUInt32.toUInt16.toUInt32.toInt32).toUInt32.toUInt16.toUInt32.toInt32) = x := by
  apply Int32.toInt_inj.mp
  have a1 := c_i2b x
  have a2 := c_i2b x.toInt8.toInt32
  have a3 := own_m255 x.toInt8.toInt32.toInt8.toInt32
  have a4 := c_i2c (x.toInt8.toInt32.toInt8.toInt32 &&& (255 : Int32))
  have a5 := c_i2c (x.toInt8.toInt32.toInt8.toInt32 &&& (255 : Int32)).toUInt32.toUInt16.toUInt32.toInt32
  rw [Int32.lt_iff_toInt_lt] at hl
  have e : (255 : Int32).toInt = 255 := by decide
  obtain ⟨h1, h2⟩ := h
  omega
theorem own_u16c {x : Int32} (h : own_ch x) : ((((((((x >>> ((0 : Int32) &&& 31)).toInt8.toInt32).toInt8.toInt32) &&& (255 : Int32)) <<< ((0 : Int32) &&& 31)) ||| (((((x >>> ((8 : Int32) &&& 31)).toInt8.toInt32).toInt8.toInt32) &&& (255 : Int32)) <<< ((8 : Int32) &&& 31))).toUInt32.toUInt16.toUInt32.toInt32).toUInt32.toUInt16.toUInt32.toInt32) = x := by
  apply Int32.toInt_inj.mp
  have b1 : (x >>> ((0 : Int32) &&& 31)).toInt = x.toInt / 1 := by have := c_ishr x 0 0 (by decide); simpa using this
  have b2 : (x >>> ((8 : Int32) &&& 31)).toInt = x.toInt / 256 := by have := c_ishr x 8 8 (by decide); simpa using this
  generalize (x >>> ((0 : Int32) &&& 31)) = lo at *
  generalize (x >>> ((8 : Int32) &&& 31)) = hi at *
  have a1 := c_i2b lo
  have a2 := c_i2b lo.toInt8.toInt32
  have a3 := own_m255 lo.toInt8.toInt32.toInt8.toInt32
  have a4 := c_i2b hi
  have a5 := c_i2b hi.toInt8.toInt32
  have a6 := own_m255 hi.toInt8.toInt32.toInt8.toInt32
  generalize (lo.toInt8.toInt32.toInt8.toInt32 &&& (255 : Int32)) = L at *
  generalize (hi.toInt8.toInt32.toInt8.toInt32 &&& (255 : Int32)) = H at *
  have s1 : ((L <<< ((0 : Int32) &&& 31)).toInt - L.toInt * 1) % 4294967296 = 0 := by have := c_ishl L 0 0 (by decide); simpa using this
  have s2 : ((H <<< ((8 : Int32) &&& 31)).toInt - H.toInt * 256) % 4294967296 = 0 := by have := c_ishl H 8 8 (by decide); simpa using this
  have r1 := rng32 (L <<< ((0 : Int32) &&& 31))
  have r2 := rng32 (H <<< ((8 : Int32) &&& 31))
  generalize (L <<< ((0 : Int32) &&& 31)) = A at *
  generalize (H <<< ((8 : Int32) &&& 31)) = B at *
  obtain ⟨h1, h2⟩ := h
  have o1 := c_or' A B 8 (by decide) 256 (by decide) (by omega) (by omega) (by omega)
  have r3 := rng32 (A ||| B)
  have o2 := c_i2c (A ||| B)
  have o3 := c_i2c (A ||| B).toUInt32.toUInt16.toUInt32.toInt32
  omega
def own_S5 (Z : State) (h : Heap) (o : Addr) (x0 x1 x2 x3 x4 : Int32) : Prop := Exa Z h o "java/lang/String" ∧ ((∃ (ar : Addr) (k : ClassId), Fld Z h o "java/lang/String" "coder" "B" (.int 0) ∧ Fld Z h o "java/lang/String" "value" "[B" (.ref ar) ∧ Arv Z h ar k .byte 5 [(.int ((x0.toInt8.toInt32).toInt8.toInt32)), (.int ((x1.toInt8.toInt32).toInt8.toInt32)), (.int ((x2.toInt8.toInt32).toInt8.toInt32)), (.int ((x3.toInt8.toInt32).toInt8.toInt32)), (.int ((x4.toInt8.toInt32).toInt8.toInt32))] (.int 0) ∧ ¬ ((255 : Int32) < x0) ∧ ¬ ((255 : Int32) < x1) ∧ ¬ ((255 : Int32) < x2) ∧ ¬ ((255 : Int32) < x3) ∧ ¬ ((255 : Int32) < x4)) ∨ (∃ (ar : Addr) (k : ClassId), Fld Z h o "java/lang/String" "coder" "B" (.int 1) ∧ Fld Z h o "java/lang/String" "value" "[B" (.ref ar) ∧ Arv Z h ar k .byte 10 [(.int (((x0 >>> ((0 : Int32) &&& 31)).toInt8.toInt32).toInt8.toInt32)), (.int (((x0 >>> ((8 : Int32) &&& 31)).toInt8.toInt32).toInt8.toInt32)), (.int (((x1 >>> ((0 : Int32) &&& 31)).toInt8.toInt32).toInt8.toInt32)), (.int (((x1 >>> ((8 : Int32) &&& 31)).toInt8.toInt32).toInt8.toInt32)), (.int (((x2 >>> ((0 : Int32) &&& 31)).toInt8.toInt32).toInt8.toInt32)), (.int (((x2 >>> ((8 : Int32) &&& 31)).toInt8.toInt32).toInt8.toInt32)), (.int (((x3 >>> ((0 : Int32) &&& 31)).toInt8.toInt32).toInt8.toInt32)), (.int (((x3 >>> ((8 : Int32) &&& 31)).toInt8.toInt32).toInt8.toInt32)), (.int (((x4 >>> ((0 : Int32) &&& 31)).toInt8.toInt32).toInt8.toInt32)), (.int (((x4 >>> ((8 : Int32) &&& 31)).toInt8.toInt32).toInt8.toInt32))] (.int 0)))
theorem own_S5_ext {Z : State} {h h' : Heap} {o : Addr} {x0 x1 x2 x3 x4 : Int32} (F : own_S5 Z h o x0 x1 x2 x3 x4) (E : Ext h h') : own_S5 Z h' o x0 x1 x2 x3 x4 := by
  obtain ⟨e, ⟨ar, k, a, b, c, r⟩ | ⟨ar, k, a, b, c⟩⟩ := F
  · exact ⟨(e.ext E), Or.inl ⟨ar, k, (a.ext E), (b.ext E), (c.ext E), r⟩⟩
  · exact ⟨(e.ext E), Or.inr ⟨ar, k, (a.ext E), (b.ext E), (c.ext E)⟩⟩
theorem own_S5_keep {Z : State} {h h' : Heap} {o : Addr} {x0 x1 x2 x3 x4 : Int32} (F : own_S5 Z h o x0 x1 x2 x3 x4) (K : Keep h h' []) : own_S5 Z h' o x0 x1 x2 x3 x4 := by
  obtain ⟨e, ⟨ar, k, a, b, c, r⟩ | ⟨ar, k, a, b, c⟩⟩ := F
  · exact ⟨(e.keep K), Or.inl ⟨ar, k, (a.keep K nin0), (b.keep K nin0), (c.keep K nin0), r⟩⟩
  · exact ⟨(e.keep K), Or.inr ⟨ar, k, (a.keep K nin0), (b.keep K nin0), (c.keep K nin0)⟩⟩
def own_et (c : Int32) : Bool := decide (c = 33) || (decide (¬ (c < 35)) && decide (¬ ((126 : Int32) < c))) || (decide (¬ (c < 128)) && decide (¬ ((255 : Int32) < c)))
def own_sc5 (x0 x1 x2 x3 x4 : Int32) : Int32 := -1
def own_sc4 (x0 x1 x2 x3 x4 : Int32) : Int32 := if x4 = 34 then 5 else if own_et x4 = true then own_sc5 x0 x1 x2 x3 x4 else -1
def own_sc3 (x0 x1 x2 x3 x4 : Int32) : Int32 := if x3 = 34 then 4 else if own_et x3 = true then own_sc4 x0 x1 x2 x3 x4 else -1
def own_sc2 (x0 x1 x2 x3 x4 : Int32) : Int32 := if x2 = 34 then 3 else if own_et x2 = true then own_sc3 x0 x1 x2 x3 x4 else -1
def own_sc1 (x0 x1 x2 x3 x4 : Int32) : Int32 := if x1 = 34 then 2 else if own_et x1 = true then own_sc2 x0 x1 x2 x3 x4 else -1
def own_q5 (x0 x1 x2 x3 x4 : Int32) : Int32 := -1
def own_q0 (x0 x1 x2 x3 x4 : Int32) : Int32 := if x0 = 34 then own_sc1 x0 x1 x2 x3 x4 else -1
def own_q1 (x0 x1 x2 x3 x4 : Int32) : Int32 := if x1 = 34 then own_sc2 x0 x1 x2 x3 x4 else -1
def own_q2 (x0 x1 x2 x3 x4 : Int32) : Int32 := if x2 = 34 then own_sc3 x0 x1 x2 x3 x4 else -1
def own_q3 (x0 x1 x2 x3 x4 : Int32) : Int32 := if x3 = 34 then own_sc4 x0 x1 x2 x3 x4 else -1
def own_q4 (x0 x1 x2 x3 x4 : Int32) : Int32 := if x4 = 34 then own_sc5 x0 x1 x2 x3 x4 else -1
def own_e0 (x0 x1 x2 x3 x4 : Int32) : Int32 := if x0 = 87 then (if x1 = 47 then own_q2 x0 x1 x2 x3 x4 else own_q0 x0 x1 x2 x3 x4) else own_q0 x0 x1 x2 x3 x4
def own_e1 (x0 x1 x2 x3 x4 : Int32) : Int32 := if x1 = 87 then (if x2 = 47 then own_q3 x0 x1 x2 x3 x4 else own_q1 x0 x1 x2 x3 x4) else own_q1 x0 x1 x2 x3 x4
def own_e2 (x0 x1 x2 x3 x4 : Int32) : Int32 := if x2 = 87 then (if x3 = 47 then own_q4 x0 x1 x2 x3 x4 else own_q2 x0 x1 x2 x3 x4) else own_q2 x0 x1 x2 x3 x4
def own_e3 (x0 x1 x2 x3 x4 : Int32) : Int32 := if x3 = 87 then (if x4 = 47 then own_q5 x0 x1 x2 x3 x4 else own_q3 x0 x1 x2 x3 x4) else own_q3 x0 x1 x2 x3 x4
def own_e4 (x0 x1 x2 x3 x4 : Int32) : Int32 := own_q4 x0 x1 x2 x3 x4
def own_e5 (x0 x1 x2 x3 x4 : Int32) : Int32 := own_q5 x0 x1 x2 x3 x4
theorem own_et_iff (c : Int32) : own_et c = true ↔ (c.toInt = 33 ∨ (35 ≤ c.toInt ∧ c.toInt ≤ 126) ∨ (128 ≤ c.toInt ∧ c.toInt ≤ 255)) := by
  have e1 : (33 : Int32).toInt = 33 := by decide
  have e2 : (35 : Int32).toInt = 35 := by decide
  have e3 : (126 : Int32).toInt = 126 := by decide
  have e4 : (128 : Int32).toInt = 128 := by decide
  have e5 : (255 : Int32).toInt = 255 := by decide
  unfold own_et
  simp only [Bool.or_eq_true, Bool.and_eq_true, decide_eq_true_eq, Int32.lt_iff_toInt_lt, ← Int32.toInt_inj, e1, e2, e3, e4, e5]
  omega
theorem own_ef {c : Int32} (h : own_et c = false) : ¬ (c.toInt = 33 ∨ (35 ≤ c.toInt ∧ c.toInt ≤ 126) ∨ (128 ≤ c.toInt ∧ c.toInt ≤ 255)) := fun q => by rw [(own_et_iff c).mpr q] at h; cases h
theorem own_t1 {c : Int32} (h : own_et c = true) (a : ¬ (c = (33 : Int32))) : ¬ (c < (35 : Int32)) := by
  have q := (own_et_iff c).mp h; rw [← Int32.toInt_inj] at a; rw [Int32.lt_iff_toInt_lt]; have e1 : (33 : Int32).toInt = 33 := by decide
  have e2 : (35 : Int32).toInt = 35 := by decide
  omega
theorem own_t2 {c : Int32} (h : own_et c = true) (a : ¬ (c = (33 : Int32))) (b : (126 : Int32) < c) : ¬ (c < (128 : Int32)) := by
  have q := (own_et_iff c).mp h; rw [← Int32.toInt_inj] at a; rw [Int32.lt_iff_toInt_lt] at b ⊢; have e1 : (33 : Int32).toInt = 33 := by decide
  have e2 : (126 : Int32).toInt = 126 := by decide
  have e3 : (128 : Int32).toInt = 128 := by decide
  omega
theorem own_t3 {c : Int32} (h : own_et c = true) : ¬ ((255 : Int32) < c) := by
  have q := (own_et_iff c).mp h; rw [Int32.lt_iff_toInt_lt]; have e1 : (255 : Int32).toInt = 255 := by decide
  omega
theorem own_t4 {c : Int32} (h : own_et c = true) : ¬ (c < (33 : Int32)) := by
  have q := (own_et_iff c).mp h; rw [Int32.lt_iff_toInt_lt]; have e1 : (33 : Int32).toInt = 33 := by decide
  omega
theorem own_t5 {c : Int32} (h : own_et c = true) : ¬ (c = (127 : Int32)) := by
  have q := (own_et_iff c).mp h; rw [← Int32.toInt_inj]; have e1 : (127 : Int32).toInt = 127 := by decide
  omega
theorem own_f1 {c : Int32} (h : own_et c = false) : ¬ (c = (33 : Int32)) := by
  have q := own_ef h; rw [← Int32.toInt_inj]; have e1 : (33 : Int32).toInt = 33 := by decide
  omega
theorem own_f2 {c : Int32} (h : own_et c = false) (a : ¬ (c < (35 : Int32))) : (126 : Int32) < c := by
  have q := own_ef h; rw [Int32.lt_iff_toInt_lt] at a ⊢; have e1 : (35 : Int32).toInt = 35 := by decide
  have e2 : (126 : Int32).toInt = 126 := by decide
  omega
theorem own_f3 {c : Int32} (h : own_et c = false) (a : ¬ (c < (128 : Int32))) : (255 : Int32) < c := by
  have q := own_ef h; rw [Int32.lt_iff_toInt_lt] at a ⊢; have e1 : (128 : Int32).toInt = 128 := by decide
  have e2 : (255 : Int32).toInt = 255 := by decide
  omega
theorem own_f4 {c : Int32} (h : own_et c = false) (a : ¬ (c = (34 : Int32))) (b : ¬ (c < (33 : Int32))) (d : ¬ (c = (127 : Int32))) : (255 : Int32) < c := by
  have q := own_ef h; rw [← Int32.toInt_inj] at a d; rw [Int32.lt_iff_toInt_lt] at b ⊢; have e1 : (34 : Int32).toInt = 34 := by decide
  have e2 : (33 : Int32).toInt = 33 := by decide
  have e3 : (127 : Int32).toInt = 127 := by decide
  have e4 : (255 : Int32).toInt = 255 := by decide
  omega
theorem own_cls (x : Int32) : x = (34 : Int32) ∨ (¬ (x = (34 : Int32)) ∧ own_et x = true) ∨ (¬ (x = (34 : Int32)) ∧ own_et x = false) := by
  by_cases h : x = (34 : Int32)
  · exact Or.inl h
  · cases q : own_et x
    · exact Or.inr (Or.inr ⟨h, rfl⟩)
    · exact Or.inr (Or.inl ⟨h, rfl⟩)
theorem own_ett (x : Int32) : own_et x = true ∨ own_et x = false := by cases own_et x <;> simp
theorem own_nbinj {x k : Int32} (h : own_ch x) (hl : ¬ ((255 : Int32) < x)) (k0 : 0 ≤ k.toInt) (k1 : k.toInt < 128) (q : ((x.toInt8.toInt32).toInt8.toInt32) = k) : x = k := by
  apply Int32.toInt_inj.mp
  have q2 := congrArg Int32.toInt q
  have a1 := c_i2b x
  have a2 := c_i2b x.toInt8.toInt32
  rw [Int32.lt_iff_toInt_lt] at hl
  have e : (255 : Int32).toInt = 255 := by decide
  obtain ⟨h1, h2⟩ := h
  omega
theorem own_nbne {x k : Int32} (h : own_ch x) (hl : ¬ ((255 : Int32) < x)) (k0 : 0 ≤ k.toInt) (k1 : k.toInt < 128) (a : ¬ (x = k)) : ¬ (((x.toInt8.toInt32).toInt8.toInt32) = k) := fun q => by
  apply a
  apply Int32.toInt_inj.mp
  have q2 := congrArg Int32.toInt q
  have a1 := c_i2b x
  have a2 := c_i2b x.toInt8.toInt32
  rw [Int32.lt_iff_toInt_lt] at hl
  have e : (255 : Int32).toInt = 255 := by decide
  obtain ⟨h1, h2⟩ := h
  omega
theorem own_mod6 (p : Int32) : (p &&& (2147483647 : Int32)) % (6 : Int32) = (0 : Int32) ∨ (p &&& (2147483647 : Int32)) % (6 : Int32) = (1 : Int32) ∨ (p &&& (2147483647 : Int32)) % (6 : Int32) = (2 : Int32) ∨ (p &&& (2147483647 : Int32)) % (6 : Int32) = (3 : Int32) ∨ (p &&& (2147483647 : Int32)) % (6 : Int32) = (4 : Int32) ∨ (p &&& (2147483647 : Int32)) % (6 : Int32) = (5 : Int32) := by
  have h := (c_irem (p &&& 2147483647) 6 6 rfl).1 (c_and p 2147483647 (by decide)).1
  have h2 : ((p &&& (2147483647 : Int32)) % (6 : Int32)).toInt = 0 ∨ ((p &&& (2147483647 : Int32)) % (6 : Int32)).toInt = 1 ∨ ((p &&& (2147483647 : Int32)) % (6 : Int32)).toInt = 2 ∨ ((p &&& (2147483647 : Int32)) % (6 : Int32)).toInt = 3 ∨ ((p &&& (2147483647 : Int32)) % (6 : Int32)).toInt = 4 ∨ ((p &&& (2147483647 : Int32)) % (6 : Int32)).toInt = 5 := by omega
  rcases h2 with q | q | q | q | q | q
  · exact Or.inl (Int32.toInt_inj.mp q)
  · exact Or.inr (Or.inl (Int32.toInt_inj.mp q))
  · exact Or.inr (Or.inr (Or.inl (Int32.toInt_inj.mp q)))
  · exact Or.inr (Or.inr (Or.inr (Or.inl (Int32.toInt_inj.mp q))))
  · exact Or.inr (Or.inr (Or.inr (Or.inr (Or.inl (Int32.toInt_inj.mp q)))))
  · exact Or.inr (Or.inr (Or.inr (Or.inr (Or.inr ((Int32.toInt_inj.mp q))))))
def own_EL : List (String × Nat) := [("com/example/strict_lock/strictlock/EntityTags", 26)]
theorem own_mem0 : ("com/example/strict_lock/strictlock/EntityTags", 26) ∈ own_EL := List.mem_of_getElem? (i := 0) rfl
theorem own_ew {Z : State} {a0 : Array Value} (hw : ∀ d ∈ tables_1, d.before a0 Z = true) : EW Z a0 own_EL := EW.cons (own_at hw 39 rfl) (by decide) (EW.nil)
theorem own_ws {Z : State} {a0 : Array Value} (hw : ∀ d ∈ tables_1, d.before a0 Z = true) : ∀ a ∈ Bundle.stringAtoms, a.before a0 Z = true := by
  intro d hd
  simp only [Bundle.stringAtoms, List.mem_cons, List.not_mem_nil, or_false] at hd
  rcases hd with rfl | rfl | rfl | rfl | rfl | rfl | rfl
  · exact own_at hw 8 rfl
  · exact own_at hw 7 rfl
  · exact own_at hw 24 rfl
  · exact own_at hw 34 rfl
  · exact own_at hw 32 rfl
  · exact own_at hw 40 rfl
  · exact own_at hw 41 rfl
theorem own_elc : ∀ p ∈ own_EL, p ∈ consts_1 := by decide
theorem own_safe_null {Z : State} {vm : Vm} {h : Heap} {x : Addr} {EL : List (String × Nat)} (hal : Z.vm.Alike vm) (E : Exa Z h x "java/lang/String") (F : Fld Z h x "java/lang/String" "value" "[B" .null) : Safe Z EL vm h x := fun B => by
  obtain ⟨p, hp, u, a, hB, q, hqa, G, hx⟩ := B
  obtain ⟨cS, ⟨⟨s1, s2, s3, ⟨cv, kv, iv, s4, s4'⟩, s5, s6, s7, s8, s9, s10, r⟩, hfS, hcS⟩, k, hBB, hbyt⟩ := G
  rcases hx with rfl | rfl
  · obtain ⟨cell, cf, k2, i, f, h1, h2, -, -, -, -, h7⟩ := F
    obtain ⟨kv', z4⟩ := ff_back (U := Wst Z vm h) hal s4
    cases h2.symm.trans z4
    cases h1.symm.trans (show h[q.sa]? = some q.sC from s1)
    cases h7.symm.trans s8
  · obtain ⟨cell, k2, h1, h2, -⟩ := E
    cases h1.symm.trans (show h[q.sd]? = some q.SA from s10)
    have e1 : Z.vm.findClass "[B" = some q.SA.cls := by rw [← hal.findClass]; exact hBB
    obtain ⟨k3, a1, a2⟩ := Vm.findClass_spec h2
    obtain ⟨k4, b1, b2⟩ := Vm.findClass_spec e1
    cases a1.symm.trans b1
    have := a2.symm.trans b2
    revert this; decide
theorem own_ncs {args : Array Value} {s : State} {w : Int32} (ev : (Term.static "java/lang/String" "COMPACT_STRINGS" "Z").eval args s none [] s = some (.int w)) (h : Jvm.Lit.compactW.before args s = true) : ¬ (w = (0 : Int32)) := by
  intro q
  subst q
  have h2 := not_v (Cond.before_iff.mp h)
  rw [eq_i ev (Term.int_eval (0 : Int32)) rfl] at h2
  cases h2
abbrev cS0 : String := "java/lang/String"
abbrev cS1 : String := "java/lang/StringUTF16"
abbrev cS2 : String := "com/example/strict_lock/strictlock/EntityTagsEndPinLaw"
abbrev cS3 : String := "com/example/strict_lock/strictlock/EntityTags"
abbrev cS4 : String := "jdk/internal/util/Preconditions"
abbrev cS5 : String := "Ljava/util/function/BiFunction;"
abbrev cS6 : String := "$assertionsDisabled"
abbrev cS7 : String := "HI_BYTE_SHIFT"
abbrev cS8 : String := "LO_BYTE_SHIFT"
abbrev cS9 : String := "(Ljava/lang/String;I)Z"
abbrev cS11 : String := "jdk/internal/util/ArraysSupport"
abbrev cS13 : String := "COMPACT_STRINGS"
abbrev cS14 : String := "SIOOBE_FORMATTER"
abbrev cS15 : String := "java/lang/StringLatin1"
abbrev cS17 : String := "(Ljava/lang/String;I)I"
theorem d17_0 : decode jdk_41_method_11_code 0 = .ok (.iload_n 0, 1) := by decide +kernel
theorem d17_1 : decode jdk_41_method_11_code 1 = .ok (.ifCond .lt 8, 3) := by decide +kernel
theorem d17_4 : decode jdk_41_method_11_code 4 = .ok (.iload_n 0, 1) := by decide +kernel
theorem d17_5 : decode jdk_41_method_11_code 5 = .ok (.iload_n 1, 1) := by decide +kernel
theorem d17_6 : decode jdk_41_method_11_code 6 = .ok (.if_icmp .lt 10, 3) := by decide +kernel
theorem d17_16 : decode jdk_41_method_11_code 16 = .ok (.iload_n 0, 1) := by decide +kernel
theorem d17_17 : decode jdk_41_method_11_code 17 = .ok (.ireturn, 1) := by decide +kernel
theorem pn_jdk_internal_util_Preconditions : plainName cS4 = true := by first | (simp [plainName, overriddenIn]; done) | decide +kernel
theorem ef_17n3 (m : MethodId) (x0 : Int32) (x1 : Int32) : entryFrame m #[(.int x0), (.int x1), .null] 3 = mkF m 0 #[.val (.int x0), .val (.int x1), .val .null] [] := by first | (simp [entryFrame, mkF, argsToLocals, Value.category]; done) | rfl
def Q_Pn (Z : State) (p0 : Int32) (p1 : Int32) (h0 : Heap) (n0 : Nat) (v : Option Value) (h : Heap) (L : List Loc) : Prop := v = some (.int p0) ∧ Fr n0 L ∧ h = h0
set_option maxRecDepth 65536 in
set_option maxHeartbeats 40000000 in
theorem rmPn (l : Launch) (Z : State) (a0 : Array Value) (hw : ∀ d ∈ tables_1, d.before a0 Z = true) (ws : List Jvm.Cond) (p0 : Int32) (p1 : Int32) (h0 : Heap) (n0 : Nat) (Z0 : n0 ≤ h0.size) (hge : ¬ (p0 < (0 : Int32))) (hlt : p0 < p1) :
    MetFree l (⟨cS4, "checkIndex", "(IILjava/util/function/BiFunction;)I"⟩ : MethodName) (head1 (Jvm.Cond.code (⟨cS4, "checkIndex", "(IILjava/util/function/BiFunction;)I"⟩ : MethodName) jdk_41_method_11_code 3 (some .int) :: ws) ({ frames := 0, cells := 0, slots := 0, locals := 0 } : Room)) (fun a U => a = #[(.int p0), (.int p1), .null] ∧ Z.Warmed39 U.vm ∧ U.heap = h0) (fun _ _ _ _ _ => True) (fun _ U o U' => ∃ v L, o = .returned v ∧ Q_Pn Z p0 p1 h0 n0 v U'.heap L ∧ FrameEnd U o U' L 0 0) := by
  refine MetFree.of_bodySF (plainFor_of_name pn_jdk_internal_util_Preconditions) hisR ?_
  intro p e s m args below meth c s₁ Bd hml0 hP hK
  obtain ⟨rfl, hZ, hh⟩ := hP
  have hx := Bd.exec
  have hby := Bd.bytes
  have hml : c.maxLocals = 3 := hml0
  have hown : s.vm.findClass cS4 = some m.cls := findClass_of_methodNamed Bd.named
  have hnm := (name_of_methodNamed Bd.named Bd.method).1
  have X0 : Stand p l e ({ frames := 0, cells := 0, slots := 0, locals := 0 } : Room) s m #[(.int p0), (.int p1), .null] below meth c s₁ [] 0 0 := Stand.of_body Bd
  have e0 : s₁.heap = h0 := by rw [← hh, Bd.state]; rfl
  have N0 := Fr.nil n0
  have k0 : ∀ t, OwnS p e below s₁ (mkF m 0 #[iv p0, iv p1, .val .null] []) t → OwnS p e below s₁ (entryFrame m #[(.int p0), (.int p1), .null] 3) t := fun t k => castTop (ef_17n3 m p0 p1) k
  obtain ⟨fs, hr, hrun, hended, hW, hsame⟩ := X0.leave (v := some (.int p0)) (fun h => by rw [Bd.returns] at h; cases h)
  refine ⟨_, _, k0 _ ?_, hrun, hended, _, _, rfl, ?_, ⟨_, rfl⟩, hW, hsame.mono (by decide) (by decide)⟩
  · show OwnS p e below s₁ (mkF m 0 #[iv p0, iv p1, .val .null] []) _
    refine oIn X0 hx hby d17_0 rfl ?_
    refine XS.ifNo X0.here hx rfl (hb hby d17_1) rfl ((if0 _ _).trans (flt hge).1) ?_
    refine oIn X0 hx hby d17_4 rfl (oIn X0 hx hby d17_5 rfl ?_)
    refine XS.icmpYes X0.here hx rfl (pc0 := 6) (pc' := 16) rfl (hb hby d17_6) rfl (tlt hlt).1 (by decide) (by decide) ?_
    refine oIn X0 hx hby d17_16 rfl ?_
    exact retI X0 hx Bd.returns (hb hby d17_17) hr
  · show Q_Pn Z _ _ h0 n0 _ s₁.heap _
    rw [e0]
    exact ⟨rfl, N0, rfl⟩
theorem ef_17 (m : MethodId) (x0 : Int32) (x1 : Int32) (x2 : Addr) : entryFrame m #[(.int x0), (.int x1), (.ref x2)] 3 = mkF m 0 #[.val (.int x0), .val (.int x1), .val (.ref x2)] [] := by first | (simp [entryFrame, mkF, argsToLocals, Value.category]; done) | rfl
def Q_Pr (Z : State) (p0 : Int32) (p1 : Int32) (r2 : Addr) (h0 : Heap) (n0 : Nat) (v : Option Value) (h : Heap) (L : List Loc) : Prop := v = some (.int p0) ∧ Fr n0 L ∧ h = h0
set_option maxRecDepth 65536 in
set_option maxHeartbeats 40000000 in
theorem rmPr (l : Launch) (Z : State) (a0 : Array Value) (hw : ∀ d ∈ tables_1, d.before a0 Z = true) (ws : List Jvm.Cond) (p0 : Int32) (p1 : Int32) (r2 : Addr) (h0 : Heap) (n0 : Nat) (Z0 : n0 ≤ h0.size) (hge : ¬ (p0 < (0 : Int32))) (hlt : p0 < p1) :
    MetFree l (⟨cS4, "checkIndex", "(IILjava/util/function/BiFunction;)I"⟩ : MethodName) (head1 (Jvm.Cond.code (⟨cS4, "checkIndex", "(IILjava/util/function/BiFunction;)I"⟩ : MethodName) jdk_41_method_11_code 3 (some .int) :: ws) ({ frames := 0, cells := 0, slots := 0, locals := 0 } : Room)) (fun a U => a = #[(.int p0), (.int p1), (.ref r2)] ∧ Z.Warmed39 U.vm ∧ U.heap = h0) (fun _ _ _ _ _ => True) (fun _ U o U' => ∃ v L, o = .returned v ∧ Q_Pr Z p0 p1 r2 h0 n0 v U'.heap L ∧ FrameEnd U o U' L 0 0) := by
  refine MetFree.of_bodySF (plainFor_of_name pn_jdk_internal_util_Preconditions) hisR ?_
  intro p e s m args below meth c s₁ Bd hml0 hP hK
  obtain ⟨rfl, hZ, hh⟩ := hP
  have hx := Bd.exec
  have hby := Bd.bytes
  have hml : c.maxLocals = 3 := hml0
  have hown : s.vm.findClass cS4 = some m.cls := findClass_of_methodNamed Bd.named
  have hnm := (name_of_methodNamed Bd.named Bd.method).1
  have X0 : Stand p l e ({ frames := 0, cells := 0, slots := 0, locals := 0 } : Room) s m #[(.int p0), (.int p1), (.ref r2)] below meth c s₁ [] 0 0 := Stand.of_body Bd
  have e0 : s₁.heap = h0 := by rw [← hh, Bd.state]; rfl
  have N0 := Fr.nil n0
  have k0 : ∀ t, OwnS p e below s₁ (mkF m 0 #[iv p0, iv p1, rv r2] []) t → OwnS p e below s₁ (entryFrame m #[(.int p0), (.int p1), (.ref r2)] 3) t := fun t k => castTop (ef_17 m p0 p1 r2) k
  obtain ⟨fs, hr, hrun, hended, hW, hsame⟩ := X0.leave (v := some (.int p0)) (fun h => by rw [Bd.returns] at h; cases h)
  refine ⟨_, _, k0 _ ?_, hrun, hended, _, _, rfl, ?_, ⟨_, rfl⟩, hW, hsame.mono (by decide) (by decide)⟩
  · show OwnS p e below s₁ (mkF m 0 #[iv p0, iv p1, rv r2] []) _
    refine oIn X0 hx hby d17_0 rfl ?_
    refine XS.ifNo X0.here hx rfl (hb hby d17_1) rfl ((if0 _ _).trans (flt hge).1) ?_
    refine oIn X0 hx hby d17_4 rfl (oIn X0 hx hby d17_5 rfl ?_)
    refine XS.icmpYes X0.here hx rfl (pc0 := 6) (pc' := 16) rfl (hb hby d17_6) rfl (tlt hlt).1 (by decide) (by decide) ?_
    refine oIn X0 hx hby d17_16 rfl ?_
    exact retI X0 hx Bd.returns (hb hby d17_17) hr
  · show Q_Pr Z _ _ _ h0 n0 _ s₁.heap _
    rw [e0]
    exact ⟨rfl, N0, rfl⟩
theorem pd_0 : parseMethodDescriptor "(IILjava/util/function/BiFunction;)I" = some ⟨[.int, .int, (.object "java/util/function/BiFunction")], some .int⟩ := by decide +kernel
theorem d16_0 : decode jdk_42_method_155_code 0 = .ok (.iload_n 0, 1) := by decide +kernel
theorem d16_1 : decode jdk_42_method_155_code 1 = .ok (.iload_n 1, 1) := by decide +kernel
theorem d16_2 : decode jdk_42_method_155_code 2 = .ok (.getstatic 1053, 3) := by decide +kernel
theorem d16_5 : decode jdk_42_method_155_code 5 = .ok (.invokestatic 1059, 3) := by decide +kernel
theorem d16_8 : decode jdk_42_method_155_code 8 = .ok (.pop, 1) := by decide +kernel
theorem d16_9 : decode jdk_42_method_155_code 9 = .ok (.return_, 1) := by decide +kernel
theorem pn_java_lang_String : plainName cS0 = true := by first | (simp [plainName, overriddenIn]; done) | decide +kernel
theorem ef_16 (m : MethodId) (x0 : Int32) (x1 : Int32) : entryFrame m #[(.int x0), (.int x1)] 2 = mkF m 0 #[.val (.int x0), .val (.int x1)] [] := by first | (simp [entryFrame, mkF, argsToLocals, Value.category]; done) | rfl
def Q_Ck (Z : State) (p0 : Int32) (p1 : Int32) (w_F : Value) (h0 : Heap) (n0 : Nat) (v : Option Value) (h : Heap) (L : List Loc) : Prop := v = none ∧ Fr n0 L ∧ h = h0
set_option maxRecDepth 65536 in
set_option maxHeartbeats 40000000 in
theorem rmCk (l : Launch) (Z : State) (a0 : Array Value) (hw : ∀ d ∈ tables_1, d.before a0 Z = true) (ws : List Jvm.Cond) (p0 : Int32) (p1 : Int32) (w_F : Value) (h0 : Heap) (n0 : Nat) (Z0 : n0 ≤ h0.size) (S_F : Sta Z h0 cS4 cS14 cS5 w_F) (hwF : w_F.isRef = true) (hge : ¬ (p0 < (0 : Int32))) (hlt : p0 < p1) :
    MetFree l (⟨cS0, "checkIndex", "(II)V"⟩ : MethodName) (head1 (Jvm.Cond.code (⟨cS0, "checkIndex", "(II)V"⟩ : MethodName) jdk_42_method_155_code 2 none :: ws) ({ frames := 1, cells := 0, slots := 0, locals := 14 } : Room)) (fun a U => a = #[(.int p0), (.int p1)] ∧ Z.Warmed39 U.vm ∧ U.heap = h0) (fun _ _ _ _ _ => True) (fun _ U o U' => ∃ v L, o = .returned v ∧ Q_Ck Z p0 p1 w_F h0 n0 v U'.heap L ∧ FrameEnd U o U' L 0 0) := by
  refine MetFree.of_bodySF (plainFor_of_name pn_java_lang_String) hisR ?_
  intro p e s m args below meth c s₁ Bd hml0 hP hK
  obtain ⟨rfl, hZ, hh⟩ := hP
  have hx := Bd.exec
  have hby := Bd.bytes
  have hml : c.maxLocals = 2 := hml0
  have hown : s.vm.findClass cS0 = some m.cls := findClass_of_methodNamed Bd.named
  have hnm := (name_of_methodNamed Bd.named Bd.method).1
  have X0 : Stand p l e ({ frames := 1, cells := 0, slots := 0, locals := 14 } : Room) s m #[(.int p0), (.int p1)] below meth c s₁ [] 0 0 := Stand.of_body Bd
  have e0 : s₁.heap = h0 := by rw [← hh, Bd.state]; rfl
  have N0 := Fr.nil n0
  have k0 : ∀ t, OwnS p e below s₁ (mkF m 0 #[iv p0, iv p1] []) t → OwnS p e below s₁ (entryFrame m #[(.int p0), (.int p1)] 2) t := fun t k => castTop (ef_16 m p0 p1) k
  obtain ⟨T1, X1, e1, st1⟩ := getS2 X0 hx hZ hown (host := "") (Or.inl (own_at hw 79 rfl)) Via.refl e0 S_F (g := (mkF m 2 #[iv p0, iv p1] [(.int p1), (.int p0)])) rfl (hb hby d16_2)
  have k2 : ∀ t, OwnS p e below T1 (mkF m 5 #[iv p0, iv p1] [w_F, (.int p1), (.int p0)]) t → OwnS p e below s₁ (entryFrame m #[(.int p0), (.int p1)] 2) t := fun t q => by
   refine k0 t ?_
   show OwnS p e below s₁ (mkF m 0 #[iv p0, iv p1] []) _
   refine oIn X0 hx hby d16_0 rfl (oIn X0 hx hby d16_1 rfl ?_)
   refine st1 _ ?_
   exact q
  rcases ref_cases hwF with rfl | ⟨fa, rfl⟩
  · skip
    obtain ⟨_, _, ⟨T3, L3, j3, i3⟩, -, X3, ⟨Lc3, hQ3, l3, y3, z3⟩, st3⟩ := Jvm.LawKit.callS X1 hx (y := (⟨cS4, "checkIndex", "(IILjava/util/function/BiFunction;)I"⟩ : MethodName)) hown (mvT hZ (own_at hw 81 rfl)) (mvT hZ (own_at hw 82 rfl)) (mvT hZ (own_at hw 80 rfl)) (mvT hZ (own_at hw 83 rfl)) (by decide) (backOf (W := 0) (rmPn l Z a0 hw [] p0 p1 h0 n0 Z0 hge hlt) hZ (own_at hw 83 rfl) (own_at hw 80 rfl) (by decide) (by decide)) (g := (mkF m 5 #[iv p0, iv p1] [.null, (.int p1), (.int p0)])) rfl (by rw [hml]; rfl) (argsL := [(.int p0), (.int p1), .null]) (rest := []) (lenOf pd_0 rfl) rfl (Nat.le_refl _) (hb hby d16_5) (fun _ _ => ⟨rfl, e1, (by decide : 0 + 0 ≤ _), (by decide : 0 + 0 ≤ _)⟩)
    dsimp only [Pt.U, Pt.locs, Pt.cells, Pt.slots] at X3 l3 y3 z3 st3 hQ3
    subst l3 y3 z3
    obtain ⟨rfl, N3q, e3⟩ := hQ3
    have N3 := Fr.app N0 N3q
    obtain ⟨fs, hr, hrun, hended, hW, hsame⟩ := X3.leave (v := none) (fun _ => rfl)
    refine ⟨_, _, k2 _ ?_, hrun, hended, _, _, rfl, ?_, ⟨_, rfl⟩, hW, hsame.mono (by decide) (by decide)⟩
    · show OwnS p e below T1 (mkF m 5 #[iv p0, iv p1] [.null, (.int p1), (.int p0)]) _
      refine st3 _ ?_
      refine XS.pop X3.here hx rfl (hb hby d16_8) rfl rfl ?_
      exact X3.returnOut hx Bd.returns (hb hby d16_9) hr
    · show Q_Ck Z _ _ _ h0 n0 _ T3.heap _
      rw [e3]
      exact ⟨rfl, N3, rfl⟩
  · skip
    obtain ⟨_, _, ⟨T4, L4, j4, i4⟩, -, X4, ⟨Lc4, hQ4, l4, y4, z4⟩, st4⟩ := Jvm.LawKit.callS X1 hx (y := (⟨cS4, "checkIndex", "(IILjava/util/function/BiFunction;)I"⟩ : MethodName)) hown (mvT hZ (own_at hw 81 rfl)) (mvT hZ (own_at hw 82 rfl)) (mvT hZ (own_at hw 80 rfl)) (mvT hZ (own_at hw 83 rfl)) (by decide) (backOf (W := 0) (rmPr l Z a0 hw [] p0 p1 fa h0 n0 Z0 hge hlt) hZ (own_at hw 83 rfl) (own_at hw 80 rfl) (by decide) (by decide)) (g := (mkF m 5 #[iv p0, iv p1] [(.ref fa), (.int p1), (.int p0)])) rfl (by rw [hml]; rfl) (argsL := [(.int p0), (.int p1), (.ref fa)]) (rest := []) (lenOf pd_0 rfl) rfl (Nat.le_refl _) (hb hby d16_5) (fun _ _ => ⟨rfl, e1, (by decide : 0 + 0 ≤ _), (by decide : 0 + 0 ≤ _)⟩)
    dsimp only [Pt.U, Pt.locs, Pt.cells, Pt.slots] at X4 l4 y4 z4 st4 hQ4
    subst l4 y4 z4
    obtain ⟨rfl, N4q, e4⟩ := hQ4
    have N4 := Fr.app N0 N4q
    obtain ⟨fs, hr, hrun, hended, hW, hsame⟩ := X4.leave (v := none) (fun _ => rfl)
    refine ⟨_, _, k2 _ ?_, hrun, hended, _, _, rfl, ?_, ⟨_, rfl⟩, hW, hsame.mono (by decide) (by decide)⟩
    · show OwnS p e below T1 (mkF m 5 #[iv p0, iv p1] [(.ref fa), (.int p1), (.int p0)]) _
      refine st4 _ ?_
      refine XS.pop X4.here hx rfl (hb hby d16_8) rfl rfl ?_
      exact X4.returnOut hx Bd.returns (hb hby d16_9) hr
    · show Q_Ck Z _ _ _ h0 n0 _ T4.heap _
      rw [e4]
      exact ⟨rfl, N4, rfl⟩
theorem d11_0 : decode jdk_42_method_152_code 0 = .ok (.getstatic 38, 3) := by decide +kernel
theorem d11_3 : decode jdk_42_method_152_code 3 = .ok (.ifCond .eq 10, 3) := by decide +kernel
theorem d11_6 : decode jdk_42_method_152_code 6 = .ok (.aload_n 0, 1) := by decide +kernel
theorem d11_7 : decode jdk_42_method_152_code 7 = .ok (.getfield 15, 3) := by decide +kernel
theorem d11_10 : decode jdk_42_method_152_code 10 = .ok (.goto 4, 3) := by decide +kernel
theorem d11_14 : decode jdk_42_method_152_code 14 = .ok (.ireturn, 1) := by decide +kernel
theorem ef_11 (m : MethodId) (x0 : Addr) : entryFrame m #[(.ref x0)] 1 = mkF m 0 #[.val (.ref x0)] [] := by first | (simp [entryFrame, mkF, argsToLocals, Value.category]; done) | rfl
def Q_Co0 (Z : State) (r0 : Addr) (w_CS : Int32) (h0 : Heap) (n0 : Nat) (v : Option Value) (h : Heap) (L : List Loc) : Prop := v = some (.int 0) ∧ Fr n0 L ∧ h = h0
set_option maxRecDepth 65536 in
set_option maxHeartbeats 40000000 in
theorem rmCo0 (l : Launch) (Z : State) (a0 : Array Value) (hw : ∀ d ∈ tables_1, d.before a0 Z = true) (ws : List Jvm.Cond) (r0 : Addr) (w_CS : Int32) (h0 : Heap) (n0 : Nat) (Z0 : n0 ≤ h0.size) (S_CS : Sta Z h0 cS0 cS13 "Z" (.int w_CS)) (hcs : ¬ (w_CS = (0 : Int32))) (F_coder_r0 : Fld Z h0 r0 cS0 "coder" "B" (.int 0)) :
    MetFree l (⟨cS0, "coder", "()B"⟩ : MethodName) (head1 (Jvm.Cond.code (⟨cS0, "coder", "()B"⟩ : MethodName) jdk_42_method_152_code 1 (some .byte) :: ws) ({ frames := 0, cells := 0, slots := 0, locals := 0 } : Room)) (fun a U => a = #[(.ref r0)] ∧ Z.Warmed39 U.vm ∧ U.heap = h0) (fun _ _ _ _ _ => True) (fun _ U o U' => ∃ v L, o = .returned v ∧ Q_Co0 Z r0 w_CS h0 n0 v U'.heap L ∧ FrameEnd U o U' L 0 0) := by
  refine MetFree.of_bodySF (plainFor_of_name pn_java_lang_String) hisR ?_
  intro p e s m args below meth c s₁ Bd hml0 hP hK
  obtain ⟨rfl, hZ, hh⟩ := hP
  have hx := Bd.exec
  have hby := Bd.bytes
  have hml : c.maxLocals = 1 := hml0
  have hown : s.vm.findClass cS0 = some m.cls := findClass_of_methodNamed Bd.named
  have hnm := (name_of_methodNamed Bd.named Bd.method).1
  have X0 : Stand p l e ({ frames := 0, cells := 0, slots := 0, locals := 0 } : Room) s m #[(.ref r0)] below meth c s₁ [] 0 0 := Stand.of_body Bd
  have e0 : s₁.heap = h0 := by rw [← hh, Bd.state]; rfl
  have N0 := Fr.nil n0
  have k0 : ∀ t, OwnS p e below s₁ (mkF m 0 #[rv r0] []) t → OwnS p e below s₁ (entryFrame m #[(.ref r0)] 1) t := fun t k => castTop (ef_11 m r0) k
  obtain ⟨T1, X1, e1, st1⟩ := getS2 X0 hx hZ hown (host := "") (Or.inl (own_at hw 19 rfl)) Via.refl e0 S_CS (g := (mkF m 0 #[rv r0] [])) rfl (hb hby d11_0)
  obtain ⟨T2, X2, e2, st2⟩ := getF X1 hx hZ hown (host := "") (Or.inl (own_at hw 31 rfl)) Via.refl e1 F_coder_r0 (g := (mkF m 7 #[rv r0] [(.ref r0)])) rfl rfl (hb hby d11_7)
  obtain ⟨fs, hr, hrun, hended, hW, hsame⟩ := X2.leave (v := some (.int 0)) (fun h => by rw [Bd.returns] at h; cases h)
  refine ⟨_, _, k0 _ ?_, hrun, hended, _, _, rfl, ?_, ⟨_, rfl⟩, hW, hsame.mono (by decide) (by decide)⟩
  · show OwnS p e below s₁ (mkF m 0 #[rv r0] []) _
    refine st1 _ ?_
    refine XS.ifNo X1.here hx rfl (hb hby d11_3) rfl ((if0 _ _).trans (feq hcs).1) ?_
    refine oAn X1 hx hby d11_6 rfl rfl ?_
    refine st2 _ ?_
    refine oGo X2 hx hby 10 14 d11_10 (by decide) (by decide) ?_
    exact retN X2 hx (t := .byte) Bd.returns (by simp) (hb hby d11_14) hr
  · show Q_Co0 Z _ _ h0 n0 _ T2.heap _
    rw [e2]
    exact ⟨rfl, N0, rfl⟩
theorem d14_0 : decode jdk_42_method_154_code 0 = .ok (.getstatic 38, 3) := by decide +kernel
theorem d14_3 : decode jdk_42_method_154_code 3 = .ok (.ifCond .eq 14, 3) := by decide +kernel
theorem d14_6 : decode jdk_42_method_154_code 6 = .ok (.aload_n 0, 1) := by decide +kernel
theorem d14_7 : decode jdk_42_method_154_code 7 = .ok (.getfield 15, 3) := by decide +kernel
theorem d14_10 : decode jdk_42_method_154_code 10 = .ok (.ifCond .ne 7, 3) := by decide +kernel
theorem d14_13 : decode jdk_42_method_154_code 13 = .ok (.iconst 1, 1) := by decide +kernel
theorem d14_14 : decode jdk_42_method_154_code 14 = .ok (.goto 4, 3) := by decide +kernel
theorem d14_18 : decode jdk_42_method_154_code 18 = .ok (.ireturn, 1) := by decide +kernel
theorem ef_14 (m : MethodId) (x0 : Addr) : entryFrame m #[(.ref x0)] 1 = mkF m 0 #[.val (.ref x0)] [] := by first | (simp [entryFrame, mkF, argsToLocals, Value.category]; done) | rfl
def Q_IL0 (Z : State) (r0 : Addr) (w_CS : Int32) (h0 : Heap) (n0 : Nat) (v : Option Value) (h : Heap) (L : List Loc) : Prop := v = some (.int 1) ∧ Fr n0 L ∧ h = h0
set_option maxRecDepth 65536 in
set_option maxHeartbeats 40000000 in
theorem rmIL0 (l : Launch) (Z : State) (a0 : Array Value) (hw : ∀ d ∈ tables_1, d.before a0 Z = true) (ws : List Jvm.Cond) (r0 : Addr) (w_CS : Int32) (h0 : Heap) (n0 : Nat) (Z0 : n0 ≤ h0.size) (S_CS : Sta Z h0 cS0 cS13 "Z" (.int w_CS)) (hcs : ¬ (w_CS = (0 : Int32))) (F_coder_r0 : Fld Z h0 r0 cS0 "coder" "B" (.int 0)) :
    MetFree l (⟨cS0, "isLatin1", "()Z"⟩ : MethodName) (head1 (Jvm.Cond.code (⟨cS0, "isLatin1", "()Z"⟩ : MethodName) jdk_42_method_154_code 1 (some .boolean) :: ws) ({ frames := 0, cells := 0, slots := 0, locals := 0 } : Room)) (fun a U => a = #[(.ref r0)] ∧ Z.Warmed39 U.vm ∧ U.heap = h0) (fun _ _ _ _ _ => True) (fun _ U o U' => ∃ v L, o = .returned v ∧ Q_IL0 Z r0 w_CS h0 n0 v U'.heap L ∧ FrameEnd U o U' L 0 0) := by
  refine MetFree.of_bodySF (plainFor_of_name pn_java_lang_String) hisR ?_
  intro p e s m args below meth c s₁ Bd hml0 hP hK
  obtain ⟨rfl, hZ, hh⟩ := hP
  have hx := Bd.exec
  have hby := Bd.bytes
  have hml : c.maxLocals = 1 := hml0
  have hown : s.vm.findClass cS0 = some m.cls := findClass_of_methodNamed Bd.named
  have hnm := (name_of_methodNamed Bd.named Bd.method).1
  have X0 : Stand p l e ({ frames := 0, cells := 0, slots := 0, locals := 0 } : Room) s m #[(.ref r0)] below meth c s₁ [] 0 0 := Stand.of_body Bd
  have e0 : s₁.heap = h0 := by rw [← hh, Bd.state]; rfl
  have N0 := Fr.nil n0
  have k0 : ∀ t, OwnS p e below s₁ (mkF m 0 #[rv r0] []) t → OwnS p e below s₁ (entryFrame m #[(.ref r0)] 1) t := fun t k => castTop (ef_14 m r0) k
  obtain ⟨T1, X1, e1, st1⟩ := getS2 X0 hx hZ hown (host := "") (Or.inl (own_at hw 19 rfl)) Via.refl e0 S_CS (g := (mkF m 0 #[rv r0] [])) rfl (hb hby d14_0)
  obtain ⟨T2, X2, e2, st2⟩ := getF X1 hx hZ hown (host := "") (Or.inl (own_at hw 31 rfl)) Via.refl e1 F_coder_r0 (g := (mkF m 7 #[rv r0] [(.ref r0)])) rfl rfl (hb hby d14_7)
  obtain ⟨fs, hr, hrun, hended, hW, hsame⟩ := X2.leave (v := some (.int 1)) (fun h => by rw [Bd.returns] at h; cases h)
  refine ⟨_, _, k0 _ ?_, hrun, hended, _, _, rfl, ?_, ⟨_, rfl⟩, hW, hsame.mono (by decide) (by decide)⟩
  · show OwnS p e below s₁ (mkF m 0 #[rv r0] []) _
    refine st1 _ ?_
    refine XS.ifNo X1.here hx rfl (hb hby d14_3) rfl ((if0 _ _).trans (feq hcs).1) ?_
    refine oAn X1 hx hby d14_6 rfl rfl ?_
    refine st2 _ ?_
    refine XS.ifNo X2.here hx rfl (hb hby d14_10) rfl ((if0 _ _).trans (teq (by decide : (0 : Int32) = (0 : Int32))).2) ?_
    refine oIc X2 hx hby d14_13 (oGo X2 hx hby 14 18 d14_14 (by decide) (by decide) ?_)
    exact retN X2 hx (t := .boolean) Bd.returns (by simp) (hb hby d14_18) hr
  · show Q_IL0 Z _ _ h0 n0 _ T2.heap _
    rw [e2]
    exact ⟨rfl, N0, rfl⟩
def Q_Co1 (Z : State) (r0 : Addr) (w_CS : Int32) (h0 : Heap) (n0 : Nat) (v : Option Value) (h : Heap) (L : List Loc) : Prop := v = some (.int 1) ∧ Fr n0 L ∧ h = h0
set_option maxRecDepth 65536 in
set_option maxHeartbeats 40000000 in
theorem rmCo1 (l : Launch) (Z : State) (a0 : Array Value) (hw : ∀ d ∈ tables_1, d.before a0 Z = true) (ws : List Jvm.Cond) (r0 : Addr) (w_CS : Int32) (h0 : Heap) (n0 : Nat) (Z0 : n0 ≤ h0.size) (S_CS : Sta Z h0 cS0 cS13 "Z" (.int w_CS)) (hcs : ¬ (w_CS = (0 : Int32))) (F_coder_r0 : Fld Z h0 r0 cS0 "coder" "B" (.int 1)) :
    MetFree l (⟨cS0, "coder", "()B"⟩ : MethodName) (head1 (Jvm.Cond.code (⟨cS0, "coder", "()B"⟩ : MethodName) jdk_42_method_152_code 1 (some .byte) :: ws) ({ frames := 0, cells := 0, slots := 0, locals := 0 } : Room)) (fun a U => a = #[(.ref r0)] ∧ Z.Warmed39 U.vm ∧ U.heap = h0) (fun _ _ _ _ _ => True) (fun _ U o U' => ∃ v L, o = .returned v ∧ Q_Co1 Z r0 w_CS h0 n0 v U'.heap L ∧ FrameEnd U o U' L 0 0) := by
  refine MetFree.of_bodySF (plainFor_of_name pn_java_lang_String) hisR ?_
  intro p e s m args below meth c s₁ Bd hml0 hP hK
  obtain ⟨rfl, hZ, hh⟩ := hP
  have hx := Bd.exec
  have hby := Bd.bytes
  have hml : c.maxLocals = 1 := hml0
  have hown : s.vm.findClass cS0 = some m.cls := findClass_of_methodNamed Bd.named
  have hnm := (name_of_methodNamed Bd.named Bd.method).1
  have X0 : Stand p l e ({ frames := 0, cells := 0, slots := 0, locals := 0 } : Room) s m #[(.ref r0)] below meth c s₁ [] 0 0 := Stand.of_body Bd
  have e0 : s₁.heap = h0 := by rw [← hh, Bd.state]; rfl
  have N0 := Fr.nil n0
  have k0 : ∀ t, OwnS p e below s₁ (mkF m 0 #[rv r0] []) t → OwnS p e below s₁ (entryFrame m #[(.ref r0)] 1) t := fun t k => castTop (ef_11 m r0) k
  obtain ⟨T1, X1, e1, st1⟩ := getS2 X0 hx hZ hown (host := "") (Or.inl (own_at hw 19 rfl)) Via.refl e0 S_CS (g := (mkF m 0 #[rv r0] [])) rfl (hb hby d11_0)
  obtain ⟨T2, X2, e2, st2⟩ := getF X1 hx hZ hown (host := "") (Or.inl (own_at hw 31 rfl)) Via.refl e1 F_coder_r0 (g := (mkF m 7 #[rv r0] [(.ref r0)])) rfl rfl (hb hby d11_7)
  obtain ⟨fs, hr, hrun, hended, hW, hsame⟩ := X2.leave (v := some (.int 1)) (fun h => by rw [Bd.returns] at h; cases h)
  refine ⟨_, _, k0 _ ?_, hrun, hended, _, _, rfl, ?_, ⟨_, rfl⟩, hW, hsame.mono (by decide) (by decide)⟩
  · show OwnS p e below s₁ (mkF m 0 #[rv r0] []) _
    refine st1 _ ?_
    refine XS.ifNo X1.here hx rfl (hb hby d11_3) rfl ((if0 _ _).trans (feq hcs).1) ?_
    refine oAn X1 hx hby d11_6 rfl rfl ?_
    refine st2 _ ?_
    refine oGo X2 hx hby 10 14 d11_10 (by decide) (by decide) ?_
    exact retN X2 hx (t := .byte) Bd.returns (by simp) (hb hby d11_14) hr
  · show Q_Co1 Z _ _ h0 n0 _ T2.heap _
    rw [e2]
    exact ⟨rfl, N0, rfl⟩
theorem d14_17 : decode jdk_42_method_154_code 17 = .ok (.iconst 0, 1) := by decide +kernel
def Q_IL1 (Z : State) (r0 : Addr) (w_CS : Int32) (h0 : Heap) (n0 : Nat) (v : Option Value) (h : Heap) (L : List Loc) : Prop := v = some (.int 0) ∧ Fr n0 L ∧ h = h0
set_option maxRecDepth 65536 in
set_option maxHeartbeats 40000000 in
theorem rmIL1 (l : Launch) (Z : State) (a0 : Array Value) (hw : ∀ d ∈ tables_1, d.before a0 Z = true) (ws : List Jvm.Cond) (r0 : Addr) (w_CS : Int32) (h0 : Heap) (n0 : Nat) (Z0 : n0 ≤ h0.size) (S_CS : Sta Z h0 cS0 cS13 "Z" (.int w_CS)) (hcs : ¬ (w_CS = (0 : Int32))) (F_coder_r0 : Fld Z h0 r0 cS0 "coder" "B" (.int 1)) :
    MetFree l (⟨cS0, "isLatin1", "()Z"⟩ : MethodName) (head1 (Jvm.Cond.code (⟨cS0, "isLatin1", "()Z"⟩ : MethodName) jdk_42_method_154_code 1 (some .boolean) :: ws) ({ frames := 0, cells := 0, slots := 0, locals := 0 } : Room)) (fun a U => a = #[(.ref r0)] ∧ Z.Warmed39 U.vm ∧ U.heap = h0) (fun _ _ _ _ _ => True) (fun _ U o U' => ∃ v L, o = .returned v ∧ Q_IL1 Z r0 w_CS h0 n0 v U'.heap L ∧ FrameEnd U o U' L 0 0) := by
  refine MetFree.of_bodySF (plainFor_of_name pn_java_lang_String) hisR ?_
  intro p e s m args below meth c s₁ Bd hml0 hP hK
  obtain ⟨rfl, hZ, hh⟩ := hP
  have hx := Bd.exec
  have hby := Bd.bytes
  have hml : c.maxLocals = 1 := hml0
  have hown : s.vm.findClass cS0 = some m.cls := findClass_of_methodNamed Bd.named
  have hnm := (name_of_methodNamed Bd.named Bd.method).1
  have X0 : Stand p l e ({ frames := 0, cells := 0, slots := 0, locals := 0 } : Room) s m #[(.ref r0)] below meth c s₁ [] 0 0 := Stand.of_body Bd
  have e0 : s₁.heap = h0 := by rw [← hh, Bd.state]; rfl
  have N0 := Fr.nil n0
  have k0 : ∀ t, OwnS p e below s₁ (mkF m 0 #[rv r0] []) t → OwnS p e below s₁ (entryFrame m #[(.ref r0)] 1) t := fun t k => castTop (ef_14 m r0) k
  obtain ⟨T1, X1, e1, st1⟩ := getS2 X0 hx hZ hown (host := "") (Or.inl (own_at hw 19 rfl)) Via.refl e0 S_CS (g := (mkF m 0 #[rv r0] [])) rfl (hb hby d14_0)
  obtain ⟨T2, X2, e2, st2⟩ := getF X1 hx hZ hown (host := "") (Or.inl (own_at hw 31 rfl)) Via.refl e1 F_coder_r0 (g := (mkF m 7 #[rv r0] [(.ref r0)])) rfl rfl (hb hby d14_7)
  obtain ⟨fs, hr, hrun, hended, hW, hsame⟩ := X2.leave (v := some (.int 0)) (fun h => by rw [Bd.returns] at h; cases h)
  refine ⟨_, _, k0 _ ?_, hrun, hended, _, _, rfl, ?_, ⟨_, rfl⟩, hW, hsame.mono (by decide) (by decide)⟩
  · show OwnS p e below s₁ (mkF m 0 #[rv r0] []) _
    refine st1 _ ?_
    refine XS.ifNo X1.here hx rfl (hb hby d14_3) rfl ((if0 _ _).trans (feq hcs).1) ?_
    refine oAn X1 hx hby d14_6 rfl rfl ?_
    refine st2 _ ?_
    refine XS.ifYes X2.here hx rfl (pc0 := 10) (pc' := 17) rfl (hb hby d14_10) rfl ((if0 _ _).trans (feq (by decide : ¬ ((1 : Int32) = (0 : Int32)))).2) (by decide) (by decide) ?_
    refine oIc X2 hx hby d14_17 ?_
    exact retN X2 hx (t := .boolean) Bd.returns (by simp) (hb hby d14_18) hr
  · show Q_IL1 Z _ _ h0 n0 _ T2.heap _
    rw [e2]
    exact ⟨rfl, N0, rfl⟩
theorem d28_0 : decode jdk_52_method_6_code 0 = .ok (.aload_n 0, 1) := by decide +kernel
theorem d28_1 : decode jdk_52_method_6_code 1 = .ok (.arraylength, 1) := by decide +kernel
theorem d28_2 : decode jdk_52_method_6_code 2 = .ok (.iconst 1, 1) := by decide +kernel
theorem d28_3 : decode jdk_52_method_6_code 3 = .ok (.ishr, 1) := by decide +kernel
theorem d28_4 : decode jdk_52_method_6_code 4 = .ok (.ireturn, 1) := by decide +kernel
theorem pn_java_lang_StringUTF16 : plainName cS1 = true := by first | (simp [plainName, overriddenIn]; done) | decide +kernel
theorem ef_28 (m : MethodId) (x0 : Addr) : entryFrame m #[(.ref x0)] 1 = mkF m 0 #[.val (.ref x0)] [] := by first | (simp [entryFrame, mkF, argsToLocals, Value.category]; done) | rfl
def Q_UL_5 (Z : State) (r0 : Addr) (kB : ClassId) (vs : List Value) (h0 : Heap) (n0 : Nat) (v : Option Value) (h : Heap) (L : List Loc) : Prop := v = some (.int 5) ∧ Fr n0 L ∧ h = h0
set_option maxRecDepth 65536 in
set_option maxHeartbeats 40000000 in
theorem rmUL_5 (l : Launch) (Z : State) (a0 : Array Value) (hw : ∀ d ∈ tables_1, d.before a0 Z = true) (ws : List Jvm.Cond) (r0 : Addr) (kB : ClassId) (vs : List Value) (h0 : Heap) (n0 : Nat) (Z0 : n0 ≤ h0.size) (V_r0 : Arv Z h0 r0 kB .byte (10 : Int32) vs (.int 0)) :
    MetFree l (⟨cS1, "length", "([B)I"⟩ : MethodName) (head1 (Jvm.Cond.code (⟨cS1, "length", "([B)I"⟩ : MethodName) jdk_52_method_6_code 1 (some .int) :: ws) ({ frames := 0, cells := 0, slots := 0, locals := 0 } : Room)) (fun a U => a = #[(.ref r0)] ∧ Z.Warmed39 U.vm ∧ U.heap = h0) (fun _ _ _ _ _ => True) (fun _ U o U' => ∃ v L, o = .returned v ∧ Q_UL_5 Z r0 kB vs h0 n0 v U'.heap L ∧ FrameEnd U o U' L 0 0) := by
  refine MetFree.of_bodySF (plainFor_of_name pn_java_lang_StringUTF16) hisR ?_
  intro p e s m args below meth c s₁ Bd hml0 hP hK
  obtain ⟨rfl, hZ, hh⟩ := hP
  have hx := Bd.exec
  have hby := Bd.bytes
  have hml : c.maxLocals = 1 := hml0
  have hown : s.vm.findClass cS1 = some m.cls := findClass_of_methodNamed Bd.named
  have hnm := (name_of_methodNamed Bd.named Bd.method).1
  have X0 : Stand p l e ({ frames := 0, cells := 0, slots := 0, locals := 0 } : Room) s m #[(.ref r0)] below meth c s₁ [] 0 0 := Stand.of_body Bd
  have e0 : s₁.heap = h0 := by rw [← hh, Bd.state]; rfl
  have N0 := Fr.nil n0
  have k0 : ∀ t, OwnS p e below s₁ (mkF m 0 #[rv r0] []) t → OwnS p e below s₁ (entryFrame m #[(.ref r0)] 1) t := fun t k => castTop (ef_28 m r0) k
  obtain ⟨cl_z1, Ar_z1, q_z1, S_z1, N_z1, H_z1, G_z1⟩ := id V_r0
  obtain ⟨fs, hr, hrun, hended, hW, hsame⟩ := X0.leave (v := some (.int 5)) (fun h => by rw [Bd.returns] at h; cases h)
  refine ⟨_, _, k0 _ ?_, hrun, hended, _, _, rfl, ?_, ⟨_, rfl⟩, hW, hsame.mono (by decide) (by decide)⟩
  · show OwnS p e below s₁ (mkF m 0 #[rv r0] []) _
    refine oAn X0 hx hby d28_0 rfl rfl ?_
    refine X0.arraylength hx (by rw [e0]; exact Ar_z1.1) (State.isArrayOf_alike hZ.alike Ar_z1.2.1) (g := (mkF m 1 #[rv r0] [(.ref r0)])) rfl rfl (hb hby d28_1) _ ?_
    rw [len_of S_z1 N_z1]
    refine oIc X0 hx hby d28_2 ?_
    refine XS.ishr X0.here hx rfl (hb hby d28_3) rfl ?_
    exact retI X0 hx Bd.returns (hb hby d28_4) hr
  · show Q_UL_5 Z _ _ _ h0 n0 _ s₁.heap _
    rw [e0]
    exact ⟨rfl, N0, rfl⟩
theorem d23_0 : decode jdk_52_method_3_code 0 = .ok (.iload_n 0, 1) := by decide +kernel
theorem d23_1 : decode jdk_52_method_3_code 1 = .ok (.ifCond .ge 11, 3) := by decide +kernel
theorem d23_12 : decode jdk_52_method_3_code 12 = .ok (.iload_n 0, 1) := by decide +kernel
theorem d23_13 : decode jdk_52_method_3_code 13 = .ok (.ldc 20, 2) := by decide +kernel
theorem d23_15 : decode jdk_52_method_3_code 15 = .ok (.if_icmp .lt 40, 3) := by decide +kernel
theorem d23_55 : decode jdk_52_method_3_code 55 = .ok (.iload_n 0, 1) := by decide +kernel
theorem d23_56 : decode jdk_52_method_3_code 56 = .ok (.iconst 1, 1) := by decide +kernel
theorem d23_57 : decode jdk_52_method_3_code 57 = .ok (.ishl, 1) := by decide +kernel
theorem d23_58 : decode jdk_52_method_3_code 58 = .ok (.ireturn, 1) := by decide +kernel
theorem ef_23 (m : MethodId) (x0 : Int32) : entryFrame m #[(.int x0)] 1 = mkF m 0 #[.val (.int x0)] [] := by first | (simp [entryFrame, mkF, argsToLocals, Value.category]; done) | rfl
def Q_NL_5 (Z : State)  (h0 : Heap) (n0 : Nat) (v : Option Value) (h : Heap) (L : List Loc) : Prop := v = some (.int 10) ∧ Fr n0 L ∧ h = h0
set_option maxRecDepth 65536 in
set_option maxHeartbeats 40000000 in
theorem rmNL_5 (l : Launch) (Z : State) (a0 : Array Value) (hw : ∀ d ∈ tables_1, d.before a0 Z = true) (ws : List Jvm.Cond)  (h0 : Heap) (n0 : Nat) (Z0 : n0 ≤ h0.size) :
    MetFree l (⟨cS1, "newBytesLength", "(I)I"⟩ : MethodName) (head1 (Jvm.Cond.code (⟨cS1, "newBytesLength", "(I)I"⟩ : MethodName) jdk_52_method_3_code 1 (some .int) :: ws) ({ frames := 0, cells := 0, slots := 0, locals := 0 } : Room)) (fun a U => a = #[(.int 5)] ∧ Z.Warmed39 U.vm ∧ U.heap = h0) (fun _ _ _ _ _ => True) (fun _ U o U' => ∃ v L, o = .returned v ∧ Q_NL_5 Z  h0 n0 v U'.heap L ∧ FrameEnd U o U' L 0 0) := by
  refine MetFree.of_bodySF (plainFor_of_name pn_java_lang_StringUTF16) hisR ?_
  intro p e s m args below meth c s₁ Bd hml0 hP hK
  obtain ⟨rfl, hZ, hh⟩ := hP
  have hx := Bd.exec
  have hby := Bd.bytes
  have hml : c.maxLocals = 1 := hml0
  have hown : s.vm.findClass cS1 = some m.cls := findClass_of_methodNamed Bd.named
  have hnm := (name_of_methodNamed Bd.named Bd.method).1
  have X0 : Stand p l e ({ frames := 0, cells := 0, slots := 0, locals := 0 } : Room) s m #[(.int 5)] below meth c s₁ [] 0 0 := Stand.of_body Bd
  have e0 : s₁.heap = h0 := by rw [← hh, Bd.state]; rfl
  have N0 := Fr.nil n0
  have k0 : ∀ t, OwnS p e below s₁ (mkF m 0 #[iv 5] []) t → OwnS p e below s₁ (entryFrame m #[(.int 5)] 1) t := fun t k => castTop (ef_23 m (5 : Int32)) k
  obtain ⟨fs, hr, hrun, hended, hW, hsame⟩ := X0.leave (v := some (.int 10)) (fun h => by rw [Bd.returns] at h; cases h)
  refine ⟨_, _, k0 _ ?_, hrun, hended, _, _, rfl, ?_, ⟨_, rfl⟩, hW, hsame.mono (by decide) (by decide)⟩
  · show OwnS p e below s₁ (mkF m 0 #[iv 5] []) _
    refine oIn X0 hx hby d23_0 rfl ?_
    refine XS.ifYes X0.here hx rfl (pc0 := 1) (pc' := 12) rfl (hb hby d23_1) rfl ((if0 _ _).trans (flt (by decide : ¬ ((5 : Int32) < (0 : Int32)))).2.1) (by decide) (by decide) ?_
    refine oIn X0 hx hby d23_12 rfl ?_
    refine X0.ldcInt hx hown (mvT hZ (own_at hw 103 rfl)) (g := (mkF m 13 #[iv 5] [(.int 5)])) rfl (hb hby d23_13) _ ?_
    refine XS.icmpYes X0.here hx rfl (pc0 := 15) (pc' := 55) rfl (hb hby d23_15) rfl (tlt (by decide : (5 : Int32) < (1073741823 : Int32))).1 (by decide) (by decide) ?_
    refine oIn X0 hx hby d23_55 rfl (oIc X0 hx hby d23_56 ?_)
    refine XS.ishl X0.here hx rfl (hb hby d23_57) rfl ?_
    exact retI X0 hx Bd.returns (hb hby d23_58) hr
  · show Q_NL_5 Z  h0 n0 _ s₁.heap _
    rw [e0]
    exact ⟨rfl, N0, rfl⟩
theorem pd_1 : parseMethodDescriptor "(I)I" = some ⟨[.int], some .int⟩ := by decide +kernel
theorem d22_0 : decode jdk_52_method_2_code 0 = .ok (.iload_n 0, 1) := by decide +kernel
theorem d22_1 : decode jdk_52_method_2_code 1 = .ok (.invokestatic 11, 3) := by decide +kernel
theorem d22_4 : decode jdk_52_method_2_code 4 = .ok (.newarray .byte, 2) := by decide +kernel
theorem d22_6 : decode jdk_52_method_2_code 6 = .ok (.areturn, 1) := by decide +kernel
theorem ef_22 (m : MethodId) (x0 : Int32) : entryFrame m #[(.int x0)] 1 = mkF m 0 #[.val (.int x0)] [] := by first | (simp [entryFrame, mkF, argsToLocals, Value.category]; done) | rfl
def Q_NF_5 (Z : State)  (h0 : Heap) (n0 : Nat) (v : Option Value) (h : Heap) (L : List Loc) : Prop := ∃ ar : Addr, ∃ kk : ClassId, v = some (.ref ar) ∧ Fr n0 L ∧ Keep h0 h [] ∧ h0.size ≤ ar ∧ Arv Z h ar kk .byte (10 : Int32) [(.int 0), (.int 0), (.int 0), (.int 0), (.int 0), (.int 0), (.int 0), (.int 0), (.int 0), (.int 0)] (.int 0) ∧ Exa Z h ar "[B"
set_option maxRecDepth 65536 in
set_option maxHeartbeats 40000000 in
theorem rmNF_5 (l : Launch) (Z : State) (a0 : Array Value) (hw : ∀ d ∈ tables_1, d.before a0 Z = true) (ws : List Jvm.Cond)  (h0 : Heap) (n0 : Nat) (Z0 : n0 ≤ h0.size) :
    MetFree l (⟨cS1, "newBytesFor", "(I)[B"⟩ : MethodName) (head1 (Jvm.Cond.code (⟨cS1, "newBytesFor", "(I)[B"⟩ : MethodName) jdk_52_method_2_code 1 (some (.array .byte)) :: ws) ({ frames := 1, cells := 1, slots := 10, locals := 12 } : Room)) (fun a U => a = #[(.int 5)] ∧ Z.Warmed39 U.vm ∧ U.heap = h0) (fun _ _ _ _ _ => True) (fun _ U o U' => ∃ v L, o = .returned v ∧ Q_NF_5 Z  h0 n0 v U'.heap L ∧ FrameEnd U o U' L 1 10) := by
  refine MetFree.of_bodySF (plainFor_of_name pn_java_lang_StringUTF16) hisR ?_
  intro p e s m args below meth c s₁ Bd hml0 hP hK
  obtain ⟨rfl, hZ, hh⟩ := hP
  have hx := Bd.exec
  have hby := Bd.bytes
  have hml : c.maxLocals = 1 := hml0
  have hown : s.vm.findClass cS1 = some m.cls := findClass_of_methodNamed Bd.named
  have hnm := (name_of_methodNamed Bd.named Bd.method).1
  have X0 : Stand p l e ({ frames := 1, cells := 1, slots := 10, locals := 12 } : Room) s m #[(.int 5)] below meth c s₁ [] 0 0 := Stand.of_body Bd
  have e0 : s₁.heap = h0 := by rw [← hh, Bd.state]; rfl
  have N0 := Fr.nil n0
  have k0 : ∀ t, OwnS p e below s₁ (mkF m 0 #[iv 5] []) t → OwnS p e below s₁ (entryFrame m #[(.int 5)] 1) t := fun t k => castTop (ef_22 m (5 : Int32)) k
  obtain ⟨_, _, ⟨T1, L1, j1, i1⟩, -, X1, ⟨Lc1, hQ1, l1, y1, z1⟩, st1⟩ := Jvm.LawKit.callS X0 hx (y := (⟨cS1, "newBytesLength", "(I)I"⟩ : MethodName)) hown (mvT hZ (own_at hw 100 rfl)) (mvT hZ (own_at hw 101 rfl)) (mvT hZ (own_at hw 22 rfl)) (mvT hZ (own_at hw 102 rfl)) (by decide) (backOf (W := 0) (rmNL_5 l Z a0 hw []  h0 n0 Z0 ) hZ (own_at hw 102 rfl) (own_at hw 22 rfl) (by decide) (by decide)) (g := (mkF m 1 #[iv 5] [(.int 5)])) rfl (by rw [hml]; rfl) (argsL := [(.int 5)]) (rest := []) (lenOf pd_1 rfl) rfl (Nat.le_refl _) (hb hby d22_1) (fun _ _ => ⟨rfl, e0, (by decide : 0 + 0 ≤ _), (by decide : 0 + 0 ≤ _)⟩)
  dsimp only [Pt.U, Pt.locs, Pt.cells, Pt.slots] at X1 l1 y1 z1 st1 hQ1
  subst l1 y1 z1
  obtain ⟨rfl, N1q, e1⟩ := hQ1
  have N1 := Fr.app N0 N1q
  obtain ⟨T2, h2, k2, X2, e2, E2, A2, EA2, st2⟩ := newPE X1 hx hZ (own_at hw 24 rfl) e1 (g := (mkF m 4 #[iv 5] [(.int 10)])) rfl (hb hby d22_4) rfl (by decide) (cap := 10) (by decide) (by decide) (by decide) (by decide) (ad := "[B") (by decide)
  obtain ⟨b2, g2⟩ : ∃ z, z = h0.size := ⟨_, rfl⟩
  rw [← g2] at A2 EA2 st2
  have g_b2 : n0 ≤ b2 := Nat.le_trans Z0 (Nat.le_of_eq g2.symm)
  have sz_b2 : h0.size ≤ b2 := Nat.le_trans (Keep.refl h0 []).1 (Nat.le_of_eq g2.symm)
  have V_b2 : Arv Z h2 b2 k2 .byte (10 : Int32) [(.int 0), (.int 0), (.int 0), (.int 0), (.int 0), (.int 0), (.int 0), (.int 0), (.int 0), (.int 0)] (.int 0) := (Arv.new A2 (by decide)).pad (pad_rep [] (.int 0) 10)
  obtain ⟨fs, hr, hrun, hended, hW, hsame⟩ := X2.leave (v := some (.ref b2)) (fun h => by rw [Bd.returns] at h; cases h)
  refine ⟨_, _, k0 _ ?_, hrun, hended, _, _, rfl, ?_, ⟨_, rfl⟩, hW, hsame.mono (by decide) (by decide)⟩
  · show OwnS p e below s₁ (mkF m 0 #[iv 5] []) _
    refine oIn X0 hx hby d22_0 rfl ?_
    refine st1 _ ?_
    refine st2 _ ?_
    jvm_step X2.here [X2.here.top, hx, (hb hby d22_6), X2.method', Bd.returns, Value.isRef, FieldType.isReference]
    first | (intro acts; rw [hr _ acts rfl rfl rfl]) | rw [hr _ _ rfl rfl rfl]
    exact Steps.refl _
  · show Q_NF_5 Z  h0 n0 _ T2.heap _
    rw [e2]
    exact ⟨b2, k2, rfl, N1, ((Keep.refl h0 []).ext E2), sz_b2, V_b2, EA2⟩
theorem d24_0 : decode jdk_52_method_4_code 0 = .ok (.getstatic 44, 3) := by decide +kernel
theorem d24_3 : decode jdk_52_method_4_code 3 = .ok (.ifCond .ne 25, 3) := by decide +kernel
theorem d24_28 : decode jdk_52_method_4_code 28 = .ok (.iload_n 1, 1) := by decide +kernel
theorem d24_29 : decode jdk_52_method_4_code 29 = .ok (.iconst 1, 1) := by decide +kernel
theorem d24_30 : decode jdk_52_method_4_code 30 = .ok (.ishl, 1) := by decide +kernel
theorem d24_31 : decode jdk_52_method_4_code 31 = .ok (.istore_n 1, 1) := by decide +kernel
theorem d24_32 : decode jdk_52_method_4_code 32 = .ok (.aload_n 0, 1) := by decide +kernel
theorem d24_33 : decode jdk_52_method_4_code 33 = .ok (.iload_n 1, 1) := by decide +kernel
theorem d24_34 : decode jdk_52_method_4_code 34 = .ok (.iinc 1 1, 3) := by decide +kernel
theorem d24_37 : decode jdk_52_method_4_code 37 = .ok (.iload_n 2, 1) := by decide +kernel
theorem d24_38 : decode jdk_52_method_4_code 38 = .ok (.getstatic 59, 3) := by decide +kernel
theorem d24_41 : decode jdk_52_method_4_code 41 = .ok (.ishr, 1) := by decide +kernel
theorem d24_42 : decode jdk_52_method_4_code 42 = .ok (.i2b, 1) := by decide +kernel
theorem d24_43 : decode jdk_52_method_4_code 43 = .ok (.bastore, 1) := by decide +kernel
theorem d24_44 : decode jdk_52_method_4_code 44 = .ok (.aload_n 0, 1) := by decide +kernel
theorem d24_45 : decode jdk_52_method_4_code 45 = .ok (.iload_n 1, 1) := by decide +kernel
theorem d24_46 : decode jdk_52_method_4_code 46 = .ok (.iload_n 2, 1) := by decide +kernel
theorem d24_47 : decode jdk_52_method_4_code 47 = .ok (.getstatic 63, 3) := by decide +kernel
theorem d24_50 : decode jdk_52_method_4_code 50 = .ok (.ishr, 1) := by decide +kernel
theorem d24_51 : decode jdk_52_method_4_code 51 = .ok (.i2b, 1) := by decide +kernel
theorem d24_52 : decode jdk_52_method_4_code 52 = .ok (.bastore, 1) := by decide +kernel
theorem d24_53 : decode jdk_52_method_4_code 53 = .ok (.return_, 1) := by decide +kernel
theorem ef_24 (m : MethodId) (x0 : Addr) (x1 : Int32) (x2 : Int32) : entryFrame m #[(.ref x0), (.int x1), (.int x2)] 3 = mkF m 0 #[.val (.ref x0), .val (.int x1), .val (.int x2)] [] := by first | (simp [entryFrame, mkF, argsToLocals, Value.category]; done) | rfl
def Q_PC_5_0 (Z : State) (r0 : Addr) (x : Int32) (kB : ClassId) (b0 : Int32) (b1 : Int32) (b2 : Int32) (b3 : Int32) (b4 : Int32) (b5 : Int32) (b6 : Int32) (b7 : Int32) (b8 : Int32) (b9 : Int32) (h0 : Heap) (n0 : Nat) (v : Option Value) (h : Heap) (L : List Loc) : Prop := v = none ∧ Fr n0 L ∧ Keep h0 h [r0] ∧ Arv Z h r0 kB .byte (10 : Int32) [(.int (((x >>> ((0 : Int32) &&& 31)).toInt8.toInt32).toInt8.toInt32)), (.int (((x >>> ((8 : Int32) &&& 31)).toInt8.toInt32).toInt8.toInt32)), (.int b2), (.int b3), (.int b4), (.int b5), (.int b6), (.int b7), (.int b8), (.int b9)] (.int 0)
set_option maxRecDepth 65536 in
set_option maxHeartbeats 40000000 in
theorem rmPC_5_0 (l : Launch) (Z : State) (a0 : Array Value) (hw : ∀ d ∈ tables_1, d.before a0 Z = true) (ws : List Jvm.Cond) (r0 : Addr) (x : Int32) (kB : ClassId) (b0 : Int32) (b1 : Int32) (b2 : Int32) (b3 : Int32) (b4 : Int32) (b5 : Int32) (b6 : Int32) (b7 : Int32) (b8 : Int32) (b9 : Int32) (h0 : Heap) (n0 : Nat) (Z0 : n0 ≤ h0.size) (S_AD : Sta Z h0 cS1 cS6 "Z" (.int 1)) (S_HI : Sta Z h0 cS1 cS7 "I" (.int 0)) (S_LO : Sta Z h0 cS1 cS8 "I" (.int 8)) (V_r0 : Arv Z h0 r0 kB .byte (10 : Int32) [(.int b0), (.int b1), (.int b2), (.int b3), (.int b4), (.int b5), (.int b6), (.int b7), (.int b8), (.int b9)] (.int 0)) (E_r0 : Exa Z h0 r0 "[B") (ge_r0 : n0 ≤ r0) :
    MetFree l (⟨cS1, "putChar", "([BII)V"⟩ : MethodName) (head1 (Jvm.Cond.code (⟨cS1, "putChar", "([BII)V"⟩ : MethodName) jdk_52_method_4_code 3 none :: ws) ({ frames := 0, cells := 0, slots := 0, locals := 0 } : Room)) (fun a U => a = #[(.ref r0), (.int 0), (.int x)] ∧ Z.Warmed39 U.vm ∧ U.heap = h0) (fun _ _ _ _ _ => True) (fun _ U o U' => ∃ v L, o = .returned v ∧ Q_PC_5_0 Z r0 x kB b0 b1 b2 b3 b4 b5 b6 b7 b8 b9 h0 n0 v U'.heap L ∧ FrameEnd U o U' L 0 0) := by
  refine MetFree.of_bodySF (plainFor_of_name pn_java_lang_StringUTF16) hisR ?_
  intro p e s m args below meth c s₁ Bd hml0 hP hK
  obtain ⟨rfl, hZ, hh⟩ := hP
  have hx := Bd.exec
  have hby := Bd.bytes
  have hml : c.maxLocals = 3 := hml0
  have hown : s.vm.findClass cS1 = some m.cls := findClass_of_methodNamed Bd.named
  have hnm := (name_of_methodNamed Bd.named Bd.method).1
  have X0 : Stand p l e ({ frames := 0, cells := 0, slots := 0, locals := 0 } : Room) s m #[(.ref r0), (.int 0), (.int x)] below meth c s₁ [] 0 0 := Stand.of_body Bd
  have e0 : s₁.heap = h0 := by rw [← hh, Bd.state]; rfl
  have N0 := Fr.nil n0
  have k0 : ∀ t, OwnS p e below s₁ (mkF m 0 #[rv r0, iv 0, iv x] []) t → OwnS p e below s₁ (entryFrame m #[(.ref r0), (.int 0), (.int x)] 3) t := fun t k => castTop (ef_24 m r0 (0 : Int32) x) k
  obtain ⟨T1, X1, e1, st1⟩ := getS2 X0 hx hZ hown (host := "") (Or.inl (own_at hw 107 rfl)) Via.refl e0 S_AD (g := (mkF m 0 #[rv r0, iv 0, iv x] [])) rfl (hb hby d24_0)
  obtain ⟨T2, X2, e2, st2⟩ := getS2 X1 hx hZ hown (host := "") (Or.inl (own_at hw 108 rfl)) Via.refl e1 S_HI (g := (mkF m 38 #[rv r0, iv 1, iv x] [(.int x), (.int 0), (.ref r0)])) rfl (hb hby d24_38)
  obtain ⟨cl_z3, Ar_z3, q_z3, S_z3, N_z3, H_z3, G_z3⟩ := id V_r0
  have hin4 : ¬ ((0 : Int32) < 0 ∨ cl_z3.slots.size ≤ ((0 : Int32)).toNatClampNeg) := inb_of S_z3 ⟨by decide, by decide⟩
  obtain ⟨T5, h5, X5, e5, W5, st5⟩ := stB X2 hx hZ e2 Ar_z3 (j := (0 : Int32)) hin4 (g := (mkF m 43 #[rv r0, iv 1, iv x] [(.int ((x >>> ((0 : Int32) &&& 31)).toInt8.toInt32)), (.int 0), (.ref r0)])) rfl rfl (hb hby d24_43)
  have V5 : Arv Z h5 r0 kB .byte (10 : Int32) [(.int (((x >>> ((0 : Int32) &&& 31)).toInt8.toInt32).toInt8.toInt32)), (.int b1), (.int b2), (.int b3), (.int b4), (.int b5), (.int b6), (.int b7), (.int b8), (.int b9)] (.int 0) := Arv.set Ar_z3 q_z3 S_z3 N_z3 H_z3 G_z3 (fits_nar_byte _) W5 0 rfl (Nat.le_of_ble_eq_true rfl)
  have N5 := Fr.snoc X5 N0 ge_r0
  have f6 := (S_LO.wr W5)
  obtain ⟨T7, X7, e7, st7⟩ := getS2 X5 hx hZ hown (host := "") (Or.inl (own_at hw 109 rfl)) Via.refl e5 f6 (g := (mkF m 47 #[rv r0, iv 1, iv x] [(.int x), (.int 1), (.ref r0)])) rfl (hb hby d24_47)
  obtain ⟨cl_z8, Ar_z8, q_z8, S_z8, N_z8, H_z8, G_z8⟩ := id V5
  have hin9 : ¬ ((1 : Int32) < 0 ∨ cl_z8.slots.size ≤ ((1 : Int32)).toNatClampNeg) := inb_of S_z8 ⟨by decide, by decide⟩
  obtain ⟨T10, h10, X10, e10, W10, st10⟩ := stB X7 hx hZ e7 Ar_z8 (j := (1 : Int32)) hin9 (g := (mkF m 52 #[rv r0, iv 1, iv x] [(.int ((x >>> ((8 : Int32) &&& 31)).toInt8.toInt32)), (.int 1), (.ref r0)])) rfl rfl (hb hby d24_52)
  have V10 : Arv Z h10 r0 kB .byte (10 : Int32) [(.int (((x >>> ((0 : Int32) &&& 31)).toInt8.toInt32).toInt8.toInt32)), (.int (((x >>> ((8 : Int32) &&& 31)).toInt8.toInt32).toInt8.toInt32)), (.int b2), (.int b3), (.int b4), (.int b5), (.int b6), (.int b7), (.int b8), (.int b9)] (.int 0) := Arv.set Ar_z8 q_z8 S_z8 N_z8 H_z8 G_z8 (fits_nar_byte _) W10 1 rfl (Nat.le_of_ble_eq_true rfl)
  have N10 := Fr.snoc X10 N5 ge_r0
  obtain ⟨fs, hr, hrun, hended, hW, hsame⟩ := X10.leave (v := none) (fun _ => rfl)
  refine ⟨_, _, k0 _ ?_, hrun, hended, _, _, rfl, ?_, ⟨_, rfl⟩, hW, hsame.mono (by decide) (by decide)⟩
  · show OwnS p e below s₁ (mkF m 0 #[rv r0, iv 0, iv x] []) _
    refine st1 _ ?_
    refine XS.ifYes X1.here hx rfl (pc0 := 3) (pc' := 28) rfl (hb hby d24_3) rfl ((if0 _ _).trans (feq (by decide : ¬ ((1 : Int32) = (0 : Int32)))).2) (by decide) (by decide) ?_
    refine oIn X1 hx hby d24_28 rfl (oIc X1 hx hby d24_29 ?_)
    refine XS.ishl X1.here hx rfl (hb hby d24_30) rfl ?_
    refine XS.istoreN X1.here hx rfl (hb hby d24_31) rfl (l' := #[rv r0, iv 0, iv x]) rfl ?_
    refine oAn X1 hx hby d24_32 rfl rfl (oIn X1 hx hby d24_33 rfl ?_)
    refine XS.iinc X1.here hx rfl (hb hby d24_34) rfl (l' := #[rv r0, iv 1, iv x]) rfl ?_
    refine oIn X1 hx hby d24_37 rfl ?_
    refine st2 _ ?_
    refine XS.ishr X2.here hx rfl (hb hby d24_41) rfl ?_
    refine XS.i2b X2.here hx rfl (hb hby d24_42) rfl ?_
    refine st5 _ ?_
    refine oAn X5 hx hby d24_44 rfl rfl (oIn X5 hx hby d24_45 rfl (oIn X5 hx hby d24_46 rfl ?_))
    refine st7 _ ?_
    refine XS.ishr X7.here hx rfl (hb hby d24_50) rfl ?_
    refine XS.i2b X7.here hx rfl (hb hby d24_51) rfl ?_
    refine st10 _ ?_
    exact X10.returnOut hx Bd.returns (hb hby d24_53) hr
  · show Q_PC_5_0 Z _ _ _ _ _ _ _ _ _ _ _ _ _ h0 n0 _ T10.heap _
    rw [e10]
    exact ⟨rfl, N10, (((Keep.refl h0 [r0]).wr W5 (Or.inl (List.mem_of_getElem? (i := 0) rfl))).wr W10 (Or.inl (List.mem_of_getElem? (i := 0) rfl))), V10⟩
def Q_PC_5_1 (Z : State) (r0 : Addr) (x : Int32) (kB : ClassId) (b0 : Int32) (b1 : Int32) (b2 : Int32) (b3 : Int32) (b4 : Int32) (b5 : Int32) (b6 : Int32) (b7 : Int32) (b8 : Int32) (b9 : Int32) (h0 : Heap) (n0 : Nat) (v : Option Value) (h : Heap) (L : List Loc) : Prop := v = none ∧ Fr n0 L ∧ Keep h0 h [r0] ∧ Arv Z h r0 kB .byte (10 : Int32) [(.int b0), (.int b1), (.int (((x >>> ((0 : Int32) &&& 31)).toInt8.toInt32).toInt8.toInt32)), (.int (((x >>> ((8 : Int32) &&& 31)).toInt8.toInt32).toInt8.toInt32)), (.int b4), (.int b5), (.int b6), (.int b7), (.int b8), (.int b9)] (.int 0)
set_option maxRecDepth 65536 in
set_option maxHeartbeats 40000000 in
theorem rmPC_5_1 (l : Launch) (Z : State) (a0 : Array Value) (hw : ∀ d ∈ tables_1, d.before a0 Z = true) (ws : List Jvm.Cond) (r0 : Addr) (x : Int32) (kB : ClassId) (b0 : Int32) (b1 : Int32) (b2 : Int32) (b3 : Int32) (b4 : Int32) (b5 : Int32) (b6 : Int32) (b7 : Int32) (b8 : Int32) (b9 : Int32) (h0 : Heap) (n0 : Nat) (Z0 : n0 ≤ h0.size) (S_AD : Sta Z h0 cS1 cS6 "Z" (.int 1)) (S_HI : Sta Z h0 cS1 cS7 "I" (.int 0)) (S_LO : Sta Z h0 cS1 cS8 "I" (.int 8)) (V_r0 : Arv Z h0 r0 kB .byte (10 : Int32) [(.int b0), (.int b1), (.int b2), (.int b3), (.int b4), (.int b5), (.int b6), (.int b7), (.int b8), (.int b9)] (.int 0)) (E_r0 : Exa Z h0 r0 "[B") (ge_r0 : n0 ≤ r0) :
    MetFree l (⟨cS1, "putChar", "([BII)V"⟩ : MethodName) (head1 (Jvm.Cond.code (⟨cS1, "putChar", "([BII)V"⟩ : MethodName) jdk_52_method_4_code 3 none :: ws) ({ frames := 0, cells := 0, slots := 0, locals := 0 } : Room)) (fun a U => a = #[(.ref r0), (.int 1), (.int x)] ∧ Z.Warmed39 U.vm ∧ U.heap = h0) (fun _ _ _ _ _ => True) (fun _ U o U' => ∃ v L, o = .returned v ∧ Q_PC_5_1 Z r0 x kB b0 b1 b2 b3 b4 b5 b6 b7 b8 b9 h0 n0 v U'.heap L ∧ FrameEnd U o U' L 0 0) := by
  refine MetFree.of_bodySF (plainFor_of_name pn_java_lang_StringUTF16) hisR ?_
  intro p e s m args below meth c s₁ Bd hml0 hP hK
  obtain ⟨rfl, hZ, hh⟩ := hP
  have hx := Bd.exec
  have hby := Bd.bytes
  have hml : c.maxLocals = 3 := hml0
  have hown : s.vm.findClass cS1 = some m.cls := findClass_of_methodNamed Bd.named
  have hnm := (name_of_methodNamed Bd.named Bd.method).1
  have X0 : Stand p l e ({ frames := 0, cells := 0, slots := 0, locals := 0 } : Room) s m #[(.ref r0), (.int 1), (.int x)] below meth c s₁ [] 0 0 := Stand.of_body Bd
  have e0 : s₁.heap = h0 := by rw [← hh, Bd.state]; rfl
  have N0 := Fr.nil n0
  have k0 : ∀ t, OwnS p e below s₁ (mkF m 0 #[rv r0, iv 1, iv x] []) t → OwnS p e below s₁ (entryFrame m #[(.ref r0), (.int 1), (.int x)] 3) t := fun t k => castTop (ef_24 m r0 (1 : Int32) x) k
  obtain ⟨T1, X1, e1, st1⟩ := getS2 X0 hx hZ hown (host := "") (Or.inl (own_at hw 107 rfl)) Via.refl e0 S_AD (g := (mkF m 0 #[rv r0, iv 1, iv x] [])) rfl (hb hby d24_0)
  obtain ⟨T2, X2, e2, st2⟩ := getS2 X1 hx hZ hown (host := "") (Or.inl (own_at hw 108 rfl)) Via.refl e1 S_HI (g := (mkF m 38 #[rv r0, iv 3, iv x] [(.int x), (.int 2), (.ref r0)])) rfl (hb hby d24_38)
  obtain ⟨cl_z3, Ar_z3, q_z3, S_z3, N_z3, H_z3, G_z3⟩ := id V_r0
  have hin4 : ¬ ((2 : Int32) < 0 ∨ cl_z3.slots.size ≤ ((2 : Int32)).toNatClampNeg) := inb_of S_z3 ⟨by decide, by decide⟩
  obtain ⟨T5, h5, X5, e5, W5, st5⟩ := stB X2 hx hZ e2 Ar_z3 (j := (2 : Int32)) hin4 (g := (mkF m 43 #[rv r0, iv 3, iv x] [(.int ((x >>> ((0 : Int32) &&& 31)).toInt8.toInt32)), (.int 2), (.ref r0)])) rfl rfl (hb hby d24_43)
  have V5 : Arv Z h5 r0 kB .byte (10 : Int32) [(.int b0), (.int b1), (.int (((x >>> ((0 : Int32) &&& 31)).toInt8.toInt32).toInt8.toInt32)), (.int b3), (.int b4), (.int b5), (.int b6), (.int b7), (.int b8), (.int b9)] (.int 0) := Arv.set Ar_z3 q_z3 S_z3 N_z3 H_z3 G_z3 (fits_nar_byte _) W5 2 rfl (Nat.le_of_ble_eq_true rfl)
  have N5 := Fr.snoc X5 N0 ge_r0
  have f6 := (S_LO.wr W5)
  obtain ⟨T7, X7, e7, st7⟩ := getS2 X5 hx hZ hown (host := "") (Or.inl (own_at hw 109 rfl)) Via.refl e5 f6 (g := (mkF m 47 #[rv r0, iv 3, iv x] [(.int x), (.int 3), (.ref r0)])) rfl (hb hby d24_47)
  obtain ⟨cl_z8, Ar_z8, q_z8, S_z8, N_z8, H_z8, G_z8⟩ := id V5
  have hin9 : ¬ ((3 : Int32) < 0 ∨ cl_z8.slots.size ≤ ((3 : Int32)).toNatClampNeg) := inb_of S_z8 ⟨by decide, by decide⟩
  obtain ⟨T10, h10, X10, e10, W10, st10⟩ := stB X7 hx hZ e7 Ar_z8 (j := (3 : Int32)) hin9 (g := (mkF m 52 #[rv r0, iv 3, iv x] [(.int ((x >>> ((8 : Int32) &&& 31)).toInt8.toInt32)), (.int 3), (.ref r0)])) rfl rfl (hb hby d24_52)
  have V10 : Arv Z h10 r0 kB .byte (10 : Int32) [(.int b0), (.int b1), (.int (((x >>> ((0 : Int32) &&& 31)).toInt8.toInt32).toInt8.toInt32)), (.int (((x >>> ((8 : Int32) &&& 31)).toInt8.toInt32).toInt8.toInt32)), (.int b4), (.int b5), (.int b6), (.int b7), (.int b8), (.int b9)] (.int 0) := Arv.set Ar_z8 q_z8 S_z8 N_z8 H_z8 G_z8 (fits_nar_byte _) W10 3 rfl (Nat.le_of_ble_eq_true rfl)
  have N10 := Fr.snoc X10 N5 ge_r0
  obtain ⟨fs, hr, hrun, hended, hW, hsame⟩ := X10.leave (v := none) (fun _ => rfl)
  refine ⟨_, _, k0 _ ?_, hrun, hended, _, _, rfl, ?_, ⟨_, rfl⟩, hW, hsame.mono (by decide) (by decide)⟩
  · show OwnS p e below s₁ (mkF m 0 #[rv r0, iv 1, iv x] []) _
    refine st1 _ ?_
    refine XS.ifYes X1.here hx rfl (pc0 := 3) (pc' := 28) rfl (hb hby d24_3) rfl ((if0 _ _).trans (feq (by decide : ¬ ((1 : Int32) = (0 : Int32)))).2) (by decide) (by decide) ?_
    refine oIn X1 hx hby d24_28 rfl (oIc X1 hx hby d24_29 ?_)
    refine XS.ishl X1.here hx rfl (hb hby d24_30) rfl ?_
    refine XS.istoreN X1.here hx rfl (hb hby d24_31) rfl (l' := #[rv r0, iv 2, iv x]) rfl ?_
    refine oAn X1 hx hby d24_32 rfl rfl (oIn X1 hx hby d24_33 rfl ?_)
    refine XS.iinc X1.here hx rfl (hb hby d24_34) rfl (l' := #[rv r0, iv 3, iv x]) rfl ?_
    refine oIn X1 hx hby d24_37 rfl ?_
    refine st2 _ ?_
    refine XS.ishr X2.here hx rfl (hb hby d24_41) rfl ?_
    refine XS.i2b X2.here hx rfl (hb hby d24_42) rfl ?_
    refine st5 _ ?_
    refine oAn X5 hx hby d24_44 rfl rfl (oIn X5 hx hby d24_45 rfl (oIn X5 hx hby d24_46 rfl ?_))
    refine st7 _ ?_
    refine XS.ishr X7.here hx rfl (hb hby d24_50) rfl ?_
    refine XS.i2b X7.here hx rfl (hb hby d24_51) rfl ?_
    refine st10 _ ?_
    exact X10.returnOut hx Bd.returns (hb hby d24_53) hr
  · show Q_PC_5_1 Z _ _ _ _ _ _ _ _ _ _ _ _ _ h0 n0 _ T10.heap _
    rw [e10]
    exact ⟨rfl, N10, (((Keep.refl h0 [r0]).wr W5 (Or.inl (List.mem_of_getElem? (i := 0) rfl))).wr W10 (Or.inl (List.mem_of_getElem? (i := 0) rfl))), V10⟩
def Q_PC_5_2 (Z : State) (r0 : Addr) (x : Int32) (kB : ClassId) (b0 : Int32) (b1 : Int32) (b2 : Int32) (b3 : Int32) (b4 : Int32) (b5 : Int32) (b6 : Int32) (b7 : Int32) (b8 : Int32) (b9 : Int32) (h0 : Heap) (n0 : Nat) (v : Option Value) (h : Heap) (L : List Loc) : Prop := v = none ∧ Fr n0 L ∧ Keep h0 h [r0] ∧ Arv Z h r0 kB .byte (10 : Int32) [(.int b0), (.int b1), (.int b2), (.int b3), (.int (((x >>> ((0 : Int32) &&& 31)).toInt8.toInt32).toInt8.toInt32)), (.int (((x >>> ((8 : Int32) &&& 31)).toInt8.toInt32).toInt8.toInt32)), (.int b6), (.int b7), (.int b8), (.int b9)] (.int 0)
set_option maxRecDepth 65536 in
set_option maxHeartbeats 40000000 in
theorem rmPC_5_2 (l : Launch) (Z : State) (a0 : Array Value) (hw : ∀ d ∈ tables_1, d.before a0 Z = true) (ws : List Jvm.Cond) (r0 : Addr) (x : Int32) (kB : ClassId) (b0 : Int32) (b1 : Int32) (b2 : Int32) (b3 : Int32) (b4 : Int32) (b5 : Int32) (b6 : Int32) (b7 : Int32) (b8 : Int32) (b9 : Int32) (h0 : Heap) (n0 : Nat) (Z0 : n0 ≤ h0.size) (S_AD : Sta Z h0 cS1 cS6 "Z" (.int 1)) (S_HI : Sta Z h0 cS1 cS7 "I" (.int 0)) (S_LO : Sta Z h0 cS1 cS8 "I" (.int 8)) (V_r0 : Arv Z h0 r0 kB .byte (10 : Int32) [(.int b0), (.int b1), (.int b2), (.int b3), (.int b4), (.int b5), (.int b6), (.int b7), (.int b8), (.int b9)] (.int 0)) (E_r0 : Exa Z h0 r0 "[B") (ge_r0 : n0 ≤ r0) :
    MetFree l (⟨cS1, "putChar", "([BII)V"⟩ : MethodName) (head1 (Jvm.Cond.code (⟨cS1, "putChar", "([BII)V"⟩ : MethodName) jdk_52_method_4_code 3 none :: ws) ({ frames := 0, cells := 0, slots := 0, locals := 0 } : Room)) (fun a U => a = #[(.ref r0), (.int 2), (.int x)] ∧ Z.Warmed39 U.vm ∧ U.heap = h0) (fun _ _ _ _ _ => True) (fun _ U o U' => ∃ v L, o = .returned v ∧ Q_PC_5_2 Z r0 x kB b0 b1 b2 b3 b4 b5 b6 b7 b8 b9 h0 n0 v U'.heap L ∧ FrameEnd U o U' L 0 0) := by
  refine MetFree.of_bodySF (plainFor_of_name pn_java_lang_StringUTF16) hisR ?_
  intro p e s m args below meth c s₁ Bd hml0 hP hK
  obtain ⟨rfl, hZ, hh⟩ := hP
  have hx := Bd.exec
  have hby := Bd.bytes
  have hml : c.maxLocals = 3 := hml0
  have hown : s.vm.findClass cS1 = some m.cls := findClass_of_methodNamed Bd.named
  have hnm := (name_of_methodNamed Bd.named Bd.method).1
  have X0 : Stand p l e ({ frames := 0, cells := 0, slots := 0, locals := 0 } : Room) s m #[(.ref r0), (.int 2), (.int x)] below meth c s₁ [] 0 0 := Stand.of_body Bd
  have e0 : s₁.heap = h0 := by rw [← hh, Bd.state]; rfl
  have N0 := Fr.nil n0
  have k0 : ∀ t, OwnS p e below s₁ (mkF m 0 #[rv r0, iv 2, iv x] []) t → OwnS p e below s₁ (entryFrame m #[(.ref r0), (.int 2), (.int x)] 3) t := fun t k => castTop (ef_24 m r0 (2 : Int32) x) k
  obtain ⟨T1, X1, e1, st1⟩ := getS2 X0 hx hZ hown (host := "") (Or.inl (own_at hw 107 rfl)) Via.refl e0 S_AD (g := (mkF m 0 #[rv r0, iv 2, iv x] [])) rfl (hb hby d24_0)
  obtain ⟨T2, X2, e2, st2⟩ := getS2 X1 hx hZ hown (host := "") (Or.inl (own_at hw 108 rfl)) Via.refl e1 S_HI (g := (mkF m 38 #[rv r0, iv 5, iv x] [(.int x), (.int 4), (.ref r0)])) rfl (hb hby d24_38)
  obtain ⟨cl_z3, Ar_z3, q_z3, S_z3, N_z3, H_z3, G_z3⟩ := id V_r0
  have hin4 : ¬ ((4 : Int32) < 0 ∨ cl_z3.slots.size ≤ ((4 : Int32)).toNatClampNeg) := inb_of S_z3 ⟨by decide, by decide⟩
  obtain ⟨T5, h5, X5, e5, W5, st5⟩ := stB X2 hx hZ e2 Ar_z3 (j := (4 : Int32)) hin4 (g := (mkF m 43 #[rv r0, iv 5, iv x] [(.int ((x >>> ((0 : Int32) &&& 31)).toInt8.toInt32)), (.int 4), (.ref r0)])) rfl rfl (hb hby d24_43)
  have V5 : Arv Z h5 r0 kB .byte (10 : Int32) [(.int b0), (.int b1), (.int b2), (.int b3), (.int (((x >>> ((0 : Int32) &&& 31)).toInt8.toInt32).toInt8.toInt32)), (.int b5), (.int b6), (.int b7), (.int b8), (.int b9)] (.int 0) := Arv.set Ar_z3 q_z3 S_z3 N_z3 H_z3 G_z3 (fits_nar_byte _) W5 4 rfl (Nat.le_of_ble_eq_true rfl)
  have N5 := Fr.snoc X5 N0 ge_r0
  have f6 := (S_LO.wr W5)
  obtain ⟨T7, X7, e7, st7⟩ := getS2 X5 hx hZ hown (host := "") (Or.inl (own_at hw 109 rfl)) Via.refl e5 f6 (g := (mkF m 47 #[rv r0, iv 5, iv x] [(.int x), (.int 5), (.ref r0)])) rfl (hb hby d24_47)
  obtain ⟨cl_z8, Ar_z8, q_z8, S_z8, N_z8, H_z8, G_z8⟩ := id V5
  have hin9 : ¬ ((5 : Int32) < 0 ∨ cl_z8.slots.size ≤ ((5 : Int32)).toNatClampNeg) := inb_of S_z8 ⟨by decide, by decide⟩
  obtain ⟨T10, h10, X10, e10, W10, st10⟩ := stB X7 hx hZ e7 Ar_z8 (j := (5 : Int32)) hin9 (g := (mkF m 52 #[rv r0, iv 5, iv x] [(.int ((x >>> ((8 : Int32) &&& 31)).toInt8.toInt32)), (.int 5), (.ref r0)])) rfl rfl (hb hby d24_52)
  have V10 : Arv Z h10 r0 kB .byte (10 : Int32) [(.int b0), (.int b1), (.int b2), (.int b3), (.int (((x >>> ((0 : Int32) &&& 31)).toInt8.toInt32).toInt8.toInt32)), (.int (((x >>> ((8 : Int32) &&& 31)).toInt8.toInt32).toInt8.toInt32)), (.int b6), (.int b7), (.int b8), (.int b9)] (.int 0) := Arv.set Ar_z8 q_z8 S_z8 N_z8 H_z8 G_z8 (fits_nar_byte _) W10 5 rfl (Nat.le_of_ble_eq_true rfl)
  have N10 := Fr.snoc X10 N5 ge_r0
  obtain ⟨fs, hr, hrun, hended, hW, hsame⟩ := X10.leave (v := none) (fun _ => rfl)
  refine ⟨_, _, k0 _ ?_, hrun, hended, _, _, rfl, ?_, ⟨_, rfl⟩, hW, hsame.mono (by decide) (by decide)⟩
  · show OwnS p e below s₁ (mkF m 0 #[rv r0, iv 2, iv x] []) _
    refine st1 _ ?_
    refine XS.ifYes X1.here hx rfl (pc0 := 3) (pc' := 28) rfl (hb hby d24_3) rfl ((if0 _ _).trans (feq (by decide : ¬ ((1 : Int32) = (0 : Int32)))).2) (by decide) (by decide) ?_
    refine oIn X1 hx hby d24_28 rfl (oIc X1 hx hby d24_29 ?_)
    refine XS.ishl X1.here hx rfl (hb hby d24_30) rfl ?_
    refine XS.istoreN X1.here hx rfl (hb hby d24_31) rfl (l' := #[rv r0, iv 4, iv x]) rfl ?_
    refine oAn X1 hx hby d24_32 rfl rfl (oIn X1 hx hby d24_33 rfl ?_)
    refine XS.iinc X1.here hx rfl (hb hby d24_34) rfl (l' := #[rv r0, iv 5, iv x]) rfl ?_
    refine oIn X1 hx hby d24_37 rfl ?_
    refine st2 _ ?_
    refine XS.ishr X2.here hx rfl (hb hby d24_41) rfl ?_
    refine XS.i2b X2.here hx rfl (hb hby d24_42) rfl ?_
    refine st5 _ ?_
    refine oAn X5 hx hby d24_44 rfl rfl (oIn X5 hx hby d24_45 rfl (oIn X5 hx hby d24_46 rfl ?_))
    refine st7 _ ?_
    refine XS.ishr X7.here hx rfl (hb hby d24_50) rfl ?_
    refine XS.i2b X7.here hx rfl (hb hby d24_51) rfl ?_
    refine st10 _ ?_
    exact X10.returnOut hx Bd.returns (hb hby d24_53) hr
  · show Q_PC_5_2 Z _ _ _ _ _ _ _ _ _ _ _ _ _ h0 n0 _ T10.heap _
    rw [e10]
    exact ⟨rfl, N10, (((Keep.refl h0 [r0]).wr W5 (Or.inl (List.mem_of_getElem? (i := 0) rfl))).wr W10 (Or.inl (List.mem_of_getElem? (i := 0) rfl))), V10⟩
def Q_PC_5_3 (Z : State) (r0 : Addr) (x : Int32) (kB : ClassId) (b0 : Int32) (b1 : Int32) (b2 : Int32) (b3 : Int32) (b4 : Int32) (b5 : Int32) (b6 : Int32) (b7 : Int32) (b8 : Int32) (b9 : Int32) (h0 : Heap) (n0 : Nat) (v : Option Value) (h : Heap) (L : List Loc) : Prop := v = none ∧ Fr n0 L ∧ Keep h0 h [r0] ∧ Arv Z h r0 kB .byte (10 : Int32) [(.int b0), (.int b1), (.int b2), (.int b3), (.int b4), (.int b5), (.int (((x >>> ((0 : Int32) &&& 31)).toInt8.toInt32).toInt8.toInt32)), (.int (((x >>> ((8 : Int32) &&& 31)).toInt8.toInt32).toInt8.toInt32)), (.int b8), (.int b9)] (.int 0)
set_option maxRecDepth 65536 in
set_option maxHeartbeats 40000000 in
theorem rmPC_5_3 (l : Launch) (Z : State) (a0 : Array Value) (hw : ∀ d ∈ tables_1, d.before a0 Z = true) (ws : List Jvm.Cond) (r0 : Addr) (x : Int32) (kB : ClassId) (b0 : Int32) (b1 : Int32) (b2 : Int32) (b3 : Int32) (b4 : Int32) (b5 : Int32) (b6 : Int32) (b7 : Int32) (b8 : Int32) (b9 : Int32) (h0 : Heap) (n0 : Nat) (Z0 : n0 ≤ h0.size) (S_AD : Sta Z h0 cS1 cS6 "Z" (.int 1)) (S_HI : Sta Z h0 cS1 cS7 "I" (.int 0)) (S_LO : Sta Z h0 cS1 cS8 "I" (.int 8)) (V_r0 : Arv Z h0 r0 kB .byte (10 : Int32) [(.int b0), (.int b1), (.int b2), (.int b3), (.int b4), (.int b5), (.int b6), (.int b7), (.int b8), (.int b9)] (.int 0)) (E_r0 : Exa Z h0 r0 "[B") (ge_r0 : n0 ≤ r0) :
    MetFree l (⟨cS1, "putChar", "([BII)V"⟩ : MethodName) (head1 (Jvm.Cond.code (⟨cS1, "putChar", "([BII)V"⟩ : MethodName) jdk_52_method_4_code 3 none :: ws) ({ frames := 0, cells := 0, slots := 0, locals := 0 } : Room)) (fun a U => a = #[(.ref r0), (.int 3), (.int x)] ∧ Z.Warmed39 U.vm ∧ U.heap = h0) (fun _ _ _ _ _ => True) (fun _ U o U' => ∃ v L, o = .returned v ∧ Q_PC_5_3 Z r0 x kB b0 b1 b2 b3 b4 b5 b6 b7 b8 b9 h0 n0 v U'.heap L ∧ FrameEnd U o U' L 0 0) := by
  refine MetFree.of_bodySF (plainFor_of_name pn_java_lang_StringUTF16) hisR ?_
  intro p e s m args below meth c s₁ Bd hml0 hP hK
  obtain ⟨rfl, hZ, hh⟩ := hP
  have hx := Bd.exec
  have hby := Bd.bytes
  have hml : c.maxLocals = 3 := hml0
  have hown : s.vm.findClass cS1 = some m.cls := findClass_of_methodNamed Bd.named
  have hnm := (name_of_methodNamed Bd.named Bd.method).1
  have X0 : Stand p l e ({ frames := 0, cells := 0, slots := 0, locals := 0 } : Room) s m #[(.ref r0), (.int 3), (.int x)] below meth c s₁ [] 0 0 := Stand.of_body Bd
  have e0 : s₁.heap = h0 := by rw [← hh, Bd.state]; rfl
  have N0 := Fr.nil n0
  have k0 : ∀ t, OwnS p e below s₁ (mkF m 0 #[rv r0, iv 3, iv x] []) t → OwnS p e below s₁ (entryFrame m #[(.ref r0), (.int 3), (.int x)] 3) t := fun t k => castTop (ef_24 m r0 (3 : Int32) x) k
  obtain ⟨T1, X1, e1, st1⟩ := getS2 X0 hx hZ hown (host := "") (Or.inl (own_at hw 107 rfl)) Via.refl e0 S_AD (g := (mkF m 0 #[rv r0, iv 3, iv x] [])) rfl (hb hby d24_0)
  obtain ⟨T2, X2, e2, st2⟩ := getS2 X1 hx hZ hown (host := "") (Or.inl (own_at hw 108 rfl)) Via.refl e1 S_HI (g := (mkF m 38 #[rv r0, iv 7, iv x] [(.int x), (.int 6), (.ref r0)])) rfl (hb hby d24_38)
  obtain ⟨cl_z3, Ar_z3, q_z3, S_z3, N_z3, H_z3, G_z3⟩ := id V_r0
  have hin4 : ¬ ((6 : Int32) < 0 ∨ cl_z3.slots.size ≤ ((6 : Int32)).toNatClampNeg) := inb_of S_z3 ⟨by decide, by decide⟩
  obtain ⟨T5, h5, X5, e5, W5, st5⟩ := stB X2 hx hZ e2 Ar_z3 (j := (6 : Int32)) hin4 (g := (mkF m 43 #[rv r0, iv 7, iv x] [(.int ((x >>> ((0 : Int32) &&& 31)).toInt8.toInt32)), (.int 6), (.ref r0)])) rfl rfl (hb hby d24_43)
  have V5 : Arv Z h5 r0 kB .byte (10 : Int32) [(.int b0), (.int b1), (.int b2), (.int b3), (.int b4), (.int b5), (.int (((x >>> ((0 : Int32) &&& 31)).toInt8.toInt32).toInt8.toInt32)), (.int b7), (.int b8), (.int b9)] (.int 0) := Arv.set Ar_z3 q_z3 S_z3 N_z3 H_z3 G_z3 (fits_nar_byte _) W5 6 rfl (Nat.le_of_ble_eq_true rfl)
  have N5 := Fr.snoc X5 N0 ge_r0
  have f6 := (S_LO.wr W5)
  obtain ⟨T7, X7, e7, st7⟩ := getS2 X5 hx hZ hown (host := "") (Or.inl (own_at hw 109 rfl)) Via.refl e5 f6 (g := (mkF m 47 #[rv r0, iv 7, iv x] [(.int x), (.int 7), (.ref r0)])) rfl (hb hby d24_47)
  obtain ⟨cl_z8, Ar_z8, q_z8, S_z8, N_z8, H_z8, G_z8⟩ := id V5
  have hin9 : ¬ ((7 : Int32) < 0 ∨ cl_z8.slots.size ≤ ((7 : Int32)).toNatClampNeg) := inb_of S_z8 ⟨by decide, by decide⟩
  obtain ⟨T10, h10, X10, e10, W10, st10⟩ := stB X7 hx hZ e7 Ar_z8 (j := (7 : Int32)) hin9 (g := (mkF m 52 #[rv r0, iv 7, iv x] [(.int ((x >>> ((8 : Int32) &&& 31)).toInt8.toInt32)), (.int 7), (.ref r0)])) rfl rfl (hb hby d24_52)
  have V10 : Arv Z h10 r0 kB .byte (10 : Int32) [(.int b0), (.int b1), (.int b2), (.int b3), (.int b4), (.int b5), (.int (((x >>> ((0 : Int32) &&& 31)).toInt8.toInt32).toInt8.toInt32)), (.int (((x >>> ((8 : Int32) &&& 31)).toInt8.toInt32).toInt8.toInt32)), (.int b8), (.int b9)] (.int 0) := Arv.set Ar_z8 q_z8 S_z8 N_z8 H_z8 G_z8 (fits_nar_byte _) W10 7 rfl (Nat.le_of_ble_eq_true rfl)
  have N10 := Fr.snoc X10 N5 ge_r0
  obtain ⟨fs, hr, hrun, hended, hW, hsame⟩ := X10.leave (v := none) (fun _ => rfl)
  refine ⟨_, _, k0 _ ?_, hrun, hended, _, _, rfl, ?_, ⟨_, rfl⟩, hW, hsame.mono (by decide) (by decide)⟩
  · show OwnS p e below s₁ (mkF m 0 #[rv r0, iv 3, iv x] []) _
    refine st1 _ ?_
    refine XS.ifYes X1.here hx rfl (pc0 := 3) (pc' := 28) rfl (hb hby d24_3) rfl ((if0 _ _).trans (feq (by decide : ¬ ((1 : Int32) = (0 : Int32)))).2) (by decide) (by decide) ?_
    refine oIn X1 hx hby d24_28 rfl (oIc X1 hx hby d24_29 ?_)
    refine XS.ishl X1.here hx rfl (hb hby d24_30) rfl ?_
    refine XS.istoreN X1.here hx rfl (hb hby d24_31) rfl (l' := #[rv r0, iv 6, iv x]) rfl ?_
    refine oAn X1 hx hby d24_32 rfl rfl (oIn X1 hx hby d24_33 rfl ?_)
    refine XS.iinc X1.here hx rfl (hb hby d24_34) rfl (l' := #[rv r0, iv 7, iv x]) rfl ?_
    refine oIn X1 hx hby d24_37 rfl ?_
    refine st2 _ ?_
    refine XS.ishr X2.here hx rfl (hb hby d24_41) rfl ?_
    refine XS.i2b X2.here hx rfl (hb hby d24_42) rfl ?_
    refine st5 _ ?_
    refine oAn X5 hx hby d24_44 rfl rfl (oIn X5 hx hby d24_45 rfl (oIn X5 hx hby d24_46 rfl ?_))
    refine st7 _ ?_
    refine XS.ishr X7.here hx rfl (hb hby d24_50) rfl ?_
    refine XS.i2b X7.here hx rfl (hb hby d24_51) rfl ?_
    refine st10 _ ?_
    exact X10.returnOut hx Bd.returns (hb hby d24_53) hr
  · show Q_PC_5_3 Z _ _ _ _ _ _ _ _ _ _ _ _ _ h0 n0 _ T10.heap _
    rw [e10]
    exact ⟨rfl, N10, (((Keep.refl h0 [r0]).wr W5 (Or.inl (List.mem_of_getElem? (i := 0) rfl))).wr W10 (Or.inl (List.mem_of_getElem? (i := 0) rfl))), V10⟩
def Q_PC_5_4 (Z : State) (r0 : Addr) (x : Int32) (kB : ClassId) (b0 : Int32) (b1 : Int32) (b2 : Int32) (b3 : Int32) (b4 : Int32) (b5 : Int32) (b6 : Int32) (b7 : Int32) (b8 : Int32) (b9 : Int32) (h0 : Heap) (n0 : Nat) (v : Option Value) (h : Heap) (L : List Loc) : Prop := v = none ∧ Fr n0 L ∧ Keep h0 h [r0] ∧ Arv Z h r0 kB .byte (10 : Int32) [(.int b0), (.int b1), (.int b2), (.int b3), (.int b4), (.int b5), (.int b6), (.int b7), (.int (((x >>> ((0 : Int32) &&& 31)).toInt8.toInt32).toInt8.toInt32)), (.int (((x >>> ((8 : Int32) &&& 31)).toInt8.toInt32).toInt8.toInt32))] (.int 0)
set_option maxRecDepth 65536 in
set_option maxHeartbeats 40000000 in
theorem rmPC_5_4 (l : Launch) (Z : State) (a0 : Array Value) (hw : ∀ d ∈ tables_1, d.before a0 Z = true) (ws : List Jvm.Cond) (r0 : Addr) (x : Int32) (kB : ClassId) (b0 : Int32) (b1 : Int32) (b2 : Int32) (b3 : Int32) (b4 : Int32) (b5 : Int32) (b6 : Int32) (b7 : Int32) (b8 : Int32) (b9 : Int32) (h0 : Heap) (n0 : Nat) (Z0 : n0 ≤ h0.size) (S_AD : Sta Z h0 cS1 cS6 "Z" (.int 1)) (S_HI : Sta Z h0 cS1 cS7 "I" (.int 0)) (S_LO : Sta Z h0 cS1 cS8 "I" (.int 8)) (V_r0 : Arv Z h0 r0 kB .byte (10 : Int32) [(.int b0), (.int b1), (.int b2), (.int b3), (.int b4), (.int b5), (.int b6), (.int b7), (.int b8), (.int b9)] (.int 0)) (E_r0 : Exa Z h0 r0 "[B") (ge_r0 : n0 ≤ r0) :
    MetFree l (⟨cS1, "putChar", "([BII)V"⟩ : MethodName) (head1 (Jvm.Cond.code (⟨cS1, "putChar", "([BII)V"⟩ : MethodName) jdk_52_method_4_code 3 none :: ws) ({ frames := 0, cells := 0, slots := 0, locals := 0 } : Room)) (fun a U => a = #[(.ref r0), (.int 4), (.int x)] ∧ Z.Warmed39 U.vm ∧ U.heap = h0) (fun _ _ _ _ _ => True) (fun _ U o U' => ∃ v L, o = .returned v ∧ Q_PC_5_4 Z r0 x kB b0 b1 b2 b3 b4 b5 b6 b7 b8 b9 h0 n0 v U'.heap L ∧ FrameEnd U o U' L 0 0) := by
  refine MetFree.of_bodySF (plainFor_of_name pn_java_lang_StringUTF16) hisR ?_
  intro p e s m args below meth c s₁ Bd hml0 hP hK
  obtain ⟨rfl, hZ, hh⟩ := hP
  have hx := Bd.exec
  have hby := Bd.bytes
  have hml : c.maxLocals = 3 := hml0
  have hown : s.vm.findClass cS1 = some m.cls := findClass_of_methodNamed Bd.named
  have hnm := (name_of_methodNamed Bd.named Bd.method).1
  have X0 : Stand p l e ({ frames := 0, cells := 0, slots := 0, locals := 0 } : Room) s m #[(.ref r0), (.int 4), (.int x)] below meth c s₁ [] 0 0 := Stand.of_body Bd
  have e0 : s₁.heap = h0 := by rw [← hh, Bd.state]; rfl
  have N0 := Fr.nil n0
  have k0 : ∀ t, OwnS p e below s₁ (mkF m 0 #[rv r0, iv 4, iv x] []) t → OwnS p e below s₁ (entryFrame m #[(.ref r0), (.int 4), (.int x)] 3) t := fun t k => castTop (ef_24 m r0 (4 : Int32) x) k
  obtain ⟨T1, X1, e1, st1⟩ := getS2 X0 hx hZ hown (host := "") (Or.inl (own_at hw 107 rfl)) Via.refl e0 S_AD (g := (mkF m 0 #[rv r0, iv 4, iv x] [])) rfl (hb hby d24_0)
  obtain ⟨T2, X2, e2, st2⟩ := getS2 X1 hx hZ hown (host := "") (Or.inl (own_at hw 108 rfl)) Via.refl e1 S_HI (g := (mkF m 38 #[rv r0, iv 9, iv x] [(.int x), (.int 8), (.ref r0)])) rfl (hb hby d24_38)
  obtain ⟨cl_z3, Ar_z3, q_z3, S_z3, N_z3, H_z3, G_z3⟩ := id V_r0
  have hin4 : ¬ ((8 : Int32) < 0 ∨ cl_z3.slots.size ≤ ((8 : Int32)).toNatClampNeg) := inb_of S_z3 ⟨by decide, by decide⟩
  obtain ⟨T5, h5, X5, e5, W5, st5⟩ := stB X2 hx hZ e2 Ar_z3 (j := (8 : Int32)) hin4 (g := (mkF m 43 #[rv r0, iv 9, iv x] [(.int ((x >>> ((0 : Int32) &&& 31)).toInt8.toInt32)), (.int 8), (.ref r0)])) rfl rfl (hb hby d24_43)
  have V5 : Arv Z h5 r0 kB .byte (10 : Int32) [(.int b0), (.int b1), (.int b2), (.int b3), (.int b4), (.int b5), (.int b6), (.int b7), (.int (((x >>> ((0 : Int32) &&& 31)).toInt8.toInt32).toInt8.toInt32)), (.int b9)] (.int 0) := Arv.set Ar_z3 q_z3 S_z3 N_z3 H_z3 G_z3 (fits_nar_byte _) W5 8 rfl (Nat.le_of_ble_eq_true rfl)
  have N5 := Fr.snoc X5 N0 ge_r0
  have f6 := (S_LO.wr W5)
  obtain ⟨T7, X7, e7, st7⟩ := getS2 X5 hx hZ hown (host := "") (Or.inl (own_at hw 109 rfl)) Via.refl e5 f6 (g := (mkF m 47 #[rv r0, iv 9, iv x] [(.int x), (.int 9), (.ref r0)])) rfl (hb hby d24_47)
  obtain ⟨cl_z8, Ar_z8, q_z8, S_z8, N_z8, H_z8, G_z8⟩ := id V5
  have hin9 : ¬ ((9 : Int32) < 0 ∨ cl_z8.slots.size ≤ ((9 : Int32)).toNatClampNeg) := inb_of S_z8 ⟨by decide, by decide⟩
  obtain ⟨T10, h10, X10, e10, W10, st10⟩ := stB X7 hx hZ e7 Ar_z8 (j := (9 : Int32)) hin9 (g := (mkF m 52 #[rv r0, iv 9, iv x] [(.int ((x >>> ((8 : Int32) &&& 31)).toInt8.toInt32)), (.int 9), (.ref r0)])) rfl rfl (hb hby d24_52)
  have V10 : Arv Z h10 r0 kB .byte (10 : Int32) [(.int b0), (.int b1), (.int b2), (.int b3), (.int b4), (.int b5), (.int b6), (.int b7), (.int (((x >>> ((0 : Int32) &&& 31)).toInt8.toInt32).toInt8.toInt32)), (.int (((x >>> ((8 : Int32) &&& 31)).toInt8.toInt32).toInt8.toInt32))] (.int 0) := Arv.set Ar_z8 q_z8 S_z8 N_z8 H_z8 G_z8 (fits_nar_byte _) W10 9 rfl (Nat.le_of_ble_eq_true rfl)
  have N10 := Fr.snoc X10 N5 ge_r0
  obtain ⟨fs, hr, hrun, hended, hW, hsame⟩ := X10.leave (v := none) (fun _ => rfl)
  refine ⟨_, _, k0 _ ?_, hrun, hended, _, _, rfl, ?_, ⟨_, rfl⟩, hW, hsame.mono (by decide) (by decide)⟩
  · show OwnS p e below s₁ (mkF m 0 #[rv r0, iv 4, iv x] []) _
    refine st1 _ ?_
    refine XS.ifYes X1.here hx rfl (pc0 := 3) (pc' := 28) rfl (hb hby d24_3) rfl ((if0 _ _).trans (feq (by decide : ¬ ((1 : Int32) = (0 : Int32)))).2) (by decide) (by decide) ?_
    refine oIn X1 hx hby d24_28 rfl (oIc X1 hx hby d24_29 ?_)
    refine XS.ishl X1.here hx rfl (hb hby d24_30) rfl ?_
    refine XS.istoreN X1.here hx rfl (hb hby d24_31) rfl (l' := #[rv r0, iv 8, iv x]) rfl ?_
    refine oAn X1 hx hby d24_32 rfl rfl (oIn X1 hx hby d24_33 rfl ?_)
    refine XS.iinc X1.here hx rfl (hb hby d24_34) rfl (l' := #[rv r0, iv 9, iv x]) rfl ?_
    refine oIn X1 hx hby d24_37 rfl ?_
    refine st2 _ ?_
    refine XS.ishr X2.here hx rfl (hb hby d24_41) rfl ?_
    refine XS.i2b X2.here hx rfl (hb hby d24_42) rfl ?_
    refine st5 _ ?_
    refine oAn X5 hx hby d24_44 rfl rfl (oIn X5 hx hby d24_45 rfl (oIn X5 hx hby d24_46 rfl ?_))
    refine st7 _ ?_
    refine XS.ishr X7.here hx rfl (hb hby d24_50) rfl ?_
    refine XS.i2b X7.here hx rfl (hb hby d24_51) rfl ?_
    refine st10 _ ?_
    exact X10.returnOut hx Bd.returns (hb hby d24_53) hr
  · show Q_PC_5_4 Z _ _ _ _ _ _ _ _ _ _ _ _ _ h0 n0 _ T10.heap _
    rw [e10]
    exact ⟨rfl, N10, (((Keep.refl h0 [r0]).wr W5 (Or.inl (List.mem_of_getElem? (i := 0) rfl))).wr W10 (Or.inl (List.mem_of_getElem? (i := 0) rfl))), V10⟩
theorem pd_2 : parseMethodDescriptor "(I)[B" = some ⟨[.int], some (.array .byte)⟩ := by decide +kernel
theorem pd_3 : parseMethodDescriptor "([BII)V" = some ⟨[(.array .byte), .int, .int], none⟩ := by decide +kernel
theorem d21_0 : decode jdk_52_method_14_code 0 = .ok (.iload_n 2, 1) := by decide +kernel
theorem d21_1 : decode jdk_52_method_14_code 1 = .ok (.invokestatic 107, 3) := by decide +kernel
theorem d21_4 : decode jdk_52_method_14_code 4 = .ok (.astore_n 3, 1) := by decide +kernel
theorem d21_5 : decode jdk_52_method_14_code 5 = .ok (.iconst 0, 1) := by decide +kernel
theorem d21_6 : decode jdk_52_method_14_code 6 = .ok (.istore 4, 2) := by decide +kernel
theorem d21_8 : decode jdk_52_method_14_code 8 = .ok (.iload 4, 2) := by decide +kernel
theorem d21_10 : decode jdk_52_method_14_code 10 = .ok (.iload_n 2, 1) := by decide +kernel
theorem d21_11 : decode jdk_52_method_14_code 11 = .ok (.if_icmp .ge 21, 3) := by decide +kernel
theorem d21_14 : decode jdk_52_method_14_code 14 = .ok (.aload_n 3, 1) := by decide +kernel
theorem d21_15 : decode jdk_52_method_14_code 15 = .ok (.iload 4, 2) := by decide +kernel
theorem d21_17 : decode jdk_52_method_14_code 17 = .ok (.aload_n 0, 1) := by decide +kernel
theorem d21_18 : decode jdk_52_method_14_code 18 = .ok (.iload_n 1, 1) := by decide +kernel
theorem d21_19 : decode jdk_52_method_14_code 19 = .ok (.caload, 1) := by decide +kernel
theorem d21_20 : decode jdk_52_method_14_code 20 = .ok (.invokestatic 111, 3) := by decide +kernel
theorem d21_23 : decode jdk_52_method_14_code 23 = .ok (.iinc 1 1, 3) := by decide +kernel
theorem d21_26 : decode jdk_52_method_14_code 26 = .ok (.iinc 4 1, 3) := by decide +kernel
theorem d21_29 : decode jdk_52_method_14_code 29 = .ok (.goto (-21), 3) := by decide +kernel
theorem d21_32 : decode jdk_52_method_14_code 32 = .ok (.aload_n 3, 1) := by decide +kernel
theorem d21_33 : decode jdk_52_method_14_code 33 = .ok (.areturn, 1) := by decide +kernel
theorem ef_21 (m : MethodId) (x0 : Addr) (x1 : Int32) (x2 : Int32) : entryFrame m #[(.ref x0), (.int x1), (.int x2)] 5 = mkF m 0 #[.val (.ref x0), .val (.int x1), .val (.int x2), .unset, .unset] [] := by first | (simp [entryFrame, mkF, argsToLocals, Value.category]; done) | rfl
def Q_TB_5 (Z : State) (r0 : Addr) (kC : ClassId) (x0 : Int32) (x1 : Int32) (x2 : Int32) (x3 : Int32) (x4 : Int32) (h0 : Heap) (n0 : Nat) (v : Option Value) (h : Heap) (L : List Loc) : Prop := ∃ ar : Addr, ∃ kk : ClassId, v = some (.ref ar) ∧ Fr n0 L ∧ Keep h0 h [] ∧ h0.size ≤ ar ∧ Arv Z h ar kk .byte (10 : Int32) [(.int (((x0 >>> ((0 : Int32) &&& 31)).toInt8.toInt32).toInt8.toInt32)), (.int (((x0 >>> ((8 : Int32) &&& 31)).toInt8.toInt32).toInt8.toInt32)), (.int (((x1 >>> ((0 : Int32) &&& 31)).toInt8.toInt32).toInt8.toInt32)), (.int (((x1 >>> ((8 : Int32) &&& 31)).toInt8.toInt32).toInt8.toInt32)), (.int (((x2 >>> ((0 : Int32) &&& 31)).toInt8.toInt32).toInt8.toInt32)), (.int (((x2 >>> ((8 : Int32) &&& 31)).toInt8.toInt32).toInt8.toInt32)), (.int (((x3 >>> ((0 : Int32) &&& 31)).toInt8.toInt32).toInt8.toInt32)), (.int (((x3 >>> ((8 : Int32) &&& 31)).toInt8.toInt32).toInt8.toInt32)), (.int (((x4 >>> ((0 : Int32) &&& 31)).toInt8.toInt32).toInt8.toInt32)), (.int (((x4 >>> ((8 : Int32) &&& 31)).toInt8.toInt32).toInt8.toInt32))] (.int 0) ∧ Exa Z h ar "[B"
set_option maxRecDepth 65536 in
set_option maxHeartbeats 40000000 in
theorem rmTB_5 (l : Launch) (Z : State) (a0 : Array Value) (hw : ∀ d ∈ tables_1, d.before a0 Z = true) (ws : List Jvm.Cond) (r0 : Addr) (kC : ClassId) (x0 : Int32) (x1 : Int32) (x2 : Int32) (x3 : Int32) (x4 : Int32) (h0 : Heap) (n0 : Nat) (Z0 : n0 ≤ h0.size) (S_AD : Sta Z h0 cS1 cS6 "Z" (.int 1)) (S_HI : Sta Z h0 cS1 cS7 "I" (.int 0)) (S_LO : Sta Z h0 cS1 cS8 "I" (.int 8)) (V_r0 : Arv Z h0 r0 kC .char (5 : Int32) [(.int x0), (.int x1), (.int x2), (.int x3), (.int x4)] (.int 0)) :
    MetFree l (⟨cS1, "toBytes", "([CII)[B"⟩ : MethodName) (head1 (Jvm.Cond.code (⟨cS1, "toBytes", "([CII)[B"⟩ : MethodName) jdk_52_method_14_code 5 (some (.array .byte)) :: ws) ({ frames := 2, cells := 1, slots := 10, locals := 24 } : Room)) (fun a U => a = #[(.ref r0), (.int 0), (.int 5)] ∧ Z.Warmed39 U.vm ∧ U.heap = h0) (fun _ _ _ _ _ => True) (fun _ U o U' => ∃ v L, o = .returned v ∧ Q_TB_5 Z r0 kC x0 x1 x2 x3 x4 h0 n0 v U'.heap L ∧ FrameEnd U o U' L 1 10) := by
  refine MetFree.of_bodySF (plainFor_of_name pn_java_lang_StringUTF16) hisR ?_
  intro p e s m args below meth c s₁ Bd hml0 hP hK
  obtain ⟨rfl, hZ, hh⟩ := hP
  have hx := Bd.exec
  have hby := Bd.bytes
  have hml : c.maxLocals = 5 := hml0
  have hown : s.vm.findClass cS1 = some m.cls := findClass_of_methodNamed Bd.named
  have hnm := (name_of_methodNamed Bd.named Bd.method).1
  have X0 : Stand p l e ({ frames := 2, cells := 1, slots := 10, locals := 24 } : Room) s m #[(.ref r0), (.int 0), (.int 5)] below meth c s₁ [] 0 0 := Stand.of_body Bd
  have e0 : s₁.heap = h0 := by rw [← hh, Bd.state]; rfl
  have N0 := Fr.nil n0
  have k0 : ∀ t, OwnS p e below s₁ (mkF m 0 #[rv r0, iv 0, iv 5, .unset, .unset] []) t → OwnS p e below s₁ (entryFrame m #[(.ref r0), (.int 0), (.int 5)] 5) t := fun t k => castTop (ef_21 m r0 (0 : Int32) (5 : Int32)) k
  obtain ⟨_, _, ⟨T1, L1, j1, i1⟩, -, X1, ⟨Lc1, hQ1, l1, y1, z1⟩, st1⟩ := Jvm.LawKit.callS X0 hx (y := (⟨cS1, "newBytesFor", "(I)[B"⟩ : MethodName)) hown (mvT hZ (own_at hw 97 rfl)) (mvT hZ (own_at hw 98 rfl)) (mvT hZ (own_at hw 22 rfl)) (mvT hZ (own_at hw 99 rfl)) (by decide) (backOf (W := 0) (rmNF_5 l Z a0 hw []  h0 n0 Z0 ) hZ (own_at hw 99 rfl) (own_at hw 22 rfl) (by decide) (by decide)) (g := (mkF m 1 #[rv r0, iv 0, iv 5, .unset, .unset] [(.int 5)])) rfl (by rw [hml]; rfl) (argsL := [(.int 5)]) (rest := []) (lenOf pd_2 rfl) rfl (Nat.le_refl _) (hb hby d21_1) (fun _ _ => ⟨rfl, e0, (by decide : 0 + 1 ≤ _), (by decide : 0 + 10 ≤ _)⟩)
  dsimp only [Pt.U, Pt.locs, Pt.cells, Pt.slots] at X1 l1 y1 z1 st1 hQ1
  subst l1 y1 z1
  obtain ⟨ar_1, kk_1, rfl, N1q, K1, p1_0, p1_1, p1_2⟩ := hQ1
  have g_ar_1 : n0 ≤ ar_1 := Nat.le_trans Z0 p1_0
  have sz_ar_1 : h0.size ≤ ar_1 := Nat.le_trans (Keep.refl h0 []).1 p1_0
  have N1 := Fr.app N0 N1q
  have f2 := (V_r0.keep K1 nin0)
  obtain ⟨cl_z3, Ar_z3, q_z3, S_z3, N_z3, H_z3, G_z3⟩ := id f2
  have hin4 : ¬ ((0 : Int32) < 0 ∨ cl_z3.slots.size ≤ ((0 : Int32)).toNatClampNeg) := inb_of S_z3 ⟨by decide, by decide⟩
  have f6 := (own_sta_keep S_AD K1 all0)
  have f7 := (own_sta_keep S_HI K1 all0)
  have f8 := (own_sta_keep S_LO K1 all0)
  obtain ⟨_, _, ⟨T5, L5, j5, i5⟩, -, X5, ⟨Lc5, hQ5, l5, y5, z5⟩, st5⟩ := Jvm.LawKit.callS X1 hx (y := (⟨cS1, "putChar", "([BII)V"⟩ : MethodName)) hown (mvT hZ (own_at hw 104 rfl)) (mvT hZ (own_at hw 105 rfl)) (mvT hZ (own_at hw 22 rfl)) (mvT hZ (own_at hw 106 rfl)) (by decide) (backOf (W := 0) (rmPC_5_0 l Z a0 hw [] ar_1 x0 kk_1 (0 : Int32) (0 : Int32) (0 : Int32) (0 : Int32) (0 : Int32) (0 : Int32) (0 : Int32) (0 : Int32) (0 : Int32) (0 : Int32) T1.heap n0 (Nat.le_trans Z0 K1.1) f6 f7 f8 p1_1 p1_2 g_ar_1) hZ (own_at hw 106 rfl) (own_at hw 22 rfl) (by decide) (by decide)) (g := (mkF m 20 #[rv r0, iv 0, iv 5, rv ar_1, iv 0] [(.int x0), (.int 0), (.ref ar_1)])) rfl (by rw [hml]; rfl) (argsL := [(.ref ar_1), (.int 0), (.int x0)]) (rest := []) (lenOf pd_3 rfl) rfl (Nat.le_refl _) (hb hby d21_20) (fun _ _ => ⟨rfl, rfl, (by decide : 1 + 0 ≤ _), (by decide : 10 + 0 ≤ _)⟩)
  dsimp only [Pt.U, Pt.locs, Pt.cells, Pt.slots] at X5 l5 y5 z5 st5 hQ5
  subst l5 y5 z5
  obtain ⟨rfl, N5q, K5, p5_0⟩ := hQ5
  have pl5 := (allS (P := fun x => ∃ cell : Cell, T1.heap[x]? = some cell ∧ cell.vm.isStatics = false) (own_ns p1_2) all0)
  have N5 := Fr.app N1 N5q
  have f9 := (f2.keep K5 (ninS (Nat.ne_of_lt (Nat.lt_of_lt_of_le V_r0.lt p1_0)) nin0))
  obtain ⟨cl_z10, Ar_z10, q_z10, S_z10, N_z10, H_z10, G_z10⟩ := id f9
  have hin11 : ¬ ((1 : Int32) < 0 ∨ cl_z10.slots.size ≤ ((1 : Int32)).toNatClampNeg) := inb_of S_z10 ⟨by decide, by decide⟩
  have f13 := (own_sta_keep f6 K5 pl5)
  have f14 := (own_sta_keep f7 K5 pl5)
  have f15 := (own_sta_keep f8 K5 pl5)
  have f16 := (p1_2.keep K5)
  obtain ⟨_, _, ⟨T12, L12, j12, i12⟩, -, X12, ⟨Lc12, hQ12, l12, y12, z12⟩, st12⟩ := Jvm.LawKit.callS X5 hx (y := (⟨cS1, "putChar", "([BII)V"⟩ : MethodName)) hown (mvT hZ (own_at hw 104 rfl)) (mvT hZ (own_at hw 105 rfl)) (mvT hZ (own_at hw 22 rfl)) (mvT hZ (own_at hw 106 rfl)) (by decide) (backOf (W := 0) (rmPC_5_1 l Z a0 hw [] ar_1 x1 kk_1 (((x0 >>> ((0 : Int32) &&& 31)).toInt8.toInt32).toInt8.toInt32) (((x0 >>> ((8 : Int32) &&& 31)).toInt8.toInt32).toInt8.toInt32) (0 : Int32) (0 : Int32) (0 : Int32) (0 : Int32) (0 : Int32) (0 : Int32) (0 : Int32) (0 : Int32) T5.heap n0 (Nat.le_trans (Nat.le_trans Z0 K1.1) K5.1) f13 f14 f15 p5_0 f16 g_ar_1) hZ (own_at hw 106 rfl) (own_at hw 22 rfl) (by decide) (by decide)) (g := (mkF m 20 #[rv r0, iv 1, iv 5, rv ar_1, iv 1] [(.int x1), (.int 1), (.ref ar_1)])) rfl (by rw [hml]; rfl) (argsL := [(.ref ar_1), (.int 1), (.int x1)]) (rest := []) (lenOf pd_3 rfl) rfl (Nat.le_refl _) (hb hby d21_20) (fun _ _ => ⟨rfl, rfl, (by decide : 1 + 0 ≤ _), (by decide : 10 + 0 ≤ _)⟩)
  dsimp only [Pt.U, Pt.locs, Pt.cells, Pt.slots] at X12 l12 y12 z12 st12 hQ12
  subst l12 y12 z12
  obtain ⟨rfl, N12q, K12, p12_0⟩ := hQ12
  have pl12 := (allS (P := fun x => ∃ cell : Cell, T5.heap[x]? = some cell ∧ cell.vm.isStatics = false) (own_ns f16) all0)
  have N12 := Fr.app N5 N12q
  have f17 := (f9.keep K12 (ninS (Nat.ne_of_lt (Nat.lt_of_lt_of_le V_r0.lt p1_0)) nin0))
  obtain ⟨cl_z18, Ar_z18, q_z18, S_z18, N_z18, H_z18, G_z18⟩ := id f17
  have hin19 : ¬ ((2 : Int32) < 0 ∨ cl_z18.slots.size ≤ ((2 : Int32)).toNatClampNeg) := inb_of S_z18 ⟨by decide, by decide⟩
  have f21 := (own_sta_keep f13 K12 pl12)
  have f22 := (own_sta_keep f14 K12 pl12)
  have f23 := (own_sta_keep f15 K12 pl12)
  have f24 := (f16.keep K12)
  obtain ⟨_, _, ⟨T20, L20, j20, i20⟩, -, X20, ⟨Lc20, hQ20, l20, y20, z20⟩, st20⟩ := Jvm.LawKit.callS X12 hx (y := (⟨cS1, "putChar", "([BII)V"⟩ : MethodName)) hown (mvT hZ (own_at hw 104 rfl)) (mvT hZ (own_at hw 105 rfl)) (mvT hZ (own_at hw 22 rfl)) (mvT hZ (own_at hw 106 rfl)) (by decide) (backOf (W := 0) (rmPC_5_2 l Z a0 hw [] ar_1 x2 kk_1 (((x0 >>> ((0 : Int32) &&& 31)).toInt8.toInt32).toInt8.toInt32) (((x0 >>> ((8 : Int32) &&& 31)).toInt8.toInt32).toInt8.toInt32) (((x1 >>> ((0 : Int32) &&& 31)).toInt8.toInt32).toInt8.toInt32) (((x1 >>> ((8 : Int32) &&& 31)).toInt8.toInt32).toInt8.toInt32) (0 : Int32) (0 : Int32) (0 : Int32) (0 : Int32) (0 : Int32) (0 : Int32) T12.heap n0 (Nat.le_trans (Nat.le_trans (Nat.le_trans Z0 K1.1) K5.1) K12.1) f21 f22 f23 p12_0 f24 g_ar_1) hZ (own_at hw 106 rfl) (own_at hw 22 rfl) (by decide) (by decide)) (g := (mkF m 20 #[rv r0, iv 2, iv 5, rv ar_1, iv 2] [(.int x2), (.int 2), (.ref ar_1)])) rfl (by rw [hml]; rfl) (argsL := [(.ref ar_1), (.int 2), (.int x2)]) (rest := []) (lenOf pd_3 rfl) rfl (Nat.le_refl _) (hb hby d21_20) (fun _ _ => ⟨rfl, rfl, (by decide : 1 + 0 ≤ _), (by decide : 10 + 0 ≤ _)⟩)
  dsimp only [Pt.U, Pt.locs, Pt.cells, Pt.slots] at X20 l20 y20 z20 st20 hQ20
  subst l20 y20 z20
  obtain ⟨rfl, N20q, K20, p20_0⟩ := hQ20
  have pl20 := (allS (P := fun x => ∃ cell : Cell, T12.heap[x]? = some cell ∧ cell.vm.isStatics = false) (own_ns f24) all0)
  have N20 := Fr.app N12 N20q
  have f25 := (f17.keep K20 (ninS (Nat.ne_of_lt (Nat.lt_of_lt_of_le V_r0.lt p1_0)) nin0))
  obtain ⟨cl_z26, Ar_z26, q_z26, S_z26, N_z26, H_z26, G_z26⟩ := id f25
  have hin27 : ¬ ((3 : Int32) < 0 ∨ cl_z26.slots.size ≤ ((3 : Int32)).toNatClampNeg) := inb_of S_z26 ⟨by decide, by decide⟩
  have f29 := (own_sta_keep f21 K20 pl20)
  have f30 := (own_sta_keep f22 K20 pl20)
  have f31 := (own_sta_keep f23 K20 pl20)
  have f32 := (f24.keep K20)
  obtain ⟨_, _, ⟨T28, L28, j28, i28⟩, -, X28, ⟨Lc28, hQ28, l28, y28, z28⟩, st28⟩ := Jvm.LawKit.callS X20 hx (y := (⟨cS1, "putChar", "([BII)V"⟩ : MethodName)) hown (mvT hZ (own_at hw 104 rfl)) (mvT hZ (own_at hw 105 rfl)) (mvT hZ (own_at hw 22 rfl)) (mvT hZ (own_at hw 106 rfl)) (by decide) (backOf (W := 0) (rmPC_5_3 l Z a0 hw [] ar_1 x3 kk_1 (((x0 >>> ((0 : Int32) &&& 31)).toInt8.toInt32).toInt8.toInt32) (((x0 >>> ((8 : Int32) &&& 31)).toInt8.toInt32).toInt8.toInt32) (((x1 >>> ((0 : Int32) &&& 31)).toInt8.toInt32).toInt8.toInt32) (((x1 >>> ((8 : Int32) &&& 31)).toInt8.toInt32).toInt8.toInt32) (((x2 >>> ((0 : Int32) &&& 31)).toInt8.toInt32).toInt8.toInt32) (((x2 >>> ((8 : Int32) &&& 31)).toInt8.toInt32).toInt8.toInt32) (0 : Int32) (0 : Int32) (0 : Int32) (0 : Int32) T20.heap n0 (Nat.le_trans (Nat.le_trans (Nat.le_trans (Nat.le_trans Z0 K1.1) K5.1) K12.1) K20.1) f29 f30 f31 p20_0 f32 g_ar_1) hZ (own_at hw 106 rfl) (own_at hw 22 rfl) (by decide) (by decide)) (g := (mkF m 20 #[rv r0, iv 3, iv 5, rv ar_1, iv 3] [(.int x3), (.int 3), (.ref ar_1)])) rfl (by rw [hml]; rfl) (argsL := [(.ref ar_1), (.int 3), (.int x3)]) (rest := []) (lenOf pd_3 rfl) rfl (Nat.le_refl _) (hb hby d21_20) (fun _ _ => ⟨rfl, rfl, (by decide : 1 + 0 ≤ _), (by decide : 10 + 0 ≤ _)⟩)
  dsimp only [Pt.U, Pt.locs, Pt.cells, Pt.slots] at X28 l28 y28 z28 st28 hQ28
  subst l28 y28 z28
  obtain ⟨rfl, N28q, K28, p28_0⟩ := hQ28
  have pl28 := (allS (P := fun x => ∃ cell : Cell, T20.heap[x]? = some cell ∧ cell.vm.isStatics = false) (own_ns f32) all0)
  have N28 := Fr.app N20 N28q
  have f33 := (f25.keep K28 (ninS (Nat.ne_of_lt (Nat.lt_of_lt_of_le V_r0.lt p1_0)) nin0))
  obtain ⟨cl_z34, Ar_z34, q_z34, S_z34, N_z34, H_z34, G_z34⟩ := id f33
  have hin35 : ¬ ((4 : Int32) < 0 ∨ cl_z34.slots.size ≤ ((4 : Int32)).toNatClampNeg) := inb_of S_z34 ⟨by decide, by decide⟩
  have f37 := (own_sta_keep f29 K28 pl28)
  have f38 := (own_sta_keep f30 K28 pl28)
  have f39 := (own_sta_keep f31 K28 pl28)
  have f40 := (f32.keep K28)
  obtain ⟨_, _, ⟨T36, L36, j36, i36⟩, -, X36, ⟨Lc36, hQ36, l36, y36, z36⟩, st36⟩ := Jvm.LawKit.callS X28 hx (y := (⟨cS1, "putChar", "([BII)V"⟩ : MethodName)) hown (mvT hZ (own_at hw 104 rfl)) (mvT hZ (own_at hw 105 rfl)) (mvT hZ (own_at hw 22 rfl)) (mvT hZ (own_at hw 106 rfl)) (by decide) (backOf (W := 0) (rmPC_5_4 l Z a0 hw [] ar_1 x4 kk_1 (((x0 >>> ((0 : Int32) &&& 31)).toInt8.toInt32).toInt8.toInt32) (((x0 >>> ((8 : Int32) &&& 31)).toInt8.toInt32).toInt8.toInt32) (((x1 >>> ((0 : Int32) &&& 31)).toInt8.toInt32).toInt8.toInt32) (((x1 >>> ((8 : Int32) &&& 31)).toInt8.toInt32).toInt8.toInt32) (((x2 >>> ((0 : Int32) &&& 31)).toInt8.toInt32).toInt8.toInt32) (((x2 >>> ((8 : Int32) &&& 31)).toInt8.toInt32).toInt8.toInt32) (((x3 >>> ((0 : Int32) &&& 31)).toInt8.toInt32).toInt8.toInt32) (((x3 >>> ((8 : Int32) &&& 31)).toInt8.toInt32).toInt8.toInt32) (0 : Int32) (0 : Int32) T28.heap n0 (Nat.le_trans (Nat.le_trans (Nat.le_trans (Nat.le_trans (Nat.le_trans Z0 K1.1) K5.1) K12.1) K20.1) K28.1) f37 f38 f39 p28_0 f40 g_ar_1) hZ (own_at hw 106 rfl) (own_at hw 22 rfl) (by decide) (by decide)) (g := (mkF m 20 #[rv r0, iv 4, iv 5, rv ar_1, iv 4] [(.int x4), (.int 4), (.ref ar_1)])) rfl (by rw [hml]; rfl) (argsL := [(.ref ar_1), (.int 4), (.int x4)]) (rest := []) (lenOf pd_3 rfl) rfl (Nat.le_refl _) (hb hby d21_20) (fun _ _ => ⟨rfl, rfl, (by decide : 1 + 0 ≤ _), (by decide : 10 + 0 ≤ _)⟩)
  dsimp only [Pt.U, Pt.locs, Pt.cells, Pt.slots] at X36 l36 y36 z36 st36 hQ36
  subst l36 y36 z36
  obtain ⟨rfl, N36q, K36, p36_0⟩ := hQ36
  have pl36 := (allS (P := fun x => ∃ cell : Cell, T28.heap[x]? = some cell ∧ cell.vm.isStatics = false) (own_ns f40) all0)
  have N36 := Fr.app N28 N36q
  have f41 := (f40.keep K36)
  obtain ⟨fs, hr, hrun, hended, hW, hsame⟩ := X36.leave (v := some (.ref ar_1)) (fun h => by rw [Bd.returns] at h; cases h)
  refine ⟨_, _, k0 _ ?_, hrun, hended, _, _, rfl, ?_, ⟨_, rfl⟩, hW, hsame.mono (by decide) (by decide)⟩
  · show OwnS p e below s₁ (mkF m 0 #[rv r0, iv 0, iv 5, .unset, .unset] []) _
    refine oIn X0 hx hby d21_0 rfl ?_
    refine st1 _ ?_
    refine XS.astoreN X1.here hx rfl (hb hby d21_4) rfl rfl (l' := #[rv r0, iv 0, iv 5, rv ar_1, .unset]) rfl ?_
    refine oIc X1 hx hby d21_5 ?_
    refine XS.istore X1.here hx rfl (hb hby d21_6) rfl (l' := #[rv r0, iv 0, iv 5, rv ar_1, iv 0]) rfl ?_
    refine oIl X1 hx hby d21_8 rfl (oIn X1 hx hby d21_10 rfl ?_)
    refine XS.icmpNo X1.here hx rfl (hb hby d21_11) rfl (tlt (by decide : (0 : Int32) < (5 : Int32))).2.1 ?_
    refine oAn X1 hx hby d21_14 rfl rfl (oIl X1 hx hby d21_15 rfl (oAn X1 hx hby d21_17 rfl rfl (oIn X1 hx hby d21_18 rfl ?_)))
    refine X1.caload hx (j := (0 : Int32)) (v := (.int x0)) (Ar_z3.1) (State.isArrayOf_alike hZ.alike Ar_z3.2.1) Ar_z3.2.2 hin4 (Has.at H_z3 hin4 rfl) (g := (mkF m 19 #[rv r0, iv 0, iv 5, rv ar_1, iv 0] [(.int 0), (.ref r0), (.int 0), (.ref ar_1)])) rfl rfl (hb hby d21_19) _ ?_
    refine st5 _ ?_
    refine XS.iinc X5.here hx rfl (hb hby d21_23) rfl (l' := #[rv r0, iv 1, iv 5, rv ar_1, iv 0]) rfl ?_
    refine XS.iinc X5.here hx rfl (hb hby d21_26) rfl (l' := #[rv r0, iv 1, iv 5, rv ar_1, iv 1]) rfl ?_
    refine oGo X5 hx hby 29 8 d21_29 (by decide) (by decide) (oIl X5 hx hby d21_8 rfl (oIn X5 hx hby d21_10 rfl ?_))
    refine XS.icmpNo X5.here hx rfl (hb hby d21_11) rfl (tlt (by decide : (1 : Int32) < (5 : Int32))).2.1 ?_
    refine oAn X5 hx hby d21_14 rfl rfl (oIl X5 hx hby d21_15 rfl (oAn X5 hx hby d21_17 rfl rfl (oIn X5 hx hby d21_18 rfl ?_)))
    refine X5.caload hx (j := (1 : Int32)) (v := (.int x1)) (Ar_z10.1) (State.isArrayOf_alike hZ.alike Ar_z10.2.1) Ar_z10.2.2 hin11 (Has.at H_z10 hin11 rfl) (g := (mkF m 19 #[rv r0, iv 1, iv 5, rv ar_1, iv 1] [(.int 1), (.ref r0), (.int 1), (.ref ar_1)])) rfl rfl (hb hby d21_19) _ ?_
    refine st12 _ ?_
    refine XS.iinc X12.here hx rfl (hb hby d21_23) rfl (l' := #[rv r0, iv 2, iv 5, rv ar_1, iv 1]) rfl ?_
    refine XS.iinc X12.here hx rfl (hb hby d21_26) rfl (l' := #[rv r0, iv 2, iv 5, rv ar_1, iv 2]) rfl ?_
    refine oGo X12 hx hby 29 8 d21_29 (by decide) (by decide) (oIl X12 hx hby d21_8 rfl (oIn X12 hx hby d21_10 rfl ?_))
    refine XS.icmpNo X12.here hx rfl (hb hby d21_11) rfl (tlt (by decide : (2 : Int32) < (5 : Int32))).2.1 ?_
    refine oAn X12 hx hby d21_14 rfl rfl (oIl X12 hx hby d21_15 rfl (oAn X12 hx hby d21_17 rfl rfl (oIn X12 hx hby d21_18 rfl ?_)))
    refine X12.caload hx (j := (2 : Int32)) (v := (.int x2)) (Ar_z18.1) (State.isArrayOf_alike hZ.alike Ar_z18.2.1) Ar_z18.2.2 hin19 (Has.at H_z18 hin19 rfl) (g := (mkF m 19 #[rv r0, iv 2, iv 5, rv ar_1, iv 2] [(.int 2), (.ref r0), (.int 2), (.ref ar_1)])) rfl rfl (hb hby d21_19) _ ?_
    refine st20 _ ?_
    refine XS.iinc X20.here hx rfl (hb hby d21_23) rfl (l' := #[rv r0, iv 3, iv 5, rv ar_1, iv 2]) rfl ?_
    refine XS.iinc X20.here hx rfl (hb hby d21_26) rfl (l' := #[rv r0, iv 3, iv 5, rv ar_1, iv 3]) rfl ?_
    show OwnS p e below T20 (mkF m 29 #[rv r0, iv 3, iv 5, rv ar_1, iv 3] []) _
    refine oGo X20 hx hby 29 8 d21_29 (by decide) (by decide) (oIl X20 hx hby d21_8 rfl (oIn X20 hx hby d21_10 rfl ?_))
    refine XS.icmpNo X20.here hx rfl (hb hby d21_11) rfl (tlt (by decide : (3 : Int32) < (5 : Int32))).2.1 ?_
    refine oAn X20 hx hby d21_14 rfl rfl (oIl X20 hx hby d21_15 rfl (oAn X20 hx hby d21_17 rfl rfl (oIn X20 hx hby d21_18 rfl ?_)))
    refine X20.caload hx (j := (3 : Int32)) (v := (.int x3)) (Ar_z26.1) (State.isArrayOf_alike hZ.alike Ar_z26.2.1) Ar_z26.2.2 hin27 (Has.at H_z26 hin27 rfl) (g := (mkF m 19 #[rv r0, iv 3, iv 5, rv ar_1, iv 3] [(.int 3), (.ref r0), (.int 3), (.ref ar_1)])) rfl rfl (hb hby d21_19) _ ?_
    refine st28 _ ?_
    refine XS.iinc X28.here hx rfl (hb hby d21_23) rfl (l' := #[rv r0, iv 4, iv 5, rv ar_1, iv 3]) rfl ?_
    refine XS.iinc X28.here hx rfl (hb hby d21_26) rfl (l' := #[rv r0, iv 4, iv 5, rv ar_1, iv 4]) rfl ?_
    refine oGo X28 hx hby 29 8 d21_29 (by decide) (by decide) (oIl X28 hx hby d21_8 rfl (oIn X28 hx hby d21_10 rfl ?_))
    refine XS.icmpNo X28.here hx rfl (hb hby d21_11) rfl (tlt (by decide : (4 : Int32) < (5 : Int32))).2.1 ?_
    refine oAn X28 hx hby d21_14 rfl rfl (oIl X28 hx hby d21_15 rfl (oAn X28 hx hby d21_17 rfl rfl (oIn X28 hx hby d21_18 rfl ?_)))
    refine X28.caload hx (j := (4 : Int32)) (v := (.int x4)) (Ar_z34.1) (State.isArrayOf_alike hZ.alike Ar_z34.2.1) Ar_z34.2.2 hin35 (Has.at H_z34 hin35 rfl) (g := (mkF m 19 #[rv r0, iv 4, iv 5, rv ar_1, iv 4] [(.int 4), (.ref r0), (.int 4), (.ref ar_1)])) rfl rfl (hb hby d21_19) _ ?_
    refine st36 _ ?_
    refine XS.iinc X36.here hx rfl (hb hby d21_23) rfl (l' := #[rv r0, iv 5, iv 5, rv ar_1, iv 4]) rfl ?_
    refine XS.iinc X36.here hx rfl (hb hby d21_26) rfl (l' := #[rv r0, iv 5, iv 5, rv ar_1, iv 5]) rfl ?_
    refine oGo X36 hx hby 29 8 d21_29 (by decide) (by decide) (oIl X36 hx hby d21_8 rfl (oIn X36 hx hby d21_10 rfl ?_))
    refine XS.icmpYes X36.here hx rfl (pc0 := 11) (pc' := 32) rfl (hb hby d21_11) rfl (flt (by decide : ¬ ((5 : Int32) < (5 : Int32)))).2.1 (by decide) (by decide) ?_
    refine oAn X36 hx hby d21_32 rfl rfl ?_
    jvm_step X36.here [X36.here.top, hx, (hb hby d21_33), X36.method', Bd.returns, Value.isRef, FieldType.isReference]
    first | (intro acts; rw [hr _ acts rfl rfl rfl]) | rw [hr _ _ rfl rfl rfl]
    exact Steps.refl _
  · show Q_TB_5 Z _ _ _ _ _ _ _ h0 n0 _ T36.heap _
    exact ⟨ar_1, kk_1, rfl, N36, (((((((Keep.refl h0 []).trans K1 all0).trans K5 (allS (Or.inr sz_ar_1) all0)).trans K12 (allS (Or.inr sz_ar_1) all0)).trans K20 (allS (Or.inr sz_ar_1) all0)).trans K28 (allS (Or.inr sz_ar_1) all0)).trans K36 (allS (Or.inr sz_ar_1) all0)), sz_ar_1, p36_0, f41⟩
theorem d25_0 : decode jdk_52_method_5_code 0 = .ok (.getstatic 44, 3) := by decide +kernel
theorem d25_3 : decode jdk_52_method_5_code 3 = .ok (.ifCond .ne 25, 3) := by decide +kernel
theorem d25_28 : decode jdk_52_method_5_code 28 = .ok (.iload_n 1, 1) := by decide +kernel
theorem d25_29 : decode jdk_52_method_5_code 29 = .ok (.iconst 1, 1) := by decide +kernel
theorem d25_30 : decode jdk_52_method_5_code 30 = .ok (.ishl, 1) := by decide +kernel
theorem d25_31 : decode jdk_52_method_5_code 31 = .ok (.istore_n 1, 1) := by decide +kernel
theorem d25_32 : decode jdk_52_method_5_code 32 = .ok (.aload_n 0, 1) := by decide +kernel
theorem d25_33 : decode jdk_52_method_5_code 33 = .ok (.iload_n 1, 1) := by decide +kernel
theorem d25_34 : decode jdk_52_method_5_code 34 = .ok (.iinc 1 1, 3) := by decide +kernel
theorem d25_37 : decode jdk_52_method_5_code 37 = .ok (.baload, 1) := by decide +kernel
theorem d25_38 : decode jdk_52_method_5_code 38 = .ok (.sipush 255, 3) := by decide +kernel
theorem d25_41 : decode jdk_52_method_5_code 41 = .ok (.iand, 1) := by decide +kernel
theorem d25_42 : decode jdk_52_method_5_code 42 = .ok (.getstatic 59, 3) := by decide +kernel
theorem d25_45 : decode jdk_52_method_5_code 45 = .ok (.ishl, 1) := by decide +kernel
theorem d25_46 : decode jdk_52_method_5_code 46 = .ok (.aload_n 0, 1) := by decide +kernel
theorem d25_47 : decode jdk_52_method_5_code 47 = .ok (.iload_n 1, 1) := by decide +kernel
theorem d25_48 : decode jdk_52_method_5_code 48 = .ok (.baload, 1) := by decide +kernel
theorem d25_49 : decode jdk_52_method_5_code 49 = .ok (.sipush 255, 3) := by decide +kernel
theorem d25_52 : decode jdk_52_method_5_code 52 = .ok (.iand, 1) := by decide +kernel
theorem d25_53 : decode jdk_52_method_5_code 53 = .ok (.getstatic 63, 3) := by decide +kernel
theorem d25_56 : decode jdk_52_method_5_code 56 = .ok (.ishl, 1) := by decide +kernel
theorem d25_57 : decode jdk_52_method_5_code 57 = .ok (.ior, 1) := by decide +kernel
theorem d25_58 : decode jdk_52_method_5_code 58 = .ok (.i2c, 1) := by decide +kernel
theorem d25_59 : decode jdk_52_method_5_code 59 = .ok (.ireturn, 1) := by decide +kernel
theorem ef_25 (m : MethodId) (x0 : Addr) (x1 : Int32) : entryFrame m #[(.ref x0), (.int x1)] 2 = mkF m 0 #[.val (.ref x0), .val (.int x1)] [] := by first | (simp [entryFrame, mkF, argsToLocals, Value.category]; done) | rfl
def Q_GC_5_0 (Z : State) (r0 : Addr) (kB : ClassId) (x0 : Int32) (x1 : Int32) (x2 : Int32) (x3 : Int32) (x4 : Int32) (h0 : Heap) (n0 : Nat) (v : Option Value) (h : Heap) (L : List Loc) : Prop := v = some (.int x0) ∧ Fr n0 L ∧ h = h0
set_option maxRecDepth 65536 in
set_option maxHeartbeats 40000000 in
theorem rmGC_5_0 (l : Launch) (Z : State) (a0 : Array Value) (hw : ∀ d ∈ tables_1, d.before a0 Z = true) (ws : List Jvm.Cond) (r0 : Addr) (kB : ClassId) (x0 : Int32) (x1 : Int32) (x2 : Int32) (x3 : Int32) (x4 : Int32) (h0 : Heap) (n0 : Nat) (Z0 : n0 ≤ h0.size) (S_AD : Sta Z h0 cS1 cS6 "Z" (.int 1)) (S_HI : Sta Z h0 cS1 cS7 "I" (.int 0)) (S_LO : Sta Z h0 cS1 cS8 "I" (.int 8)) (V_r0 : Arv Z h0 r0 kB .byte (10 : Int32) [(.int (((x0 >>> ((0 : Int32) &&& 31)).toInt8.toInt32).toInt8.toInt32)), (.int (((x0 >>> ((8 : Int32) &&& 31)).toInt8.toInt32).toInt8.toInt32)), (.int (((x1 >>> ((0 : Int32) &&& 31)).toInt8.toInt32).toInt8.toInt32)), (.int (((x1 >>> ((8 : Int32) &&& 31)).toInt8.toInt32).toInt8.toInt32)), (.int (((x2 >>> ((0 : Int32) &&& 31)).toInt8.toInt32).toInt8.toInt32)), (.int (((x2 >>> ((8 : Int32) &&& 31)).toInt8.toInt32).toInt8.toInt32)), (.int (((x3 >>> ((0 : Int32) &&& 31)).toInt8.toInt32).toInt8.toInt32)), (.int (((x3 >>> ((8 : Int32) &&& 31)).toInt8.toInt32).toInt8.toInt32)), (.int (((x4 >>> ((0 : Int32) &&& 31)).toInt8.toInt32).toInt8.toInt32)), (.int (((x4 >>> ((8 : Int32) &&& 31)).toInt8.toInt32).toInt8.toInt32))] (.int 0)) (hch_x0 : own_ch x0) :
    MetFree l (⟨cS1, "getChar", "([BI)C"⟩ : MethodName) (head1 (Jvm.Cond.code (⟨cS1, "getChar", "([BI)C"⟩ : MethodName) jdk_52_method_5_code 2 (some .char) :: ws) ({ frames := 0, cells := 0, slots := 0, locals := 0 } : Room)) (fun a U => a = #[(.ref r0), (.int 0)] ∧ Z.Warmed39 U.vm ∧ U.heap = h0) (fun _ _ _ _ _ => True) (fun _ U o U' => ∃ v L, o = .returned v ∧ Q_GC_5_0 Z r0 kB x0 x1 x2 x3 x4 h0 n0 v U'.heap L ∧ FrameEnd U o U' L 0 0) := by
  refine MetFree.of_bodySF (plainFor_of_name pn_java_lang_StringUTF16) hisR ?_
  intro p e s m args below meth c s₁ Bd hml0 hP hK
  obtain ⟨rfl, hZ, hh⟩ := hP
  have hx := Bd.exec
  have hby := Bd.bytes
  have hml : c.maxLocals = 2 := hml0
  have hown : s.vm.findClass cS1 = some m.cls := findClass_of_methodNamed Bd.named
  have hnm := (name_of_methodNamed Bd.named Bd.method).1
  have X0 : Stand p l e ({ frames := 0, cells := 0, slots := 0, locals := 0 } : Room) s m #[(.ref r0), (.int 0)] below meth c s₁ [] 0 0 := Stand.of_body Bd
  have e0 : s₁.heap = h0 := by rw [← hh, Bd.state]; rfl
  have N0 := Fr.nil n0
  have k0 : ∀ t, OwnS p e below s₁ (mkF m 0 #[rv r0, iv 0] []) t → OwnS p e below s₁ (entryFrame m #[(.ref r0), (.int 0)] 2) t := fun t k => castTop (ef_25 m r0 (0 : Int32)) k
  obtain ⟨T1, X1, e1, st1⟩ := getS2 X0 hx hZ hown (host := "") (Or.inl (own_at hw 107 rfl)) Via.refl e0 S_AD (g := (mkF m 0 #[rv r0, iv 0] [])) rfl (hb hby d25_0)
  obtain ⟨cl_z2, Ar_z2, q_z2, S_z2, N_z2, H_z2, G_z2⟩ := id V_r0
  have hin3 : ¬ ((0 : Int32) < 0 ∨ cl_z2.slots.size ≤ ((0 : Int32)).toNatClampNeg) := inb_of S_z2 ⟨by decide, by decide⟩
  obtain ⟨T4, X4, e4, st4⟩ := getS2 X1 hx hZ hown (host := "") (Or.inl (own_at hw 108 rfl)) Via.refl e1 S_HI (g := (mkF m 42 #[rv r0, iv 1] [(.int ((((x0 >>> ((0 : Int32) &&& 31)).toInt8.toInt32).toInt8.toInt32) &&& (255 : Int32)))])) rfl (hb hby d25_42)
  have hin5 : ¬ ((1 : Int32) < 0 ∨ cl_z2.slots.size ≤ ((1 : Int32)).toNatClampNeg) := inb_of S_z2 ⟨by decide, by decide⟩
  obtain ⟨T6, X6, e6, st6⟩ := getS2 X4 hx hZ hown (host := "") (Or.inl (own_at hw 109 rfl)) Via.refl e4 S_LO (g := (mkF m 53 #[rv r0, iv 1] [(.int ((((x0 >>> ((8 : Int32) &&& 31)).toInt8.toInt32).toInt8.toInt32) &&& (255 : Int32))), (.int (((((x0 >>> ((0 : Int32) &&& 31)).toInt8.toInt32).toInt8.toInt32) &&& (255 : Int32)) <<< ((0 : Int32) &&& 31)))])) rfl (hb hby d25_53)
  obtain ⟨fs, hr, hrun, hended, hW, hsame⟩ := X6.leave (v := some (.int ((((((((x0 >>> ((0 : Int32) &&& 31)).toInt8.toInt32).toInt8.toInt32) &&& (255 : Int32)) <<< ((0 : Int32) &&& 31)) ||| (((((x0 >>> ((8 : Int32) &&& 31)).toInt8.toInt32).toInt8.toInt32) &&& (255 : Int32)) <<< ((8 : Int32) &&& 31))).toUInt32.toUInt16.toUInt32.toInt32).toUInt32.toUInt16.toUInt32.toInt32))) (fun h => by rw [Bd.returns] at h; cases h)
  refine ⟨_, _, k0 _ ?_, hrun, hended, _, _, rfl, ?_, ⟨_, rfl⟩, hW, hsame.mono (by decide) (by decide)⟩
  · show OwnS p e below s₁ (mkF m 0 #[rv r0, iv 0] []) _
    refine st1 _ ?_
    refine XS.ifYes X1.here hx rfl (pc0 := 3) (pc' := 28) rfl (hb hby d25_3) rfl ((if0 _ _).trans (feq (by decide : ¬ ((1 : Int32) = (0 : Int32)))).2) (by decide) (by decide) ?_
    refine oIn X1 hx hby d25_28 rfl (oIc X1 hx hby d25_29 ?_)
    refine XS.ishl X1.here hx rfl (hb hby d25_30) rfl ?_
    refine XS.istoreN X1.here hx rfl (hb hby d25_31) rfl (l' := #[rv r0, iv 0]) rfl ?_
    refine oAn X1 hx hby d25_32 rfl rfl (oIn X1 hx hby d25_33 rfl ?_)
    refine XS.iinc X1.here hx rfl (hb hby d25_34) rfl (l' := #[rv r0, iv 1]) rfl ?_
    refine X1.baloadBytes hx (j := (0 : Int32)) (v := (.int (((x0 >>> ((0 : Int32) &&& 31)).toInt8.toInt32).toInt8.toInt32))) (by rw [e1]; exact Ar_z2.1) (State.isArrayOf_alike hZ.alike Ar_z2.2.1) Ar_z2.2.2 hin3 (Has.at H_z2 hin3 rfl) (g := (mkF m 37 #[rv r0, iv 1] [(.int 0), (.ref r0)])) rfl rfl (hb hby d25_37) _ ?_
    refine XS.sipush X1.here hx rfl (hb hby d25_38) ?_
    refine XS.iand X1.here hx rfl (hb hby d25_41) rfl ?_
    refine st4 _ ?_
    refine XS.ishl X4.here hx rfl (hb hby d25_45) rfl ?_
    refine oAn X4 hx hby d25_46 rfl rfl (oIn X4 hx hby d25_47 rfl ?_)
    refine X4.baloadBytes hx (j := (1 : Int32)) (v := (.int (((x0 >>> ((8 : Int32) &&& 31)).toInt8.toInt32).toInt8.toInt32))) (by rw [e4]; exact Ar_z2.1) (State.isArrayOf_alike hZ.alike Ar_z2.2.1) Ar_z2.2.2 hin5 (Has.at H_z2 hin5 rfl) (g := (mkF m 48 #[rv r0, iv 1] [(.int 1), (.ref r0), (.int (((((x0 >>> ((0 : Int32) &&& 31)).toInt8.toInt32).toInt8.toInt32) &&& (255 : Int32)) <<< ((0 : Int32) &&& 31)))])) rfl rfl (hb hby d25_48) _ ?_
    refine XS.sipush X4.here hx rfl (hb hby d25_49) ?_
    refine XS.iand X4.here hx rfl (hb hby d25_52) rfl ?_
    refine st6 _ ?_
    refine XS.ishl X6.here hx rfl (hb hby d25_56) rfl ?_
    refine XS.ior X6.here hx rfl (hb hby d25_57) rfl ?_
    refine XS.i2c X6.here hx rfl (hb hby d25_58) rfl ?_
    exact retN X6 hx (t := .char) Bd.returns (by simp) (hb hby d25_59) hr
  · show Q_GC_5_0 Z _ _ _ _ _ _ _ h0 n0 _ T6.heap _
    rw [e6]
    exact ⟨(congrArg some (congrArg Value.int (own_u16c hch_x0))), N0, rfl⟩
def Q_GC_5_1 (Z : State) (r0 : Addr) (kB : ClassId) (x0 : Int32) (x1 : Int32) (x2 : Int32) (x3 : Int32) (x4 : Int32) (h0 : Heap) (n0 : Nat) (v : Option Value) (h : Heap) (L : List Loc) : Prop := v = some (.int x1) ∧ Fr n0 L ∧ h = h0
set_option maxRecDepth 65536 in
set_option maxHeartbeats 40000000 in
theorem rmGC_5_1 (l : Launch) (Z : State) (a0 : Array Value) (hw : ∀ d ∈ tables_1, d.before a0 Z = true) (ws : List Jvm.Cond) (r0 : Addr) (kB : ClassId) (x0 : Int32) (x1 : Int32) (x2 : Int32) (x3 : Int32) (x4 : Int32) (h0 : Heap) (n0 : Nat) (Z0 : n0 ≤ h0.size) (S_AD : Sta Z h0 cS1 cS6 "Z" (.int 1)) (S_HI : Sta Z h0 cS1 cS7 "I" (.int 0)) (S_LO : Sta Z h0 cS1 cS8 "I" (.int 8)) (V_r0 : Arv Z h0 r0 kB .byte (10 : Int32) [(.int (((x0 >>> ((0 : Int32) &&& 31)).toInt8.toInt32).toInt8.toInt32)), (.int (((x0 >>> ((8 : Int32) &&& 31)).toInt8.toInt32).toInt8.toInt32)), (.int (((x1 >>> ((0 : Int32) &&& 31)).toInt8.toInt32).toInt8.toInt32)), (.int (((x1 >>> ((8 : Int32) &&& 31)).toInt8.toInt32).toInt8.toInt32)), (.int (((x2 >>> ((0 : Int32) &&& 31)).toInt8.toInt32).toInt8.toInt32)), (.int (((x2 >>> ((8 : Int32) &&& 31)).toInt8.toInt32).toInt8.toInt32)), (.int (((x3 >>> ((0 : Int32) &&& 31)).toInt8.toInt32).toInt8.toInt32)), (.int (((x3 >>> ((8 : Int32) &&& 31)).toInt8.toInt32).toInt8.toInt32)), (.int (((x4 >>> ((0 : Int32) &&& 31)).toInt8.toInt32).toInt8.toInt32)), (.int (((x4 >>> ((8 : Int32) &&& 31)).toInt8.toInt32).toInt8.toInt32))] (.int 0)) (hch_x1 : own_ch x1) :
    MetFree l (⟨cS1, "getChar", "([BI)C"⟩ : MethodName) (head1 (Jvm.Cond.code (⟨cS1, "getChar", "([BI)C"⟩ : MethodName) jdk_52_method_5_code 2 (some .char) :: ws) ({ frames := 0, cells := 0, slots := 0, locals := 0 } : Room)) (fun a U => a = #[(.ref r0), (.int 1)] ∧ Z.Warmed39 U.vm ∧ U.heap = h0) (fun _ _ _ _ _ => True) (fun _ U o U' => ∃ v L, o = .returned v ∧ Q_GC_5_1 Z r0 kB x0 x1 x2 x3 x4 h0 n0 v U'.heap L ∧ FrameEnd U o U' L 0 0) := by
  refine MetFree.of_bodySF (plainFor_of_name pn_java_lang_StringUTF16) hisR ?_
  intro p e s m args below meth c s₁ Bd hml0 hP hK
  obtain ⟨rfl, hZ, hh⟩ := hP
  have hx := Bd.exec
  have hby := Bd.bytes
  have hml : c.maxLocals = 2 := hml0
  have hown : s.vm.findClass cS1 = some m.cls := findClass_of_methodNamed Bd.named
  have hnm := (name_of_methodNamed Bd.named Bd.method).1
  have X0 : Stand p l e ({ frames := 0, cells := 0, slots := 0, locals := 0 } : Room) s m #[(.ref r0), (.int 1)] below meth c s₁ [] 0 0 := Stand.of_body Bd
  have e0 : s₁.heap = h0 := by rw [← hh, Bd.state]; rfl
  have N0 := Fr.nil n0
  have k0 : ∀ t, OwnS p e below s₁ (mkF m 0 #[rv r0, iv 1] []) t → OwnS p e below s₁ (entryFrame m #[(.ref r0), (.int 1)] 2) t := fun t k => castTop (ef_25 m r0 (1 : Int32)) k
  obtain ⟨T1, X1, e1, st1⟩ := getS2 X0 hx hZ hown (host := "") (Or.inl (own_at hw 107 rfl)) Via.refl e0 S_AD (g := (mkF m 0 #[rv r0, iv 1] [])) rfl (hb hby d25_0)
  obtain ⟨cl_z2, Ar_z2, q_z2, S_z2, N_z2, H_z2, G_z2⟩ := id V_r0
  have hin3 : ¬ ((2 : Int32) < 0 ∨ cl_z2.slots.size ≤ ((2 : Int32)).toNatClampNeg) := inb_of S_z2 ⟨by decide, by decide⟩
  obtain ⟨T4, X4, e4, st4⟩ := getS2 X1 hx hZ hown (host := "") (Or.inl (own_at hw 108 rfl)) Via.refl e1 S_HI (g := (mkF m 42 #[rv r0, iv 3] [(.int ((((x1 >>> ((0 : Int32) &&& 31)).toInt8.toInt32).toInt8.toInt32) &&& (255 : Int32)))])) rfl (hb hby d25_42)
  have hin5 : ¬ ((3 : Int32) < 0 ∨ cl_z2.slots.size ≤ ((3 : Int32)).toNatClampNeg) := inb_of S_z2 ⟨by decide, by decide⟩
  obtain ⟨T6, X6, e6, st6⟩ := getS2 X4 hx hZ hown (host := "") (Or.inl (own_at hw 109 rfl)) Via.refl e4 S_LO (g := (mkF m 53 #[rv r0, iv 3] [(.int ((((x1 >>> ((8 : Int32) &&& 31)).toInt8.toInt32).toInt8.toInt32) &&& (255 : Int32))), (.int (((((x1 >>> ((0 : Int32) &&& 31)).toInt8.toInt32).toInt8.toInt32) &&& (255 : Int32)) <<< ((0 : Int32) &&& 31)))])) rfl (hb hby d25_53)
  obtain ⟨fs, hr, hrun, hended, hW, hsame⟩ := X6.leave (v := some (.int ((((((((x1 >>> ((0 : Int32) &&& 31)).toInt8.toInt32).toInt8.toInt32) &&& (255 : Int32)) <<< ((0 : Int32) &&& 31)) ||| (((((x1 >>> ((8 : Int32) &&& 31)).toInt8.toInt32).toInt8.toInt32) &&& (255 : Int32)) <<< ((8 : Int32) &&& 31))).toUInt32.toUInt16.toUInt32.toInt32).toUInt32.toUInt16.toUInt32.toInt32))) (fun h => by rw [Bd.returns] at h; cases h)
  refine ⟨_, _, k0 _ ?_, hrun, hended, _, _, rfl, ?_, ⟨_, rfl⟩, hW, hsame.mono (by decide) (by decide)⟩
  · show OwnS p e below s₁ (mkF m 0 #[rv r0, iv 1] []) _
    refine st1 _ ?_
    refine XS.ifYes X1.here hx rfl (pc0 := 3) (pc' := 28) rfl (hb hby d25_3) rfl ((if0 _ _).trans (feq (by decide : ¬ ((1 : Int32) = (0 : Int32)))).2) (by decide) (by decide) ?_
    refine oIn X1 hx hby d25_28 rfl (oIc X1 hx hby d25_29 ?_)
    refine XS.ishl X1.here hx rfl (hb hby d25_30) rfl ?_
    refine XS.istoreN X1.here hx rfl (hb hby d25_31) rfl (l' := #[rv r0, iv 2]) rfl ?_
    refine oAn X1 hx hby d25_32 rfl rfl (oIn X1 hx hby d25_33 rfl ?_)
    refine XS.iinc X1.here hx rfl (hb hby d25_34) rfl (l' := #[rv r0, iv 3]) rfl ?_
    refine X1.baloadBytes hx (j := (2 : Int32)) (v := (.int (((x1 >>> ((0 : Int32) &&& 31)).toInt8.toInt32).toInt8.toInt32))) (by rw [e1]; exact Ar_z2.1) (State.isArrayOf_alike hZ.alike Ar_z2.2.1) Ar_z2.2.2 hin3 (Has.at H_z2 hin3 rfl) (g := (mkF m 37 #[rv r0, iv 3] [(.int 2), (.ref r0)])) rfl rfl (hb hby d25_37) _ ?_
    refine XS.sipush X1.here hx rfl (hb hby d25_38) ?_
    refine XS.iand X1.here hx rfl (hb hby d25_41) rfl ?_
    refine st4 _ ?_
    refine XS.ishl X4.here hx rfl (hb hby d25_45) rfl ?_
    refine oAn X4 hx hby d25_46 rfl rfl (oIn X4 hx hby d25_47 rfl ?_)
    refine X4.baloadBytes hx (j := (3 : Int32)) (v := (.int (((x1 >>> ((8 : Int32) &&& 31)).toInt8.toInt32).toInt8.toInt32))) (by rw [e4]; exact Ar_z2.1) (State.isArrayOf_alike hZ.alike Ar_z2.2.1) Ar_z2.2.2 hin5 (Has.at H_z2 hin5 rfl) (g := (mkF m 48 #[rv r0, iv 3] [(.int 3), (.ref r0), (.int (((((x1 >>> ((0 : Int32) &&& 31)).toInt8.toInt32).toInt8.toInt32) &&& (255 : Int32)) <<< ((0 : Int32) &&& 31)))])) rfl rfl (hb hby d25_48) _ ?_
    refine XS.sipush X4.here hx rfl (hb hby d25_49) ?_
    refine XS.iand X4.here hx rfl (hb hby d25_52) rfl ?_
    refine st6 _ ?_
    refine XS.ishl X6.here hx rfl (hb hby d25_56) rfl ?_
    refine XS.ior X6.here hx rfl (hb hby d25_57) rfl ?_
    refine XS.i2c X6.here hx rfl (hb hby d25_58) rfl ?_
    exact retN X6 hx (t := .char) Bd.returns (by simp) (hb hby d25_59) hr
  · show Q_GC_5_1 Z _ _ _ _ _ _ _ h0 n0 _ T6.heap _
    rw [e6]
    exact ⟨(congrArg some (congrArg Value.int (own_u16c hch_x1))), N0, rfl⟩
def Q_GC_5_2 (Z : State) (r0 : Addr) (kB : ClassId) (x0 : Int32) (x1 : Int32) (x2 : Int32) (x3 : Int32) (x4 : Int32) (h0 : Heap) (n0 : Nat) (v : Option Value) (h : Heap) (L : List Loc) : Prop := v = some (.int x2) ∧ Fr n0 L ∧ h = h0
set_option maxRecDepth 65536 in
set_option maxHeartbeats 40000000 in
theorem rmGC_5_2 (l : Launch) (Z : State) (a0 : Array Value) (hw : ∀ d ∈ tables_1, d.before a0 Z = true) (ws : List Jvm.Cond) (r0 : Addr) (kB : ClassId) (x0 : Int32) (x1 : Int32) (x2 : Int32) (x3 : Int32) (x4 : Int32) (h0 : Heap) (n0 : Nat) (Z0 : n0 ≤ h0.size) (S_AD : Sta Z h0 cS1 cS6 "Z" (.int 1)) (S_HI : Sta Z h0 cS1 cS7 "I" (.int 0)) (S_LO : Sta Z h0 cS1 cS8 "I" (.int 8)) (V_r0 : Arv Z h0 r0 kB .byte (10 : Int32) [(.int (((x0 >>> ((0 : Int32) &&& 31)).toInt8.toInt32).toInt8.toInt32)), (.int (((x0 >>> ((8 : Int32) &&& 31)).toInt8.toInt32).toInt8.toInt32)), (.int (((x1 >>> ((0 : Int32) &&& 31)).toInt8.toInt32).toInt8.toInt32)), (.int (((x1 >>> ((8 : Int32) &&& 31)).toInt8.toInt32).toInt8.toInt32)), (.int (((x2 >>> ((0 : Int32) &&& 31)).toInt8.toInt32).toInt8.toInt32)), (.int (((x2 >>> ((8 : Int32) &&& 31)).toInt8.toInt32).toInt8.toInt32)), (.int (((x3 >>> ((0 : Int32) &&& 31)).toInt8.toInt32).toInt8.toInt32)), (.int (((x3 >>> ((8 : Int32) &&& 31)).toInt8.toInt32).toInt8.toInt32)), (.int (((x4 >>> ((0 : Int32) &&& 31)).toInt8.toInt32).toInt8.toInt32)), (.int (((x4 >>> ((8 : Int32) &&& 31)).toInt8.toInt32).toInt8.toInt32))] (.int 0)) (hch_x2 : own_ch x2) :
    MetFree l (⟨cS1, "getChar", "([BI)C"⟩ : MethodName) (head1 (Jvm.Cond.code (⟨cS1, "getChar", "([BI)C"⟩ : MethodName) jdk_52_method_5_code 2 (some .char) :: ws) ({ frames := 0, cells := 0, slots := 0, locals := 0 } : Room)) (fun a U => a = #[(.ref r0), (.int 2)] ∧ Z.Warmed39 U.vm ∧ U.heap = h0) (fun _ _ _ _ _ => True) (fun _ U o U' => ∃ v L, o = .returned v ∧ Q_GC_5_2 Z r0 kB x0 x1 x2 x3 x4 h0 n0 v U'.heap L ∧ FrameEnd U o U' L 0 0) := by
  refine MetFree.of_bodySF (plainFor_of_name pn_java_lang_StringUTF16) hisR ?_
  intro p e s m args below meth c s₁ Bd hml0 hP hK
  obtain ⟨rfl, hZ, hh⟩ := hP
  have hx := Bd.exec
  have hby := Bd.bytes
  have hml : c.maxLocals = 2 := hml0
  have hown : s.vm.findClass cS1 = some m.cls := findClass_of_methodNamed Bd.named
  have hnm := (name_of_methodNamed Bd.named Bd.method).1
  have X0 : Stand p l e ({ frames := 0, cells := 0, slots := 0, locals := 0 } : Room) s m #[(.ref r0), (.int 2)] below meth c s₁ [] 0 0 := Stand.of_body Bd
  have e0 : s₁.heap = h0 := by rw [← hh, Bd.state]; rfl
  have N0 := Fr.nil n0
  have k0 : ∀ t, OwnS p e below s₁ (mkF m 0 #[rv r0, iv 2] []) t → OwnS p e below s₁ (entryFrame m #[(.ref r0), (.int 2)] 2) t := fun t k => castTop (ef_25 m r0 (2 : Int32)) k
  obtain ⟨T1, X1, e1, st1⟩ := getS2 X0 hx hZ hown (host := "") (Or.inl (own_at hw 107 rfl)) Via.refl e0 S_AD (g := (mkF m 0 #[rv r0, iv 2] [])) rfl (hb hby d25_0)
  obtain ⟨cl_z2, Ar_z2, q_z2, S_z2, N_z2, H_z2, G_z2⟩ := id V_r0
  have hin3 : ¬ ((4 : Int32) < 0 ∨ cl_z2.slots.size ≤ ((4 : Int32)).toNatClampNeg) := inb_of S_z2 ⟨by decide, by decide⟩
  obtain ⟨T4, X4, e4, st4⟩ := getS2 X1 hx hZ hown (host := "") (Or.inl (own_at hw 108 rfl)) Via.refl e1 S_HI (g := (mkF m 42 #[rv r0, iv 5] [(.int ((((x2 >>> ((0 : Int32) &&& 31)).toInt8.toInt32).toInt8.toInt32) &&& (255 : Int32)))])) rfl (hb hby d25_42)
  have hin5 : ¬ ((5 : Int32) < 0 ∨ cl_z2.slots.size ≤ ((5 : Int32)).toNatClampNeg) := inb_of S_z2 ⟨by decide, by decide⟩
  obtain ⟨T6, X6, e6, st6⟩ := getS2 X4 hx hZ hown (host := "") (Or.inl (own_at hw 109 rfl)) Via.refl e4 S_LO (g := (mkF m 53 #[rv r0, iv 5] [(.int ((((x2 >>> ((8 : Int32) &&& 31)).toInt8.toInt32).toInt8.toInt32) &&& (255 : Int32))), (.int (((((x2 >>> ((0 : Int32) &&& 31)).toInt8.toInt32).toInt8.toInt32) &&& (255 : Int32)) <<< ((0 : Int32) &&& 31)))])) rfl (hb hby d25_53)
  obtain ⟨fs, hr, hrun, hended, hW, hsame⟩ := X6.leave (v := some (.int ((((((((x2 >>> ((0 : Int32) &&& 31)).toInt8.toInt32).toInt8.toInt32) &&& (255 : Int32)) <<< ((0 : Int32) &&& 31)) ||| (((((x2 >>> ((8 : Int32) &&& 31)).toInt8.toInt32).toInt8.toInt32) &&& (255 : Int32)) <<< ((8 : Int32) &&& 31))).toUInt32.toUInt16.toUInt32.toInt32).toUInt32.toUInt16.toUInt32.toInt32))) (fun h => by rw [Bd.returns] at h; cases h)
  refine ⟨_, _, k0 _ ?_, hrun, hended, _, _, rfl, ?_, ⟨_, rfl⟩, hW, hsame.mono (by decide) (by decide)⟩
  · show OwnS p e below s₁ (mkF m 0 #[rv r0, iv 2] []) _
    refine st1 _ ?_
    refine XS.ifYes X1.here hx rfl (pc0 := 3) (pc' := 28) rfl (hb hby d25_3) rfl ((if0 _ _).trans (feq (by decide : ¬ ((1 : Int32) = (0 : Int32)))).2) (by decide) (by decide) ?_
    refine oIn X1 hx hby d25_28 rfl (oIc X1 hx hby d25_29 ?_)
    refine XS.ishl X1.here hx rfl (hb hby d25_30) rfl ?_
    refine XS.istoreN X1.here hx rfl (hb hby d25_31) rfl (l' := #[rv r0, iv 4]) rfl ?_
    refine oAn X1 hx hby d25_32 rfl rfl (oIn X1 hx hby d25_33 rfl ?_)
    refine XS.iinc X1.here hx rfl (hb hby d25_34) rfl (l' := #[rv r0, iv 5]) rfl ?_
    refine X1.baloadBytes hx (j := (4 : Int32)) (v := (.int (((x2 >>> ((0 : Int32) &&& 31)).toInt8.toInt32).toInt8.toInt32))) (by rw [e1]; exact Ar_z2.1) (State.isArrayOf_alike hZ.alike Ar_z2.2.1) Ar_z2.2.2 hin3 (Has.at H_z2 hin3 rfl) (g := (mkF m 37 #[rv r0, iv 5] [(.int 4), (.ref r0)])) rfl rfl (hb hby d25_37) _ ?_
    refine XS.sipush X1.here hx rfl (hb hby d25_38) ?_
    refine XS.iand X1.here hx rfl (hb hby d25_41) rfl ?_
    refine st4 _ ?_
    refine XS.ishl X4.here hx rfl (hb hby d25_45) rfl ?_
    refine oAn X4 hx hby d25_46 rfl rfl (oIn X4 hx hby d25_47 rfl ?_)
    refine X4.baloadBytes hx (j := (5 : Int32)) (v := (.int (((x2 >>> ((8 : Int32) &&& 31)).toInt8.toInt32).toInt8.toInt32))) (by rw [e4]; exact Ar_z2.1) (State.isArrayOf_alike hZ.alike Ar_z2.2.1) Ar_z2.2.2 hin5 (Has.at H_z2 hin5 rfl) (g := (mkF m 48 #[rv r0, iv 5] [(.int 5), (.ref r0), (.int (((((x2 >>> ((0 : Int32) &&& 31)).toInt8.toInt32).toInt8.toInt32) &&& (255 : Int32)) <<< ((0 : Int32) &&& 31)))])) rfl rfl (hb hby d25_48) _ ?_
    refine XS.sipush X4.here hx rfl (hb hby d25_49) ?_
    refine XS.iand X4.here hx rfl (hb hby d25_52) rfl ?_
    refine st6 _ ?_
    refine XS.ishl X6.here hx rfl (hb hby d25_56) rfl ?_
    refine XS.ior X6.here hx rfl (hb hby d25_57) rfl ?_
    refine XS.i2c X6.here hx rfl (hb hby d25_58) rfl ?_
    exact retN X6 hx (t := .char) Bd.returns (by simp) (hb hby d25_59) hr
  · show Q_GC_5_2 Z _ _ _ _ _ _ _ h0 n0 _ T6.heap _
    rw [e6]
    exact ⟨(congrArg some (congrArg Value.int (own_u16c hch_x2))), N0, rfl⟩
def Q_GC_5_3 (Z : State) (r0 : Addr) (kB : ClassId) (x0 : Int32) (x1 : Int32) (x2 : Int32) (x3 : Int32) (x4 : Int32) (h0 : Heap) (n0 : Nat) (v : Option Value) (h : Heap) (L : List Loc) : Prop := v = some (.int x3) ∧ Fr n0 L ∧ h = h0
set_option maxRecDepth 65536 in
set_option maxHeartbeats 40000000 in
theorem rmGC_5_3 (l : Launch) (Z : State) (a0 : Array Value) (hw : ∀ d ∈ tables_1, d.before a0 Z = true) (ws : List Jvm.Cond) (r0 : Addr) (kB : ClassId) (x0 : Int32) (x1 : Int32) (x2 : Int32) (x3 : Int32) (x4 : Int32) (h0 : Heap) (n0 : Nat) (Z0 : n0 ≤ h0.size) (S_AD : Sta Z h0 cS1 cS6 "Z" (.int 1)) (S_HI : Sta Z h0 cS1 cS7 "I" (.int 0)) (S_LO : Sta Z h0 cS1 cS8 "I" (.int 8)) (V_r0 : Arv Z h0 r0 kB .byte (10 : Int32) [(.int (((x0 >>> ((0 : Int32) &&& 31)).toInt8.toInt32).toInt8.toInt32)), (.int (((x0 >>> ((8 : Int32) &&& 31)).toInt8.toInt32).toInt8.toInt32)), (.int (((x1 >>> ((0 : Int32) &&& 31)).toInt8.toInt32).toInt8.toInt32)), (.int (((x1 >>> ((8 : Int32) &&& 31)).toInt8.toInt32).toInt8.toInt32)), (.int (((x2 >>> ((0 : Int32) &&& 31)).toInt8.toInt32).toInt8.toInt32)), (.int (((x2 >>> ((8 : Int32) &&& 31)).toInt8.toInt32).toInt8.toInt32)), (.int (((x3 >>> ((0 : Int32) &&& 31)).toInt8.toInt32).toInt8.toInt32)), (.int (((x3 >>> ((8 : Int32) &&& 31)).toInt8.toInt32).toInt8.toInt32)), (.int (((x4 >>> ((0 : Int32) &&& 31)).toInt8.toInt32).toInt8.toInt32)), (.int (((x4 >>> ((8 : Int32) &&& 31)).toInt8.toInt32).toInt8.toInt32))] (.int 0)) (hch_x3 : own_ch x3) :
    MetFree l (⟨cS1, "getChar", "([BI)C"⟩ : MethodName) (head1 (Jvm.Cond.code (⟨cS1, "getChar", "([BI)C"⟩ : MethodName) jdk_52_method_5_code 2 (some .char) :: ws) ({ frames := 0, cells := 0, slots := 0, locals := 0 } : Room)) (fun a U => a = #[(.ref r0), (.int 3)] ∧ Z.Warmed39 U.vm ∧ U.heap = h0) (fun _ _ _ _ _ => True) (fun _ U o U' => ∃ v L, o = .returned v ∧ Q_GC_5_3 Z r0 kB x0 x1 x2 x3 x4 h0 n0 v U'.heap L ∧ FrameEnd U o U' L 0 0) := by
  refine MetFree.of_bodySF (plainFor_of_name pn_java_lang_StringUTF16) hisR ?_
  intro p e s m args below meth c s₁ Bd hml0 hP hK
  obtain ⟨rfl, hZ, hh⟩ := hP
  have hx := Bd.exec
  have hby := Bd.bytes
  have hml : c.maxLocals = 2 := hml0
  have hown : s.vm.findClass cS1 = some m.cls := findClass_of_methodNamed Bd.named
  have hnm := (name_of_methodNamed Bd.named Bd.method).1
  have X0 : Stand p l e ({ frames := 0, cells := 0, slots := 0, locals := 0 } : Room) s m #[(.ref r0), (.int 3)] below meth c s₁ [] 0 0 := Stand.of_body Bd
  have e0 : s₁.heap = h0 := by rw [← hh, Bd.state]; rfl
  have N0 := Fr.nil n0
  have k0 : ∀ t, OwnS p e below s₁ (mkF m 0 #[rv r0, iv 3] []) t → OwnS p e below s₁ (entryFrame m #[(.ref r0), (.int 3)] 2) t := fun t k => castTop (ef_25 m r0 (3 : Int32)) k
  obtain ⟨T1, X1, e1, st1⟩ := getS2 X0 hx hZ hown (host := "") (Or.inl (own_at hw 107 rfl)) Via.refl e0 S_AD (g := (mkF m 0 #[rv r0, iv 3] [])) rfl (hb hby d25_0)
  obtain ⟨cl_z2, Ar_z2, q_z2, S_z2, N_z2, H_z2, G_z2⟩ := id V_r0
  have hin3 : ¬ ((6 : Int32) < 0 ∨ cl_z2.slots.size ≤ ((6 : Int32)).toNatClampNeg) := inb_of S_z2 ⟨by decide, by decide⟩
  obtain ⟨T4, X4, e4, st4⟩ := getS2 X1 hx hZ hown (host := "") (Or.inl (own_at hw 108 rfl)) Via.refl e1 S_HI (g := (mkF m 42 #[rv r0, iv 7] [(.int ((((x3 >>> ((0 : Int32) &&& 31)).toInt8.toInt32).toInt8.toInt32) &&& (255 : Int32)))])) rfl (hb hby d25_42)
  have hin5 : ¬ ((7 : Int32) < 0 ∨ cl_z2.slots.size ≤ ((7 : Int32)).toNatClampNeg) := inb_of S_z2 ⟨by decide, by decide⟩
  obtain ⟨T6, X6, e6, st6⟩ := getS2 X4 hx hZ hown (host := "") (Or.inl (own_at hw 109 rfl)) Via.refl e4 S_LO (g := (mkF m 53 #[rv r0, iv 7] [(.int ((((x3 >>> ((8 : Int32) &&& 31)).toInt8.toInt32).toInt8.toInt32) &&& (255 : Int32))), (.int (((((x3 >>> ((0 : Int32) &&& 31)).toInt8.toInt32).toInt8.toInt32) &&& (255 : Int32)) <<< ((0 : Int32) &&& 31)))])) rfl (hb hby d25_53)
  obtain ⟨fs, hr, hrun, hended, hW, hsame⟩ := X6.leave (v := some (.int ((((((((x3 >>> ((0 : Int32) &&& 31)).toInt8.toInt32).toInt8.toInt32) &&& (255 : Int32)) <<< ((0 : Int32) &&& 31)) ||| (((((x3 >>> ((8 : Int32) &&& 31)).toInt8.toInt32).toInt8.toInt32) &&& (255 : Int32)) <<< ((8 : Int32) &&& 31))).toUInt32.toUInt16.toUInt32.toInt32).toUInt32.toUInt16.toUInt32.toInt32))) (fun h => by rw [Bd.returns] at h; cases h)
  refine ⟨_, _, k0 _ ?_, hrun, hended, _, _, rfl, ?_, ⟨_, rfl⟩, hW, hsame.mono (by decide) (by decide)⟩
  · show OwnS p e below s₁ (mkF m 0 #[rv r0, iv 3] []) _
    refine st1 _ ?_
    refine XS.ifYes X1.here hx rfl (pc0 := 3) (pc' := 28) rfl (hb hby d25_3) rfl ((if0 _ _).trans (feq (by decide : ¬ ((1 : Int32) = (0 : Int32)))).2) (by decide) (by decide) ?_
    refine oIn X1 hx hby d25_28 rfl (oIc X1 hx hby d25_29 ?_)
    refine XS.ishl X1.here hx rfl (hb hby d25_30) rfl ?_
    refine XS.istoreN X1.here hx rfl (hb hby d25_31) rfl (l' := #[rv r0, iv 6]) rfl ?_
    refine oAn X1 hx hby d25_32 rfl rfl (oIn X1 hx hby d25_33 rfl ?_)
    refine XS.iinc X1.here hx rfl (hb hby d25_34) rfl (l' := #[rv r0, iv 7]) rfl ?_
    refine X1.baloadBytes hx (j := (6 : Int32)) (v := (.int (((x3 >>> ((0 : Int32) &&& 31)).toInt8.toInt32).toInt8.toInt32))) (by rw [e1]; exact Ar_z2.1) (State.isArrayOf_alike hZ.alike Ar_z2.2.1) Ar_z2.2.2 hin3 (Has.at H_z2 hin3 rfl) (g := (mkF m 37 #[rv r0, iv 7] [(.int 6), (.ref r0)])) rfl rfl (hb hby d25_37) _ ?_
    refine XS.sipush X1.here hx rfl (hb hby d25_38) ?_
    refine XS.iand X1.here hx rfl (hb hby d25_41) rfl ?_
    refine st4 _ ?_
    refine XS.ishl X4.here hx rfl (hb hby d25_45) rfl ?_
    refine oAn X4 hx hby d25_46 rfl rfl (oIn X4 hx hby d25_47 rfl ?_)
    refine X4.baloadBytes hx (j := (7 : Int32)) (v := (.int (((x3 >>> ((8 : Int32) &&& 31)).toInt8.toInt32).toInt8.toInt32))) (by rw [e4]; exact Ar_z2.1) (State.isArrayOf_alike hZ.alike Ar_z2.2.1) Ar_z2.2.2 hin5 (Has.at H_z2 hin5 rfl) (g := (mkF m 48 #[rv r0, iv 7] [(.int 7), (.ref r0), (.int (((((x3 >>> ((0 : Int32) &&& 31)).toInt8.toInt32).toInt8.toInt32) &&& (255 : Int32)) <<< ((0 : Int32) &&& 31)))])) rfl rfl (hb hby d25_48) _ ?_
    refine XS.sipush X4.here hx rfl (hb hby d25_49) ?_
    refine XS.iand X4.here hx rfl (hb hby d25_52) rfl ?_
    refine st6 _ ?_
    refine XS.ishl X6.here hx rfl (hb hby d25_56) rfl ?_
    refine XS.ior X6.here hx rfl (hb hby d25_57) rfl ?_
    refine XS.i2c X6.here hx rfl (hb hby d25_58) rfl ?_
    exact retN X6 hx (t := .char) Bd.returns (by simp) (hb hby d25_59) hr
  · show Q_GC_5_3 Z _ _ _ _ _ _ _ h0 n0 _ T6.heap _
    rw [e6]
    exact ⟨(congrArg some (congrArg Value.int (own_u16c hch_x3))), N0, rfl⟩
def Q_GC_5_4 (Z : State) (r0 : Addr) (kB : ClassId) (x0 : Int32) (x1 : Int32) (x2 : Int32) (x3 : Int32) (x4 : Int32) (h0 : Heap) (n0 : Nat) (v : Option Value) (h : Heap) (L : List Loc) : Prop := v = some (.int x4) ∧ Fr n0 L ∧ h = h0
set_option maxRecDepth 65536 in
set_option maxHeartbeats 40000000 in
theorem rmGC_5_4 (l : Launch) (Z : State) (a0 : Array Value) (hw : ∀ d ∈ tables_1, d.before a0 Z = true) (ws : List Jvm.Cond) (r0 : Addr) (kB : ClassId) (x0 : Int32) (x1 : Int32) (x2 : Int32) (x3 : Int32) (x4 : Int32) (h0 : Heap) (n0 : Nat) (Z0 : n0 ≤ h0.size) (S_AD : Sta Z h0 cS1 cS6 "Z" (.int 1)) (S_HI : Sta Z h0 cS1 cS7 "I" (.int 0)) (S_LO : Sta Z h0 cS1 cS8 "I" (.int 8)) (V_r0 : Arv Z h0 r0 kB .byte (10 : Int32) [(.int (((x0 >>> ((0 : Int32) &&& 31)).toInt8.toInt32).toInt8.toInt32)), (.int (((x0 >>> ((8 : Int32) &&& 31)).toInt8.toInt32).toInt8.toInt32)), (.int (((x1 >>> ((0 : Int32) &&& 31)).toInt8.toInt32).toInt8.toInt32)), (.int (((x1 >>> ((8 : Int32) &&& 31)).toInt8.toInt32).toInt8.toInt32)), (.int (((x2 >>> ((0 : Int32) &&& 31)).toInt8.toInt32).toInt8.toInt32)), (.int (((x2 >>> ((8 : Int32) &&& 31)).toInt8.toInt32).toInt8.toInt32)), (.int (((x3 >>> ((0 : Int32) &&& 31)).toInt8.toInt32).toInt8.toInt32)), (.int (((x3 >>> ((8 : Int32) &&& 31)).toInt8.toInt32).toInt8.toInt32)), (.int (((x4 >>> ((0 : Int32) &&& 31)).toInt8.toInt32).toInt8.toInt32)), (.int (((x4 >>> ((8 : Int32) &&& 31)).toInt8.toInt32).toInt8.toInt32))] (.int 0)) (hch_x4 : own_ch x4) :
    MetFree l (⟨cS1, "getChar", "([BI)C"⟩ : MethodName) (head1 (Jvm.Cond.code (⟨cS1, "getChar", "([BI)C"⟩ : MethodName) jdk_52_method_5_code 2 (some .char) :: ws) ({ frames := 0, cells := 0, slots := 0, locals := 0 } : Room)) (fun a U => a = #[(.ref r0), (.int 4)] ∧ Z.Warmed39 U.vm ∧ U.heap = h0) (fun _ _ _ _ _ => True) (fun _ U o U' => ∃ v L, o = .returned v ∧ Q_GC_5_4 Z r0 kB x0 x1 x2 x3 x4 h0 n0 v U'.heap L ∧ FrameEnd U o U' L 0 0) := by
  refine MetFree.of_bodySF (plainFor_of_name pn_java_lang_StringUTF16) hisR ?_
  intro p e s m args below meth c s₁ Bd hml0 hP hK
  obtain ⟨rfl, hZ, hh⟩ := hP
  have hx := Bd.exec
  have hby := Bd.bytes
  have hml : c.maxLocals = 2 := hml0
  have hown : s.vm.findClass cS1 = some m.cls := findClass_of_methodNamed Bd.named
  have hnm := (name_of_methodNamed Bd.named Bd.method).1
  have X0 : Stand p l e ({ frames := 0, cells := 0, slots := 0, locals := 0 } : Room) s m #[(.ref r0), (.int 4)] below meth c s₁ [] 0 0 := Stand.of_body Bd
  have e0 : s₁.heap = h0 := by rw [← hh, Bd.state]; rfl
  have N0 := Fr.nil n0
  have k0 : ∀ t, OwnS p e below s₁ (mkF m 0 #[rv r0, iv 4] []) t → OwnS p e below s₁ (entryFrame m #[(.ref r0), (.int 4)] 2) t := fun t k => castTop (ef_25 m r0 (4 : Int32)) k
  obtain ⟨T1, X1, e1, st1⟩ := getS2 X0 hx hZ hown (host := "") (Or.inl (own_at hw 107 rfl)) Via.refl e0 S_AD (g := (mkF m 0 #[rv r0, iv 4] [])) rfl (hb hby d25_0)
  obtain ⟨cl_z2, Ar_z2, q_z2, S_z2, N_z2, H_z2, G_z2⟩ := id V_r0
  have hin3 : ¬ ((8 : Int32) < 0 ∨ cl_z2.slots.size ≤ ((8 : Int32)).toNatClampNeg) := inb_of S_z2 ⟨by decide, by decide⟩
  obtain ⟨T4, X4, e4, st4⟩ := getS2 X1 hx hZ hown (host := "") (Or.inl (own_at hw 108 rfl)) Via.refl e1 S_HI (g := (mkF m 42 #[rv r0, iv 9] [(.int ((((x4 >>> ((0 : Int32) &&& 31)).toInt8.toInt32).toInt8.toInt32) &&& (255 : Int32)))])) rfl (hb hby d25_42)
  have hin5 : ¬ ((9 : Int32) < 0 ∨ cl_z2.slots.size ≤ ((9 : Int32)).toNatClampNeg) := inb_of S_z2 ⟨by decide, by decide⟩
  obtain ⟨T6, X6, e6, st6⟩ := getS2 X4 hx hZ hown (host := "") (Or.inl (own_at hw 109 rfl)) Via.refl e4 S_LO (g := (mkF m 53 #[rv r0, iv 9] [(.int ((((x4 >>> ((8 : Int32) &&& 31)).toInt8.toInt32).toInt8.toInt32) &&& (255 : Int32))), (.int (((((x4 >>> ((0 : Int32) &&& 31)).toInt8.toInt32).toInt8.toInt32) &&& (255 : Int32)) <<< ((0 : Int32) &&& 31)))])) rfl (hb hby d25_53)
  obtain ⟨fs, hr, hrun, hended, hW, hsame⟩ := X6.leave (v := some (.int ((((((((x4 >>> ((0 : Int32) &&& 31)).toInt8.toInt32).toInt8.toInt32) &&& (255 : Int32)) <<< ((0 : Int32) &&& 31)) ||| (((((x4 >>> ((8 : Int32) &&& 31)).toInt8.toInt32).toInt8.toInt32) &&& (255 : Int32)) <<< ((8 : Int32) &&& 31))).toUInt32.toUInt16.toUInt32.toInt32).toUInt32.toUInt16.toUInt32.toInt32))) (fun h => by rw [Bd.returns] at h; cases h)
  refine ⟨_, _, k0 _ ?_, hrun, hended, _, _, rfl, ?_, ⟨_, rfl⟩, hW, hsame.mono (by decide) (by decide)⟩
  · show OwnS p e below s₁ (mkF m 0 #[rv r0, iv 4] []) _
    refine st1 _ ?_
    refine XS.ifYes X1.here hx rfl (pc0 := 3) (pc' := 28) rfl (hb hby d25_3) rfl ((if0 _ _).trans (feq (by decide : ¬ ((1 : Int32) = (0 : Int32)))).2) (by decide) (by decide) ?_
    refine oIn X1 hx hby d25_28 rfl (oIc X1 hx hby d25_29 ?_)
    refine XS.ishl X1.here hx rfl (hb hby d25_30) rfl ?_
    refine XS.istoreN X1.here hx rfl (hb hby d25_31) rfl (l' := #[rv r0, iv 8]) rfl ?_
    refine oAn X1 hx hby d25_32 rfl rfl (oIn X1 hx hby d25_33 rfl ?_)
    refine XS.iinc X1.here hx rfl (hb hby d25_34) rfl (l' := #[rv r0, iv 9]) rfl ?_
    refine X1.baloadBytes hx (j := (8 : Int32)) (v := (.int (((x4 >>> ((0 : Int32) &&& 31)).toInt8.toInt32).toInt8.toInt32))) (by rw [e1]; exact Ar_z2.1) (State.isArrayOf_alike hZ.alike Ar_z2.2.1) Ar_z2.2.2 hin3 (Has.at H_z2 hin3 rfl) (g := (mkF m 37 #[rv r0, iv 9] [(.int 8), (.ref r0)])) rfl rfl (hb hby d25_37) _ ?_
    refine XS.sipush X1.here hx rfl (hb hby d25_38) ?_
    refine XS.iand X1.here hx rfl (hb hby d25_41) rfl ?_
    refine st4 _ ?_
    refine XS.ishl X4.here hx rfl (hb hby d25_45) rfl ?_
    refine oAn X4 hx hby d25_46 rfl rfl (oIn X4 hx hby d25_47 rfl ?_)
    refine X4.baloadBytes hx (j := (9 : Int32)) (v := (.int (((x4 >>> ((8 : Int32) &&& 31)).toInt8.toInt32).toInt8.toInt32))) (by rw [e4]; exact Ar_z2.1) (State.isArrayOf_alike hZ.alike Ar_z2.2.1) Ar_z2.2.2 hin5 (Has.at H_z2 hin5 rfl) (g := (mkF m 48 #[rv r0, iv 9] [(.int 9), (.ref r0), (.int (((((x4 >>> ((0 : Int32) &&& 31)).toInt8.toInt32).toInt8.toInt32) &&& (255 : Int32)) <<< ((0 : Int32) &&& 31)))])) rfl rfl (hb hby d25_48) _ ?_
    refine XS.sipush X4.here hx rfl (hb hby d25_49) ?_
    refine XS.iand X4.here hx rfl (hb hby d25_52) rfl ?_
    refine st6 _ ?_
    refine XS.ishl X6.here hx rfl (hb hby d25_56) rfl ?_
    refine XS.ior X6.here hx rfl (hb hby d25_57) rfl ?_
    refine XS.i2c X6.here hx rfl (hb hby d25_58) rfl ?_
    exact retN X6 hx (t := .char) Bd.returns (by simp) (hb hby d25_59) hr
  · show Q_GC_5_4 Z _ _ _ _ _ _ _ h0 n0 _ T6.heap _
    rw [e6]
    exact ⟨(congrArg some (congrArg Value.int (own_u16c hch_x4))), N0, rfl⟩
theorem d6_0 : decode jdk_52_method_21_code 0 = .ok (.iconst 0, 1) := by decide +kernel
theorem d6_1 : decode jdk_52_method_21_code 1 = .ok (.istore 5, 2) := by decide +kernel
theorem d6_3 : decode jdk_52_method_21_code 3 = .ok (.iload 5, 2) := by decide +kernel
theorem d6_5 : decode jdk_52_method_21_code 5 = .ok (.iload 4, 2) := by decide +kernel
theorem d6_7 : decode jdk_52_method_21_code 7 = .ok (.if_icmp .ge 37, 3) := by decide +kernel
theorem d6_10 : decode jdk_52_method_21_code 10 = .ok (.aload_n 0, 1) := by decide +kernel
theorem d6_11 : decode jdk_52_method_21_code 11 = .ok (.iload_n 1, 1) := by decide +kernel
theorem d6_12 : decode jdk_52_method_21_code 12 = .ok (.caload, 1) := by decide +kernel
theorem d6_13 : decode jdk_52_method_21_code 13 = .ok (.istore 6, 2) := by decide +kernel
theorem d6_15 : decode jdk_52_method_21_code 15 = .ok (.iload 6, 2) := by decide +kernel
theorem d6_17 : decode jdk_52_method_21_code 17 = .ok (.sipush 255, 3) := by decide +kernel
theorem d6_20 : decode jdk_52_method_21_code 20 = .ok (.if_icmp .le 6, 3) := by decide +kernel
theorem d6_23 : decode jdk_52_method_21_code 23 = .ok (.iload 5, 2) := by decide +kernel
theorem d6_25 : decode jdk_52_method_21_code 25 = .ok (.ireturn, 1) := by decide +kernel
theorem d6_26 : decode jdk_52_method_21_code 26 = .ok (.aload_n 2, 1) := by decide +kernel
theorem d6_27 : decode jdk_52_method_21_code 27 = .ok (.iload_n 3, 1) := by decide +kernel
theorem d6_28 : decode jdk_52_method_21_code 28 = .ok (.iload 6, 2) := by decide +kernel
theorem d6_30 : decode jdk_52_method_21_code 30 = .ok (.i2b, 1) := by decide +kernel
theorem d6_31 : decode jdk_52_method_21_code 31 = .ok (.bastore, 1) := by decide +kernel
theorem d6_32 : decode jdk_52_method_21_code 32 = .ok (.iinc 1 1, 3) := by decide +kernel
theorem d6_35 : decode jdk_52_method_21_code 35 = .ok (.iinc 3 1, 3) := by decide +kernel
theorem d6_38 : decode jdk_52_method_21_code 38 = .ok (.iinc 5 1, 3) := by decide +kernel
theorem d6_41 : decode jdk_52_method_21_code 41 = .ok (.goto (-38), 3) := by decide +kernel
theorem d6_44 : decode jdk_52_method_21_code 44 = .ok (.iload 4, 2) := by decide +kernel
theorem d6_46 : decode jdk_52_method_21_code 46 = .ok (.ireturn, 1) := by decide +kernel
theorem ef_6 (m : MethodId) (x0 : Addr) (x1 : Int32) (x2 : Addr) (x3 : Int32) (x4 : Int32) : entryFrame m #[(.ref x0), (.int x1), (.ref x2), (.int x3), (.int x4)] 7 = mkF m 0 #[.val (.ref x0), .val (.int x1), .val (.ref x2), .val (.int x3), .val (.int x4), .unset, .unset] [] := by first | (simp [entryFrame, mkF, argsToLocals, Value.category]; done) | rfl
def Q_C2_5 (Z : State) (r0 : Addr) (r2 : Addr) (kC : ClassId) (kB : ClassId) (x0 : Int32) (x1 : Int32) (x2 : Int32) (x3 : Int32) (x4 : Int32) (h0 : Heap) (n0 : Nat) (v : Option Value) (h : Heap) (L : List Loc) : Prop := (v = some (.int 0) ∧ Fr n0 L ∧ Keep h0 h [r2] ∧ Arv Z h r2 kB .byte (5 : Int32) [(.int 0), (.int 0), (.int 0), (.int 0), (.int 0)] (.int 0) ∧ (255 : Int32) < x0) ∨ (v = some (.int 1) ∧ Fr n0 L ∧ Keep h0 h [r2] ∧ Arv Z h r2 kB .byte (5 : Int32) [(.int ((x0.toInt8.toInt32).toInt8.toInt32)), (.int 0), (.int 0), (.int 0), (.int 0)] (.int 0) ∧ ¬ ((255 : Int32) < x0) ∧ (255 : Int32) < x1) ∨ (v = some (.int 2) ∧ Fr n0 L ∧ Keep h0 h [r2] ∧ Arv Z h r2 kB .byte (5 : Int32) [(.int ((x0.toInt8.toInt32).toInt8.toInt32)), (.int ((x1.toInt8.toInt32).toInt8.toInt32)), (.int 0), (.int 0), (.int 0)] (.int 0) ∧ ¬ ((255 : Int32) < x0) ∧ ¬ ((255 : Int32) < x1) ∧ (255 : Int32) < x2) ∨ (v = some (.int 3) ∧ Fr n0 L ∧ Keep h0 h [r2] ∧ Arv Z h r2 kB .byte (5 : Int32) [(.int ((x0.toInt8.toInt32).toInt8.toInt32)), (.int ((x1.toInt8.toInt32).toInt8.toInt32)), (.int ((x2.toInt8.toInt32).toInt8.toInt32)), (.int 0), (.int 0)] (.int 0) ∧ ¬ ((255 : Int32) < x0) ∧ ¬ ((255 : Int32) < x1) ∧ ¬ ((255 : Int32) < x2) ∧ (255 : Int32) < x3) ∨ (v = some (.int 4) ∧ Fr n0 L ∧ Keep h0 h [r2] ∧ Arv Z h r2 kB .byte (5 : Int32) [(.int ((x0.toInt8.toInt32).toInt8.toInt32)), (.int ((x1.toInt8.toInt32).toInt8.toInt32)), (.int ((x2.toInt8.toInt32).toInt8.toInt32)), (.int ((x3.toInt8.toInt32).toInt8.toInt32)), (.int 0)] (.int 0) ∧ ¬ ((255 : Int32) < x0) ∧ ¬ ((255 : Int32) < x1) ∧ ¬ ((255 : Int32) < x2) ∧ ¬ ((255 : Int32) < x3) ∧ (255 : Int32) < x4) ∨ (v = some (.int 5) ∧ Fr n0 L ∧ Keep h0 h [r2] ∧ Arv Z h r2 kB .byte (5 : Int32) [(.int ((x0.toInt8.toInt32).toInt8.toInt32)), (.int ((x1.toInt8.toInt32).toInt8.toInt32)), (.int ((x2.toInt8.toInt32).toInt8.toInt32)), (.int ((x3.toInt8.toInt32).toInt8.toInt32)), (.int ((x4.toInt8.toInt32).toInt8.toInt32))] (.int 0) ∧ ¬ ((255 : Int32) < x0) ∧ ¬ ((255 : Int32) < x1) ∧ ¬ ((255 : Int32) < x2) ∧ ¬ ((255 : Int32) < x3) ∧ ¬ ((255 : Int32) < x4))
set_option maxRecDepth 65536 in
set_option maxHeartbeats 40000000 in
theorem rmC2_5 (l : Launch) (Z : State) (a0 : Array Value) (hw : ∀ d ∈ tables_1, d.before a0 Z = true) (ws : List Jvm.Cond) (r0 : Addr) (r2 : Addr) (kC : ClassId) (kB : ClassId) (x0 : Int32) (x1 : Int32) (x2 : Int32) (x3 : Int32) (x4 : Int32) (h0 : Heap) (n0 : Nat) (Z0 : n0 ≤ h0.size) (V_r0 : Arv Z h0 r0 kC .char (5 : Int32) [(.int x0), (.int x1), (.int x2), (.int x3), (.int x4)] (.int 0)) (V_r2 : Arv Z h0 r2 kB .byte (5 : Int32) [(.int 0), (.int 0), (.int 0), (.int 0), (.int 0)] (.int 0)) (E_r2 : Exa Z h0 r2 "[B") (ge_r2 : n0 ≤ r2) (ne_r0_r2 : r0 ≠ r2) :
    MetFree l (⟨cS1, "compress", "([CI[BII)I"⟩ : MethodName) (head1 (Jvm.Cond.code (⟨cS1, "compress", "([CI[BII)I"⟩ : MethodName) jdk_52_method_21_code 7 (some .int) :: ws) ({ frames := 0, cells := 0, slots := 0, locals := 0 } : Room)) (fun a U => a = #[(.ref r0), (.int 0), (.ref r2), (.int 0), (.int 5)] ∧ Z.Warmed39 U.vm ∧ U.heap = h0) (fun _ _ _ _ _ => True) (fun _ U o U' => ∃ v L, o = .returned v ∧ Q_C2_5 Z r0 r2 kC kB x0 x1 x2 x3 x4 h0 n0 v U'.heap L ∧ FrameEnd U o U' L 0 0) := by
  refine MetFree.of_bodySF (plainFor_of_name pn_java_lang_StringUTF16) hisR ?_
  intro p e s m args below meth c s₁ Bd hml0 hP hK
  obtain ⟨rfl, hZ, hh⟩ := hP
  have hx := Bd.exec
  have hby := Bd.bytes
  have hml : c.maxLocals = 7 := hml0
  have hown : s.vm.findClass cS1 = some m.cls := findClass_of_methodNamed Bd.named
  have hnm := (name_of_methodNamed Bd.named Bd.method).1
  have X0 : Stand p l e ({ frames := 0, cells := 0, slots := 0, locals := 0 } : Room) s m #[(.ref r0), (.int 0), (.ref r2), (.int 0), (.int 5)] below meth c s₁ [] 0 0 := Stand.of_body Bd
  have e0 : s₁.heap = h0 := by rw [← hh, Bd.state]; rfl
  have N0 := Fr.nil n0
  have k0 : ∀ t, OwnS p e below s₁ (mkF m 0 #[rv r0, iv 0, rv r2, iv 0, iv 5, .unset, .unset] []) t → OwnS p e below s₁ (entryFrame m #[(.ref r0), (.int 0), (.ref r2), (.int 0), (.int 5)] 7) t := fun t k => castTop (ef_6 m r0 (0 : Int32) r2 (0 : Int32) (5 : Int32)) k
  obtain ⟨cl_z1, Ar_z1, q_z1, S_z1, N_z1, H_z1, G_z1⟩ := id V_r0
  have hin2 : ¬ ((0 : Int32) < 0 ∨ cl_z1.slots.size ≤ ((0 : Int32)).toNatClampNeg) := inb_of S_z1 ⟨by decide, by decide⟩
  have k4 : ∀ t, OwnS p e below s₁ (mkF m 20 #[rv r0, iv 0, rv r2, iv 0, iv 5, iv 0, iv x0] [(.int 255), (.int x0)]) t → OwnS p e below s₁ (entryFrame m #[(.ref r0), (.int 0), (.ref r2), (.int 0), (.int 5)] 7) t := fun t q => by
   refine k0 t ?_
   show OwnS p e below s₁ (mkF m 0 #[rv r0, iv 0, rv r2, iv 0, iv 5, .unset, .unset] []) _
   refine oIc X0 hx hby d6_0 ?_
   refine XS.istore X0.here hx rfl (hb hby d6_1) rfl (l' := #[rv r0, iv 0, rv r2, iv 0, iv 5, iv 0, .unset]) rfl ?_
   refine oIl X0 hx hby d6_3 rfl (oIl X0 hx hby d6_5 rfl ?_)
   refine XS.icmpNo X0.here hx rfl (hb hby d6_7) rfl (tlt (by decide : (0 : Int32) < (5 : Int32))).2.1 ?_
   refine oAn X0 hx hby d6_10 rfl rfl (oIn X0 hx hby d6_11 rfl ?_)
   refine X0.caload hx (j := (0 : Int32)) (v := (.int x0)) (by rw [e0]; exact Ar_z1.1) (State.isArrayOf_alike hZ.alike Ar_z1.2.1) Ar_z1.2.2 hin2 (Has.at H_z1 hin2 rfl) (g := (mkF m 12 #[rv r0, iv 0, rv r2, iv 0, iv 5, iv 0, .unset] [(.int 0), (.ref r0)])) rfl rfl (hb hby d6_12) _ ?_
   refine XS.istore X0.here hx rfl (hb hby d6_13) rfl (l' := #[rv r0, iv 0, rv r2, iv 0, iv 5, iv 0, iv x0]) rfl ?_
   refine oIl X0 hx hby d6_15 rfl ?_
   refine XS.sipush X0.here hx rfl (hb hby d6_17) ?_
   exact q
  by_cases hc20_3 : (255 : Int32) < x0
  · obtain ⟨fs, hr, hrun, hended, hW, hsame⟩ := X0.leave (v := some (.int 0)) (fun h => by rw [Bd.returns] at h; cases h)
    refine ⟨_, _, k4 _ ?_, hrun, hended, _, _, rfl, ?_, ⟨_, rfl⟩, hW, hsame.mono (by decide) (by decide)⟩
    · refine XS.icmpNo X0.here hx rfl (hb hby d6_20) rfl (tlt hc20_3).2.2.2 ?_
      refine oIl X0 hx hby d6_23 rfl ?_
      exact retI X0 hx Bd.returns (hb hby d6_25) hr
    · show Q_C2_5 Z _ _ _ _ _ _ _ _ _ h0 n0 _ s₁.heap _
      rw [e0]
      exact Or.inl (⟨rfl, N0, (Keep.refl h0 [r2]), V_r2, hc20_3⟩)
  · obtain ⟨cl_z5, Ar_z5, q_z5, S_z5, N_z5, H_z5, G_z5⟩ := id V_r2
    have hin6 : ¬ ((0 : Int32) < 0 ∨ cl_z5.slots.size ≤ ((0 : Int32)).toNatClampNeg) := inb_of S_z5 ⟨by decide, by decide⟩
    obtain ⟨T7, h7, X7, e7, W7, st7⟩ := stB X0 hx hZ e0 Ar_z5 (j := (0 : Int32)) hin6 (g := (mkF m 31 #[rv r0, iv 0, rv r2, iv 0, iv 5, iv 0, iv x0] [(.int (x0.toInt8.toInt32)), (.int 0), (.ref r2)])) rfl rfl (hb hby d6_31)
    have V7 : Arv Z h7 r2 kB .byte (5 : Int32) [(.int ((x0.toInt8.toInt32).toInt8.toInt32)), (.int 0), (.int 0), (.int 0), (.int 0)] (.int 0) := Arv.set Ar_z5 q_z5 S_z5 N_z5 H_z5 G_z5 (fits_nar_byte _) W7 0 rfl (Nat.le_of_ble_eq_true rfl)
    have N7 := Fr.snoc X7 N0 ge_r2
    have f8 := (V_r0.other W7 ne_r0_r2)
    obtain ⟨cl_z9, Ar_z9, q_z9, S_z9, N_z9, H_z9, G_z9⟩ := id f8
    have hin10 : ¬ ((1 : Int32) < 0 ∨ cl_z9.slots.size ≤ ((1 : Int32)).toNatClampNeg) := inb_of S_z9 ⟨by decide, by decide⟩
    have k12 : ∀ t, OwnS p e below T7 (mkF m 20 #[rv r0, iv 1, rv r2, iv 1, iv 5, iv 1, iv x1] [(.int 255), (.int x1)]) t → OwnS p e below s₁ (entryFrame m #[(.ref r0), (.int 0), (.ref r2), (.int 0), (.int 5)] 7) t := fun t q => by
     refine k4 t ?_
     refine XS.icmpYes X0.here hx rfl (pc0 := 20) (pc' := 26) rfl (hb hby d6_20) rfl (flt hc20_3).2.2.2 (by decide) (by decide) ?_
     refine oAn X0 hx hby d6_26 rfl rfl (oIn X0 hx hby d6_27 rfl (oIl X0 hx hby d6_28 rfl ?_))
     refine XS.i2b X0.here hx rfl (hb hby d6_30) rfl ?_
     refine st7 _ ?_
     refine XS.iinc X7.here hx rfl (hb hby d6_32) rfl (l' := #[rv r0, iv 1, rv r2, iv 0, iv 5, iv 0, iv x0]) rfl ?_
     refine XS.iinc X7.here hx rfl (hb hby d6_35) rfl (l' := #[rv r0, iv 1, rv r2, iv 1, iv 5, iv 0, iv x0]) rfl ?_
     refine XS.iinc X7.here hx rfl (hb hby d6_38) rfl (l' := #[rv r0, iv 1, rv r2, iv 1, iv 5, iv 1, iv x0]) rfl ?_
     refine oGo X7 hx hby 41 3 d6_41 (by decide) (by decide) (oIl X7 hx hby d6_3 rfl (oIl X7 hx hby d6_5 rfl ?_))
     refine XS.icmpNo X7.here hx rfl (hb hby d6_7) rfl (tlt (by decide : (1 : Int32) < (5 : Int32))).2.1 ?_
     refine oAn X7 hx hby d6_10 rfl rfl (oIn X7 hx hby d6_11 rfl ?_)
     refine X7.caload hx (j := (1 : Int32)) (v := (.int x1)) (by rw [e7]; exact Ar_z9.1) (State.isArrayOf_alike hZ.alike Ar_z9.2.1) Ar_z9.2.2 hin10 (Has.at H_z9 hin10 rfl) (g := (mkF m 12 #[rv r0, iv 1, rv r2, iv 1, iv 5, iv 1, iv x0] [(.int 1), (.ref r0)])) rfl rfl (hb hby d6_12) _ ?_
     refine XS.istore X7.here hx rfl (hb hby d6_13) rfl (l' := #[rv r0, iv 1, rv r2, iv 1, iv 5, iv 1, iv x1]) rfl ?_
     refine oIl X7 hx hby d6_15 rfl ?_
     refine XS.sipush X7.here hx rfl (hb hby d6_17) ?_
     exact q
    by_cases hc20_11 : (255 : Int32) < x1
    · obtain ⟨fs, hr, hrun, hended, hW, hsame⟩ := X7.leave (v := some (.int 1)) (fun h => by rw [Bd.returns] at h; cases h)
      refine ⟨_, _, k12 _ ?_, hrun, hended, _, _, rfl, ?_, ⟨_, rfl⟩, hW, hsame.mono (by decide) (by decide)⟩
      · refine XS.icmpNo X7.here hx rfl (hb hby d6_20) rfl (tlt hc20_11).2.2.2 ?_
        refine oIl X7 hx hby d6_23 rfl ?_
        exact retI X7 hx Bd.returns (hb hby d6_25) hr
      · show Q_C2_5 Z _ _ _ _ _ _ _ _ _ h0 n0 _ T7.heap _
        rw [e7]
        exact Or.inr (Or.inl (⟨rfl, N7, ((Keep.refl h0 [r2]).wr W7 (Or.inl (List.mem_of_getElem? (i := 0) rfl))), V7, hc20_3, hc20_11⟩))
    · obtain ⟨cl_z13, Ar_z13, q_z13, S_z13, N_z13, H_z13, G_z13⟩ := id V7
      have hin14 : ¬ ((1 : Int32) < 0 ∨ cl_z13.slots.size ≤ ((1 : Int32)).toNatClampNeg) := inb_of S_z13 ⟨by decide, by decide⟩
      obtain ⟨T15, h15, X15, e15, W15, st15⟩ := stB X7 hx hZ e7 Ar_z13 (j := (1 : Int32)) hin14 (g := (mkF m 31 #[rv r0, iv 1, rv r2, iv 1, iv 5, iv 1, iv x1] [(.int (x1.toInt8.toInt32)), (.int 1), (.ref r2)])) rfl rfl (hb hby d6_31)
      have V15 : Arv Z h15 r2 kB .byte (5 : Int32) [(.int ((x0.toInt8.toInt32).toInt8.toInt32)), (.int ((x1.toInt8.toInt32).toInt8.toInt32)), (.int 0), (.int 0), (.int 0)] (.int 0) := Arv.set Ar_z13 q_z13 S_z13 N_z13 H_z13 G_z13 (fits_nar_byte _) W15 1 rfl (Nat.le_of_ble_eq_true rfl)
      have N15 := Fr.snoc X15 N7 ge_r2
      have f16 := (f8.other W15 ne_r0_r2)
      obtain ⟨cl_z17, Ar_z17, q_z17, S_z17, N_z17, H_z17, G_z17⟩ := id f16
      have hin18 : ¬ ((2 : Int32) < 0 ∨ cl_z17.slots.size ≤ ((2 : Int32)).toNatClampNeg) := inb_of S_z17 ⟨by decide, by decide⟩
      have k20 : ∀ t, OwnS p e below T15 (mkF m 20 #[rv r0, iv 2, rv r2, iv 2, iv 5, iv 2, iv x2] [(.int 255), (.int x2)]) t → OwnS p e below s₁ (entryFrame m #[(.ref r0), (.int 0), (.ref r2), (.int 0), (.int 5)] 7) t := fun t q => by
       refine k12 t ?_
       refine XS.icmpYes X7.here hx rfl (pc0 := 20) (pc' := 26) rfl (hb hby d6_20) rfl (flt hc20_11).2.2.2 (by decide) (by decide) ?_
       refine oAn X7 hx hby d6_26 rfl rfl (oIn X7 hx hby d6_27 rfl (oIl X7 hx hby d6_28 rfl ?_))
       refine XS.i2b X7.here hx rfl (hb hby d6_30) rfl ?_
       refine st15 _ ?_
       refine XS.iinc X15.here hx rfl (hb hby d6_32) rfl (l' := #[rv r0, iv 2, rv r2, iv 1, iv 5, iv 1, iv x1]) rfl ?_
       refine XS.iinc X15.here hx rfl (hb hby d6_35) rfl (l' := #[rv r0, iv 2, rv r2, iv 2, iv 5, iv 1, iv x1]) rfl ?_
       refine XS.iinc X15.here hx rfl (hb hby d6_38) rfl (l' := #[rv r0, iv 2, rv r2, iv 2, iv 5, iv 2, iv x1]) rfl ?_
       refine oGo X15 hx hby 41 3 d6_41 (by decide) (by decide) (oIl X15 hx hby d6_3 rfl (oIl X15 hx hby d6_5 rfl ?_))
       refine XS.icmpNo X15.here hx rfl (hb hby d6_7) rfl (tlt (by decide : (2 : Int32) < (5 : Int32))).2.1 ?_
       refine oAn X15 hx hby d6_10 rfl rfl (oIn X15 hx hby d6_11 rfl ?_)
       refine X15.caload hx (j := (2 : Int32)) (v := (.int x2)) (by rw [e15]; exact Ar_z17.1) (State.isArrayOf_alike hZ.alike Ar_z17.2.1) Ar_z17.2.2 hin18 (Has.at H_z17 hin18 rfl) (g := (mkF m 12 #[rv r0, iv 2, rv r2, iv 2, iv 5, iv 2, iv x1] [(.int 2), (.ref r0)])) rfl rfl (hb hby d6_12) _ ?_
       refine XS.istore X15.here hx rfl (hb hby d6_13) rfl (l' := #[rv r0, iv 2, rv r2, iv 2, iv 5, iv 2, iv x2]) rfl ?_
       refine oIl X15 hx hby d6_15 rfl ?_
       refine XS.sipush X15.here hx rfl (hb hby d6_17) ?_
       exact q
      by_cases hc20_19 : (255 : Int32) < x2
      · obtain ⟨fs, hr, hrun, hended, hW, hsame⟩ := X15.leave (v := some (.int 2)) (fun h => by rw [Bd.returns] at h; cases h)
        refine ⟨_, _, k20 _ ?_, hrun, hended, _, _, rfl, ?_, ⟨_, rfl⟩, hW, hsame.mono (by decide) (by decide)⟩
        · refine XS.icmpNo X15.here hx rfl (hb hby d6_20) rfl (tlt hc20_19).2.2.2 ?_
          refine oIl X15 hx hby d6_23 rfl ?_
          exact retI X15 hx Bd.returns (hb hby d6_25) hr
        · show Q_C2_5 Z _ _ _ _ _ _ _ _ _ h0 n0 _ T15.heap _
          rw [e15]
          exact Or.inr (Or.inr (Or.inl (⟨rfl, N15, (((Keep.refl h0 [r2]).wr W7 (Or.inl (List.mem_of_getElem? (i := 0) rfl))).wr W15 (Or.inl (List.mem_of_getElem? (i := 0) rfl))), V15, hc20_3, hc20_11, hc20_19⟩)))
      · obtain ⟨cl_z21, Ar_z21, q_z21, S_z21, N_z21, H_z21, G_z21⟩ := id V15
        have hin22 : ¬ ((2 : Int32) < 0 ∨ cl_z21.slots.size ≤ ((2 : Int32)).toNatClampNeg) := inb_of S_z21 ⟨by decide, by decide⟩
        obtain ⟨T23, h23, X23, e23, W23, st23⟩ := stB X15 hx hZ e15 Ar_z21 (j := (2 : Int32)) hin22 (g := (mkF m 31 #[rv r0, iv 2, rv r2, iv 2, iv 5, iv 2, iv x2] [(.int (x2.toInt8.toInt32)), (.int 2), (.ref r2)])) rfl rfl (hb hby d6_31)
        have V23 : Arv Z h23 r2 kB .byte (5 : Int32) [(.int ((x0.toInt8.toInt32).toInt8.toInt32)), (.int ((x1.toInt8.toInt32).toInt8.toInt32)), (.int ((x2.toInt8.toInt32).toInt8.toInt32)), (.int 0), (.int 0)] (.int 0) := Arv.set Ar_z21 q_z21 S_z21 N_z21 H_z21 G_z21 (fits_nar_byte _) W23 2 rfl (Nat.le_of_ble_eq_true rfl)
        have N23 := Fr.snoc X23 N15 ge_r2
        have f24 := (f16.other W23 ne_r0_r2)
        obtain ⟨cl_z25, Ar_z25, q_z25, S_z25, N_z25, H_z25, G_z25⟩ := id f24
        have hin26 : ¬ ((3 : Int32) < 0 ∨ cl_z25.slots.size ≤ ((3 : Int32)).toNatClampNeg) := inb_of S_z25 ⟨by decide, by decide⟩
        have k28 : ∀ t, OwnS p e below T23 (mkF m 20 #[rv r0, iv 3, rv r2, iv 3, iv 5, iv 3, iv x3] [(.int 255), (.int x3)]) t → OwnS p e below s₁ (entryFrame m #[(.ref r0), (.int 0), (.ref r2), (.int 0), (.int 5)] 7) t := fun t q => by
         refine k20 t ?_
         refine XS.icmpYes X15.here hx rfl (pc0 := 20) (pc' := 26) rfl (hb hby d6_20) rfl (flt hc20_19).2.2.2 (by decide) (by decide) ?_
         refine oAn X15 hx hby d6_26 rfl rfl (oIn X15 hx hby d6_27 rfl (oIl X15 hx hby d6_28 rfl ?_))
         refine XS.i2b X15.here hx rfl (hb hby d6_30) rfl ?_
         refine st23 _ ?_
         refine XS.iinc X23.here hx rfl (hb hby d6_32) rfl (l' := #[rv r0, iv 3, rv r2, iv 2, iv 5, iv 2, iv x2]) rfl ?_
         refine XS.iinc X23.here hx rfl (hb hby d6_35) rfl (l' := #[rv r0, iv 3, rv r2, iv 3, iv 5, iv 2, iv x2]) rfl ?_
         refine XS.iinc X23.here hx rfl (hb hby d6_38) rfl (l' := #[rv r0, iv 3, rv r2, iv 3, iv 5, iv 3, iv x2]) rfl ?_
         refine oGo X23 hx hby 41 3 d6_41 (by decide) (by decide) (oIl X23 hx hby d6_3 rfl (oIl X23 hx hby d6_5 rfl ?_))
         refine XS.icmpNo X23.here hx rfl (hb hby d6_7) rfl (tlt (by decide : (3 : Int32) < (5 : Int32))).2.1 ?_
         refine oAn X23 hx hby d6_10 rfl rfl (oIn X23 hx hby d6_11 rfl ?_)
         refine X23.caload hx (j := (3 : Int32)) (v := (.int x3)) (by rw [e23]; exact Ar_z25.1) (State.isArrayOf_alike hZ.alike Ar_z25.2.1) Ar_z25.2.2 hin26 (Has.at H_z25 hin26 rfl) (g := (mkF m 12 #[rv r0, iv 3, rv r2, iv 3, iv 5, iv 3, iv x2] [(.int 3), (.ref r0)])) rfl rfl (hb hby d6_12) _ ?_
         refine XS.istore X23.here hx rfl (hb hby d6_13) rfl (l' := #[rv r0, iv 3, rv r2, iv 3, iv 5, iv 3, iv x3]) rfl ?_
         refine oIl X23 hx hby d6_15 rfl ?_
         refine XS.sipush X23.here hx rfl (hb hby d6_17) ?_
         exact q
        by_cases hc20_27 : (255 : Int32) < x3
        · obtain ⟨fs, hr, hrun, hended, hW, hsame⟩ := X23.leave (v := some (.int 3)) (fun h => by rw [Bd.returns] at h; cases h)
          refine ⟨_, _, k28 _ ?_, hrun, hended, _, _, rfl, ?_, ⟨_, rfl⟩, hW, hsame.mono (by decide) (by decide)⟩
          · refine XS.icmpNo X23.here hx rfl (hb hby d6_20) rfl (tlt hc20_27).2.2.2 ?_
            refine oIl X23 hx hby d6_23 rfl ?_
            exact retI X23 hx Bd.returns (hb hby d6_25) hr
          · show Q_C2_5 Z _ _ _ _ _ _ _ _ _ h0 n0 _ T23.heap _
            rw [e23]
            exact Or.inr (Or.inr (Or.inr (Or.inl (⟨rfl, N23, ((((Keep.refl h0 [r2]).wr W7 (Or.inl (List.mem_of_getElem? (i := 0) rfl))).wr W15 (Or.inl (List.mem_of_getElem? (i := 0) rfl))).wr W23 (Or.inl (List.mem_of_getElem? (i := 0) rfl))), V23, hc20_3, hc20_11, hc20_19, hc20_27⟩))))
        · obtain ⟨cl_z29, Ar_z29, q_z29, S_z29, N_z29, H_z29, G_z29⟩ := id V23
          have hin30 : ¬ ((3 : Int32) < 0 ∨ cl_z29.slots.size ≤ ((3 : Int32)).toNatClampNeg) := inb_of S_z29 ⟨by decide, by decide⟩
          obtain ⟨T31, h31, X31, e31, W31, st31⟩ := stB X23 hx hZ e23 Ar_z29 (j := (3 : Int32)) hin30 (g := (mkF m 31 #[rv r0, iv 3, rv r2, iv 3, iv 5, iv 3, iv x3] [(.int (x3.toInt8.toInt32)), (.int 3), (.ref r2)])) rfl rfl (hb hby d6_31)
          have V31 : Arv Z h31 r2 kB .byte (5 : Int32) [(.int ((x0.toInt8.toInt32).toInt8.toInt32)), (.int ((x1.toInt8.toInt32).toInt8.toInt32)), (.int ((x2.toInt8.toInt32).toInt8.toInt32)), (.int ((x3.toInt8.toInt32).toInt8.toInt32)), (.int 0)] (.int 0) := Arv.set Ar_z29 q_z29 S_z29 N_z29 H_z29 G_z29 (fits_nar_byte _) W31 3 rfl (Nat.le_of_ble_eq_true rfl)
          have N31 := Fr.snoc X31 N23 ge_r2
          have f32 := (f24.other W31 ne_r0_r2)
          obtain ⟨cl_z33, Ar_z33, q_z33, S_z33, N_z33, H_z33, G_z33⟩ := id f32
          have hin34 : ¬ ((4 : Int32) < 0 ∨ cl_z33.slots.size ≤ ((4 : Int32)).toNatClampNeg) := inb_of S_z33 ⟨by decide, by decide⟩
          have k36 : ∀ t, OwnS p e below T31 (mkF m 20 #[rv r0, iv 4, rv r2, iv 4, iv 5, iv 4, iv x4] [(.int 255), (.int x4)]) t → OwnS p e below s₁ (entryFrame m #[(.ref r0), (.int 0), (.ref r2), (.int 0), (.int 5)] 7) t := fun t q => by
           refine k28 t ?_
           refine XS.icmpYes X23.here hx rfl (pc0 := 20) (pc' := 26) rfl (hb hby d6_20) rfl (flt hc20_27).2.2.2 (by decide) (by decide) ?_
           refine oAn X23 hx hby d6_26 rfl rfl (oIn X23 hx hby d6_27 rfl (oIl X23 hx hby d6_28 rfl ?_))
           refine XS.i2b X23.here hx rfl (hb hby d6_30) rfl ?_
           refine st31 _ ?_
           refine XS.iinc X31.here hx rfl (hb hby d6_32) rfl (l' := #[rv r0, iv 4, rv r2, iv 3, iv 5, iv 3, iv x3]) rfl ?_
           refine XS.iinc X31.here hx rfl (hb hby d6_35) rfl (l' := #[rv r0, iv 4, rv r2, iv 4, iv 5, iv 3, iv x3]) rfl ?_
           refine XS.iinc X31.here hx rfl (hb hby d6_38) rfl (l' := #[rv r0, iv 4, rv r2, iv 4, iv 5, iv 4, iv x3]) rfl ?_
           refine oGo X31 hx hby 41 3 d6_41 (by decide) (by decide) (oIl X31 hx hby d6_3 rfl (oIl X31 hx hby d6_5 rfl ?_))
           refine XS.icmpNo X31.here hx rfl (hb hby d6_7) rfl (tlt (by decide : (4 : Int32) < (5 : Int32))).2.1 ?_
           refine oAn X31 hx hby d6_10 rfl rfl (oIn X31 hx hby d6_11 rfl ?_)
           refine X31.caload hx (j := (4 : Int32)) (v := (.int x4)) (by rw [e31]; exact Ar_z33.1) (State.isArrayOf_alike hZ.alike Ar_z33.2.1) Ar_z33.2.2 hin34 (Has.at H_z33 hin34 rfl) (g := (mkF m 12 #[rv r0, iv 4, rv r2, iv 4, iv 5, iv 4, iv x3] [(.int 4), (.ref r0)])) rfl rfl (hb hby d6_12) _ ?_
           refine XS.istore X31.here hx rfl (hb hby d6_13) rfl (l' := #[rv r0, iv 4, rv r2, iv 4, iv 5, iv 4, iv x4]) rfl ?_
           refine oIl X31 hx hby d6_15 rfl ?_
           refine XS.sipush X31.here hx rfl (hb hby d6_17) ?_
           exact q
          by_cases hc20_35 : (255 : Int32) < x4
          · obtain ⟨fs, hr, hrun, hended, hW, hsame⟩ := X31.leave (v := some (.int 4)) (fun h => by rw [Bd.returns] at h; cases h)
            refine ⟨_, _, k36 _ ?_, hrun, hended, _, _, rfl, ?_, ⟨_, rfl⟩, hW, hsame.mono (by decide) (by decide)⟩
            · refine XS.icmpNo X31.here hx rfl (hb hby d6_20) rfl (tlt hc20_35).2.2.2 ?_
              refine oIl X31 hx hby d6_23 rfl ?_
              exact retI X31 hx Bd.returns (hb hby d6_25) hr
            · show Q_C2_5 Z _ _ _ _ _ _ _ _ _ h0 n0 _ T31.heap _
              rw [e31]
              exact Or.inr (Or.inr (Or.inr (Or.inr (Or.inl (⟨rfl, N31, (((((Keep.refl h0 [r2]).wr W7 (Or.inl (List.mem_of_getElem? (i := 0) rfl))).wr W15 (Or.inl (List.mem_of_getElem? (i := 0) rfl))).wr W23 (Or.inl (List.mem_of_getElem? (i := 0) rfl))).wr W31 (Or.inl (List.mem_of_getElem? (i := 0) rfl))), V31, hc20_3, hc20_11, hc20_19, hc20_27, hc20_35⟩)))))
          · obtain ⟨cl_z37, Ar_z37, q_z37, S_z37, N_z37, H_z37, G_z37⟩ := id V31
            have hin38 : ¬ ((4 : Int32) < 0 ∨ cl_z37.slots.size ≤ ((4 : Int32)).toNatClampNeg) := inb_of S_z37 ⟨by decide, by decide⟩
            obtain ⟨T39, h39, X39, e39, W39, st39⟩ := stB X31 hx hZ e31 Ar_z37 (j := (4 : Int32)) hin38 (g := (mkF m 31 #[rv r0, iv 4, rv r2, iv 4, iv 5, iv 4, iv x4] [(.int (x4.toInt8.toInt32)), (.int 4), (.ref r2)])) rfl rfl (hb hby d6_31)
            have V39 : Arv Z h39 r2 kB .byte (5 : Int32) [(.int ((x0.toInt8.toInt32).toInt8.toInt32)), (.int ((x1.toInt8.toInt32).toInt8.toInt32)), (.int ((x2.toInt8.toInt32).toInt8.toInt32)), (.int ((x3.toInt8.toInt32).toInt8.toInt32)), (.int ((x4.toInt8.toInt32).toInt8.toInt32))] (.int 0) := Arv.set Ar_z37 q_z37 S_z37 N_z37 H_z37 G_z37 (fits_nar_byte _) W39 4 rfl (Nat.le_of_ble_eq_true rfl)
            have N39 := Fr.snoc X39 N31 ge_r2
            obtain ⟨fs, hr, hrun, hended, hW, hsame⟩ := X39.leave (v := some (.int 5)) (fun h => by rw [Bd.returns] at h; cases h)
            refine ⟨_, _, k36 _ ?_, hrun, hended, _, _, rfl, ?_, ⟨_, rfl⟩, hW, hsame.mono (by decide) (by decide)⟩
            · refine XS.icmpYes X31.here hx rfl (pc0 := 20) (pc' := 26) rfl (hb hby d6_20) rfl (flt hc20_35).2.2.2 (by decide) (by decide) ?_
              refine oAn X31 hx hby d6_26 rfl rfl (oIn X31 hx hby d6_27 rfl (oIl X31 hx hby d6_28 rfl ?_))
              refine XS.i2b X31.here hx rfl (hb hby d6_30) rfl ?_
              refine st39 _ ?_
              refine XS.iinc X39.here hx rfl (hb hby d6_32) rfl (l' := #[rv r0, iv 5, rv r2, iv 4, iv 5, iv 4, iv x4]) rfl ?_
              refine XS.iinc X39.here hx rfl (hb hby d6_35) rfl (l' := #[rv r0, iv 5, rv r2, iv 5, iv 5, iv 4, iv x4]) rfl ?_
              refine XS.iinc X39.here hx rfl (hb hby d6_38) rfl (l' := #[rv r0, iv 5, rv r2, iv 5, iv 5, iv 5, iv x4]) rfl ?_
              refine oGo X39 hx hby 41 3 d6_41 (by decide) (by decide) (oIl X39 hx hby d6_3 rfl (oIl X39 hx hby d6_5 rfl ?_))
              refine XS.icmpYes X39.here hx rfl (pc0 := 7) (pc' := 44) rfl (hb hby d6_7) rfl (flt (by decide : ¬ ((5 : Int32) < (5 : Int32)))).2.1 (by decide) (by decide) ?_
              refine oIl X39 hx hby d6_44 rfl ?_
              exact retI X39 hx Bd.returns (hb hby d6_46) hr
            · show Q_C2_5 Z _ _ _ _ _ _ _ _ _ h0 n0 _ T39.heap _
              rw [e39]
              exact Or.inr (Or.inr (Or.inr (Or.inr (Or.inr ((⟨rfl, N39, ((((((Keep.refl h0 [r2]).wr W7 (Or.inl (List.mem_of_getElem? (i := 0) rfl))).wr W15 (Or.inl (List.mem_of_getElem? (i := 0) rfl))).wr W23 (Or.inl (List.mem_of_getElem? (i := 0) rfl))).wr W31 (Or.inl (List.mem_of_getElem? (i := 0) rfl))).wr W39 (Or.inl (List.mem_of_getElem? (i := 0) rfl))), V39, hc20_3, hc20_11, hc20_19, hc20_27, hc20_35⟩))))))
theorem pd_4 : parseMethodDescriptor "([CI[BII)I" = some ⟨[(.array .char), .int, (.array .byte), .int, .int], some .int⟩ := by decide +kernel
theorem pd_5 : parseMethodDescriptor "([CII)[B" = some ⟨[(.array .char), .int, .int], some (.array .byte)⟩ := by decide +kernel
theorem pd_6 : parseMethodDescriptor "([BI)C" = some ⟨[(.array .byte), .int], some .char⟩ := by decide +kernel
theorem d5_0 : decode jdk_52_method_16_code 0 = .ok (.iload_n 2, 1) := by decide +kernel
theorem d5_1 : decode jdk_52_method_16_code 1 = .ok (.newarray .byte, 2) := by decide +kernel
theorem d5_3 : decode jdk_52_method_16_code 3 = .ok (.astore_n 3, 1) := by decide +kernel
theorem d5_4 : decode jdk_52_method_16_code 4 = .ok (.aload_n 0, 1) := by decide +kernel
theorem d5_5 : decode jdk_52_method_16_code 5 = .ok (.iload_n 1, 1) := by decide +kernel
theorem d5_6 : decode jdk_52_method_16_code 6 = .ok (.aload_n 3, 1) := by decide +kernel
theorem d5_7 : decode jdk_52_method_16_code 7 = .ok (.iconst 0, 1) := by decide +kernel
theorem d5_8 : decode jdk_52_method_16_code 8 = .ok (.iload_n 2, 1) := by decide +kernel
theorem d5_9 : decode jdk_52_method_16_code 9 = .ok (.invokestatic 115, 3) := by decide +kernel
theorem d5_12 : decode jdk_52_method_16_code 12 = .ok (.istore 4, 2) := by decide +kernel
theorem d5_14 : decode jdk_52_method_16_code 14 = .ok (.iload 4, 2) := by decide +kernel
theorem d5_16 : decode jdk_52_method_16_code 16 = .ok (.iload_n 2, 1) := by decide +kernel
theorem d5_17 : decode jdk_52_method_16_code 17 = .ok (.if_icmp .eq 40, 3) := by decide +kernel
theorem d5_20 : decode jdk_52_method_16_code 20 = .ok (.aload_n 0, 1) := by decide +kernel
theorem d5_21 : decode jdk_52_method_16_code 21 = .ok (.iload_n 1, 1) := by decide +kernel
theorem d5_22 : decode jdk_52_method_16_code 22 = .ok (.iload_n 2, 1) := by decide +kernel
theorem d5_23 : decode jdk_52_method_16_code 23 = .ok (.invokestatic 119, 3) := by decide +kernel
theorem d5_26 : decode jdk_52_method_16_code 26 = .ok (.astore 5, 2) := by decide +kernel
theorem d5_28 : decode jdk_52_method_16_code 28 = .ok (.aload 5, 2) := by decide +kernel
theorem d5_30 : decode jdk_52_method_16_code 30 = .ok (.iload 4, 2) := by decide +kernel
theorem d5_32 : decode jdk_52_method_16_code 32 = .ok (.invokestatic 71, 3) := by decide +kernel
theorem d5_35 : decode jdk_52_method_16_code 35 = .ok (.sipush 255, 3) := by decide +kernel
theorem d5_38 : decode jdk_52_method_16_code 38 = .ok (.if_icmp .gt 16, 3) := by decide +kernel
theorem d5_54 : decode jdk_52_method_16_code 54 = .ok (.aload 5, 2) := by decide +kernel
theorem d5_56 : decode jdk_52_method_16_code 56 = .ok (.areturn, 1) := by decide +kernel
theorem d5_57 : decode jdk_52_method_16_code 57 = .ok (.aload_n 3, 1) := by decide +kernel
theorem d5_58 : decode jdk_52_method_16_code 58 = .ok (.areturn, 1) := by decide +kernel
theorem ef_5 (m : MethodId) (x0 : Addr) (x1 : Int32) (x2 : Int32) : entryFrame m #[(.ref x0), (.int x1), (.int x2)] 6 = mkF m 0 #[.val (.ref x0), .val (.int x1), .val (.int x2), .unset, .unset, .unset] [] := by first | (simp [entryFrame, mkF, argsToLocals, Value.category]; done) | rfl
def Q_C1_5 (Z : State) (r0 : Addr) (kC : ClassId) (x0 : Int32) (x1 : Int32) (x2 : Int32) (x3 : Int32) (x4 : Int32) (h0 : Heap) (n0 : Nat) (v : Option Value) (h : Heap) (L : List Loc) : Prop := (∃ ar : Addr, ∃ kk : ClassId, v = some (.ref ar) ∧ Fr n0 L ∧ Keep h0 h [] ∧ h0.size ≤ ar ∧ Arv Z h ar kk .byte (10 : Int32) [(.int (((x0 >>> ((0 : Int32) &&& 31)).toInt8.toInt32).toInt8.toInt32)), (.int (((x0 >>> ((8 : Int32) &&& 31)).toInt8.toInt32).toInt8.toInt32)), (.int (((x1 >>> ((0 : Int32) &&& 31)).toInt8.toInt32).toInt8.toInt32)), (.int (((x1 >>> ((8 : Int32) &&& 31)).toInt8.toInt32).toInt8.toInt32)), (.int (((x2 >>> ((0 : Int32) &&& 31)).toInt8.toInt32).toInt8.toInt32)), (.int (((x2 >>> ((8 : Int32) &&& 31)).toInt8.toInt32).toInt8.toInt32)), (.int (((x3 >>> ((0 : Int32) &&& 31)).toInt8.toInt32).toInt8.toInt32)), (.int (((x3 >>> ((8 : Int32) &&& 31)).toInt8.toInt32).toInt8.toInt32)), (.int (((x4 >>> ((0 : Int32) &&& 31)).toInt8.toInt32).toInt8.toInt32)), (.int (((x4 >>> ((8 : Int32) &&& 31)).toInt8.toInt32).toInt8.toInt32))] (.int 0) ∧ Exa Z h ar "[B") ∨ (∃ ar : Addr, ∃ kk : ClassId, v = some (.ref ar) ∧ Fr n0 L ∧ Keep h0 h [] ∧ h0.size ≤ ar ∧ Arv Z h ar kk .byte (5 : Int32) [(.int ((x0.toInt8.toInt32).toInt8.toInt32)), (.int ((x1.toInt8.toInt32).toInt8.toInt32)), (.int ((x2.toInt8.toInt32).toInt8.toInt32)), (.int ((x3.toInt8.toInt32).toInt8.toInt32)), (.int ((x4.toInt8.toInt32).toInt8.toInt32))] (.int 0) ∧ Exa Z h ar "[B" ∧ ¬ ((255 : Int32) < x0) ∧ ¬ ((255 : Int32) < x1) ∧ ¬ ((255 : Int32) < x2) ∧ ¬ ((255 : Int32) < x3) ∧ ¬ ((255 : Int32) < x4))
set_option maxRecDepth 65536 in
set_option maxHeartbeats 40000000 in
theorem rmC1_5 (l : Launch) (Z : State) (a0 : Array Value) (hw : ∀ d ∈ tables_1, d.before a0 Z = true) (ws : List Jvm.Cond) (r0 : Addr) (kC : ClassId) (x0 : Int32) (x1 : Int32) (x2 : Int32) (x3 : Int32) (x4 : Int32) (h0 : Heap) (n0 : Nat) (Z0 : n0 ≤ h0.size) (S_AD : Sta Z h0 cS1 cS6 "Z" (.int 1)) (S_HI : Sta Z h0 cS1 cS7 "I" (.int 0)) (S_LO : Sta Z h0 cS1 cS8 "I" (.int 8)) (V_r0 : Arv Z h0 r0 kC .char (5 : Int32) [(.int x0), (.int x1), (.int x2), (.int x3), (.int x4)] (.int 0)) (hch_x0 : own_ch x0) (hch_x1 : own_ch x1) (hch_x2 : own_ch x2) (hch_x3 : own_ch x3) (hch_x4 : own_ch x4) :
    MetFree l (⟨cS1, "compress", "([CII)[B"⟩ : MethodName) (head1 (Jvm.Cond.code (⟨cS1, "compress", "([CII)[B"⟩ : MethodName) jdk_52_method_16_code 6 (some (.array .byte)) :: ws) ({ frames := 3, cells := 2, slots := 15, locals := 40 } : Room)) (fun a U => a = #[(.ref r0), (.int 0), (.int 5)] ∧ Z.Warmed39 U.vm ∧ U.heap = h0) (fun _ _ _ _ _ => True) (fun _ U o U' => ∃ v L, o = .returned v ∧ Q_C1_5 Z r0 kC x0 x1 x2 x3 x4 h0 n0 v U'.heap L ∧ FrameEnd U o U' L 2 15) := by
  refine MetFree.of_bodySF (plainFor_of_name pn_java_lang_StringUTF16) hisR ?_
  intro p e s m args below meth c s₁ Bd hml0 hP hK
  obtain ⟨rfl, hZ, hh⟩ := hP
  have hx := Bd.exec
  have hby := Bd.bytes
  have hml : c.maxLocals = 6 := hml0
  have hown : s.vm.findClass cS1 = some m.cls := findClass_of_methodNamed Bd.named
  have hnm := (name_of_methodNamed Bd.named Bd.method).1
  have X0 : Stand p l e ({ frames := 3, cells := 2, slots := 15, locals := 40 } : Room) s m #[(.ref r0), (.int 0), (.int 5)] below meth c s₁ [] 0 0 := Stand.of_body Bd
  have e0 : s₁.heap = h0 := by rw [← hh, Bd.state]; rfl
  have N0 := Fr.nil n0
  have k0 : ∀ t, OwnS p e below s₁ (mkF m 0 #[rv r0, iv 0, iv 5, .unset, .unset, .unset] []) t → OwnS p e below s₁ (entryFrame m #[(.ref r0), (.int 0), (.int 5)] 6) t := fun t k => castTop (ef_5 m r0 (0 : Int32) (5 : Int32)) k
  obtain ⟨T1, h1, k1, X1, e1, E1, A1, EA1, st1⟩ := newPE X0 hx hZ (own_at hw 24 rfl) e0 (g := (mkF m 1 #[rv r0, iv 0, iv 5, .unset, .unset, .unset] [(.int 5)])) rfl (hb hby d5_1) rfl (by decide) (cap := 5) (by decide) (by decide) (by decide) (by decide) (ad := "[B") (by decide)
  obtain ⟨b1, g1⟩ : ∃ z, z = h0.size := ⟨_, rfl⟩
  rw [← g1] at A1 EA1 st1
  have g_b1 : n0 ≤ b1 := Nat.le_trans Z0 (Nat.le_of_eq g1.symm)
  have sz_b1 : h0.size ≤ b1 := Nat.le_trans (Keep.refl h0 []).1 (Nat.le_of_eq g1.symm)
  have V_b1 : Arv Z h1 b1 k1 .byte (5 : Int32) [(.int 0), (.int 0), (.int 0), (.int 0), (.int 0)] (.int 0) := (Arv.new A1 (by decide)).pad (pad_rep [] (.int 0) 5)
  have f3 := (V_r0.ext E1)
  obtain ⟨_, _, ⟨T2, L2, j2, i2⟩, -, X2, ⟨Lc2, hQ2, l2, y2, z2⟩, st2⟩ := Jvm.LawKit.callS X1 hx (y := (⟨cS1, "compress", "([CI[BII)I"⟩ : MethodName)) hown (mvT hZ (own_at hw 25 rfl)) (mvT hZ (own_at hw 26 rfl)) (mvT hZ (own_at hw 22 rfl)) (mvT hZ (own_at hw 27 rfl)) (by decide) (backOf (W := 0) (rmC2_5 l Z a0 hw [] r0 b1 kC k1 x0 x1 x2 x3 x4 h1 n0 (Nat.le_trans Z0 E1.1) f3 V_b1 EA1 g_b1 (Nat.ne_of_lt (Nat.lt_of_lt_of_le V_r0.lt (Nat.le_of_eq g1.symm)))) hZ (own_at hw 27 rfl) (own_at hw 22 rfl) (by decide) (by decide)) (g := (mkF m 9 #[rv r0, iv 0, iv 5, rv b1, .unset, .unset] [(.int 5), (.int 0), (.ref b1), (.int 0), (.ref r0)])) rfl (by rw [hml]; rfl) (argsL := [(.ref r0), (.int 0), (.ref b1), (.int 0), (.int 5)]) (rest := []) (lenOf pd_4 rfl) rfl (Nat.le_refl _) (hb hby d5_9) (fun _ _ => ⟨rfl, e1, (by decide : 1 + 0 ≤ _), (by decide : 5 + 0 ≤ _)⟩)
  dsimp only [Pt.U, Pt.locs, Pt.cells, Pt.slots] at X2 l2 y2 z2 st2 hQ2
  subst l2 y2 z2
  have k4 : ∀ t, OwnS p e below T1 (mkF m 9 #[rv r0, iv 0, iv 5, rv b1, .unset, .unset] [(.int 5), (.int 0), (.ref b1), (.int 0), (.ref r0)]) t → OwnS p e below s₁ (entryFrame m #[(.ref r0), (.int 0), (.int 5)] 6) t := fun t q => by
   refine k0 t ?_
   show OwnS p e below s₁ (mkF m 0 #[rv r0, iv 0, iv 5, .unset, .unset, .unset] []) _
   refine oIn X0 hx hby d5_0 rfl ?_
   refine st1 _ ?_
   refine XS.astoreN X1.here hx rfl (hb hby d5_3) rfl rfl (l' := #[rv r0, iv 0, iv 5, rv b1, .unset, .unset]) rfl ?_
   refine oAn X1 hx hby d5_4 rfl rfl (oIn X1 hx hby d5_5 rfl (oAn X1 hx hby d5_6 rfl rfl (oIc X1 hx hby d5_7 (oIn X1 hx hby d5_8 rfl ?_))))
   exact q
  rcases hQ2 with ⟨rfl, N2q, K2, p2_0, p2_1⟩ | ⟨rfl, N2q, K2, p2_0, p2_1, p2_2⟩ | ⟨rfl, N2q, K2, p2_0, p2_1, p2_2, p2_3⟩ | ⟨rfl, N2q, K2, p2_0, p2_1, p2_2, p2_3, p2_4⟩ | ⟨rfl, N2q, K2, p2_0, p2_1, p2_2, p2_3, p2_4, p2_5⟩ | ⟨rfl, N2q, K2, p2_0, p2_1, p2_2, p2_3, p2_4, p2_5⟩
  · have pl2 := (allS (P := fun x => ∃ cell : Cell, h1[x]? = some cell ∧ cell.vm.isStatics = false) (own_ns EA1) all0)
    have N2 := Fr.app N0 N2q
    have f6 := (own_sta_keep (S_AD.ext E1) K2 pl2)
    have f7 := (own_sta_keep (S_HI.ext E1) K2 pl2)
    have f8 := (own_sta_keep (S_LO.ext E1) K2 pl2)
    have f9 := (f3.keep K2 (ninS (Nat.ne_of_lt (Nat.lt_of_lt_of_le V_r0.lt (Nat.le_of_eq g1.symm))) nin0))
    obtain ⟨_, _, ⟨T5, L5, j5, i5⟩, -, X5, ⟨Lc5, hQ5, l5, y5, z5⟩, st5⟩ := Jvm.LawKit.callS X2 hx (y := (⟨cS1, "toBytes", "([CII)[B"⟩ : MethodName)) hown (mvT hZ (own_at hw 94 rfl)) (mvT hZ (own_at hw 95 rfl)) (mvT hZ (own_at hw 22 rfl)) (mvT hZ (own_at hw 96 rfl)) (by decide) (backOf (W := 0) (rmTB_5 l Z a0 hw [] r0 kC x0 x1 x2 x3 x4 T2.heap n0 (Nat.le_trans (Nat.le_trans Z0 E1.1) K2.1) f6 f7 f8 f9) hZ (own_at hw 96 rfl) (own_at hw 22 rfl) (by decide) (by decide)) (g := (mkF m 23 #[rv r0, iv 0, iv 5, rv b1, iv 0, .unset] [(.int 5), (.int 0), (.ref r0)])) rfl (by rw [hml]; rfl) (argsL := [(.ref r0), (.int 0), (.int 5)]) (rest := []) (lenOf pd_5 rfl) rfl (Nat.le_refl _) (hb hby d5_23) (fun _ _ => ⟨rfl, rfl, (by decide : 1 + 1 ≤ _), (by decide : 5 + 10 ≤ _)⟩)
    dsimp only [Pt.U, Pt.locs, Pt.cells, Pt.slots] at X5 l5 y5 z5 st5 hQ5
    subst l5 y5 z5
    have f10 := (EA1.keep K2)
    obtain ⟨ar_5, kk_5, rfl, N5q, K5, p5_0, p5_1, p5_2⟩ := hQ5
    have g_ar_5 : n0 ≤ ar_5 := Nat.le_trans (Nat.le_trans (Nat.le_trans Z0 E1.1) K2.1) p5_0
    have sz_ar_5 : h0.size ≤ ar_5 := Nat.le_trans (((Keep.refl h0 []).ext E1).trans K2 (allS (Or.inr sz_b1) all0)).1 p5_0
    have N5 := Fr.app N2 N5q
    have f12 := (own_sta_keep f6 K5 all0)
    have f13 := (own_sta_keep f7 K5 all0)
    have f14 := (own_sta_keep f8 K5 all0)
    obtain ⟨_, _, ⟨T11, L11, j11, i11⟩, -, X11, ⟨Lc11, hQ11, l11, y11, z11⟩, st11⟩ := Jvm.LawKit.callS X5 hx (y := (⟨cS1, "getChar", "([BI)C"⟩ : MethodName)) hown (mvT hZ (own_at hw 110 rfl)) (mvT hZ (own_at hw 111 rfl)) (mvT hZ (own_at hw 22 rfl)) (mvT hZ (own_at hw 112 rfl)) (by decide) (backOf (W := 0) (rmGC_5_0 l Z a0 hw [] ar_5 kk_5 x0 x1 x2 x3 x4 T5.heap n0 (Nat.le_trans (Nat.le_trans (Nat.le_trans Z0 E1.1) K2.1) K5.1) f12 f13 f14 p5_1 hch_x0) hZ (own_at hw 112 rfl) (own_at hw 22 rfl) (by decide) (by decide)) (g := (mkF m 32 #[rv r0, iv 0, iv 5, rv b1, iv 0, rv ar_5] [(.int 0), (.ref ar_5)])) rfl (by rw [hml]; rfl) (argsL := [(.ref ar_5), (.int 0)]) (rest := []) (lenOf pd_6 rfl) rfl (Nat.le_refl _) (hb hby d5_32) (fun _ _ => ⟨rfl, rfl, (by decide : 2 + 0 ≤ _), (by decide : 15 + 0 ≤ _)⟩)
    dsimp only [Pt.U, Pt.locs, Pt.cells, Pt.slots] at X11 l11 y11 z11 st11 hQ11
    subst l11 y11 z11
    obtain ⟨rfl, N11q, e11⟩ := hQ11
    have N11 := Fr.app N5 N11q
    obtain ⟨fs, hr, hrun, hended, hW, hsame⟩ := X11.leave (v := some (.ref ar_5)) (fun h => by rw [Bd.returns] at h; cases h)
    refine ⟨_, _, k4 _ ?_, hrun, hended, _, _, rfl, ?_, ⟨_, rfl⟩, hW, hsame.mono (by decide) (by decide)⟩
    · refine st2 _ ?_
      refine XS.istore X2.here hx rfl (hb hby d5_12) rfl (l' := #[rv r0, iv 0, iv 5, rv b1, iv 0, .unset]) rfl ?_
      refine oIl X2 hx hby d5_14 rfl (oIn X2 hx hby d5_16 rfl ?_)
      refine XS.icmpNo X2.here hx rfl (hb hby d5_17) rfl (feq (by decide : ¬ ((0 : Int32) = (5 : Int32)))).1 ?_
      refine oAn X2 hx hby d5_20 rfl rfl (oIn X2 hx hby d5_21 rfl (oIn X2 hx hby d5_22 rfl ?_))
      refine st5 _ ?_
      refine XS.astore X5.here hx rfl (hb hby d5_26) rfl rfl (l' := #[rv r0, iv 0, iv 5, rv b1, iv 0, rv ar_5]) rfl ?_
      refine oAl X5 hx hby d5_28 rfl rfl (oIl X5 hx hby d5_30 rfl ?_)
      refine st11 _ ?_
      refine XS.sipush X11.here hx rfl (hb hby d5_35) ?_
      refine XS.icmpYes X11.here hx rfl (pc0 := 38) (pc' := 54) rfl (hb hby d5_38) rfl (tlt p2_1).2.2.1 (by decide) (by decide) ?_
      refine oAl X11 hx hby d5_54 rfl rfl ?_
      jvm_step X11.here [X11.here.top, hx, (hb hby d5_56), X11.method', Bd.returns, Value.isRef, FieldType.isReference]
      first | (intro acts; rw [hr _ acts rfl rfl rfl]) | rw [hr _ _ rfl rfl rfl]
      exact Steps.refl _
    · show Q_C1_5 Z _ _ _ _ _ _ _ h0 n0 _ T11.heap _
      rw [e11]
      exact Or.inl (⟨ar_5, kk_5, rfl, N11, ((((Keep.refl h0 []).ext E1).trans K2 (allS (Or.inr sz_b1) all0)).trans K5 all0), sz_ar_5, p5_1, p5_2⟩)
  · have pl2 := (allS (P := fun x => ∃ cell : Cell, h1[x]? = some cell ∧ cell.vm.isStatics = false) (own_ns EA1) all0)
    have N2 := Fr.app N0 N2q
    have f16 := (own_sta_keep (S_AD.ext E1) K2 pl2)
    have f17 := (own_sta_keep (S_HI.ext E1) K2 pl2)
    have f18 := (own_sta_keep (S_LO.ext E1) K2 pl2)
    have f19 := (f3.keep K2 (ninS (Nat.ne_of_lt (Nat.lt_of_lt_of_le V_r0.lt (Nat.le_of_eq g1.symm))) nin0))
    obtain ⟨_, _, ⟨T15, L15, j15, i15⟩, -, X15, ⟨Lc15, hQ15, l15, y15, z15⟩, st15⟩ := Jvm.LawKit.callS X2 hx (y := (⟨cS1, "toBytes", "([CII)[B"⟩ : MethodName)) hown (mvT hZ (own_at hw 94 rfl)) (mvT hZ (own_at hw 95 rfl)) (mvT hZ (own_at hw 22 rfl)) (mvT hZ (own_at hw 96 rfl)) (by decide) (backOf (W := 0) (rmTB_5 l Z a0 hw [] r0 kC x0 x1 x2 x3 x4 T2.heap n0 (Nat.le_trans (Nat.le_trans Z0 E1.1) K2.1) f16 f17 f18 f19) hZ (own_at hw 96 rfl) (own_at hw 22 rfl) (by decide) (by decide)) (g := (mkF m 23 #[rv r0, iv 0, iv 5, rv b1, iv 1, .unset] [(.int 5), (.int 0), (.ref r0)])) rfl (by rw [hml]; rfl) (argsL := [(.ref r0), (.int 0), (.int 5)]) (rest := []) (lenOf pd_5 rfl) rfl (Nat.le_refl _) (hb hby d5_23) (fun _ _ => ⟨rfl, rfl, (by decide : 1 + 1 ≤ _), (by decide : 5 + 10 ≤ _)⟩)
    dsimp only [Pt.U, Pt.locs, Pt.cells, Pt.slots] at X15 l15 y15 z15 st15 hQ15
    subst l15 y15 z15
    have f20 := (EA1.keep K2)
    obtain ⟨ar_15, kk_15, rfl, N15q, K15, p15_0, p15_1, p15_2⟩ := hQ15
    have g_ar_15 : n0 ≤ ar_15 := Nat.le_trans (Nat.le_trans (Nat.le_trans Z0 E1.1) K2.1) p15_0
    have sz_ar_15 : h0.size ≤ ar_15 := Nat.le_trans (((Keep.refl h0 []).ext E1).trans K2 (allS (Or.inr sz_b1) all0)).1 p15_0
    have N15 := Fr.app N2 N15q
    have f22 := (own_sta_keep f16 K15 all0)
    have f23 := (own_sta_keep f17 K15 all0)
    have f24 := (own_sta_keep f18 K15 all0)
    obtain ⟨_, _, ⟨T21, L21, j21, i21⟩, -, X21, ⟨Lc21, hQ21, l21, y21, z21⟩, st21⟩ := Jvm.LawKit.callS X15 hx (y := (⟨cS1, "getChar", "([BI)C"⟩ : MethodName)) hown (mvT hZ (own_at hw 110 rfl)) (mvT hZ (own_at hw 111 rfl)) (mvT hZ (own_at hw 22 rfl)) (mvT hZ (own_at hw 112 rfl)) (by decide) (backOf (W := 0) (rmGC_5_1 l Z a0 hw [] ar_15 kk_15 x0 x1 x2 x3 x4 T15.heap n0 (Nat.le_trans (Nat.le_trans (Nat.le_trans Z0 E1.1) K2.1) K15.1) f22 f23 f24 p15_1 hch_x1) hZ (own_at hw 112 rfl) (own_at hw 22 rfl) (by decide) (by decide)) (g := (mkF m 32 #[rv r0, iv 0, iv 5, rv b1, iv 1, rv ar_15] [(.int 1), (.ref ar_15)])) rfl (by rw [hml]; rfl) (argsL := [(.ref ar_15), (.int 1)]) (rest := []) (lenOf pd_6 rfl) rfl (Nat.le_refl _) (hb hby d5_32) (fun _ _ => ⟨rfl, rfl, (by decide : 2 + 0 ≤ _), (by decide : 15 + 0 ≤ _)⟩)
    dsimp only [Pt.U, Pt.locs, Pt.cells, Pt.slots] at X21 l21 y21 z21 st21 hQ21
    subst l21 y21 z21
    obtain ⟨rfl, N21q, e21⟩ := hQ21
    have N21 := Fr.app N15 N21q
    obtain ⟨fs, hr, hrun, hended, hW, hsame⟩ := X21.leave (v := some (.ref ar_15)) (fun h => by rw [Bd.returns] at h; cases h)
    refine ⟨_, _, k4 _ ?_, hrun, hended, _, _, rfl, ?_, ⟨_, rfl⟩, hW, hsame.mono (by decide) (by decide)⟩
    · refine st2 _ ?_
      refine XS.istore X2.here hx rfl (hb hby d5_12) rfl (l' := #[rv r0, iv 0, iv 5, rv b1, iv 1, .unset]) rfl ?_
      refine oIl X2 hx hby d5_14 rfl (oIn X2 hx hby d5_16 rfl ?_)
      refine XS.icmpNo X2.here hx rfl (hb hby d5_17) rfl (feq (by decide : ¬ ((1 : Int32) = (5 : Int32)))).1 ?_
      refine oAn X2 hx hby d5_20 rfl rfl (oIn X2 hx hby d5_21 rfl (oIn X2 hx hby d5_22 rfl ?_))
      refine st15 _ ?_
      refine XS.astore X15.here hx rfl (hb hby d5_26) rfl rfl (l' := #[rv r0, iv 0, iv 5, rv b1, iv 1, rv ar_15]) rfl ?_
      refine oAl X15 hx hby d5_28 rfl rfl (oIl X15 hx hby d5_30 rfl ?_)
      refine st21 _ ?_
      refine XS.sipush X21.here hx rfl (hb hby d5_35) ?_
      refine XS.icmpYes X21.here hx rfl (pc0 := 38) (pc' := 54) rfl (hb hby d5_38) rfl (tlt p2_2).2.2.1 (by decide) (by decide) ?_
      refine oAl X21 hx hby d5_54 rfl rfl ?_
      jvm_step X21.here [X21.here.top, hx, (hb hby d5_56), X21.method', Bd.returns, Value.isRef, FieldType.isReference]
      first | (intro acts; rw [hr _ acts rfl rfl rfl]) | rw [hr _ _ rfl rfl rfl]
      exact Steps.refl _
    · show Q_C1_5 Z _ _ _ _ _ _ _ h0 n0 _ T21.heap _
      rw [e21]
      exact Or.inl (⟨ar_15, kk_15, rfl, N21, ((((Keep.refl h0 []).ext E1).trans K2 (allS (Or.inr sz_b1) all0)).trans K15 all0), sz_ar_15, p15_1, p15_2⟩)
  · have pl2 := (allS (P := fun x => ∃ cell : Cell, h1[x]? = some cell ∧ cell.vm.isStatics = false) (own_ns EA1) all0)
    have N2 := Fr.app N0 N2q
    have f26 := (own_sta_keep (S_AD.ext E1) K2 pl2)
    have f27 := (own_sta_keep (S_HI.ext E1) K2 pl2)
    have f28 := (own_sta_keep (S_LO.ext E1) K2 pl2)
    have f29 := (f3.keep K2 (ninS (Nat.ne_of_lt (Nat.lt_of_lt_of_le V_r0.lt (Nat.le_of_eq g1.symm))) nin0))
    obtain ⟨_, _, ⟨T25, L25, j25, i25⟩, -, X25, ⟨Lc25, hQ25, l25, y25, z25⟩, st25⟩ := Jvm.LawKit.callS X2 hx (y := (⟨cS1, "toBytes", "([CII)[B"⟩ : MethodName)) hown (mvT hZ (own_at hw 94 rfl)) (mvT hZ (own_at hw 95 rfl)) (mvT hZ (own_at hw 22 rfl)) (mvT hZ (own_at hw 96 rfl)) (by decide) (backOf (W := 0) (rmTB_5 l Z a0 hw [] r0 kC x0 x1 x2 x3 x4 T2.heap n0 (Nat.le_trans (Nat.le_trans Z0 E1.1) K2.1) f26 f27 f28 f29) hZ (own_at hw 96 rfl) (own_at hw 22 rfl) (by decide) (by decide)) (g := (mkF m 23 #[rv r0, iv 0, iv 5, rv b1, iv 2, .unset] [(.int 5), (.int 0), (.ref r0)])) rfl (by rw [hml]; rfl) (argsL := [(.ref r0), (.int 0), (.int 5)]) (rest := []) (lenOf pd_5 rfl) rfl (Nat.le_refl _) (hb hby d5_23) (fun _ _ => ⟨rfl, rfl, (by decide : 1 + 1 ≤ _), (by decide : 5 + 10 ≤ _)⟩)
    dsimp only [Pt.U, Pt.locs, Pt.cells, Pt.slots] at X25 l25 y25 z25 st25 hQ25
    subst l25 y25 z25
    have f30 := (EA1.keep K2)
    obtain ⟨ar_25, kk_25, rfl, N25q, K25, p25_0, p25_1, p25_2⟩ := hQ25
    have g_ar_25 : n0 ≤ ar_25 := Nat.le_trans (Nat.le_trans (Nat.le_trans Z0 E1.1) K2.1) p25_0
    have sz_ar_25 : h0.size ≤ ar_25 := Nat.le_trans (((Keep.refl h0 []).ext E1).trans K2 (allS (Or.inr sz_b1) all0)).1 p25_0
    have N25 := Fr.app N2 N25q
    have f32 := (own_sta_keep f26 K25 all0)
    have f33 := (own_sta_keep f27 K25 all0)
    have f34 := (own_sta_keep f28 K25 all0)
    obtain ⟨_, _, ⟨T31, L31, j31, i31⟩, -, X31, ⟨Lc31, hQ31, l31, y31, z31⟩, st31⟩ := Jvm.LawKit.callS X25 hx (y := (⟨cS1, "getChar", "([BI)C"⟩ : MethodName)) hown (mvT hZ (own_at hw 110 rfl)) (mvT hZ (own_at hw 111 rfl)) (mvT hZ (own_at hw 22 rfl)) (mvT hZ (own_at hw 112 rfl)) (by decide) (backOf (W := 0) (rmGC_5_2 l Z a0 hw [] ar_25 kk_25 x0 x1 x2 x3 x4 T25.heap n0 (Nat.le_trans (Nat.le_trans (Nat.le_trans Z0 E1.1) K2.1) K25.1) f32 f33 f34 p25_1 hch_x2) hZ (own_at hw 112 rfl) (own_at hw 22 rfl) (by decide) (by decide)) (g := (mkF m 32 #[rv r0, iv 0, iv 5, rv b1, iv 2, rv ar_25] [(.int 2), (.ref ar_25)])) rfl (by rw [hml]; rfl) (argsL := [(.ref ar_25), (.int 2)]) (rest := []) (lenOf pd_6 rfl) rfl (Nat.le_refl _) (hb hby d5_32) (fun _ _ => ⟨rfl, rfl, (by decide : 2 + 0 ≤ _), (by decide : 15 + 0 ≤ _)⟩)
    dsimp only [Pt.U, Pt.locs, Pt.cells, Pt.slots] at X31 l31 y31 z31 st31 hQ31
    subst l31 y31 z31
    obtain ⟨rfl, N31q, e31⟩ := hQ31
    have N31 := Fr.app N25 N31q
    obtain ⟨fs, hr, hrun, hended, hW, hsame⟩ := X31.leave (v := some (.ref ar_25)) (fun h => by rw [Bd.returns] at h; cases h)
    refine ⟨_, _, k4 _ ?_, hrun, hended, _, _, rfl, ?_, ⟨_, rfl⟩, hW, hsame.mono (by decide) (by decide)⟩
    · refine st2 _ ?_
      refine XS.istore X2.here hx rfl (hb hby d5_12) rfl (l' := #[rv r0, iv 0, iv 5, rv b1, iv 2, .unset]) rfl ?_
      refine oIl X2 hx hby d5_14 rfl (oIn X2 hx hby d5_16 rfl ?_)
      refine XS.icmpNo X2.here hx rfl (hb hby d5_17) rfl (feq (by decide : ¬ ((2 : Int32) = (5 : Int32)))).1 ?_
      refine oAn X2 hx hby d5_20 rfl rfl (oIn X2 hx hby d5_21 rfl (oIn X2 hx hby d5_22 rfl ?_))
      refine st25 _ ?_
      refine XS.astore X25.here hx rfl (hb hby d5_26) rfl rfl (l' := #[rv r0, iv 0, iv 5, rv b1, iv 2, rv ar_25]) rfl ?_
      refine oAl X25 hx hby d5_28 rfl rfl (oIl X25 hx hby d5_30 rfl ?_)
      refine st31 _ ?_
      refine XS.sipush X31.here hx rfl (hb hby d5_35) ?_
      refine XS.icmpYes X31.here hx rfl (pc0 := 38) (pc' := 54) rfl (hb hby d5_38) rfl (tlt p2_3).2.2.1 (by decide) (by decide) ?_
      refine oAl X31 hx hby d5_54 rfl rfl ?_
      jvm_step X31.here [X31.here.top, hx, (hb hby d5_56), X31.method', Bd.returns, Value.isRef, FieldType.isReference]
      first | (intro acts; rw [hr _ acts rfl rfl rfl]) | rw [hr _ _ rfl rfl rfl]
      exact Steps.refl _
    · show Q_C1_5 Z _ _ _ _ _ _ _ h0 n0 _ T31.heap _
      rw [e31]
      exact Or.inl (⟨ar_25, kk_25, rfl, N31, ((((Keep.refl h0 []).ext E1).trans K2 (allS (Or.inr sz_b1) all0)).trans K25 all0), sz_ar_25, p25_1, p25_2⟩)
  · have pl2 := (allS (P := fun x => ∃ cell : Cell, h1[x]? = some cell ∧ cell.vm.isStatics = false) (own_ns EA1) all0)
    have N2 := Fr.app N0 N2q
    have f36 := (own_sta_keep (S_AD.ext E1) K2 pl2)
    have f37 := (own_sta_keep (S_HI.ext E1) K2 pl2)
    have f38 := (own_sta_keep (S_LO.ext E1) K2 pl2)
    have f39 := (f3.keep K2 (ninS (Nat.ne_of_lt (Nat.lt_of_lt_of_le V_r0.lt (Nat.le_of_eq g1.symm))) nin0))
    obtain ⟨_, _, ⟨T35, L35, j35, i35⟩, -, X35, ⟨Lc35, hQ35, l35, y35, z35⟩, st35⟩ := Jvm.LawKit.callS X2 hx (y := (⟨cS1, "toBytes", "([CII)[B"⟩ : MethodName)) hown (mvT hZ (own_at hw 94 rfl)) (mvT hZ (own_at hw 95 rfl)) (mvT hZ (own_at hw 22 rfl)) (mvT hZ (own_at hw 96 rfl)) (by decide) (backOf (W := 0) (rmTB_5 l Z a0 hw [] r0 kC x0 x1 x2 x3 x4 T2.heap n0 (Nat.le_trans (Nat.le_trans Z0 E1.1) K2.1) f36 f37 f38 f39) hZ (own_at hw 96 rfl) (own_at hw 22 rfl) (by decide) (by decide)) (g := (mkF m 23 #[rv r0, iv 0, iv 5, rv b1, iv 3, .unset] [(.int 5), (.int 0), (.ref r0)])) rfl (by rw [hml]; rfl) (argsL := [(.ref r0), (.int 0), (.int 5)]) (rest := []) (lenOf pd_5 rfl) rfl (Nat.le_refl _) (hb hby d5_23) (fun _ _ => ⟨rfl, rfl, (by decide : 1 + 1 ≤ _), (by decide : 5 + 10 ≤ _)⟩)
    dsimp only [Pt.U, Pt.locs, Pt.cells, Pt.slots] at X35 l35 y35 z35 st35 hQ35
    subst l35 y35 z35
    have f40 := (EA1.keep K2)
    obtain ⟨ar_35, kk_35, rfl, N35q, K35, p35_0, p35_1, p35_2⟩ := hQ35
    have g_ar_35 : n0 ≤ ar_35 := Nat.le_trans (Nat.le_trans (Nat.le_trans Z0 E1.1) K2.1) p35_0
    have sz_ar_35 : h0.size ≤ ar_35 := Nat.le_trans (((Keep.refl h0 []).ext E1).trans K2 (allS (Or.inr sz_b1) all0)).1 p35_0
    have N35 := Fr.app N2 N35q
    have f42 := (own_sta_keep f36 K35 all0)
    have f43 := (own_sta_keep f37 K35 all0)
    have f44 := (own_sta_keep f38 K35 all0)
    obtain ⟨_, _, ⟨T41, L41, j41, i41⟩, -, X41, ⟨Lc41, hQ41, l41, y41, z41⟩, st41⟩ := Jvm.LawKit.callS X35 hx (y := (⟨cS1, "getChar", "([BI)C"⟩ : MethodName)) hown (mvT hZ (own_at hw 110 rfl)) (mvT hZ (own_at hw 111 rfl)) (mvT hZ (own_at hw 22 rfl)) (mvT hZ (own_at hw 112 rfl)) (by decide) (backOf (W := 0) (rmGC_5_3 l Z a0 hw [] ar_35 kk_35 x0 x1 x2 x3 x4 T35.heap n0 (Nat.le_trans (Nat.le_trans (Nat.le_trans Z0 E1.1) K2.1) K35.1) f42 f43 f44 p35_1 hch_x3) hZ (own_at hw 112 rfl) (own_at hw 22 rfl) (by decide) (by decide)) (g := (mkF m 32 #[rv r0, iv 0, iv 5, rv b1, iv 3, rv ar_35] [(.int 3), (.ref ar_35)])) rfl (by rw [hml]; rfl) (argsL := [(.ref ar_35), (.int 3)]) (rest := []) (lenOf pd_6 rfl) rfl (Nat.le_refl _) (hb hby d5_32) (fun _ _ => ⟨rfl, rfl, (by decide : 2 + 0 ≤ _), (by decide : 15 + 0 ≤ _)⟩)
    dsimp only [Pt.U, Pt.locs, Pt.cells, Pt.slots] at X41 l41 y41 z41 st41 hQ41
    subst l41 y41 z41
    obtain ⟨rfl, N41q, e41⟩ := hQ41
    have N41 := Fr.app N35 N41q
    obtain ⟨fs, hr, hrun, hended, hW, hsame⟩ := X41.leave (v := some (.ref ar_35)) (fun h => by rw [Bd.returns] at h; cases h)
    refine ⟨_, _, k4 _ ?_, hrun, hended, _, _, rfl, ?_, ⟨_, rfl⟩, hW, hsame.mono (by decide) (by decide)⟩
    · refine st2 _ ?_
      refine XS.istore X2.here hx rfl (hb hby d5_12) rfl (l' := #[rv r0, iv 0, iv 5, rv b1, iv 3, .unset]) rfl ?_
      refine oIl X2 hx hby d5_14 rfl (oIn X2 hx hby d5_16 rfl ?_)
      refine XS.icmpNo X2.here hx rfl (hb hby d5_17) rfl (feq (by decide : ¬ ((3 : Int32) = (5 : Int32)))).1 ?_
      refine oAn X2 hx hby d5_20 rfl rfl (oIn X2 hx hby d5_21 rfl (oIn X2 hx hby d5_22 rfl ?_))
      refine st35 _ ?_
      refine XS.astore X35.here hx rfl (hb hby d5_26) rfl rfl (l' := #[rv r0, iv 0, iv 5, rv b1, iv 3, rv ar_35]) rfl ?_
      refine oAl X35 hx hby d5_28 rfl rfl (oIl X35 hx hby d5_30 rfl ?_)
      refine st41 _ ?_
      refine XS.sipush X41.here hx rfl (hb hby d5_35) ?_
      refine XS.icmpYes X41.here hx rfl (pc0 := 38) (pc' := 54) rfl (hb hby d5_38) rfl (tlt p2_4).2.2.1 (by decide) (by decide) ?_
      refine oAl X41 hx hby d5_54 rfl rfl ?_
      jvm_step X41.here [X41.here.top, hx, (hb hby d5_56), X41.method', Bd.returns, Value.isRef, FieldType.isReference]
      first | (intro acts; rw [hr _ acts rfl rfl rfl]) | rw [hr _ _ rfl rfl rfl]
      exact Steps.refl _
    · show Q_C1_5 Z _ _ _ _ _ _ _ h0 n0 _ T41.heap _
      rw [e41]
      exact Or.inl (⟨ar_35, kk_35, rfl, N41, ((((Keep.refl h0 []).ext E1).trans K2 (allS (Or.inr sz_b1) all0)).trans K35 all0), sz_ar_35, p35_1, p35_2⟩)
  · have pl2 := (allS (P := fun x => ∃ cell : Cell, h1[x]? = some cell ∧ cell.vm.isStatics = false) (own_ns EA1) all0)
    have N2 := Fr.app N0 N2q
    have f46 := (own_sta_keep (S_AD.ext E1) K2 pl2)
    have f47 := (own_sta_keep (S_HI.ext E1) K2 pl2)
    have f48 := (own_sta_keep (S_LO.ext E1) K2 pl2)
    have f49 := (f3.keep K2 (ninS (Nat.ne_of_lt (Nat.lt_of_lt_of_le V_r0.lt (Nat.le_of_eq g1.symm))) nin0))
    obtain ⟨_, _, ⟨T45, L45, j45, i45⟩, -, X45, ⟨Lc45, hQ45, l45, y45, z45⟩, st45⟩ := Jvm.LawKit.callS X2 hx (y := (⟨cS1, "toBytes", "([CII)[B"⟩ : MethodName)) hown (mvT hZ (own_at hw 94 rfl)) (mvT hZ (own_at hw 95 rfl)) (mvT hZ (own_at hw 22 rfl)) (mvT hZ (own_at hw 96 rfl)) (by decide) (backOf (W := 0) (rmTB_5 l Z a0 hw [] r0 kC x0 x1 x2 x3 x4 T2.heap n0 (Nat.le_trans (Nat.le_trans Z0 E1.1) K2.1) f46 f47 f48 f49) hZ (own_at hw 96 rfl) (own_at hw 22 rfl) (by decide) (by decide)) (g := (mkF m 23 #[rv r0, iv 0, iv 5, rv b1, iv 4, .unset] [(.int 5), (.int 0), (.ref r0)])) rfl (by rw [hml]; rfl) (argsL := [(.ref r0), (.int 0), (.int 5)]) (rest := []) (lenOf pd_5 rfl) rfl (Nat.le_refl _) (hb hby d5_23) (fun _ _ => ⟨rfl, rfl, (by decide : 1 + 1 ≤ _), (by decide : 5 + 10 ≤ _)⟩)
    dsimp only [Pt.U, Pt.locs, Pt.cells, Pt.slots] at X45 l45 y45 z45 st45 hQ45
    subst l45 y45 z45
    have f50 := (EA1.keep K2)
    obtain ⟨ar_45, kk_45, rfl, N45q, K45, p45_0, p45_1, p45_2⟩ := hQ45
    have g_ar_45 : n0 ≤ ar_45 := Nat.le_trans (Nat.le_trans (Nat.le_trans Z0 E1.1) K2.1) p45_0
    have sz_ar_45 : h0.size ≤ ar_45 := Nat.le_trans (((Keep.refl h0 []).ext E1).trans K2 (allS (Or.inr sz_b1) all0)).1 p45_0
    have N45 := Fr.app N2 N45q
    have f52 := (own_sta_keep f46 K45 all0)
    have f53 := (own_sta_keep f47 K45 all0)
    have f54 := (own_sta_keep f48 K45 all0)
    obtain ⟨_, _, ⟨T51, L51, j51, i51⟩, -, X51, ⟨Lc51, hQ51, l51, y51, z51⟩, st51⟩ := Jvm.LawKit.callS X45 hx (y := (⟨cS1, "getChar", "([BI)C"⟩ : MethodName)) hown (mvT hZ (own_at hw 110 rfl)) (mvT hZ (own_at hw 111 rfl)) (mvT hZ (own_at hw 22 rfl)) (mvT hZ (own_at hw 112 rfl)) (by decide) (backOf (W := 0) (rmGC_5_4 l Z a0 hw [] ar_45 kk_45 x0 x1 x2 x3 x4 T45.heap n0 (Nat.le_trans (Nat.le_trans (Nat.le_trans Z0 E1.1) K2.1) K45.1) f52 f53 f54 p45_1 hch_x4) hZ (own_at hw 112 rfl) (own_at hw 22 rfl) (by decide) (by decide)) (g := (mkF m 32 #[rv r0, iv 0, iv 5, rv b1, iv 4, rv ar_45] [(.int 4), (.ref ar_45)])) rfl (by rw [hml]; rfl) (argsL := [(.ref ar_45), (.int 4)]) (rest := []) (lenOf pd_6 rfl) rfl (Nat.le_refl _) (hb hby d5_32) (fun _ _ => ⟨rfl, rfl, (by decide : 2 + 0 ≤ _), (by decide : 15 + 0 ≤ _)⟩)
    dsimp only [Pt.U, Pt.locs, Pt.cells, Pt.slots] at X51 l51 y51 z51 st51 hQ51
    subst l51 y51 z51
    obtain ⟨rfl, N51q, e51⟩ := hQ51
    have N51 := Fr.app N45 N51q
    obtain ⟨fs, hr, hrun, hended, hW, hsame⟩ := X51.leave (v := some (.ref ar_45)) (fun h => by rw [Bd.returns] at h; cases h)
    refine ⟨_, _, k4 _ ?_, hrun, hended, _, _, rfl, ?_, ⟨_, rfl⟩, hW, hsame.mono (by decide) (by decide)⟩
    · refine st2 _ ?_
      refine XS.istore X2.here hx rfl (hb hby d5_12) rfl (l' := #[rv r0, iv 0, iv 5, rv b1, iv 4, .unset]) rfl ?_
      refine oIl X2 hx hby d5_14 rfl (oIn X2 hx hby d5_16 rfl ?_)
      refine XS.icmpNo X2.here hx rfl (hb hby d5_17) rfl (feq (by decide : ¬ ((4 : Int32) = (5 : Int32)))).1 ?_
      refine oAn X2 hx hby d5_20 rfl rfl (oIn X2 hx hby d5_21 rfl (oIn X2 hx hby d5_22 rfl ?_))
      refine st45 _ ?_
      refine XS.astore X45.here hx rfl (hb hby d5_26) rfl rfl (l' := #[rv r0, iv 0, iv 5, rv b1, iv 4, rv ar_45]) rfl ?_
      refine oAl X45 hx hby d5_28 rfl rfl (oIl X45 hx hby d5_30 rfl ?_)
      refine st51 _ ?_
      refine XS.sipush X51.here hx rfl (hb hby d5_35) ?_
      refine XS.icmpYes X51.here hx rfl (pc0 := 38) (pc' := 54) rfl (hb hby d5_38) rfl (tlt p2_5).2.2.1 (by decide) (by decide) ?_
      refine oAl X51 hx hby d5_54 rfl rfl ?_
      jvm_step X51.here [X51.here.top, hx, (hb hby d5_56), X51.method', Bd.returns, Value.isRef, FieldType.isReference]
      first | (intro acts; rw [hr _ acts rfl rfl rfl]) | rw [hr _ _ rfl rfl rfl]
      exact Steps.refl _
    · show Q_C1_5 Z _ _ _ _ _ _ _ h0 n0 _ T51.heap _
      rw [e51]
      exact Or.inl (⟨ar_45, kk_45, rfl, N51, ((((Keep.refl h0 []).ext E1).trans K2 (allS (Or.inr sz_b1) all0)).trans K45 all0), sz_ar_45, p45_1, p45_2⟩)
  · have pl2 := (allS (P := fun x => ∃ cell : Cell, h1[x]? = some cell ∧ cell.vm.isStatics = false) (own_ns EA1) all0)
    have N2 := Fr.app N0 N2q
    have f55 := (EA1.keep K2)
    obtain ⟨fs, hr, hrun, hended, hW, hsame⟩ := X2.leave (v := some (.ref b1)) (fun h => by rw [Bd.returns] at h; cases h)
    refine ⟨_, _, k4 _ ?_, hrun, hended, _, _, rfl, ?_, ⟨_, rfl⟩, hW, hsame.mono (by decide) (by decide)⟩
    · refine st2 _ ?_
      refine XS.istore X2.here hx rfl (hb hby d5_12) rfl (l' := #[rv r0, iv 0, iv 5, rv b1, iv 5, .unset]) rfl ?_
      refine oIl X2 hx hby d5_14 rfl (oIn X2 hx hby d5_16 rfl ?_)
      refine XS.icmpYes X2.here hx rfl (pc0 := 17) (pc' := 57) rfl (hb hby d5_17) rfl (teq (by decide : (5 : Int32) = (5 : Int32))).1 (by decide) (by decide) ?_
      refine oAn X2 hx hby d5_57 rfl rfl ?_
      jvm_step X2.here [X2.here.top, hx, (hb hby d5_58), X2.method', Bd.returns, Value.isRef, FieldType.isReference]
      first | (intro acts; rw [hr _ acts rfl rfl rfl]) | rw [hr _ _ rfl rfl rfl]
      exact Steps.refl _
    · show Q_C1_5 Z _ _ _ _ _ _ _ h0 n0 _ T2.heap _
      exact Or.inr ((⟨b1, k1, rfl, N2, (((Keep.refl h0 []).ext E1).trans K2 (allS (Or.inr sz_b1) all0)), sz_b1, p2_0, f55, p2_1, p2_2, p2_3, p2_4, p2_5⟩))
theorem d7_0 : decode jdk_52_method_15_code 0 = .ok (.iload_n 1, 1) := by decide +kernel
theorem d7_1 : decode jdk_52_method_15_code 1 = .ok (.aload_n 0, 1) := by decide +kernel
theorem d7_2 : decode jdk_52_method_15_code 2 = .ok (.arraylength, 1) := by decide +kernel
theorem d7_3 : decode jdk_52_method_15_code 3 = .ok (.isub, 1) := by decide +kernel
theorem d7_4 : decode jdk_52_method_15_code 4 = .ok (.bipush 31, 2) := by decide +kernel
theorem d7_6 : decode jdk_52_method_15_code 6 = .ok (.iushr, 1) := by decide +kernel
theorem d7_7 : decode jdk_52_method_15_code 7 = .ok (.i2b, 1) := by decide +kernel
theorem d7_8 : decode jdk_52_method_15_code 8 = .ok (.ireturn, 1) := by decide +kernel
theorem ef_7 (m : MethodId) (x0 : Addr) (x1 : Int32) : entryFrame m #[(.ref x0), (.int x1)] 2 = mkF m 0 #[.val (.ref x0), .val (.int x1)] [] := by first | (simp [entryFrame, mkF, argsToLocals, Value.category]; done) | rfl
def Q_Cd_5_5 (Z : State) (r0 : Addr) (kB : ClassId) (vs : List Value) (h0 : Heap) (n0 : Nat) (v : Option Value) (h : Heap) (L : List Loc) : Prop := v = some (.int 0) ∧ Fr n0 L ∧ h = h0
set_option maxRecDepth 65536 in
set_option maxHeartbeats 40000000 in
theorem rmCd_5_5 (l : Launch) (Z : State) (a0 : Array Value) (hw : ∀ d ∈ tables_1, d.before a0 Z = true) (ws : List Jvm.Cond) (r0 : Addr) (kB : ClassId) (vs : List Value) (h0 : Heap) (n0 : Nat) (Z0 : n0 ≤ h0.size) (V_r0 : Arv Z h0 r0 kB .byte (5 : Int32) vs (.int 0)) :
    MetFree l (⟨cS1, "coderFromArrayLen", "([BI)B"⟩ : MethodName) (head1 (Jvm.Cond.code (⟨cS1, "coderFromArrayLen", "([BI)B"⟩ : MethodName) jdk_52_method_15_code 2 (some .byte) :: ws) ({ frames := 0, cells := 0, slots := 0, locals := 0 } : Room)) (fun a U => a = #[(.ref r0), (.int 5)] ∧ Z.Warmed39 U.vm ∧ U.heap = h0) (fun _ _ _ _ _ => True) (fun _ U o U' => ∃ v L, o = .returned v ∧ Q_Cd_5_5 Z r0 kB vs h0 n0 v U'.heap L ∧ FrameEnd U o U' L 0 0) := by
  refine MetFree.of_bodySF (plainFor_of_name pn_java_lang_StringUTF16) hisR ?_
  intro p e s m args below meth c s₁ Bd hml0 hP hK
  obtain ⟨rfl, hZ, hh⟩ := hP
  have hx := Bd.exec
  have hby := Bd.bytes
  have hml : c.maxLocals = 2 := hml0
  have hown : s.vm.findClass cS1 = some m.cls := findClass_of_methodNamed Bd.named
  have hnm := (name_of_methodNamed Bd.named Bd.method).1
  have X0 : Stand p l e ({ frames := 0, cells := 0, slots := 0, locals := 0 } : Room) s m #[(.ref r0), (.int 5)] below meth c s₁ [] 0 0 := Stand.of_body Bd
  have e0 : s₁.heap = h0 := by rw [← hh, Bd.state]; rfl
  have N0 := Fr.nil n0
  have k0 : ∀ t, OwnS p e below s₁ (mkF m 0 #[rv r0, iv 5] []) t → OwnS p e below s₁ (entryFrame m #[(.ref r0), (.int 5)] 2) t := fun t k => castTop (ef_7 m r0 (5 : Int32)) k
  obtain ⟨cl_z1, Ar_z1, q_z1, S_z1, N_z1, H_z1, G_z1⟩ := id V_r0
  obtain ⟨fs, hr, hrun, hended, hW, hsame⟩ := X0.leave (v := some (.int 0)) (fun h => by rw [Bd.returns] at h; cases h)
  refine ⟨_, _, k0 _ ?_, hrun, hended, _, _, rfl, ?_, ⟨_, rfl⟩, hW, hsame.mono (by decide) (by decide)⟩
  · show OwnS p e below s₁ (mkF m 0 #[rv r0, iv 5] []) _
    refine oIn X0 hx hby d7_0 rfl (oAn X0 hx hby d7_1 rfl rfl ?_)
    refine X0.arraylength hx (by rw [e0]; exact Ar_z1.1) (State.isArrayOf_alike hZ.alike Ar_z1.2.1) (g := (mkF m 2 #[rv r0, iv 5] [(.ref r0), (.int 5)])) rfl rfl (hb hby d7_2) _ ?_
    rw [len_of S_z1 N_z1]
    refine XS.isub X0.here hx rfl (hb hby d7_3) rfl ?_
    refine oBp X0 hx hby d7_4 ?_
    refine XS.iushr X0.here hx rfl (hb hby d7_6) rfl ?_
    refine XS.i2b X0.here hx rfl (hb hby d7_7) rfl ?_
    exact retN X0 hx (t := .byte) Bd.returns (by simp) (hb hby d7_8) hr
  · show Q_Cd_5_5 Z _ _ _ h0 n0 _ s₁.heap _
    rw [e0]
    exact ⟨rfl, N0, rfl⟩
def Q_Cd_5_10 (Z : State) (r0 : Addr) (kB : ClassId) (vs : List Value) (h0 : Heap) (n0 : Nat) (v : Option Value) (h : Heap) (L : List Loc) : Prop := v = some (.int 1) ∧ Fr n0 L ∧ h = h0
set_option maxRecDepth 65536 in
set_option maxHeartbeats 40000000 in
theorem rmCd_5_10 (l : Launch) (Z : State) (a0 : Array Value) (hw : ∀ d ∈ tables_1, d.before a0 Z = true) (ws : List Jvm.Cond) (r0 : Addr) (kB : ClassId) (vs : List Value) (h0 : Heap) (n0 : Nat) (Z0 : n0 ≤ h0.size) (V_r0 : Arv Z h0 r0 kB .byte (10 : Int32) vs (.int 0)) :
    MetFree l (⟨cS1, "coderFromArrayLen", "([BI)B"⟩ : MethodName) (head1 (Jvm.Cond.code (⟨cS1, "coderFromArrayLen", "([BI)B"⟩ : MethodName) jdk_52_method_15_code 2 (some .byte) :: ws) ({ frames := 0, cells := 0, slots := 0, locals := 0 } : Room)) (fun a U => a = #[(.ref r0), (.int 5)] ∧ Z.Warmed39 U.vm ∧ U.heap = h0) (fun _ _ _ _ _ => True) (fun _ U o U' => ∃ v L, o = .returned v ∧ Q_Cd_5_10 Z r0 kB vs h0 n0 v U'.heap L ∧ FrameEnd U o U' L 0 0) := by
  refine MetFree.of_bodySF (plainFor_of_name pn_java_lang_StringUTF16) hisR ?_
  intro p e s m args below meth c s₁ Bd hml0 hP hK
  obtain ⟨rfl, hZ, hh⟩ := hP
  have hx := Bd.exec
  have hby := Bd.bytes
  have hml : c.maxLocals = 2 := hml0
  have hown : s.vm.findClass cS1 = some m.cls := findClass_of_methodNamed Bd.named
  have hnm := (name_of_methodNamed Bd.named Bd.method).1
  have X0 : Stand p l e ({ frames := 0, cells := 0, slots := 0, locals := 0 } : Room) s m #[(.ref r0), (.int 5)] below meth c s₁ [] 0 0 := Stand.of_body Bd
  have e0 : s₁.heap = h0 := by rw [← hh, Bd.state]; rfl
  have N0 := Fr.nil n0
  have k0 : ∀ t, OwnS p e below s₁ (mkF m 0 #[rv r0, iv 5] []) t → OwnS p e below s₁ (entryFrame m #[(.ref r0), (.int 5)] 2) t := fun t k => castTop (ef_7 m r0 (5 : Int32)) k
  obtain ⟨cl_z1, Ar_z1, q_z1, S_z1, N_z1, H_z1, G_z1⟩ := id V_r0
  obtain ⟨fs, hr, hrun, hended, hW, hsame⟩ := X0.leave (v := some (.int 1)) (fun h => by rw [Bd.returns] at h; cases h)
  refine ⟨_, _, k0 _ ?_, hrun, hended, _, _, rfl, ?_, ⟨_, rfl⟩, hW, hsame.mono (by decide) (by decide)⟩
  · show OwnS p e below s₁ (mkF m 0 #[rv r0, iv 5] []) _
    refine oIn X0 hx hby d7_0 rfl (oAn X0 hx hby d7_1 rfl rfl ?_)
    refine X0.arraylength hx (by rw [e0]; exact Ar_z1.1) (State.isArrayOf_alike hZ.alike Ar_z1.2.1) (g := (mkF m 2 #[rv r0, iv 5] [(.ref r0), (.int 5)])) rfl rfl (hb hby d7_2) _ ?_
    rw [len_of S_z1 N_z1]
    refine XS.isub X0.here hx rfl (hb hby d7_3) rfl ?_
    refine oBp X0 hx hby d7_4 ?_
    refine XS.iushr X0.here hx rfl (hb hby d7_6) rfl ?_
    refine XS.i2b X0.here hx rfl (hb hby d7_7) rfl ?_
    exact retN X0 hx (t := .byte) Bd.returns (by simp) (hb hby d7_8) hr
  · show Q_Cd_5_10 Z _ _ _ h0 n0 _ s₁.heap _
    rw [e0]
    exact ⟨rfl, N0, rfl⟩
theorem pd_7 : parseMethodDescriptor "([BI)B" = some ⟨[(.array .byte), .int], some .byte⟩ := by decide +kernel
theorem d3_0 : decode jdk_42_method_149_code 0 = .ok (.aload_n 0, 1) := by decide +kernel
theorem d3_1 : decode jdk_42_method_149_code 1 = .ok (.invokespecial 1, 3) := by decide +kernel
theorem d3_4 : decode jdk_42_method_149_code 4 = .ok (.iload_n 3, 1) := by decide +kernel
theorem d3_5 : decode jdk_42_method_149_code 5 = .ok (.ifCond .ne 22, 3) := by decide +kernel
theorem d3_27 : decode jdk_42_method_149_code 27 = .ok (.getstatic 38, 3) := by decide +kernel
theorem d3_30 : decode jdk_42_method_149_code 30 = .ok (.ifCond .eq 28, 3) := by decide +kernel
theorem d3_33 : decode jdk_42_method_149_code 33 = .ok (.aload_n 1, 1) := by decide +kernel
theorem d3_34 : decode jdk_42_method_149_code 34 = .ok (.iload_n 2, 1) := by decide +kernel
theorem d3_35 : decode jdk_42_method_149_code 35 = .ok (.iload_n 3, 1) := by decide +kernel
theorem d3_36 : decode jdk_42_method_149_code 36 = .ok (.invokestatic 177, 3) := by decide +kernel
theorem d3_39 : decode jdk_42_method_149_code 39 = .ok (.astore 5, 2) := by decide +kernel
theorem d3_41 : decode jdk_42_method_149_code 41 = .ok (.aload_n 0, 1) := by decide +kernel
theorem d3_42 : decode jdk_42_method_149_code 42 = .ok (.aload 5, 2) := by decide +kernel
theorem d3_44 : decode jdk_42_method_149_code 44 = .ok (.iload_n 3, 1) := by decide +kernel
theorem d3_45 : decode jdk_42_method_149_code 45 = .ok (.invokestatic 47, 3) := by decide +kernel
theorem d3_48 : decode jdk_42_method_149_code 48 = .ok (.putfield 15, 3) := by decide +kernel
theorem d3_51 : decode jdk_42_method_149_code 51 = .ok (.aload_n 0, 1) := by decide +kernel
theorem d3_52 : decode jdk_42_method_149_code 52 = .ok (.aload 5, 2) := by decide +kernel
theorem d3_54 : decode jdk_42_method_149_code 54 = .ok (.putfield 9, 3) := by decide +kernel
theorem d3_57 : decode jdk_42_method_149_code 57 = .ok (.return_, 1) := by decide +kernel
theorem ef_3n4 (m : MethodId) (x0 : Addr) (x1 : Addr) (x2 : Int32) (x3 : Int32) : entryFrame m #[(.ref x0), (.ref x1), (.int x2), (.int x3), .null] 6 = mkF m 0 #[.val (.ref x0), .val (.ref x1), .val (.int x2), .val (.int x3), .val .null, .unset] [] := by first | (simp [entryFrame, mkF, argsToLocals, Value.category]; done) | rfl
def Q_I2_5 (Z : State) (r0 : Addr) (r1 : Addr) (w_CS : Int32) (kC : ClassId) (x0 : Int32) (x1 : Int32) (x2 : Int32) (x3 : Int32) (x4 : Int32) (u_coder_r0 : Value) (u_value_r0 : Value) (u_coder_r0 : Value) (u_value_r0 : Value) (h0 : Heap) (n0 : Nat) (v : Option Value) (h : Heap) (L : List Loc) : Prop := v = none ∧ Fr n0 L ∧ Keep h0 h [r0] ∧ own_S5 Z h r0 x0 x1 x2 x3 x4 ∧ Exa Z h r0 cS0
set_option maxRecDepth 65536 in
set_option maxHeartbeats 40000000 in
theorem rmI2_5 (l : Launch) (Z : State) (a0 : Array Value) (hw : ∀ d ∈ tables_1, d.before a0 Z = true) (ws : List Jvm.Cond) (r0 : Addr) (r1 : Addr) (w_CS : Int32) (kC : ClassId) (x0 : Int32) (x1 : Int32) (x2 : Int32) (x3 : Int32) (x4 : Int32) (u_coder_r0 : Value) (u_value_r0 : Value) (u_coder_r0 : Value) (u_value_r0 : Value) (h0 : Heap) (n0 : Nat) (Z0 : n0 ≤ h0.size) (S_CS : Sta Z h0 cS0 cS13 "Z" (.int w_CS)) (hcs : ¬ (w_CS = (0 : Int32))) (S_AD : Sta Z h0 cS1 cS6 "Z" (.int 1)) (S_HI : Sta Z h0 cS1 cS7 "I" (.int 0)) (S_LO : Sta Z h0 cS1 cS8 "I" (.int 8)) (E_r0 : Exa Z h0 r0 cS0) (V_r1 : Arv Z h0 r1 kC .char (5 : Int32) [(.int x0), (.int x1), (.int x2), (.int x3), (.int x4)] (.int 0)) (hch_x0 : own_ch x0) (hch_x1 : own_ch x1) (hch_x2 : own_ch x2) (hch_x3 : own_ch x3) (hch_x4 : own_ch x4) (F_coder_r0 : Fld Z h0 r0 cS0 "coder" "B" u_coder_r0) (ge_r0 : n0 ≤ r0) (F_value_r0 : Fld Z h0 r0 cS0 "value" "[B" u_value_r0) :
    MetFree l (⟨cS0, "<init>", "([CIILjava/lang/Void;)V"⟩ : MethodName) (head1 (Jvm.Cond.code (⟨cS0, "<init>", "([CIILjava/lang/Void;)V"⟩ : MethodName) jdk_42_method_149_code 6 none :: ws) ({ frames := 4, cells := 2, slots := 15, locals := 57 } : Room)) (fun a U => a = #[(.ref r0), (.ref r1), (.int 0), (.int 5), .null] ∧ Z.Warmed39 U.vm ∧ U.heap = h0) (fun _ _ _ _ _ => True) (fun _ U o U' => ∃ v L, o = .returned v ∧ Q_I2_5 Z r0 r1 w_CS kC x0 x1 x2 x3 x4 u_coder_r0 u_value_r0 u_coder_r0 u_value_r0 h0 n0 v U'.heap L ∧ FrameEnd U o U' L 2 15) := by
  refine MetFree.of_bodySF (plainFor_of_name pn_java_lang_String) hisR ?_
  intro p e s m args below meth c s₁ Bd hml0 hP hK
  obtain ⟨rfl, hZ, hh⟩ := hP
  have hx := Bd.exec
  have hby := Bd.bytes
  have hml : c.maxLocals = 6 := hml0
  have hown : s.vm.findClass cS0 = some m.cls := findClass_of_methodNamed Bd.named
  have hnm := (name_of_methodNamed Bd.named Bd.method).1
  have X0 : Stand p l e ({ frames := 4, cells := 2, slots := 15, locals := 57 } : Room) s m #[(.ref r0), (.ref r1), (.int 0), (.int 5), .null] below meth c s₁ [] 0 0 := Stand.of_body Bd
  have e0 : s₁.heap = h0 := by rw [← hh, Bd.state]; rfl
  have N0 := Fr.nil n0
  have k0 : ∀ t, OwnS p e below s₁ (mkF m 0 #[rv r0, rv r1, iv 0, iv 5, .val .null, .unset] []) t → OwnS p e below s₁ (entryFrame m #[(.ref r0), (.ref r1), (.int 0), (.int 5), .null] 6) t := fun t k => castTop (ef_3n4 m r0 r1 (0 : Int32) (5 : Int32)) k
  obtain ⟨T1, X1, e1, st1⟩ := initO X0 hx hZ hown (own_at hw 16 rfl) (own_at hw 17 rfl) (own_at hw 18 rfl) e0 (g := (mkF m 1 #[rv r0, rv r1, iv 0, iv 5, .val .null, .unset] [(.ref r0)])) rfl (by rw [hml]; rfl) rfl (hb hby d3_1) (by decide) (W := 0) (Nat.le_refl _) (by decide)
  obtain ⟨T2, X2, e2, st2⟩ := getS2 X1 hx hZ hown (host := "") (Or.inl (own_at hw 19 rfl)) Via.refl e1 S_CS (g := (mkF m 27 #[rv r0, rv r1, iv 0, iv 5, .val .null, .unset] [])) rfl (hb hby d3_27)
  obtain ⟨_, _, ⟨T3, L3, j3, i3⟩, -, X3, ⟨Lc3, hQ3, l3, y3, z3⟩, st3⟩ := Jvm.LawKit.callS X2 hx (y := (⟨cS1, "compress", "([CII)[B"⟩ : MethodName)) hown (mvT hZ (own_at hw 20 rfl)) (mvT hZ (own_at hw 21 rfl)) (mvT hZ (own_at hw 22 rfl)) (mvT hZ (own_at hw 23 rfl)) (by decide) (backOf (W := 0) (rmC1_5 l Z a0 hw [] r1 kC x0 x1 x2 x3 x4 h0 n0 Z0 S_AD S_HI S_LO V_r1 hch_x0 hch_x1 hch_x2 hch_x3 hch_x4) hZ (own_at hw 23 rfl) (own_at hw 22 rfl) (by decide) (by decide)) (g := (mkF m 36 #[rv r0, rv r1, iv 0, iv 5, .val .null, .unset] [(.int 5), (.int 0), (.ref r1)])) rfl (by rw [hml]; rfl) (argsL := [(.ref r1), (.int 0), (.int 5)]) (rest := []) (lenOf pd_5 rfl) rfl (Nat.le_refl _) (hb hby d3_36) (fun _ _ => ⟨rfl, e2, (by decide : 0 + 2 ≤ _), (by decide : 0 + 15 ≤ _)⟩)
  dsimp only [Pt.U, Pt.locs, Pt.cells, Pt.slots] at X3 l3 y3 z3 st3 hQ3
  subst l3 y3 z3
  have k4 : ∀ t, OwnS p e below T2 (mkF m 36 #[rv r0, rv r1, iv 0, iv 5, .val .null, .unset] [(.int 5), (.int 0), (.ref r1)]) t → OwnS p e below s₁ (entryFrame m #[(.ref r0), (.ref r1), (.int 0), (.int 5), .null] 6) t := fun t q => by
   refine k0 t ?_
   show OwnS p e below s₁ (mkF m 0 #[rv r0, rv r1, iv 0, iv 5, .val .null, .unset] []) _
   refine oAn X0 hx hby d3_0 rfl rfl ?_
   refine st1 _ ?_
   refine oIn X1 hx hby d3_4 rfl ?_
   refine XS.ifYes X1.here hx rfl (pc0 := 5) (pc' := 27) rfl (hb hby d3_5) rfl ((if0 _ _).trans (feq (by decide : ¬ ((5 : Int32) = (0 : Int32)))).2) (by decide) (by decide) ?_
   refine st2 _ ?_
   refine XS.ifNo X2.here hx rfl (hb hby d3_30) rfl ((if0 _ _).trans (feq hcs).1) ?_
   refine oAn X2 hx hby d3_33 rfl rfl (oIn X2 hx hby d3_34 rfl (oIn X2 hx hby d3_35 rfl ?_))
   exact q
  rcases hQ3 with ⟨ar_3, kk_3, rfl, N3q, K3, p3_0, p3_1, p3_2⟩ | ⟨ar_3, kk_3, rfl, N3q, K3, p3_0, p3_1, p3_2, p3_3, p3_4, p3_5, p3_6, p3_7⟩
  · have g_ar_3 : n0 ≤ ar_3 := Nat.le_trans Z0 p3_0
    have sz_ar_3 : h0.size ≤ ar_3 := Nat.le_trans (Keep.refl h0 []).1 p3_0
    have N3 := Fr.app N0 N3q
    obtain ⟨_, _, ⟨T5, L5, j5, i5⟩, -, X5, ⟨Lc5, hQ5, l5, y5, z5⟩, st5⟩ := Jvm.LawKit.callS X3 hx (y := (⟨cS1, "coderFromArrayLen", "([BI)B"⟩ : MethodName)) hown (mvT hZ (own_at hw 28 rfl)) (mvT hZ (own_at hw 29 rfl)) (mvT hZ (own_at hw 22 rfl)) (mvT hZ (own_at hw 30 rfl)) (by decide) (backOf (W := 1) (rmCd_5_10 l Z a0 hw [] ar_3 kk_3 [(.int (((x0 >>> ((0 : Int32) &&& 31)).toInt8.toInt32).toInt8.toInt32)), (.int (((x0 >>> ((8 : Int32) &&& 31)).toInt8.toInt32).toInt8.toInt32)), (.int (((x1 >>> ((0 : Int32) &&& 31)).toInt8.toInt32).toInt8.toInt32)), (.int (((x1 >>> ((8 : Int32) &&& 31)).toInt8.toInt32).toInt8.toInt32)), (.int (((x2 >>> ((0 : Int32) &&& 31)).toInt8.toInt32).toInt8.toInt32)), (.int (((x2 >>> ((8 : Int32) &&& 31)).toInt8.toInt32).toInt8.toInt32)), (.int (((x3 >>> ((0 : Int32) &&& 31)).toInt8.toInt32).toInt8.toInt32)), (.int (((x3 >>> ((8 : Int32) &&& 31)).toInt8.toInt32).toInt8.toInt32)), (.int (((x4 >>> ((0 : Int32) &&& 31)).toInt8.toInt32).toInt8.toInt32)), (.int (((x4 >>> ((8 : Int32) &&& 31)).toInt8.toInt32).toInt8.toInt32))] T3.heap n0 (Nat.le_trans Z0 K3.1) p3_1) hZ (own_at hw 30 rfl) (own_at hw 22 rfl) (by decide) (by decide)) (g := (mkF m 45 #[rv r0, rv r1, iv 0, iv 5, .val .null, rv ar_3] [(.int 5), (.ref ar_3), (.ref r0)])) rfl (by rw [hml]; rfl) (argsL := [(.ref ar_3), (.int 5)]) (rest := [(.ref r0)]) (lenOf pd_7 rfl) rfl (Nat.le_refl _) (hb hby d3_45) (fun _ _ => ⟨rfl, rfl, (by decide : 2 + 0 ≤ _), (by decide : 15 + 0 ≤ _)⟩)
    dsimp only [Pt.U, Pt.locs, Pt.cells, Pt.slots] at X5 l5 y5 z5 st5 hQ5
    subst l5 y5 z5
    obtain ⟨rfl, N5q, e5⟩ := hQ5
    have N5 := Fr.app N3 N5q
    have f6 := (E_r0.keep K3)
    have f7 := (F_coder_r0.keep K3 nin0)
    obtain ⟨T8, h8, X8, e8, W8, st8⟩ := putFN X5 hx hZ hown (own_at hw 31 rfl) Via.refl e5 f7 f6 (Or.inr ⟨(own_at hw 32 rfl), rfl, hnm⟩) (own_at hw 7 rfl) (ty := .byte) (v' := (.int 1)) (by decide) rfl rfl (g := (mkF m 48 #[rv r0, rv r1, iv 0, iv 5, .val .null, rv ar_3] [(.int 1), (.ref r0)])) rfl rfl (hb hby d3_48)
    have Fw8 : Fld Z h8 r0 cS0 "coder" "B" (.int 1) := f7.same W8
    have N8 := Fr.snoc X8 N5 ge_r0
    have f9 := (f6.wr W8)
    have f10 := ((F_value_r0.keep K3 nin0).other W8 (Or.inr (slot_ne (Or.inr (own_at hw 34 rfl)) (Or.inr (own_at hw 32 rfl)) (by decide) (t := (.array .byte)) (t' := .byte) (by decide) (by decide))))
    obtain ⟨T11, h11, X11, e11, W11, st11⟩ := putF X8 hx hZ hown (host := "") (Or.inl (own_at hw 33 rfl)) Via.refl e8 f10 f9 (Or.inr ⟨(own_at hw 34 rfl), rfl, hnm⟩) (own_at hw 7 rfl) (ty := (.array .byte)) (by decide) rfl rfl (g := (mkF m 54 #[rv r0, rv r1, iv 0, iv 5, .val .null, rv ar_3] [(.ref ar_3), (.ref r0)])) rfl rfl (hb hby d3_54)
    have Fw11 : Fld Z h11 r0 cS0 "value" "[B" (.ref ar_3) := f10.same W11
    have N11 := Fr.snoc X11 N8 ge_r0
    have f12 := ((p3_1.other W8 (Ne.symm (Nat.ne_of_lt (Nat.lt_of_lt_of_le E_r0.lt p3_0)))).other W11 (Ne.symm (Nat.ne_of_lt (Nat.lt_of_lt_of_le E_r0.lt p3_0))))
    have f14 := (f9.wr W11)
    have f15 := (Fw8.other W11 (Or.inr (slot_ne (Or.inr (own_at hw 32 rfl)) (Or.inr (own_at hw 34 rfl)) (by decide) (t := .byte) (t' := (.array .byte)) (by decide) (by decide))))
    have P13 : own_S5 Z h11 r0 x0 x1 x2 x3 x4 := ⟨f14, Or.inr ⟨ar_3, kk_3, f15, Fw11, f12⟩⟩
    obtain ⟨fs, hr, hrun, hended, hW, hsame⟩ := X11.leave (v := none) (fun _ => rfl)
    refine ⟨_, _, k4 _ ?_, hrun, hended, _, _, rfl, ?_, ⟨_, rfl⟩, hW, hsame.mono (by decide) (by decide)⟩
    · refine st3 _ ?_
      refine XS.astore X3.here hx rfl (hb hby d3_39) rfl rfl (l' := #[rv r0, rv r1, iv 0, iv 5, .val .null, rv ar_3]) rfl ?_
      refine oAn X3 hx hby d3_41 rfl rfl (oAl X3 hx hby d3_42 rfl rfl (oIn X3 hx hby d3_44 rfl ?_))
      refine st5 _ ?_
      refine st8 _ ?_
      refine oAn X8 hx hby d3_51 rfl rfl (oAl X8 hx hby d3_52 rfl rfl ?_)
      refine st11 _ ?_
      exact X11.returnOut hx Bd.returns (hb hby d3_57) hr
    · show Q_I2_5 Z _ _ _ _ _ _ _ _ _ _ _ _ _ h0 n0 _ T11.heap _
      rw [e11]
      exact ⟨rfl, N11, ((((Keep.refl h0 [r0]).trans K3 all0).wr W8 (Or.inl (List.mem_of_getElem? (i := 0) rfl))).wr W11 (Or.inl (List.mem_of_getElem? (i := 0) rfl))), P13, f14⟩
  · have g_ar_3 : n0 ≤ ar_3 := Nat.le_trans Z0 p3_0
    have sz_ar_3 : h0.size ≤ ar_3 := Nat.le_trans (Keep.refl h0 []).1 p3_0
    have N3 := Fr.app N0 N3q
    obtain ⟨_, _, ⟨T16, L16, j16, i16⟩, -, X16, ⟨Lc16, hQ16, l16, y16, z16⟩, st16⟩ := Jvm.LawKit.callS X3 hx (y := (⟨cS1, "coderFromArrayLen", "([BI)B"⟩ : MethodName)) hown (mvT hZ (own_at hw 28 rfl)) (mvT hZ (own_at hw 29 rfl)) (mvT hZ (own_at hw 22 rfl)) (mvT hZ (own_at hw 30 rfl)) (by decide) (backOf (W := 1) (rmCd_5_5 l Z a0 hw [] ar_3 kk_3 [(.int ((x0.toInt8.toInt32).toInt8.toInt32)), (.int ((x1.toInt8.toInt32).toInt8.toInt32)), (.int ((x2.toInt8.toInt32).toInt8.toInt32)), (.int ((x3.toInt8.toInt32).toInt8.toInt32)), (.int ((x4.toInt8.toInt32).toInt8.toInt32))] T3.heap n0 (Nat.le_trans Z0 K3.1) p3_1) hZ (own_at hw 30 rfl) (own_at hw 22 rfl) (by decide) (by decide)) (g := (mkF m 45 #[rv r0, rv r1, iv 0, iv 5, .val .null, rv ar_3] [(.int 5), (.ref ar_3), (.ref r0)])) rfl (by rw [hml]; rfl) (argsL := [(.ref ar_3), (.int 5)]) (rest := [(.ref r0)]) (lenOf pd_7 rfl) rfl (Nat.le_refl _) (hb hby d3_45) (fun _ _ => ⟨rfl, rfl, (by decide : 2 + 0 ≤ _), (by decide : 15 + 0 ≤ _)⟩)
    dsimp only [Pt.U, Pt.locs, Pt.cells, Pt.slots] at X16 l16 y16 z16 st16 hQ16
    subst l16 y16 z16
    obtain ⟨rfl, N16q, e16⟩ := hQ16
    have N16 := Fr.app N3 N16q
    have f17 := (E_r0.keep K3)
    have f18 := (F_coder_r0.keep K3 nin0)
    obtain ⟨T19, h19, X19, e19, W19, st19⟩ := putFN X16 hx hZ hown (own_at hw 31 rfl) Via.refl e16 f18 f17 (Or.inr ⟨(own_at hw 32 rfl), rfl, hnm⟩) (own_at hw 7 rfl) (ty := .byte) (v' := (.int 0)) (by decide) rfl rfl (g := (mkF m 48 #[rv r0, rv r1, iv 0, iv 5, .val .null, rv ar_3] [(.int 0), (.ref r0)])) rfl rfl (hb hby d3_48)
    have Fw19 : Fld Z h19 r0 cS0 "coder" "B" (.int 0) := f18.same W19
    have N19 := Fr.snoc X19 N16 ge_r0
    have f20 := (f17.wr W19)
    have f21 := ((F_value_r0.keep K3 nin0).other W19 (Or.inr (slot_ne (Or.inr (own_at hw 34 rfl)) (Or.inr (own_at hw 32 rfl)) (by decide) (t := (.array .byte)) (t' := .byte) (by decide) (by decide))))
    obtain ⟨T22, h22, X22, e22, W22, st22⟩ := putF X19 hx hZ hown (host := "") (Or.inl (own_at hw 33 rfl)) Via.refl e19 f21 f20 (Or.inr ⟨(own_at hw 34 rfl), rfl, hnm⟩) (own_at hw 7 rfl) (ty := (.array .byte)) (by decide) rfl rfl (g := (mkF m 54 #[rv r0, rv r1, iv 0, iv 5, .val .null, rv ar_3] [(.ref ar_3), (.ref r0)])) rfl rfl (hb hby d3_54)
    have Fw22 : Fld Z h22 r0 cS0 "value" "[B" (.ref ar_3) := f21.same W22
    have N22 := Fr.snoc X22 N19 ge_r0
    have f23 := ((p3_1.other W19 (Ne.symm (Nat.ne_of_lt (Nat.lt_of_lt_of_le E_r0.lt p3_0)))).other W22 (Ne.symm (Nat.ne_of_lt (Nat.lt_of_lt_of_le E_r0.lt p3_0))))
    have f25 := (f20.wr W22)
    have f26 := (Fw19.other W22 (Or.inr (slot_ne (Or.inr (own_at hw 32 rfl)) (Or.inr (own_at hw 34 rfl)) (by decide) (t := .byte) (t' := (.array .byte)) (by decide) (by decide))))
    have P24 : own_S5 Z h22 r0 x0 x1 x2 x3 x4 := ⟨f25, Or.inl ⟨ar_3, kk_3, f26, Fw22, f23, p3_3, p3_4, p3_5, p3_6, p3_7⟩⟩
    obtain ⟨fs, hr, hrun, hended, hW, hsame⟩ := X22.leave (v := none) (fun _ => rfl)
    refine ⟨_, _, k4 _ ?_, hrun, hended, _, _, rfl, ?_, ⟨_, rfl⟩, hW, hsame.mono (by decide) (by decide)⟩
    · refine st3 _ ?_
      refine XS.astore X3.here hx rfl (hb hby d3_39) rfl rfl (l' := #[rv r0, rv r1, iv 0, iv 5, .val .null, rv ar_3]) rfl ?_
      refine oAn X3 hx hby d3_41 rfl rfl (oAl X3 hx hby d3_42 rfl rfl (oIn X3 hx hby d3_44 rfl ?_))
      refine st16 _ ?_
      refine st19 _ ?_
      refine oAn X19 hx hby d3_51 rfl rfl (oAl X19 hx hby d3_52 rfl rfl ?_)
      refine st22 _ ?_
      exact X22.returnOut hx Bd.returns (hb hby d3_57) hr
    · show Q_I2_5 Z _ _ _ _ _ _ _ _ _ _ _ _ _ h0 n0 _ T22.heap _
      rw [e22]
      exact ⟨rfl, N22, ((((Keep.refl h0 [r0]).trans K3 all0).wr W19 (Or.inl (List.mem_of_getElem? (i := 0) rfl))).wr W22 (Or.inl (List.mem_of_getElem? (i := 0) rfl))), P24, f25⟩
theorem pd_8 : parseMethodDescriptor "([CIILjava/lang/Void;)V" = some ⟨[(.array .char), .int, .int, (.object "java/lang/Void")], none⟩ := by decide +kernel
theorem d2_0 : decode jdk_42_method_3_code 0 = .ok (.aload_n 0, 1) := by decide +kernel
theorem d2_1 : decode jdk_42_method_3_code 1 = .ok (.aload_n 1, 1) := by decide +kernel
theorem d2_2 : decode jdk_42_method_3_code 2 = .ok (.iconst 0, 1) := by decide +kernel
theorem d2_3 : decode jdk_42_method_3_code 3 = .ok (.aload_n 1, 1) := by decide +kernel
theorem d2_4 : decode jdk_42_method_3_code 4 = .ok (.arraylength, 1) := by decide +kernel
theorem d2_5 : decode jdk_42_method_3_code 5 = .ok (.aconst_null, 1) := by decide +kernel
theorem d2_6 : decode jdk_42_method_3_code 6 = .ok (.invokespecial 27, 3) := by decide +kernel
theorem d2_9 : decode jdk_42_method_3_code 9 = .ok (.return_, 1) := by decide +kernel
theorem ef_2 (m : MethodId) (x0 : Addr) (x1 : Addr) : entryFrame m #[(.ref x0), (.ref x1)] 2 = mkF m 0 #[.val (.ref x0), .val (.ref x1)] [] := by first | (simp [entryFrame, mkF, argsToLocals, Value.category]; done) | rfl
def Q_I1_5 (Z : State) (r0 : Addr) (r1 : Addr) (w_CS : Int32) (kC : ClassId) (x0 : Int32) (x1 : Int32) (x2 : Int32) (x3 : Int32) (x4 : Int32) (u_coder_r0 : Value) (u_value_r0 : Value) (h0 : Heap) (n0 : Nat) (v : Option Value) (h : Heap) (L : List Loc) : Prop := v = none ∧ Fr n0 L ∧ Keep h0 h [r0] ∧ own_S5 Z h r0 x0 x1 x2 x3 x4 ∧ Exa Z h r0 cS0
set_option maxRecDepth 65536 in
set_option maxHeartbeats 40000000 in
theorem rmI1_5 (l : Launch) (Z : State) (a0 : Array Value) (hw : ∀ d ∈ tables_1, d.before a0 Z = true) (ws : List Jvm.Cond) (r0 : Addr) (r1 : Addr) (w_CS : Int32) (kC : ClassId) (x0 : Int32) (x1 : Int32) (x2 : Int32) (x3 : Int32) (x4 : Int32) (u_coder_r0 : Value) (u_value_r0 : Value) (h0 : Heap) (n0 : Nat) (Z0 : n0 ≤ h0.size) (S_CS : Sta Z h0 cS0 cS13 "Z" (.int w_CS)) (hcs : ¬ (w_CS = (0 : Int32))) (S_AD : Sta Z h0 cS1 cS6 "Z" (.int 1)) (S_HI : Sta Z h0 cS1 cS7 "I" (.int 0)) (S_LO : Sta Z h0 cS1 cS8 "I" (.int 8)) (E_r0 : Exa Z h0 r0 cS0) (V_r1 : Arv Z h0 r1 kC .char (5 : Int32) [(.int x0), (.int x1), (.int x2), (.int x3), (.int x4)] (.int 0)) (hch_x0 : own_ch x0) (hch_x1 : own_ch x1) (hch_x2 : own_ch x2) (hch_x3 : own_ch x3) (hch_x4 : own_ch x4) (F_coder_r0 : Fld Z h0 r0 cS0 "coder" "B" u_coder_r0) (ge_r0 : n0 ≤ r0) (F_value_r0 : Fld Z h0 r0 cS0 "value" "[B" u_value_r0) :
    MetFree l (⟨cS0, "<init>", "([C)V"⟩ : MethodName) (head1 (Jvm.Cond.code (⟨cS0, "<init>", "([C)V"⟩ : MethodName) jdk_42_method_3_code 2 none :: ws) ({ frames := 5, cells := 2, slots := 15, locals := 74 } : Room)) (fun a U => a = #[(.ref r0), (.ref r1)] ∧ Z.Warmed39 U.vm ∧ U.heap = h0) (fun _ _ _ _ _ => True) (fun _ U o U' => ∃ v L, o = .returned v ∧ Q_I1_5 Z r0 r1 w_CS kC x0 x1 x2 x3 x4 u_coder_r0 u_value_r0 h0 n0 v U'.heap L ∧ FrameEnd U o U' L 2 15) := by
  refine MetFree.of_bodySF (plainFor_of_name pn_java_lang_String) hisR ?_
  intro p e s m args below meth c s₁ Bd hml0 hP hK
  obtain ⟨rfl, hZ, hh⟩ := hP
  have hx := Bd.exec
  have hby := Bd.bytes
  have hml : c.maxLocals = 2 := hml0
  have hown : s.vm.findClass cS0 = some m.cls := findClass_of_methodNamed Bd.named
  have hnm := (name_of_methodNamed Bd.named Bd.method).1
  have X0 : Stand p l e ({ frames := 5, cells := 2, slots := 15, locals := 74 } : Room) s m #[(.ref r0), (.ref r1)] below meth c s₁ [] 0 0 := Stand.of_body Bd
  have e0 : s₁.heap = h0 := by rw [← hh, Bd.state]; rfl
  have N0 := Fr.nil n0
  have k0 : ∀ t, OwnS p e below s₁ (mkF m 0 #[rv r0, rv r1] []) t → OwnS p e below s₁ (entryFrame m #[(.ref r0), (.ref r1)] 2) t := fun t k => castTop (ef_2 m r0 r1) k
  obtain ⟨cl_z1, Ar_z1, q_z1, S_z1, N_z1, H_z1, G_z1⟩ := id V_r1
  obtain ⟨_, _, ⟨T2, L2, j2, i2⟩, -, X2, ⟨Lc2, hQ2, l2, y2, z2⟩, st2⟩ := X0.specialBack hx (y := (⟨cS0, "<init>", "([CIILjava/lang/Void;)V"⟩ : MethodName)) rfl hown (mvT hZ (own_at hw 12 rfl)) (mvT hZ (own_at hw 13 rfl)) (mvT hZ (own_at hw 15 rfl)) (by decide) (backOf (W := 0) (rmI2_5 l Z a0 hw [] r0 r1 w_CS kC x0 x1 x2 x3 x4 u_coder_r0 u_value_r0 u_coder_r0 u_value_r0 h0 n0 Z0 S_CS hcs S_AD S_HI S_LO E_r0 V_r1 hch_x0 hch_x1 hch_x2 hch_x3 hch_x4 F_coder_r0 ge_r0 F_value_r0) hZ (own_at hw 15 rfl) (own_at hw 8 rfl) (by decide) (by decide)) (g := (mkF m 6 #[rv r0, rv r1] [.null, (.int 5), (.int 0), (.ref r1), (.ref r0)])) rfl (by rw [hml]; rfl) (Steps.refl _) (a := r0) (argsL := [(.ref r1), (.int 0), (.int 5), .null]) (rest := []) (lenOf pd_8 rfl) rfl (Nat.le_refl _) (hb hby d2_6) (fun _ _ => ⟨rfl, e0, (by decide : 0 + 2 ≤ _), (by decide : 0 + 15 ≤ _)⟩)
  dsimp only [Pt.U, Pt.locs, Pt.cells, Pt.slots] at X2 l2 y2 z2 st2 hQ2
  subst l2 y2 z2
  obtain ⟨rfl, N2q, K2, p2_0, p2_1⟩ := hQ2
  have pl2 := (allS (P := fun x => ∃ cell : Cell, h0[x]? = some cell ∧ cell.vm.isStatics = false) (own_ns E_r0) all0)
  have N2 := Fr.app N0 N2q
  obtain ⟨fs, hr, hrun, hended, hW, hsame⟩ := X2.leave (v := none) (fun _ => rfl)
  refine ⟨_, _, k0 _ ?_, hrun, hended, _, _, rfl, ?_, ⟨_, rfl⟩, hW, hsame.mono (by decide) (by decide)⟩
  · show OwnS p e below s₁ (mkF m 0 #[rv r0, rv r1] []) _
    refine oAn X0 hx hby d2_0 rfl rfl (oAn X0 hx hby d2_1 rfl rfl (oIc X0 hx hby d2_2 (oAn X0 hx hby d2_3 rfl rfl ?_)))
    refine X0.arraylength hx (by rw [e0]; exact Ar_z1.1) (State.isArrayOf_alike hZ.alike Ar_z1.2.1) (g := (mkF m 4 #[rv r0, rv r1] [(.ref r1), (.int 0), (.ref r1), (.ref r0)])) rfl rfl (hb hby d2_4) _ ?_
    rw [len_of S_z1 N_z1]
    refine XS.aconstNull X0.here hx rfl (hb hby d2_5) ?_
    refine st2.trans ?_
    exact X2.returnOut hx Bd.returns (hb hby d2_9) hr
  · show Q_I1_5 Z _ _ _ _ _ _ _ _ _ _ _ h0 n0 _ T2.heap _
    exact ⟨rfl, N2, ((Keep.refl h0 [r0]).trans K2 (allS (Or.inl (List.mem_of_getElem? (i := 0) rfl)) all0)), p2_0, p2_1⟩
theorem pd_9 : parseMethodDescriptor "()B" = some ⟨[], some .byte⟩ := by decide +kernel
theorem d10_0 : decode jdk_42_method_54_code 0 = .ok (.aload_n 0, 1) := by decide +kernel
theorem d10_1 : decode jdk_42_method_54_code 1 = .ok (.getfield 9, 3) := by decide +kernel
theorem d10_4 : decode jdk_42_method_54_code 4 = .ok (.arraylength, 1) := by decide +kernel
theorem d10_5 : decode jdk_42_method_54_code 5 = .ok (.aload_n 0, 1) := by decide +kernel
theorem d10_6 : decode jdk_42_method_54_code 6 = .ok (.invokevirtual 335, 3) := by decide +kernel
theorem d10_9 : decode jdk_42_method_54_code 9 = .ok (.ishr, 1) := by decide +kernel
theorem d10_10 : decode jdk_42_method_54_code 10 = .ok (.ireturn, 1) := by decide +kernel
theorem ef_10 (m : MethodId) (x0 : Addr) : entryFrame m #[(.ref x0)] 1 = mkF m 0 #[.val (.ref x0)] [] := by first | (simp [entryFrame, mkF, argsToLocals, Value.category]; done) | rfl
def Q_Len_5 (Z : State) (r0 : Addr) (w_CS : Int32) (x0 : Int32) (x1 : Int32) (x2 : Int32) (x3 : Int32) (x4 : Int32) (h0 : Heap) (n0 : Nat) (v : Option Value) (h : Heap) (L : List Loc) : Prop := v = some (.int 5) ∧ Fr n0 L ∧ h = h0
set_option maxRecDepth 65536 in
set_option maxHeartbeats 40000000 in
theorem rmLen_5 (l : Launch) (Z : State) (a0 : Array Value) (hw : ∀ d ∈ tables_1, d.before a0 Z = true) (ws : List Jvm.Cond) (r0 : Addr) (w_CS : Int32) (x0 : Int32) (x1 : Int32) (x2 : Int32) (x3 : Int32) (x4 : Int32) (h0 : Heap) (n0 : Nat) (Z0 : n0 ≤ h0.size) (S_CS : Sta Z h0 cS0 cS13 "Z" (.int w_CS)) (hcs : ¬ (w_CS = (0 : Int32))) (P_r0 : own_S5 Z h0 r0 x0 x1 x2 x3 x4) :
    MetFree l (⟨cS0, "length", "()I"⟩ : MethodName) (head1 (Jvm.Cond.code (⟨cS0, "length", "()I"⟩ : MethodName) jdk_42_method_54_code 1 (some .int) :: ws) ({ frames := 1, cells := 0, slots := 0, locals := 13 } : Room)) (fun a U => a = #[(.ref r0)] ∧ Z.Warmed39 U.vm ∧ U.heap = h0) (fun _ _ _ _ _ => True) (fun _ U o U' => ∃ v L, o = .returned v ∧ Q_Len_5 Z r0 w_CS x0 x1 x2 x3 x4 h0 n0 v U'.heap L ∧ FrameEnd U o U' L 0 0) := by
  refine MetFree.of_bodySF (plainFor_of_name pn_java_lang_String) hisR ?_
  intro p e s m args below meth c s₁ Bd hml0 hP hK
  obtain ⟨rfl, hZ, hh⟩ := hP
  have hx := Bd.exec
  have hby := Bd.bytes
  have hml : c.maxLocals = 1 := hml0
  have hown : s.vm.findClass cS0 = some m.cls := findClass_of_methodNamed Bd.named
  have hnm := (name_of_methodNamed Bd.named Bd.method).1
  have X0 : Stand p l e ({ frames := 1, cells := 0, slots := 0, locals := 13 } : Room) s m #[(.ref r0)] below meth c s₁ [] 0 0 := Stand.of_body Bd
  have e0 : s₁.heap = h0 := by rw [← hh, Bd.state]; rfl
  have N0 := Fr.nil n0
  have k0 : ∀ t, OwnS p e below s₁ (mkF m 0 #[rv r0] []) t → OwnS p e below s₁ (entryFrame m #[(.ref r0)] 1) t := fun t k => castTop (ef_10 m r0) k
  rcases id P_r0 with ⟨eS, ⟨sA, kS, fC, fV, vA, hl0, hl1, hl2, hl3, hl4⟩ | ⟨sA, kS, fC, fV, vA⟩⟩
  · skip
    obtain ⟨T1, X1, e1, st1⟩ := getF X0 hx hZ hown (host := "") (Or.inl (own_at hw 33 rfl)) Via.refl e0 fV (g := (mkF m 1 #[rv r0] [(.ref r0)])) rfl rfl (hb hby d10_1)
    obtain ⟨cl_z2, Ar_z2, q_z2, S_z2, N_z2, H_z2, G_z2⟩ := id vA
    obtain ⟨cq3, kq3, q3a, q3b, q3c⟩ := isOf hZ e1 eS
    obtain ⟨_, _, ⟨T3, L3, j3, i3⟩, -, X3, ⟨Lc3, hQ3, l3, y3, z3⟩, st3⟩ := X1.virtualBack hx (y := (⟨cS0, "coder", "()B"⟩ : MethodName)) (z := (⟨cS0, "coder", "()B"⟩ : MethodName)) hown (mvT hZ (own_at hw 52 rfl)) (mvT hZ (own_at hw 53 rfl)) (notFace_of_selects (args := #[]) (mvT hZ (own_at hw 55 rfl))) (mvT hZ (own_at hw 55 rfl)) (mvT hZ (own_at hw 54 rfl)) (by decide) (backOf (W := 1) (rmCo0 l Z a0 hw [] r0 w_CS h0 n0 Z0 S_CS hcs fC) hZ (own_at hw 56 rfl) (own_at hw 8 rfl) (by decide) (by decide)) q3a q3c (g := (mkF m 6 #[rv r0] [(.ref r0), (.int 5)])) rfl (by rw [hml]; rfl) (Steps.refl _) (argsL := []) (rest := [(.int 5)]) (lenOf pd_9 rfl) rfl (Nat.le_refl _) (hb hby d10_6) (fun _ _ => ⟨rfl, e1, (by decide : 0 + 0 ≤ _), (by decide : 0 + 0 ≤ _)⟩)
    dsimp only [Pt.U, Pt.locs, Pt.cells, Pt.slots] at X3 l3 y3 z3 st3 hQ3
    subst l3 y3 z3
    obtain ⟨rfl, N3q, e3⟩ := hQ3
    have N3 := Fr.app N0 N3q
    obtain ⟨fs, hr, hrun, hended, hW, hsame⟩ := X3.leave (v := some (.int 5)) (fun h => by rw [Bd.returns] at h; cases h)
    refine ⟨_, _, k0 _ ?_, hrun, hended, _, _, rfl, ?_, ⟨_, rfl⟩, hW, hsame.mono (by decide) (by decide)⟩
    · show OwnS p e below s₁ (mkF m 0 #[rv r0] []) _
      refine oAn X0 hx hby d10_0 rfl rfl ?_
      refine st1 _ ?_
      refine X1.arraylength hx (by rw [e1]; exact Ar_z2.1) (State.isArrayOf_alike hZ.alike Ar_z2.2.1) (g := (mkF m 4 #[rv r0] [(.ref sA)])) rfl rfl (hb hby d10_4) _ ?_
      rw [len_of S_z2 N_z2]
      refine oAn X1 hx hby d10_5 rfl rfl ?_
      refine st3.trans ?_
      refine XS.ishr X3.here hx rfl (hb hby d10_9) rfl ?_
      exact retI X3 hx Bd.returns (hb hby d10_10) hr
    · show Q_Len_5 Z _ _ _ _ _ _ _ h0 n0 _ T3.heap _
      rw [e3]
      exact ⟨rfl, N3, rfl⟩
  · skip
    obtain ⟨T4, X4, e4, st4⟩ := getF X0 hx hZ hown (host := "") (Or.inl (own_at hw 33 rfl)) Via.refl e0 fV (g := (mkF m 1 #[rv r0] [(.ref r0)])) rfl rfl (hb hby d10_1)
    obtain ⟨cl_z5, Ar_z5, q_z5, S_z5, N_z5, H_z5, G_z5⟩ := id vA
    obtain ⟨cq6, kq6, q6a, q6b, q6c⟩ := isOf hZ e4 eS
    obtain ⟨_, _, ⟨T6, L6, j6, i6⟩, -, X6, ⟨Lc6, hQ6, l6, y6, z6⟩, st6⟩ := X4.virtualBack hx (y := (⟨cS0, "coder", "()B"⟩ : MethodName)) (z := (⟨cS0, "coder", "()B"⟩ : MethodName)) hown (mvT hZ (own_at hw 52 rfl)) (mvT hZ (own_at hw 53 rfl)) (notFace_of_selects (args := #[]) (mvT hZ (own_at hw 55 rfl))) (mvT hZ (own_at hw 55 rfl)) (mvT hZ (own_at hw 54 rfl)) (by decide) (backOf (W := 1) (rmCo1 l Z a0 hw [] r0 w_CS h0 n0 Z0 S_CS hcs fC) hZ (own_at hw 56 rfl) (own_at hw 8 rfl) (by decide) (by decide)) q6a q6c (g := (mkF m 6 #[rv r0] [(.ref r0), (.int 10)])) rfl (by rw [hml]; rfl) (Steps.refl _) (argsL := []) (rest := [(.int 10)]) (lenOf pd_9 rfl) rfl (Nat.le_refl _) (hb hby d10_6) (fun _ _ => ⟨rfl, e4, (by decide : 0 + 0 ≤ _), (by decide : 0 + 0 ≤ _)⟩)
    dsimp only [Pt.U, Pt.locs, Pt.cells, Pt.slots] at X6 l6 y6 z6 st6 hQ6
    subst l6 y6 z6
    obtain ⟨rfl, N6q, e6⟩ := hQ6
    have N6 := Fr.app N0 N6q
    obtain ⟨fs, hr, hrun, hended, hW, hsame⟩ := X6.leave (v := some (.int 5)) (fun h => by rw [Bd.returns] at h; cases h)
    refine ⟨_, _, k0 _ ?_, hrun, hended, _, _, rfl, ?_, ⟨_, rfl⟩, hW, hsame.mono (by decide) (by decide)⟩
    · show OwnS p e below s₁ (mkF m 0 #[rv r0] []) _
      refine oAn X0 hx hby d10_0 rfl rfl ?_
      refine st4 _ ?_
      refine X4.arraylength hx (by rw [e4]; exact Ar_z5.1) (State.isArrayOf_alike hZ.alike Ar_z5.2.1) (g := (mkF m 4 #[rv r0] [(.ref sA)])) rfl rfl (hb hby d10_4) _ ?_
      rw [len_of S_z5 N_z5]
      refine oAn X4 hx hby d10_5 rfl rfl ?_
      refine st6.trans ?_
      refine XS.ishr X6.here hx rfl (hb hby d10_9) rfl ?_
      exact retI X6 hx Bd.returns (hb hby d10_10) hr
    · show Q_Len_5 Z _ _ _ _ _ _ _ h0 n0 _ T6.heap _
      rw [e6]
      exact ⟨rfl, N6, rfl⟩
theorem pd_10 : parseMethodDescriptor "(II)V" = some ⟨[.int, .int], none⟩ := by decide +kernel
theorem d15_0 : decode jdk_43_method_2_code 0 = .ok (.iload_n 1, 1) := by decide +kernel
theorem d15_1 : decode jdk_43_method_2_code 1 = .ok (.aload_n 0, 1) := by decide +kernel
theorem d15_2 : decode jdk_43_method_2_code 2 = .ok (.arraylength, 1) := by decide +kernel
theorem d15_3 : decode jdk_43_method_2_code 3 = .ok (.invokestatic 9, 3) := by decide +kernel
theorem d15_6 : decode jdk_43_method_2_code 6 = .ok (.aload_n 0, 1) := by decide +kernel
theorem d15_7 : decode jdk_43_method_2_code 7 = .ok (.iload_n 1, 1) := by decide +kernel
theorem d15_8 : decode jdk_43_method_2_code 8 = .ok (.baload, 1) := by decide +kernel
theorem d15_9 : decode jdk_43_method_2_code 9 = .ok (.sipush 255, 3) := by decide +kernel
theorem d15_12 : decode jdk_43_method_2_code 12 = .ok (.iand, 1) := by decide +kernel
theorem d15_13 : decode jdk_43_method_2_code 13 = .ok (.i2c, 1) := by decide +kernel
theorem d15_14 : decode jdk_43_method_2_code 14 = .ok (.ireturn, 1) := by decide +kernel
theorem pn_java_lang_StringLatin1 : plainName cS15 = true := by first | (simp [plainName, overriddenIn]; done) | decide +kernel
theorem ef_15 (m : MethodId) (x0 : Addr) (x1 : Int32) : entryFrame m #[(.ref x0), (.int x1)] 2 = mkF m 0 #[.val (.ref x0), .val (.int x1)] [] := by first | (simp [entryFrame, mkF, argsToLocals, Value.category]; done) | rfl
def Q_LC_5_0 (Z : State) (r0 : Addr) (w_F : Value) (kB : ClassId) (x0 : Int32) (x1 : Int32) (x2 : Int32) (x3 : Int32) (x4 : Int32) (h0 : Heap) (n0 : Nat) (v : Option Value) (h : Heap) (L : List Loc) : Prop := v = some (.int x0) ∧ Fr n0 L ∧ h = h0
set_option maxRecDepth 65536 in
set_option maxHeartbeats 40000000 in
theorem rmLC_5_0 (l : Launch) (Z : State) (a0 : Array Value) (hw : ∀ d ∈ tables_1, d.before a0 Z = true) (ws : List Jvm.Cond) (r0 : Addr) (w_F : Value) (kB : ClassId) (x0 : Int32) (x1 : Int32) (x2 : Int32) (x3 : Int32) (x4 : Int32) (h0 : Heap) (n0 : Nat) (Z0 : n0 ≤ h0.size) (S_F : Sta Z h0 cS4 cS14 cS5 w_F) (hwF : w_F.isRef = true) (V_r0 : Arv Z h0 r0 kB .byte (5 : Int32) [(.int ((x0.toInt8.toInt32).toInt8.toInt32)), (.int ((x1.toInt8.toInt32).toInt8.toInt32)), (.int ((x2.toInt8.toInt32).toInt8.toInt32)), (.int ((x3.toInt8.toInt32).toInt8.toInt32)), (.int ((x4.toInt8.toInt32).toInt8.toInt32))] (.int 0)) (hch_x0 : own_ch x0) (hle_x0 : ¬ ((255 : Int32) < x0)) :
    MetFree l (⟨cS15, "charAt", "([BI)C"⟩ : MethodName) (head1 (Jvm.Cond.code (⟨cS15, "charAt", "([BI)C"⟩ : MethodName) jdk_43_method_2_code 2 (some .char) :: ws) ({ frames := 2, cells := 0, slots := 0, locals := 27 } : Room)) (fun a U => a = #[(.ref r0), (.int 0)] ∧ Z.Warmed39 U.vm ∧ U.heap = h0) (fun _ _ _ _ _ => True) (fun _ U o U' => ∃ v L, o = .returned v ∧ Q_LC_5_0 Z r0 w_F kB x0 x1 x2 x3 x4 h0 n0 v U'.heap L ∧ FrameEnd U o U' L 0 0) := by
  refine MetFree.of_bodySF (plainFor_of_name pn_java_lang_StringLatin1) hisR ?_
  intro p e s m args below meth c s₁ Bd hml0 hP hK
  obtain ⟨rfl, hZ, hh⟩ := hP
  have hx := Bd.exec
  have hby := Bd.bytes
  have hml : c.maxLocals = 2 := hml0
  have hown : s.vm.findClass cS15 = some m.cls := findClass_of_methodNamed Bd.named
  have hnm := (name_of_methodNamed Bd.named Bd.method).1
  have X0 : Stand p l e ({ frames := 2, cells := 0, slots := 0, locals := 27 } : Room) s m #[(.ref r0), (.int 0)] below meth c s₁ [] 0 0 := Stand.of_body Bd
  have e0 : s₁.heap = h0 := by rw [← hh, Bd.state]; rfl
  have N0 := Fr.nil n0
  have k0 : ∀ t, OwnS p e below s₁ (mkF m 0 #[rv r0, iv 0] []) t → OwnS p e below s₁ (entryFrame m #[(.ref r0), (.int 0)] 2) t := fun t k => castTop (ef_15 m r0 (0 : Int32)) k
  obtain ⟨cl_z1, Ar_z1, q_z1, S_z1, N_z1, H_z1, G_z1⟩ := id V_r0
  obtain ⟨_, _, ⟨T2, L2, j2, i2⟩, -, X2, ⟨Lc2, hQ2, l2, y2, z2⟩, st2⟩ := Jvm.LawKit.callS X0 hx (y := (⟨cS0, "checkIndex", "(II)V"⟩ : MethodName)) hown (mvT hZ (own_at hw 76 rfl)) (mvT hZ (own_at hw 77 rfl)) (mvT hZ (own_at hw 8 rfl)) (mvT hZ (own_at hw 78 rfl)) (by decide) (backOf (W := 0) (rmCk l Z a0 hw [] (0 : Int32) (5 : Int32) w_F h0 n0 Z0 S_F hwF (by decide : ¬ ((0 : Int32) < (0 : Int32))) (by decide : (0 : Int32) < (5 : Int32))) hZ (own_at hw 78 rfl) (own_at hw 8 rfl) (by decide) (by decide)) (g := (mkF m 3 #[rv r0, iv 0] [(.int 5), (.int 0)])) rfl (by rw [hml]; rfl) (argsL := [(.int 0), (.int 5)]) (rest := []) (lenOf pd_10 rfl) rfl (Nat.le_refl _) (hb hby d15_3) (fun _ _ => ⟨rfl, e0, (by decide : 0 + 0 ≤ _), (by decide : 0 + 0 ≤ _)⟩)
  dsimp only [Pt.U, Pt.locs, Pt.cells, Pt.slots] at X2 l2 y2 z2 st2 hQ2
  subst l2 y2 z2
  obtain ⟨rfl, N2q, e2⟩ := hQ2
  have N2 := Fr.app N0 N2q
  have hin3 : ¬ ((0 : Int32) < 0 ∨ cl_z1.slots.size ≤ ((0 : Int32)).toNatClampNeg) := inb_of S_z1 ⟨by decide, by decide⟩
  obtain ⟨fs, hr, hrun, hended, hW, hsame⟩ := X2.leave (v := some (.int (((((x0.toInt8.toInt32).toInt8.toInt32) &&& (255 : Int32)).toUInt32.toUInt16.toUInt32.toInt32).toUInt32.toUInt16.toUInt32.toInt32))) (fun h => by rw [Bd.returns] at h; cases h)
  refine ⟨_, _, k0 _ ?_, hrun, hended, _, _, rfl, ?_, ⟨_, rfl⟩, hW, hsame.mono (by decide) (by decide)⟩
  · show OwnS p e below s₁ (mkF m 0 #[rv r0, iv 0] []) _
    refine oIn X0 hx hby d15_0 rfl (oAn X0 hx hby d15_1 rfl rfl ?_)
    refine X0.arraylength hx (by rw [e0]; exact Ar_z1.1) (State.isArrayOf_alike hZ.alike Ar_z1.2.1) (g := (mkF m 2 #[rv r0, iv 0] [(.ref r0), (.int 0)])) rfl rfl (hb hby d15_2) _ ?_
    rw [len_of S_z1 N_z1]
    refine st2 _ ?_
    refine oAn X2 hx hby d15_6 rfl rfl (oIn X2 hx hby d15_7 rfl ?_)
    refine X2.baloadBytes hx (j := (0 : Int32)) (v := (.int ((x0.toInt8.toInt32).toInt8.toInt32))) (by rw [e2]; exact Ar_z1.1) (State.isArrayOf_alike hZ.alike Ar_z1.2.1) Ar_z1.2.2 hin3 (Has.at H_z1 hin3 rfl) (g := (mkF m 8 #[rv r0, iv 0] [(.int 0), (.ref r0)])) rfl rfl (hb hby d15_8) _ ?_
    refine XS.sipush X2.here hx rfl (hb hby d15_9) ?_
    refine XS.iand X2.here hx rfl (hb hby d15_12) rfl ?_
    refine XS.i2c X2.here hx rfl (hb hby d15_13) rfl ?_
    exact retN X2 hx (t := .char) Bd.returns (by simp) (hb hby d15_14) hr
  · show Q_LC_5_0 Z _ _ _ _ _ _ _ _ h0 n0 _ T2.heap _
    rw [e2]
    exact ⟨(congrArg some (congrArg Value.int (own_latc hch_x0 hle_x0))), N2, rfl⟩
def Q_LC_5_1 (Z : State) (r0 : Addr) (w_F : Value) (kB : ClassId) (x0 : Int32) (x1 : Int32) (x2 : Int32) (x3 : Int32) (x4 : Int32) (h0 : Heap) (n0 : Nat) (v : Option Value) (h : Heap) (L : List Loc) : Prop := v = some (.int x1) ∧ Fr n0 L ∧ h = h0
set_option maxRecDepth 65536 in
set_option maxHeartbeats 40000000 in
theorem rmLC_5_1 (l : Launch) (Z : State) (a0 : Array Value) (hw : ∀ d ∈ tables_1, d.before a0 Z = true) (ws : List Jvm.Cond) (r0 : Addr) (w_F : Value) (kB : ClassId) (x0 : Int32) (x1 : Int32) (x2 : Int32) (x3 : Int32) (x4 : Int32) (h0 : Heap) (n0 : Nat) (Z0 : n0 ≤ h0.size) (S_F : Sta Z h0 cS4 cS14 cS5 w_F) (hwF : w_F.isRef = true) (V_r0 : Arv Z h0 r0 kB .byte (5 : Int32) [(.int ((x0.toInt8.toInt32).toInt8.toInt32)), (.int ((x1.toInt8.toInt32).toInt8.toInt32)), (.int ((x2.toInt8.toInt32).toInt8.toInt32)), (.int ((x3.toInt8.toInt32).toInt8.toInt32)), (.int ((x4.toInt8.toInt32).toInt8.toInt32))] (.int 0)) (hch_x1 : own_ch x1) (hle_x1 : ¬ ((255 : Int32) < x1)) :
    MetFree l (⟨cS15, "charAt", "([BI)C"⟩ : MethodName) (head1 (Jvm.Cond.code (⟨cS15, "charAt", "([BI)C"⟩ : MethodName) jdk_43_method_2_code 2 (some .char) :: ws) ({ frames := 2, cells := 0, slots := 0, locals := 27 } : Room)) (fun a U => a = #[(.ref r0), (.int 1)] ∧ Z.Warmed39 U.vm ∧ U.heap = h0) (fun _ _ _ _ _ => True) (fun _ U o U' => ∃ v L, o = .returned v ∧ Q_LC_5_1 Z r0 w_F kB x0 x1 x2 x3 x4 h0 n0 v U'.heap L ∧ FrameEnd U o U' L 0 0) := by
  refine MetFree.of_bodySF (plainFor_of_name pn_java_lang_StringLatin1) hisR ?_
  intro p e s m args below meth c s₁ Bd hml0 hP hK
  obtain ⟨rfl, hZ, hh⟩ := hP
  have hx := Bd.exec
  have hby := Bd.bytes
  have hml : c.maxLocals = 2 := hml0
  have hown : s.vm.findClass cS15 = some m.cls := findClass_of_methodNamed Bd.named
  have hnm := (name_of_methodNamed Bd.named Bd.method).1
  have X0 : Stand p l e ({ frames := 2, cells := 0, slots := 0, locals := 27 } : Room) s m #[(.ref r0), (.int 1)] below meth c s₁ [] 0 0 := Stand.of_body Bd
  have e0 : s₁.heap = h0 := by rw [← hh, Bd.state]; rfl
  have N0 := Fr.nil n0
  have k0 : ∀ t, OwnS p e below s₁ (mkF m 0 #[rv r0, iv 1] []) t → OwnS p e below s₁ (entryFrame m #[(.ref r0), (.int 1)] 2) t := fun t k => castTop (ef_15 m r0 (1 : Int32)) k
  obtain ⟨cl_z1, Ar_z1, q_z1, S_z1, N_z1, H_z1, G_z1⟩ := id V_r0
  obtain ⟨_, _, ⟨T2, L2, j2, i2⟩, -, X2, ⟨Lc2, hQ2, l2, y2, z2⟩, st2⟩ := Jvm.LawKit.callS X0 hx (y := (⟨cS0, "checkIndex", "(II)V"⟩ : MethodName)) hown (mvT hZ (own_at hw 76 rfl)) (mvT hZ (own_at hw 77 rfl)) (mvT hZ (own_at hw 8 rfl)) (mvT hZ (own_at hw 78 rfl)) (by decide) (backOf (W := 0) (rmCk l Z a0 hw [] (1 : Int32) (5 : Int32) w_F h0 n0 Z0 S_F hwF (by decide : ¬ ((1 : Int32) < (0 : Int32))) (by decide : (1 : Int32) < (5 : Int32))) hZ (own_at hw 78 rfl) (own_at hw 8 rfl) (by decide) (by decide)) (g := (mkF m 3 #[rv r0, iv 1] [(.int 5), (.int 1)])) rfl (by rw [hml]; rfl) (argsL := [(.int 1), (.int 5)]) (rest := []) (lenOf pd_10 rfl) rfl (Nat.le_refl _) (hb hby d15_3) (fun _ _ => ⟨rfl, e0, (by decide : 0 + 0 ≤ _), (by decide : 0 + 0 ≤ _)⟩)
  dsimp only [Pt.U, Pt.locs, Pt.cells, Pt.slots] at X2 l2 y2 z2 st2 hQ2
  subst l2 y2 z2
  obtain ⟨rfl, N2q, e2⟩ := hQ2
  have N2 := Fr.app N0 N2q
  have hin3 : ¬ ((1 : Int32) < 0 ∨ cl_z1.slots.size ≤ ((1 : Int32)).toNatClampNeg) := inb_of S_z1 ⟨by decide, by decide⟩
  obtain ⟨fs, hr, hrun, hended, hW, hsame⟩ := X2.leave (v := some (.int (((((x1.toInt8.toInt32).toInt8.toInt32) &&& (255 : Int32)).toUInt32.toUInt16.toUInt32.toInt32).toUInt32.toUInt16.toUInt32.toInt32))) (fun h => by rw [Bd.returns] at h; cases h)
  refine ⟨_, _, k0 _ ?_, hrun, hended, _, _, rfl, ?_, ⟨_, rfl⟩, hW, hsame.mono (by decide) (by decide)⟩
  · show OwnS p e below s₁ (mkF m 0 #[rv r0, iv 1] []) _
    refine oIn X0 hx hby d15_0 rfl (oAn X0 hx hby d15_1 rfl rfl ?_)
    refine X0.arraylength hx (by rw [e0]; exact Ar_z1.1) (State.isArrayOf_alike hZ.alike Ar_z1.2.1) (g := (mkF m 2 #[rv r0, iv 1] [(.ref r0), (.int 1)])) rfl rfl (hb hby d15_2) _ ?_
    rw [len_of S_z1 N_z1]
    refine st2 _ ?_
    refine oAn X2 hx hby d15_6 rfl rfl (oIn X2 hx hby d15_7 rfl ?_)
    refine X2.baloadBytes hx (j := (1 : Int32)) (v := (.int ((x1.toInt8.toInt32).toInt8.toInt32))) (by rw [e2]; exact Ar_z1.1) (State.isArrayOf_alike hZ.alike Ar_z1.2.1) Ar_z1.2.2 hin3 (Has.at H_z1 hin3 rfl) (g := (mkF m 8 #[rv r0, iv 1] [(.int 1), (.ref r0)])) rfl rfl (hb hby d15_8) _ ?_
    refine XS.sipush X2.here hx rfl (hb hby d15_9) ?_
    refine XS.iand X2.here hx rfl (hb hby d15_12) rfl ?_
    refine XS.i2c X2.here hx rfl (hb hby d15_13) rfl ?_
    exact retN X2 hx (t := .char) Bd.returns (by simp) (hb hby d15_14) hr
  · show Q_LC_5_1 Z _ _ _ _ _ _ _ _ h0 n0 _ T2.heap _
    rw [e2]
    exact ⟨(congrArg some (congrArg Value.int (own_latc hch_x1 hle_x1))), N2, rfl⟩
def Q_LC_5_2 (Z : State) (r0 : Addr) (w_F : Value) (kB : ClassId) (x0 : Int32) (x1 : Int32) (x2 : Int32) (x3 : Int32) (x4 : Int32) (h0 : Heap) (n0 : Nat) (v : Option Value) (h : Heap) (L : List Loc) : Prop := v = some (.int x2) ∧ Fr n0 L ∧ h = h0
set_option maxRecDepth 65536 in
set_option maxHeartbeats 40000000 in
theorem rmLC_5_2 (l : Launch) (Z : State) (a0 : Array Value) (hw : ∀ d ∈ tables_1, d.before a0 Z = true) (ws : List Jvm.Cond) (r0 : Addr) (w_F : Value) (kB : ClassId) (x0 : Int32) (x1 : Int32) (x2 : Int32) (x3 : Int32) (x4 : Int32) (h0 : Heap) (n0 : Nat) (Z0 : n0 ≤ h0.size) (S_F : Sta Z h0 cS4 cS14 cS5 w_F) (hwF : w_F.isRef = true) (V_r0 : Arv Z h0 r0 kB .byte (5 : Int32) [(.int ((x0.toInt8.toInt32).toInt8.toInt32)), (.int ((x1.toInt8.toInt32).toInt8.toInt32)), (.int ((x2.toInt8.toInt32).toInt8.toInt32)), (.int ((x3.toInt8.toInt32).toInt8.toInt32)), (.int ((x4.toInt8.toInt32).toInt8.toInt32))] (.int 0)) (hch_x2 : own_ch x2) (hle_x2 : ¬ ((255 : Int32) < x2)) :
    MetFree l (⟨cS15, "charAt", "([BI)C"⟩ : MethodName) (head1 (Jvm.Cond.code (⟨cS15, "charAt", "([BI)C"⟩ : MethodName) jdk_43_method_2_code 2 (some .char) :: ws) ({ frames := 2, cells := 0, slots := 0, locals := 27 } : Room)) (fun a U => a = #[(.ref r0), (.int 2)] ∧ Z.Warmed39 U.vm ∧ U.heap = h0) (fun _ _ _ _ _ => True) (fun _ U o U' => ∃ v L, o = .returned v ∧ Q_LC_5_2 Z r0 w_F kB x0 x1 x2 x3 x4 h0 n0 v U'.heap L ∧ FrameEnd U o U' L 0 0) := by
  refine MetFree.of_bodySF (plainFor_of_name pn_java_lang_StringLatin1) hisR ?_
  intro p e s m args below meth c s₁ Bd hml0 hP hK
  obtain ⟨rfl, hZ, hh⟩ := hP
  have hx := Bd.exec
  have hby := Bd.bytes
  have hml : c.maxLocals = 2 := hml0
  have hown : s.vm.findClass cS15 = some m.cls := findClass_of_methodNamed Bd.named
  have hnm := (name_of_methodNamed Bd.named Bd.method).1
  have X0 : Stand p l e ({ frames := 2, cells := 0, slots := 0, locals := 27 } : Room) s m #[(.ref r0), (.int 2)] below meth c s₁ [] 0 0 := Stand.of_body Bd
  have e0 : s₁.heap = h0 := by rw [← hh, Bd.state]; rfl
  have N0 := Fr.nil n0
  have k0 : ∀ t, OwnS p e below s₁ (mkF m 0 #[rv r0, iv 2] []) t → OwnS p e below s₁ (entryFrame m #[(.ref r0), (.int 2)] 2) t := fun t k => castTop (ef_15 m r0 (2 : Int32)) k
  obtain ⟨cl_z1, Ar_z1, q_z1, S_z1, N_z1, H_z1, G_z1⟩ := id V_r0
  obtain ⟨_, _, ⟨T2, L2, j2, i2⟩, -, X2, ⟨Lc2, hQ2, l2, y2, z2⟩, st2⟩ := Jvm.LawKit.callS X0 hx (y := (⟨cS0, "checkIndex", "(II)V"⟩ : MethodName)) hown (mvT hZ (own_at hw 76 rfl)) (mvT hZ (own_at hw 77 rfl)) (mvT hZ (own_at hw 8 rfl)) (mvT hZ (own_at hw 78 rfl)) (by decide) (backOf (W := 0) (rmCk l Z a0 hw [] (2 : Int32) (5 : Int32) w_F h0 n0 Z0 S_F hwF (by decide : ¬ ((2 : Int32) < (0 : Int32))) (by decide : (2 : Int32) < (5 : Int32))) hZ (own_at hw 78 rfl) (own_at hw 8 rfl) (by decide) (by decide)) (g := (mkF m 3 #[rv r0, iv 2] [(.int 5), (.int 2)])) rfl (by rw [hml]; rfl) (argsL := [(.int 2), (.int 5)]) (rest := []) (lenOf pd_10 rfl) rfl (Nat.le_refl _) (hb hby d15_3) (fun _ _ => ⟨rfl, e0, (by decide : 0 + 0 ≤ _), (by decide : 0 + 0 ≤ _)⟩)
  dsimp only [Pt.U, Pt.locs, Pt.cells, Pt.slots] at X2 l2 y2 z2 st2 hQ2
  subst l2 y2 z2
  obtain ⟨rfl, N2q, e2⟩ := hQ2
  have N2 := Fr.app N0 N2q
  have hin3 : ¬ ((2 : Int32) < 0 ∨ cl_z1.slots.size ≤ ((2 : Int32)).toNatClampNeg) := inb_of S_z1 ⟨by decide, by decide⟩
  obtain ⟨fs, hr, hrun, hended, hW, hsame⟩ := X2.leave (v := some (.int (((((x2.toInt8.toInt32).toInt8.toInt32) &&& (255 : Int32)).toUInt32.toUInt16.toUInt32.toInt32).toUInt32.toUInt16.toUInt32.toInt32))) (fun h => by rw [Bd.returns] at h; cases h)
  refine ⟨_, _, k0 _ ?_, hrun, hended, _, _, rfl, ?_, ⟨_, rfl⟩, hW, hsame.mono (by decide) (by decide)⟩
  · show OwnS p e below s₁ (mkF m 0 #[rv r0, iv 2] []) _
    refine oIn X0 hx hby d15_0 rfl (oAn X0 hx hby d15_1 rfl rfl ?_)
    refine X0.arraylength hx (by rw [e0]; exact Ar_z1.1) (State.isArrayOf_alike hZ.alike Ar_z1.2.1) (g := (mkF m 2 #[rv r0, iv 2] [(.ref r0), (.int 2)])) rfl rfl (hb hby d15_2) _ ?_
    rw [len_of S_z1 N_z1]
    refine st2 _ ?_
    refine oAn X2 hx hby d15_6 rfl rfl (oIn X2 hx hby d15_7 rfl ?_)
    refine X2.baloadBytes hx (j := (2 : Int32)) (v := (.int ((x2.toInt8.toInt32).toInt8.toInt32))) (by rw [e2]; exact Ar_z1.1) (State.isArrayOf_alike hZ.alike Ar_z1.2.1) Ar_z1.2.2 hin3 (Has.at H_z1 hin3 rfl) (g := (mkF m 8 #[rv r0, iv 2] [(.int 2), (.ref r0)])) rfl rfl (hb hby d15_8) _ ?_
    refine XS.sipush X2.here hx rfl (hb hby d15_9) ?_
    refine XS.iand X2.here hx rfl (hb hby d15_12) rfl ?_
    refine XS.i2c X2.here hx rfl (hb hby d15_13) rfl ?_
    exact retN X2 hx (t := .char) Bd.returns (by simp) (hb hby d15_14) hr
  · show Q_LC_5_2 Z _ _ _ _ _ _ _ _ h0 n0 _ T2.heap _
    rw [e2]
    exact ⟨(congrArg some (congrArg Value.int (own_latc hch_x2 hle_x2))), N2, rfl⟩
def Q_LC_5_3 (Z : State) (r0 : Addr) (w_F : Value) (kB : ClassId) (x0 : Int32) (x1 : Int32) (x2 : Int32) (x3 : Int32) (x4 : Int32) (h0 : Heap) (n0 : Nat) (v : Option Value) (h : Heap) (L : List Loc) : Prop := v = some (.int x3) ∧ Fr n0 L ∧ h = h0
set_option maxRecDepth 65536 in
set_option maxHeartbeats 40000000 in
theorem rmLC_5_3 (l : Launch) (Z : State) (a0 : Array Value) (hw : ∀ d ∈ tables_1, d.before a0 Z = true) (ws : List Jvm.Cond) (r0 : Addr) (w_F : Value) (kB : ClassId) (x0 : Int32) (x1 : Int32) (x2 : Int32) (x3 : Int32) (x4 : Int32) (h0 : Heap) (n0 : Nat) (Z0 : n0 ≤ h0.size) (S_F : Sta Z h0 cS4 cS14 cS5 w_F) (hwF : w_F.isRef = true) (V_r0 : Arv Z h0 r0 kB .byte (5 : Int32) [(.int ((x0.toInt8.toInt32).toInt8.toInt32)), (.int ((x1.toInt8.toInt32).toInt8.toInt32)), (.int ((x2.toInt8.toInt32).toInt8.toInt32)), (.int ((x3.toInt8.toInt32).toInt8.toInt32)), (.int ((x4.toInt8.toInt32).toInt8.toInt32))] (.int 0)) (hch_x3 : own_ch x3) (hle_x3 : ¬ ((255 : Int32) < x3)) :
    MetFree l (⟨cS15, "charAt", "([BI)C"⟩ : MethodName) (head1 (Jvm.Cond.code (⟨cS15, "charAt", "([BI)C"⟩ : MethodName) jdk_43_method_2_code 2 (some .char) :: ws) ({ frames := 2, cells := 0, slots := 0, locals := 27 } : Room)) (fun a U => a = #[(.ref r0), (.int 3)] ∧ Z.Warmed39 U.vm ∧ U.heap = h0) (fun _ _ _ _ _ => True) (fun _ U o U' => ∃ v L, o = .returned v ∧ Q_LC_5_3 Z r0 w_F kB x0 x1 x2 x3 x4 h0 n0 v U'.heap L ∧ FrameEnd U o U' L 0 0) := by
  refine MetFree.of_bodySF (plainFor_of_name pn_java_lang_StringLatin1) hisR ?_
  intro p e s m args below meth c s₁ Bd hml0 hP hK
  obtain ⟨rfl, hZ, hh⟩ := hP
  have hx := Bd.exec
  have hby := Bd.bytes
  have hml : c.maxLocals = 2 := hml0
  have hown : s.vm.findClass cS15 = some m.cls := findClass_of_methodNamed Bd.named
  have hnm := (name_of_methodNamed Bd.named Bd.method).1
  have X0 : Stand p l e ({ frames := 2, cells := 0, slots := 0, locals := 27 } : Room) s m #[(.ref r0), (.int 3)] below meth c s₁ [] 0 0 := Stand.of_body Bd
  have e0 : s₁.heap = h0 := by rw [← hh, Bd.state]; rfl
  have N0 := Fr.nil n0
  have k0 : ∀ t, OwnS p e below s₁ (mkF m 0 #[rv r0, iv 3] []) t → OwnS p e below s₁ (entryFrame m #[(.ref r0), (.int 3)] 2) t := fun t k => castTop (ef_15 m r0 (3 : Int32)) k
  obtain ⟨cl_z1, Ar_z1, q_z1, S_z1, N_z1, H_z1, G_z1⟩ := id V_r0
  obtain ⟨_, _, ⟨T2, L2, j2, i2⟩, -, X2, ⟨Lc2, hQ2, l2, y2, z2⟩, st2⟩ := Jvm.LawKit.callS X0 hx (y := (⟨cS0, "checkIndex", "(II)V"⟩ : MethodName)) hown (mvT hZ (own_at hw 76 rfl)) (mvT hZ (own_at hw 77 rfl)) (mvT hZ (own_at hw 8 rfl)) (mvT hZ (own_at hw 78 rfl)) (by decide) (backOf (W := 0) (rmCk l Z a0 hw [] (3 : Int32) (5 : Int32) w_F h0 n0 Z0 S_F hwF (by decide : ¬ ((3 : Int32) < (0 : Int32))) (by decide : (3 : Int32) < (5 : Int32))) hZ (own_at hw 78 rfl) (own_at hw 8 rfl) (by decide) (by decide)) (g := (mkF m 3 #[rv r0, iv 3] [(.int 5), (.int 3)])) rfl (by rw [hml]; rfl) (argsL := [(.int 3), (.int 5)]) (rest := []) (lenOf pd_10 rfl) rfl (Nat.le_refl _) (hb hby d15_3) (fun _ _ => ⟨rfl, e0, (by decide : 0 + 0 ≤ _), (by decide : 0 + 0 ≤ _)⟩)
  dsimp only [Pt.U, Pt.locs, Pt.cells, Pt.slots] at X2 l2 y2 z2 st2 hQ2
  subst l2 y2 z2
  obtain ⟨rfl, N2q, e2⟩ := hQ2
  have N2 := Fr.app N0 N2q
  have hin3 : ¬ ((3 : Int32) < 0 ∨ cl_z1.slots.size ≤ ((3 : Int32)).toNatClampNeg) := inb_of S_z1 ⟨by decide, by decide⟩
  obtain ⟨fs, hr, hrun, hended, hW, hsame⟩ := X2.leave (v := some (.int (((((x3.toInt8.toInt32).toInt8.toInt32) &&& (255 : Int32)).toUInt32.toUInt16.toUInt32.toInt32).toUInt32.toUInt16.toUInt32.toInt32))) (fun h => by rw [Bd.returns] at h; cases h)
  refine ⟨_, _, k0 _ ?_, hrun, hended, _, _, rfl, ?_, ⟨_, rfl⟩, hW, hsame.mono (by decide) (by decide)⟩
  · show OwnS p e below s₁ (mkF m 0 #[rv r0, iv 3] []) _
    refine oIn X0 hx hby d15_0 rfl (oAn X0 hx hby d15_1 rfl rfl ?_)
    refine X0.arraylength hx (by rw [e0]; exact Ar_z1.1) (State.isArrayOf_alike hZ.alike Ar_z1.2.1) (g := (mkF m 2 #[rv r0, iv 3] [(.ref r0), (.int 3)])) rfl rfl (hb hby d15_2) _ ?_
    rw [len_of S_z1 N_z1]
    refine st2 _ ?_
    refine oAn X2 hx hby d15_6 rfl rfl (oIn X2 hx hby d15_7 rfl ?_)
    refine X2.baloadBytes hx (j := (3 : Int32)) (v := (.int ((x3.toInt8.toInt32).toInt8.toInt32))) (by rw [e2]; exact Ar_z1.1) (State.isArrayOf_alike hZ.alike Ar_z1.2.1) Ar_z1.2.2 hin3 (Has.at H_z1 hin3 rfl) (g := (mkF m 8 #[rv r0, iv 3] [(.int 3), (.ref r0)])) rfl rfl (hb hby d15_8) _ ?_
    refine XS.sipush X2.here hx rfl (hb hby d15_9) ?_
    refine XS.iand X2.here hx rfl (hb hby d15_12) rfl ?_
    refine XS.i2c X2.here hx rfl (hb hby d15_13) rfl ?_
    exact retN X2 hx (t := .char) Bd.returns (by simp) (hb hby d15_14) hr
  · show Q_LC_5_3 Z _ _ _ _ _ _ _ _ h0 n0 _ T2.heap _
    rw [e2]
    exact ⟨(congrArg some (congrArg Value.int (own_latc hch_x3 hle_x3))), N2, rfl⟩
def Q_LC_5_4 (Z : State) (r0 : Addr) (w_F : Value) (kB : ClassId) (x0 : Int32) (x1 : Int32) (x2 : Int32) (x3 : Int32) (x4 : Int32) (h0 : Heap) (n0 : Nat) (v : Option Value) (h : Heap) (L : List Loc) : Prop := v = some (.int x4) ∧ Fr n0 L ∧ h = h0
set_option maxRecDepth 65536 in
set_option maxHeartbeats 40000000 in
theorem rmLC_5_4 (l : Launch) (Z : State) (a0 : Array Value) (hw : ∀ d ∈ tables_1, d.before a0 Z = true) (ws : List Jvm.Cond) (r0 : Addr) (w_F : Value) (kB : ClassId) (x0 : Int32) (x1 : Int32) (x2 : Int32) (x3 : Int32) (x4 : Int32) (h0 : Heap) (n0 : Nat) (Z0 : n0 ≤ h0.size) (S_F : Sta Z h0 cS4 cS14 cS5 w_F) (hwF : w_F.isRef = true) (V_r0 : Arv Z h0 r0 kB .byte (5 : Int32) [(.int ((x0.toInt8.toInt32).toInt8.toInt32)), (.int ((x1.toInt8.toInt32).toInt8.toInt32)), (.int ((x2.toInt8.toInt32).toInt8.toInt32)), (.int ((x3.toInt8.toInt32).toInt8.toInt32)), (.int ((x4.toInt8.toInt32).toInt8.toInt32))] (.int 0)) (hch_x4 : own_ch x4) (hle_x4 : ¬ ((255 : Int32) < x4)) :
    MetFree l (⟨cS15, "charAt", "([BI)C"⟩ : MethodName) (head1 (Jvm.Cond.code (⟨cS15, "charAt", "([BI)C"⟩ : MethodName) jdk_43_method_2_code 2 (some .char) :: ws) ({ frames := 2, cells := 0, slots := 0, locals := 27 } : Room)) (fun a U => a = #[(.ref r0), (.int 4)] ∧ Z.Warmed39 U.vm ∧ U.heap = h0) (fun _ _ _ _ _ => True) (fun _ U o U' => ∃ v L, o = .returned v ∧ Q_LC_5_4 Z r0 w_F kB x0 x1 x2 x3 x4 h0 n0 v U'.heap L ∧ FrameEnd U o U' L 0 0) := by
  refine MetFree.of_bodySF (plainFor_of_name pn_java_lang_StringLatin1) hisR ?_
  intro p e s m args below meth c s₁ Bd hml0 hP hK
  obtain ⟨rfl, hZ, hh⟩ := hP
  have hx := Bd.exec
  have hby := Bd.bytes
  have hml : c.maxLocals = 2 := hml0
  have hown : s.vm.findClass cS15 = some m.cls := findClass_of_methodNamed Bd.named
  have hnm := (name_of_methodNamed Bd.named Bd.method).1
  have X0 : Stand p l e ({ frames := 2, cells := 0, slots := 0, locals := 27 } : Room) s m #[(.ref r0), (.int 4)] below meth c s₁ [] 0 0 := Stand.of_body Bd
  have e0 : s₁.heap = h0 := by rw [← hh, Bd.state]; rfl
  have N0 := Fr.nil n0
  have k0 : ∀ t, OwnS p e below s₁ (mkF m 0 #[rv r0, iv 4] []) t → OwnS p e below s₁ (entryFrame m #[(.ref r0), (.int 4)] 2) t := fun t k => castTop (ef_15 m r0 (4 : Int32)) k
  obtain ⟨cl_z1, Ar_z1, q_z1, S_z1, N_z1, H_z1, G_z1⟩ := id V_r0
  obtain ⟨_, _, ⟨T2, L2, j2, i2⟩, -, X2, ⟨Lc2, hQ2, l2, y2, z2⟩, st2⟩ := Jvm.LawKit.callS X0 hx (y := (⟨cS0, "checkIndex", "(II)V"⟩ : MethodName)) hown (mvT hZ (own_at hw 76 rfl)) (mvT hZ (own_at hw 77 rfl)) (mvT hZ (own_at hw 8 rfl)) (mvT hZ (own_at hw 78 rfl)) (by decide) (backOf (W := 0) (rmCk l Z a0 hw [] (4 : Int32) (5 : Int32) w_F h0 n0 Z0 S_F hwF (by decide : ¬ ((4 : Int32) < (0 : Int32))) (by decide : (4 : Int32) < (5 : Int32))) hZ (own_at hw 78 rfl) (own_at hw 8 rfl) (by decide) (by decide)) (g := (mkF m 3 #[rv r0, iv 4] [(.int 5), (.int 4)])) rfl (by rw [hml]; rfl) (argsL := [(.int 4), (.int 5)]) (rest := []) (lenOf pd_10 rfl) rfl (Nat.le_refl _) (hb hby d15_3) (fun _ _ => ⟨rfl, e0, (by decide : 0 + 0 ≤ _), (by decide : 0 + 0 ≤ _)⟩)
  dsimp only [Pt.U, Pt.locs, Pt.cells, Pt.slots] at X2 l2 y2 z2 st2 hQ2
  subst l2 y2 z2
  obtain ⟨rfl, N2q, e2⟩ := hQ2
  have N2 := Fr.app N0 N2q
  have hin3 : ¬ ((4 : Int32) < 0 ∨ cl_z1.slots.size ≤ ((4 : Int32)).toNatClampNeg) := inb_of S_z1 ⟨by decide, by decide⟩
  obtain ⟨fs, hr, hrun, hended, hW, hsame⟩ := X2.leave (v := some (.int (((((x4.toInt8.toInt32).toInt8.toInt32) &&& (255 : Int32)).toUInt32.toUInt16.toUInt32.toInt32).toUInt32.toUInt16.toUInt32.toInt32))) (fun h => by rw [Bd.returns] at h; cases h)
  refine ⟨_, _, k0 _ ?_, hrun, hended, _, _, rfl, ?_, ⟨_, rfl⟩, hW, hsame.mono (by decide) (by decide)⟩
  · show OwnS p e below s₁ (mkF m 0 #[rv r0, iv 4] []) _
    refine oIn X0 hx hby d15_0 rfl (oAn X0 hx hby d15_1 rfl rfl ?_)
    refine X0.arraylength hx (by rw [e0]; exact Ar_z1.1) (State.isArrayOf_alike hZ.alike Ar_z1.2.1) (g := (mkF m 2 #[rv r0, iv 4] [(.ref r0), (.int 4)])) rfl rfl (hb hby d15_2) _ ?_
    rw [len_of S_z1 N_z1]
    refine st2 _ ?_
    refine oAn X2 hx hby d15_6 rfl rfl (oIn X2 hx hby d15_7 rfl ?_)
    refine X2.baloadBytes hx (j := (4 : Int32)) (v := (.int ((x4.toInt8.toInt32).toInt8.toInt32))) (by rw [e2]; exact Ar_z1.1) (State.isArrayOf_alike hZ.alike Ar_z1.2.1) Ar_z1.2.2 hin3 (Has.at H_z1 hin3 rfl) (g := (mkF m 8 #[rv r0, iv 4] [(.int 4), (.ref r0)])) rfl rfl (hb hby d15_8) _ ?_
    refine XS.sipush X2.here hx rfl (hb hby d15_9) ?_
    refine XS.iand X2.here hx rfl (hb hby d15_12) rfl ?_
    refine XS.i2c X2.here hx rfl (hb hby d15_13) rfl ?_
    exact retN X2 hx (t := .char) Bd.returns (by simp) (hb hby d15_14) hr
  · show Q_LC_5_4 Z _ _ _ _ _ _ _ _ h0 n0 _ T2.heap _
    rw [e2]
    exact ⟨(congrArg some (congrArg Value.int (own_latc hch_x4 hle_x4))), N2, rfl⟩
theorem pd_11 : parseMethodDescriptor "([B)I" = some ⟨[(.array .byte)], some .int⟩ := by decide +kernel
theorem d27_0 : decode jdk_52_method_91_code 0 = .ok (.iload_n 0, 1) := by decide +kernel
theorem d27_1 : decode jdk_52_method_91_code 1 = .ok (.aload_n 1, 1) := by decide +kernel
theorem d27_2 : decode jdk_52_method_91_code 2 = .ok (.invokestatic 48, 3) := by decide +kernel
theorem d27_5 : decode jdk_52_method_91_code 5 = .ok (.invokestatic 414, 3) := by decide +kernel
theorem d27_8 : decode jdk_52_method_91_code 8 = .ok (.return_, 1) := by decide +kernel
theorem ef_27 (m : MethodId) (x0 : Int32) (x1 : Addr) : entryFrame m #[(.int x0), (.ref x1)] 2 = mkF m 0 #[.val (.int x0), .val (.ref x1)] [] := by first | (simp [entryFrame, mkF, argsToLocals, Value.category]; done) | rfl
def Q_UK_5 (Z : State) (p0 : Int32) (r1 : Addr) (w_F : Value) (kB : ClassId) (vs : List Value) (h0 : Heap) (n0 : Nat) (v : Option Value) (h : Heap) (L : List Loc) : Prop := v = none ∧ Fr n0 L ∧ h = h0
set_option maxRecDepth 65536 in
set_option maxHeartbeats 40000000 in
theorem rmUK_5 (l : Launch) (Z : State) (a0 : Array Value) (hw : ∀ d ∈ tables_1, d.before a0 Z = true) (ws : List Jvm.Cond) (p0 : Int32) (r1 : Addr) (w_F : Value) (kB : ClassId) (vs : List Value) (h0 : Heap) (n0 : Nat) (Z0 : n0 ≤ h0.size) (S_F : Sta Z h0 cS4 cS14 cS5 w_F) (hwF : w_F.isRef = true) (V_r1 : Arv Z h0 r1 kB .byte (10 : Int32) vs (.int 0)) (hge : ¬ (p0 < (0 : Int32))) (hlt : p0 < (5 : Int32)) :
    MetFree l (⟨cS1, "checkIndex", "(I[B)V"⟩ : MethodName) (head1 (Jvm.Cond.code (⟨cS1, "checkIndex", "(I[B)V"⟩ : MethodName) jdk_52_method_91_code 2 none :: ws) ({ frames := 2, cells := 0, slots := 0, locals := 27 } : Room)) (fun a U => a = #[(.int p0), (.ref r1)] ∧ Z.Warmed39 U.vm ∧ U.heap = h0) (fun _ _ _ _ _ => True) (fun _ U o U' => ∃ v L, o = .returned v ∧ Q_UK_5 Z p0 r1 w_F kB vs h0 n0 v U'.heap L ∧ FrameEnd U o U' L 0 0) := by
  refine MetFree.of_bodySF (plainFor_of_name pn_java_lang_StringUTF16) hisR ?_
  intro p e s m args below meth c s₁ Bd hml0 hP hK
  obtain ⟨rfl, hZ, hh⟩ := hP
  have hx := Bd.exec
  have hby := Bd.bytes
  have hml : c.maxLocals = 2 := hml0
  have hown : s.vm.findClass cS1 = some m.cls := findClass_of_methodNamed Bd.named
  have hnm := (name_of_methodNamed Bd.named Bd.method).1
  have X0 : Stand p l e ({ frames := 2, cells := 0, slots := 0, locals := 27 } : Room) s m #[(.int p0), (.ref r1)] below meth c s₁ [] 0 0 := Stand.of_body Bd
  have e0 : s₁.heap = h0 := by rw [← hh, Bd.state]; rfl
  have N0 := Fr.nil n0
  have k0 : ∀ t, OwnS p e below s₁ (mkF m 0 #[iv p0, rv r1] []) t → OwnS p e below s₁ (entryFrame m #[(.int p0), (.ref r1)] 2) t := fun t k => castTop (ef_27 m p0 r1) k
  obtain ⟨_, _, ⟨T1, L1, j1, i1⟩, -, X1, ⟨Lc1, hQ1, l1, y1, z1⟩, st1⟩ := Jvm.LawKit.callS X0 hx (y := (⟨cS1, "length", "([B)I"⟩ : MethodName)) hown (mvT hZ (own_at hw 120 rfl)) (mvT hZ (own_at hw 121 rfl)) (mvT hZ (own_at hw 22 rfl)) (mvT hZ (own_at hw 122 rfl)) (by decide) (backOf (W := 1) (rmUL_5 l Z a0 hw [] r1 kB vs h0 n0 Z0 V_r1) hZ (own_at hw 122 rfl) (own_at hw 22 rfl) (by decide) (by decide)) (g := (mkF m 2 #[iv p0, rv r1] [(.ref r1), (.int p0)])) rfl (by rw [hml]; rfl) (argsL := [(.ref r1)]) (rest := [(.int p0)]) (lenOf pd_11 rfl) rfl (Nat.le_refl _) (hb hby d27_2) (fun _ _ => ⟨rfl, e0, (by decide : 0 + 0 ≤ _), (by decide : 0 + 0 ≤ _)⟩)
  dsimp only [Pt.U, Pt.locs, Pt.cells, Pt.slots] at X1 l1 y1 z1 st1 hQ1
  subst l1 y1 z1
  obtain ⟨rfl, N1q, e1⟩ := hQ1
  have N1 := Fr.app N0 N1q
  obtain ⟨_, _, ⟨T2, L2, j2, i2⟩, -, X2, ⟨Lc2, hQ2, l2, y2, z2⟩, st2⟩ := Jvm.LawKit.callS X1 hx (y := (⟨cS0, "checkIndex", "(II)V"⟩ : MethodName)) hown (mvT hZ (own_at hw 123 rfl)) (mvT hZ (own_at hw 77 rfl)) (mvT hZ (own_at hw 8 rfl)) (mvT hZ (own_at hw 78 rfl)) (by decide) (backOf (W := 0) (rmCk l Z a0 hw [] p0 (5 : Int32) w_F h0 n0 Z0 S_F hwF hge hlt) hZ (own_at hw 78 rfl) (own_at hw 8 rfl) (by decide) (by decide)) (g := (mkF m 5 #[iv p0, rv r1] [(.int 5), (.int p0)])) rfl (by rw [hml]; rfl) (argsL := [(.int p0), (.int 5)]) (rest := []) (lenOf pd_10 rfl) rfl (Nat.le_refl _) (hb hby d27_5) (fun _ _ => ⟨rfl, e1, (by decide : 0 + 0 ≤ _), (by decide : 0 + 0 ≤ _)⟩)
  dsimp only [Pt.U, Pt.locs, Pt.cells, Pt.slots] at X2 l2 y2 z2 st2 hQ2
  subst l2 y2 z2
  obtain ⟨rfl, N2q, e2⟩ := hQ2
  have N2 := Fr.app N1 N2q
  obtain ⟨fs, hr, hrun, hended, hW, hsame⟩ := X2.leave (v := none) (fun _ => rfl)
  refine ⟨_, _, k0 _ ?_, hrun, hended, _, _, rfl, ?_, ⟨_, rfl⟩, hW, hsame.mono (by decide) (by decide)⟩
  · show OwnS p e below s₁ (mkF m 0 #[iv p0, rv r1] []) _
    refine oIn X0 hx hby d27_0 rfl (oAn X0 hx hby d27_1 rfl rfl ?_)
    refine st1 _ ?_
    refine st2 _ ?_
    exact X2.returnOut hx Bd.returns (hb hby d27_8) hr
  · show Q_UK_5 Z _ _ _ _ _ h0 n0 _ T2.heap _
    rw [e2]
    exact ⟨rfl, N2, rfl⟩
theorem pd_12 : parseMethodDescriptor "(I[B)V" = some ⟨[.int, (.array .byte)], none⟩ := by decide +kernel
theorem d26_0 : decode jdk_52_method_83_code 0 = .ok (.iload_n 1, 1) := by decide +kernel
theorem d26_1 : decode jdk_52_method_83_code 1 = .ok (.aload_n 0, 1) := by decide +kernel
theorem d26_2 : decode jdk_52_method_83_code 2 = .ok (.invokestatic 67, 3) := by decide +kernel
theorem d26_5 : decode jdk_52_method_83_code 5 = .ok (.aload_n 0, 1) := by decide +kernel
theorem d26_6 : decode jdk_52_method_83_code 6 = .ok (.iload_n 1, 1) := by decide +kernel
theorem d26_7 : decode jdk_52_method_83_code 7 = .ok (.invokestatic 71, 3) := by decide +kernel
theorem d26_10 : decode jdk_52_method_83_code 10 = .ok (.ireturn, 1) := by decide +kernel
theorem ef_26 (m : MethodId) (x0 : Addr) (x1 : Int32) : entryFrame m #[(.ref x0), (.int x1)] 2 = mkF m 0 #[.val (.ref x0), .val (.int x1)] [] := by first | (simp [entryFrame, mkF, argsToLocals, Value.category]; done) | rfl
def Q_UC_5_0 (Z : State) (r0 : Addr) (w_F : Value) (kB : ClassId) (x0 : Int32) (x1 : Int32) (x2 : Int32) (x3 : Int32) (x4 : Int32) (h0 : Heap) (n0 : Nat) (v : Option Value) (h : Heap) (L : List Loc) : Prop := v = some (.int x0) ∧ Fr n0 L ∧ h = h0
set_option maxRecDepth 65536 in
set_option maxHeartbeats 40000000 in
theorem rmUC_5_0 (l : Launch) (Z : State) (a0 : Array Value) (hw : ∀ d ∈ tables_1, d.before a0 Z = true) (ws : List Jvm.Cond) (r0 : Addr) (w_F : Value) (kB : ClassId) (x0 : Int32) (x1 : Int32) (x2 : Int32) (x3 : Int32) (x4 : Int32) (h0 : Heap) (n0 : Nat) (Z0 : n0 ≤ h0.size) (S_F : Sta Z h0 cS4 cS14 cS5 w_F) (hwF : w_F.isRef = true) (S_AD : Sta Z h0 cS1 cS6 "Z" (.int 1)) (S_HI : Sta Z h0 cS1 cS7 "I" (.int 0)) (S_LO : Sta Z h0 cS1 cS8 "I" (.int 8)) (V_r0 : Arv Z h0 r0 kB .byte (10 : Int32) [(.int (((x0 >>> ((0 : Int32) &&& 31)).toInt8.toInt32).toInt8.toInt32)), (.int (((x0 >>> ((8 : Int32) &&& 31)).toInt8.toInt32).toInt8.toInt32)), (.int (((x1 >>> ((0 : Int32) &&& 31)).toInt8.toInt32).toInt8.toInt32)), (.int (((x1 >>> ((8 : Int32) &&& 31)).toInt8.toInt32).toInt8.toInt32)), (.int (((x2 >>> ((0 : Int32) &&& 31)).toInt8.toInt32).toInt8.toInt32)), (.int (((x2 >>> ((8 : Int32) &&& 31)).toInt8.toInt32).toInt8.toInt32)), (.int (((x3 >>> ((0 : Int32) &&& 31)).toInt8.toInt32).toInt8.toInt32)), (.int (((x3 >>> ((8 : Int32) &&& 31)).toInt8.toInt32).toInt8.toInt32)), (.int (((x4 >>> ((0 : Int32) &&& 31)).toInt8.toInt32).toInt8.toInt32)), (.int (((x4 >>> ((8 : Int32) &&& 31)).toInt8.toInt32).toInt8.toInt32))] (.int 0)) (hch_x0 : own_ch x0) :
    MetFree l (⟨cS1, "charAt", "([BI)C"⟩ : MethodName) (head1 (Jvm.Cond.code (⟨cS1, "charAt", "([BI)C"⟩ : MethodName) jdk_52_method_83_code 2 (some .char) :: ws) ({ frames := 3, cells := 0, slots := 0, locals := 40 } : Room)) (fun a U => a = #[(.ref r0), (.int 0)] ∧ Z.Warmed39 U.vm ∧ U.heap = h0) (fun _ _ _ _ _ => True) (fun _ U o U' => ∃ v L, o = .returned v ∧ Q_UC_5_0 Z r0 w_F kB x0 x1 x2 x3 x4 h0 n0 v U'.heap L ∧ FrameEnd U o U' L 0 0) := by
  refine MetFree.of_bodySF (plainFor_of_name pn_java_lang_StringUTF16) hisR ?_
  intro p e s m args below meth c s₁ Bd hml0 hP hK
  obtain ⟨rfl, hZ, hh⟩ := hP
  have hx := Bd.exec
  have hby := Bd.bytes
  have hml : c.maxLocals = 2 := hml0
  have hown : s.vm.findClass cS1 = some m.cls := findClass_of_methodNamed Bd.named
  have hnm := (name_of_methodNamed Bd.named Bd.method).1
  have X0 : Stand p l e ({ frames := 3, cells := 0, slots := 0, locals := 40 } : Room) s m #[(.ref r0), (.int 0)] below meth c s₁ [] 0 0 := Stand.of_body Bd
  have e0 : s₁.heap = h0 := by rw [← hh, Bd.state]; rfl
  have N0 := Fr.nil n0
  have k0 : ∀ t, OwnS p e below s₁ (mkF m 0 #[rv r0, iv 0] []) t → OwnS p e below s₁ (entryFrame m #[(.ref r0), (.int 0)] 2) t := fun t k => castTop (ef_26 m r0 (0 : Int32)) k
  obtain ⟨_, _, ⟨T1, L1, j1, i1⟩, -, X1, ⟨Lc1, hQ1, l1, y1, z1⟩, st1⟩ := Jvm.LawKit.callS X0 hx (y := (⟨cS1, "checkIndex", "(I[B)V"⟩ : MethodName)) hown (mvT hZ (own_at hw 117 rfl)) (mvT hZ (own_at hw 118 rfl)) (mvT hZ (own_at hw 22 rfl)) (mvT hZ (own_at hw 119 rfl)) (by decide) (backOf (W := 0) (rmUK_5 l Z a0 hw [] (0 : Int32) r0 w_F kB [(.int (((x0 >>> ((0 : Int32) &&& 31)).toInt8.toInt32).toInt8.toInt32)), (.int (((x0 >>> ((8 : Int32) &&& 31)).toInt8.toInt32).toInt8.toInt32)), (.int (((x1 >>> ((0 : Int32) &&& 31)).toInt8.toInt32).toInt8.toInt32)), (.int (((x1 >>> ((8 : Int32) &&& 31)).toInt8.toInt32).toInt8.toInt32)), (.int (((x2 >>> ((0 : Int32) &&& 31)).toInt8.toInt32).toInt8.toInt32)), (.int (((x2 >>> ((8 : Int32) &&& 31)).toInt8.toInt32).toInt8.toInt32)), (.int (((x3 >>> ((0 : Int32) &&& 31)).toInt8.toInt32).toInt8.toInt32)), (.int (((x3 >>> ((8 : Int32) &&& 31)).toInt8.toInt32).toInt8.toInt32)), (.int (((x4 >>> ((0 : Int32) &&& 31)).toInt8.toInt32).toInt8.toInt32)), (.int (((x4 >>> ((8 : Int32) &&& 31)).toInt8.toInt32).toInt8.toInt32))] h0 n0 Z0 S_F hwF V_r0 (by decide : ¬ ((0 : Int32) < (0 : Int32))) (by decide : (0 : Int32) < (5 : Int32))) hZ (own_at hw 119 rfl) (own_at hw 22 rfl) (by decide) (by decide)) (g := (mkF m 2 #[rv r0, iv 0] [(.ref r0), (.int 0)])) rfl (by rw [hml]; rfl) (argsL := [(.int 0), (.ref r0)]) (rest := []) (lenOf pd_12 rfl) rfl (Nat.le_refl _) (hb hby d26_2) (fun _ _ => ⟨rfl, e0, (by decide : 0 + 0 ≤ _), (by decide : 0 + 0 ≤ _)⟩)
  dsimp only [Pt.U, Pt.locs, Pt.cells, Pt.slots] at X1 l1 y1 z1 st1 hQ1
  subst l1 y1 z1
  obtain ⟨rfl, N1q, e1⟩ := hQ1
  have N1 := Fr.app N0 N1q
  obtain ⟨_, _, ⟨T2, L2, j2, i2⟩, -, X2, ⟨Lc2, hQ2, l2, y2, z2⟩, st2⟩ := Jvm.LawKit.callS X1 hx (y := (⟨cS1, "getChar", "([BI)C"⟩ : MethodName)) hown (mvT hZ (own_at hw 110 rfl)) (mvT hZ (own_at hw 111 rfl)) (mvT hZ (own_at hw 22 rfl)) (mvT hZ (own_at hw 112 rfl)) (by decide) (backOf (W := 0) (rmGC_5_0 l Z a0 hw [] r0 kB x0 x1 x2 x3 x4 h0 n0 Z0 S_AD S_HI S_LO V_r0 hch_x0) hZ (own_at hw 112 rfl) (own_at hw 22 rfl) (by decide) (by decide)) (g := (mkF m 7 #[rv r0, iv 0] [(.int 0), (.ref r0)])) rfl (by rw [hml]; rfl) (argsL := [(.ref r0), (.int 0)]) (rest := []) (lenOf pd_6 rfl) rfl (Nat.le_refl _) (hb hby d26_7) (fun _ _ => ⟨rfl, e1, (by decide : 0 + 0 ≤ _), (by decide : 0 + 0 ≤ _)⟩)
  dsimp only [Pt.U, Pt.locs, Pt.cells, Pt.slots] at X2 l2 y2 z2 st2 hQ2
  subst l2 y2 z2
  obtain ⟨rfl, N2q, e2⟩ := hQ2
  have N2 := Fr.app N1 N2q
  obtain ⟨fs, hr, hrun, hended, hW, hsame⟩ := X2.leave (v := some (.int (x0.toUInt32.toUInt16.toUInt32.toInt32))) (fun h => by rw [Bd.returns] at h; cases h)
  refine ⟨_, _, k0 _ ?_, hrun, hended, _, _, rfl, ?_, ⟨_, rfl⟩, hW, hsame.mono (by decide) (by decide)⟩
  · show OwnS p e below s₁ (mkF m 0 #[rv r0, iv 0] []) _
    refine oIn X0 hx hby d26_0 rfl (oAn X0 hx hby d26_1 rfl rfl ?_)
    refine st1 _ ?_
    refine oAn X1 hx hby d26_5 rfl rfl (oIn X1 hx hby d26_6 rfl ?_)
    refine st2 _ ?_
    exact retN X2 hx (t := .char) Bd.returns (by simp) (hb hby d26_10) hr
  · show Q_UC_5_0 Z _ _ _ _ _ _ _ _ h0 n0 _ T2.heap _
    rw [e2]
    exact ⟨(congrArg some (congrArg Value.int (own_i2cid hch_x0))), N2, rfl⟩
theorem pd_13 : parseMethodDescriptor "()Z" = some ⟨[], some .boolean⟩ := by decide +kernel
theorem d13_0 : decode jdk_42_method_56_code 0 = .ok (.aload_n 0, 1) := by decide +kernel
theorem d13_1 : decode jdk_42_method_56_code 1 = .ok (.invokevirtual 492, 3) := by decide +kernel
theorem d13_4 : decode jdk_42_method_56_code 4 = .ok (.ifCond .eq 12, 3) := by decide +kernel
theorem d13_7 : decode jdk_42_method_56_code 7 = .ok (.aload_n 0, 1) := by decide +kernel
theorem d13_8 : decode jdk_42_method_56_code 8 = .ok (.getfield 9, 3) := by decide +kernel
theorem d13_11 : decode jdk_42_method_56_code 11 = .ok (.iload_n 1, 1) := by decide +kernel
theorem d13_12 : decode jdk_42_method_56_code 12 = .ok (.invokestatic 495, 3) := by decide +kernel
theorem d13_15 : decode jdk_42_method_56_code 15 = .ok (.ireturn, 1) := by decide +kernel
theorem d13_16 : decode jdk_42_method_56_code 16 = .ok (.aload_n 0, 1) := by decide +kernel
theorem d13_17 : decode jdk_42_method_56_code 17 = .ok (.getfield 9, 3) := by decide +kernel
theorem d13_20 : decode jdk_42_method_56_code 20 = .ok (.iload_n 1, 1) := by decide +kernel
theorem d13_21 : decode jdk_42_method_56_code 21 = .ok (.invokestatic 498, 3) := by decide +kernel
theorem d13_24 : decode jdk_42_method_56_code 24 = .ok (.ireturn, 1) := by decide +kernel
theorem ef_13 (m : MethodId) (x0 : Addr) (x1 : Int32) : entryFrame m #[(.ref x0), (.int x1)] 2 = mkF m 0 #[.val (.ref x0), .val (.int x1)] [] := by first | (simp [entryFrame, mkF, argsToLocals, Value.category]; done) | rfl
def Q_CA_5_0 (Z : State) (r0 : Addr) (w_CS : Int32) (w_F : Value) (x0 : Int32) (x1 : Int32) (x2 : Int32) (x3 : Int32) (x4 : Int32) (h0 : Heap) (n0 : Nat) (v : Option Value) (h : Heap) (L : List Loc) : Prop := v = some (.int x0) ∧ Fr n0 L ∧ h = h0
set_option maxRecDepth 65536 in
set_option maxHeartbeats 40000000 in
theorem rmCA_5_0 (l : Launch) (Z : State) (a0 : Array Value) (hw : ∀ d ∈ tables_1, d.before a0 Z = true) (ws : List Jvm.Cond) (r0 : Addr) (w_CS : Int32) (w_F : Value) (x0 : Int32) (x1 : Int32) (x2 : Int32) (x3 : Int32) (x4 : Int32) (h0 : Heap) (n0 : Nat) (Z0 : n0 ≤ h0.size) (S_CS : Sta Z h0 cS0 cS13 "Z" (.int w_CS)) (hcs : ¬ (w_CS = (0 : Int32))) (S_F : Sta Z h0 cS4 cS14 cS5 w_F) (hwF : w_F.isRef = true) (S_AD : Sta Z h0 cS1 cS6 "Z" (.int 1)) (S_HI : Sta Z h0 cS1 cS7 "I" (.int 0)) (S_LO : Sta Z h0 cS1 cS8 "I" (.int 8)) (P_r0 : own_S5 Z h0 r0 x0 x1 x2 x3 x4) (hch_x0 : own_ch x0) :
    MetFree l (⟨cS0, "charAt", "(I)C"⟩ : MethodName) (head1 (Jvm.Cond.code (⟨cS0, "charAt", "(I)C"⟩ : MethodName) jdk_42_method_56_code 2 (some .char) :: ws) ({ frames := 4, cells := 0, slots := 0, locals := 53 } : Room)) (fun a U => a = #[(.ref r0), (.int 0)] ∧ Z.Warmed39 U.vm ∧ U.heap = h0) (fun _ _ _ _ _ => True) (fun _ U o U' => ∃ v L, o = .returned v ∧ Q_CA_5_0 Z r0 w_CS w_F x0 x1 x2 x3 x4 h0 n0 v U'.heap L ∧ FrameEnd U o U' L 0 0) := by
  refine MetFree.of_bodySF (plainFor_of_name pn_java_lang_String) hisR ?_
  intro p e s m args below meth c s₁ Bd hml0 hP hK
  obtain ⟨rfl, hZ, hh⟩ := hP
  have hx := Bd.exec
  have hby := Bd.bytes
  have hml : c.maxLocals = 2 := hml0
  have hown : s.vm.findClass cS0 = some m.cls := findClass_of_methodNamed Bd.named
  have hnm := (name_of_methodNamed Bd.named Bd.method).1
  have X0 : Stand p l e ({ frames := 4, cells := 0, slots := 0, locals := 53 } : Room) s m #[(.ref r0), (.int 0)] below meth c s₁ [] 0 0 := Stand.of_body Bd
  have e0 : s₁.heap = h0 := by rw [← hh, Bd.state]; rfl
  have N0 := Fr.nil n0
  have k0 : ∀ t, OwnS p e below s₁ (mkF m 0 #[rv r0, iv 0] []) t → OwnS p e below s₁ (entryFrame m #[(.ref r0), (.int 0)] 2) t := fun t k => castTop (ef_13 m r0 (0 : Int32)) k
  rcases id P_r0 with ⟨eS, ⟨sA, kS, fC, fV, vA, hl0, hl1, hl2, hl3, hl4⟩ | ⟨sA, kS, fC, fV, vA⟩⟩
  · skip
    obtain ⟨cq1, kq1, q1a, q1b, q1c⟩ := isOf hZ e0 eS
    obtain ⟨_, _, ⟨T1, L1, j1, i1⟩, -, X1, ⟨Lc1, hQ1, l1, y1, z1⟩, st1⟩ := X0.virtualBack hx (y := (⟨cS0, "isLatin1", "()Z"⟩ : MethodName)) (z := (⟨cS0, "isLatin1", "()Z"⟩ : MethodName)) hown (mvT hZ (own_at hw 67 rfl)) (mvT hZ (own_at hw 68 rfl)) (notFace_of_selects (args := #[]) (mvT hZ (own_at hw 70 rfl))) (mvT hZ (own_at hw 70 rfl)) (mvT hZ (own_at hw 69 rfl)) (by decide) (backOf (W := 0) (rmIL0 l Z a0 hw [] r0 w_CS h0 n0 Z0 S_CS hcs fC) hZ (own_at hw 71 rfl) (own_at hw 8 rfl) (by decide) (by decide)) q1a q1c (g := (mkF m 1 #[rv r0, iv 0] [(.ref r0)])) rfl (by rw [hml]; rfl) (Steps.refl _) (argsL := []) (rest := []) (lenOf pd_13 rfl) rfl (Nat.le_refl _) (hb hby d13_1) (fun _ _ => ⟨rfl, e0, (by decide : 0 + 0 ≤ _), (by decide : 0 + 0 ≤ _)⟩)
    dsimp only [Pt.U, Pt.locs, Pt.cells, Pt.slots] at X1 l1 y1 z1 st1 hQ1
    subst l1 y1 z1
    obtain ⟨rfl, N1q, e1⟩ := hQ1
    have N1 := Fr.app N0 N1q
    obtain ⟨T2, X2, e2, st2⟩ := getF X1 hx hZ hown (host := "") (Or.inl (own_at hw 33 rfl)) Via.refl e1 fV (g := (mkF m 8 #[rv r0, iv 0] [(.ref r0)])) rfl rfl (hb hby d13_8)
    obtain ⟨_, _, ⟨T3, L3, j3, i3⟩, -, X3, ⟨Lc3, hQ3, l3, y3, z3⟩, st3⟩ := Jvm.LawKit.callS X2 hx (y := (⟨cS15, "charAt", "([BI)C"⟩ : MethodName)) hown (mvT hZ (own_at hw 72 rfl)) (mvT hZ (own_at hw 73 rfl)) (mvT hZ (own_at hw 74 rfl)) (mvT hZ (own_at hw 75 rfl)) (by decide) (backOf (W := 0) (rmLC_5_0 l Z a0 hw [] sA w_F kS x0 x1 x2 x3 x4 h0 n0 Z0 S_F hwF vA hch_x0 hl0) hZ (own_at hw 75 rfl) (own_at hw 74 rfl) (by decide) (by decide)) (g := (mkF m 12 #[rv r0, iv 0] [(.int 0), (.ref sA)])) rfl (by rw [hml]; rfl) (argsL := [(.ref sA), (.int 0)]) (rest := []) (lenOf pd_6 rfl) rfl (Nat.le_refl _) (hb hby d13_12) (fun _ _ => ⟨rfl, e2, (by decide : 0 + 0 ≤ _), (by decide : 0 + 0 ≤ _)⟩)
    dsimp only [Pt.U, Pt.locs, Pt.cells, Pt.slots] at X3 l3 y3 z3 st3 hQ3
    subst l3 y3 z3
    obtain ⟨rfl, N3q, e3⟩ := hQ3
    have N3 := Fr.app N1 N3q
    obtain ⟨fs, hr, hrun, hended, hW, hsame⟩ := X3.leave (v := some (.int (x0.toUInt32.toUInt16.toUInt32.toInt32))) (fun h => by rw [Bd.returns] at h; cases h)
    refine ⟨_, _, k0 _ ?_, hrun, hended, _, _, rfl, ?_, ⟨_, rfl⟩, hW, hsame.mono (by decide) (by decide)⟩
    · show OwnS p e below s₁ (mkF m 0 #[rv r0, iv 0] []) _
      refine oAn X0 hx hby d13_0 rfl rfl ?_
      refine st1.trans ?_
      refine XS.ifNo X1.here hx rfl (hb hby d13_4) rfl ((if0 _ _).trans (feq (by decide : ¬ ((1 : Int32) = (0 : Int32)))).1) ?_
      refine oAn X1 hx hby d13_7 rfl rfl ?_
      refine st2 _ ?_
      refine oIn X2 hx hby d13_11 rfl ?_
      refine st3 _ ?_
      exact retN X3 hx (t := .char) Bd.returns (by simp) (hb hby d13_15) hr
    · show Q_CA_5_0 Z _ _ _ _ _ _ _ _ h0 n0 _ T3.heap _
      rw [e3]
      exact ⟨(congrArg some (congrArg Value.int (own_i2cid hch_x0))), N3, rfl⟩
  · skip
    obtain ⟨cq4, kq4, q4a, q4b, q4c⟩ := isOf hZ e0 eS
    obtain ⟨_, _, ⟨T4, L4, j4, i4⟩, -, X4, ⟨Lc4, hQ4, l4, y4, z4⟩, st4⟩ := X0.virtualBack hx (y := (⟨cS0, "isLatin1", "()Z"⟩ : MethodName)) (z := (⟨cS0, "isLatin1", "()Z"⟩ : MethodName)) hown (mvT hZ (own_at hw 67 rfl)) (mvT hZ (own_at hw 68 rfl)) (notFace_of_selects (args := #[]) (mvT hZ (own_at hw 70 rfl))) (mvT hZ (own_at hw 70 rfl)) (mvT hZ (own_at hw 69 rfl)) (by decide) (backOf (W := 0) (rmIL1 l Z a0 hw [] r0 w_CS h0 n0 Z0 S_CS hcs fC) hZ (own_at hw 71 rfl) (own_at hw 8 rfl) (by decide) (by decide)) q4a q4c (g := (mkF m 1 #[rv r0, iv 0] [(.ref r0)])) rfl (by rw [hml]; rfl) (Steps.refl _) (argsL := []) (rest := []) (lenOf pd_13 rfl) rfl (Nat.le_refl _) (hb hby d13_1) (fun _ _ => ⟨rfl, e0, (by decide : 0 + 0 ≤ _), (by decide : 0 + 0 ≤ _)⟩)
    dsimp only [Pt.U, Pt.locs, Pt.cells, Pt.slots] at X4 l4 y4 z4 st4 hQ4
    subst l4 y4 z4
    obtain ⟨rfl, N4q, e4⟩ := hQ4
    have N4 := Fr.app N0 N4q
    obtain ⟨T5, X5, e5, st5⟩ := getF X4 hx hZ hown (host := "") (Or.inl (own_at hw 33 rfl)) Via.refl e4 fV (g := (mkF m 17 #[rv r0, iv 0] [(.ref r0)])) rfl rfl (hb hby d13_17)
    obtain ⟨_, _, ⟨T6, L6, j6, i6⟩, -, X6, ⟨Lc6, hQ6, l6, y6, z6⟩, st6⟩ := Jvm.LawKit.callS X5 hx (y := (⟨cS1, "charAt", "([BI)C"⟩ : MethodName)) hown (mvT hZ (own_at hw 114 rfl)) (mvT hZ (own_at hw 115 rfl)) (mvT hZ (own_at hw 22 rfl)) (mvT hZ (own_at hw 116 rfl)) (by decide) (backOf (W := 0) (rmUC_5_0 l Z a0 hw [] sA w_F kS x0 x1 x2 x3 x4 h0 n0 Z0 S_F hwF S_AD S_HI S_LO vA hch_x0) hZ (own_at hw 116 rfl) (own_at hw 22 rfl) (by decide) (by decide)) (g := (mkF m 21 #[rv r0, iv 0] [(.int 0), (.ref sA)])) rfl (by rw [hml]; rfl) (argsL := [(.ref sA), (.int 0)]) (rest := []) (lenOf pd_6 rfl) rfl (Nat.le_refl _) (hb hby d13_21) (fun _ _ => ⟨rfl, e5, (by decide : 0 + 0 ≤ _), (by decide : 0 + 0 ≤ _)⟩)
    dsimp only [Pt.U, Pt.locs, Pt.cells, Pt.slots] at X6 l6 y6 z6 st6 hQ6
    subst l6 y6 z6
    obtain ⟨rfl, N6q, e6⟩ := hQ6
    have N6 := Fr.app N4 N6q
    obtain ⟨fs, hr, hrun, hended, hW, hsame⟩ := X6.leave (v := some (.int (x0.toUInt32.toUInt16.toUInt32.toInt32))) (fun h => by rw [Bd.returns] at h; cases h)
    refine ⟨_, _, k0 _ ?_, hrun, hended, _, _, rfl, ?_, ⟨_, rfl⟩, hW, hsame.mono (by decide) (by decide)⟩
    · show OwnS p e below s₁ (mkF m 0 #[rv r0, iv 0] []) _
      refine oAn X0 hx hby d13_0 rfl rfl ?_
      refine st4.trans ?_
      refine XS.ifYes X4.here hx rfl (pc0 := 4) (pc' := 16) rfl (hb hby d13_4) rfl ((if0 _ _).trans (teq (by decide : (0 : Int32) = (0 : Int32))).1) (by decide) (by decide) ?_
      refine oAn X4 hx hby d13_16 rfl rfl ?_
      refine st5 _ ?_
      refine oIn X5 hx hby d13_20 rfl ?_
      refine st6 _ ?_
      exact retN X6 hx (t := .char) Bd.returns (by simp) (hb hby d13_24) hr
    · show Q_CA_5_0 Z _ _ _ _ _ _ _ _ h0 n0 _ T6.heap _
      rw [e6]
      exact ⟨(congrArg some (congrArg Value.int (own_i2cid hch_x0))), N6, rfl⟩
def Q_UC_5_1 (Z : State) (r0 : Addr) (w_F : Value) (kB : ClassId) (x0 : Int32) (x1 : Int32) (x2 : Int32) (x3 : Int32) (x4 : Int32) (h0 : Heap) (n0 : Nat) (v : Option Value) (h : Heap) (L : List Loc) : Prop := v = some (.int x1) ∧ Fr n0 L ∧ h = h0
set_option maxRecDepth 65536 in
set_option maxHeartbeats 40000000 in
theorem rmUC_5_1 (l : Launch) (Z : State) (a0 : Array Value) (hw : ∀ d ∈ tables_1, d.before a0 Z = true) (ws : List Jvm.Cond) (r0 : Addr) (w_F : Value) (kB : ClassId) (x0 : Int32) (x1 : Int32) (x2 : Int32) (x3 : Int32) (x4 : Int32) (h0 : Heap) (n0 : Nat) (Z0 : n0 ≤ h0.size) (S_F : Sta Z h0 cS4 cS14 cS5 w_F) (hwF : w_F.isRef = true) (S_AD : Sta Z h0 cS1 cS6 "Z" (.int 1)) (S_HI : Sta Z h0 cS1 cS7 "I" (.int 0)) (S_LO : Sta Z h0 cS1 cS8 "I" (.int 8)) (V_r0 : Arv Z h0 r0 kB .byte (10 : Int32) [(.int (((x0 >>> ((0 : Int32) &&& 31)).toInt8.toInt32).toInt8.toInt32)), (.int (((x0 >>> ((8 : Int32) &&& 31)).toInt8.toInt32).toInt8.toInt32)), (.int (((x1 >>> ((0 : Int32) &&& 31)).toInt8.toInt32).toInt8.toInt32)), (.int (((x1 >>> ((8 : Int32) &&& 31)).toInt8.toInt32).toInt8.toInt32)), (.int (((x2 >>> ((0 : Int32) &&& 31)).toInt8.toInt32).toInt8.toInt32)), (.int (((x2 >>> ((8 : Int32) &&& 31)).toInt8.toInt32).toInt8.toInt32)), (.int (((x3 >>> ((0 : Int32) &&& 31)).toInt8.toInt32).toInt8.toInt32)), (.int (((x3 >>> ((8 : Int32) &&& 31)).toInt8.toInt32).toInt8.toInt32)), (.int (((x4 >>> ((0 : Int32) &&& 31)).toInt8.toInt32).toInt8.toInt32)), (.int (((x4 >>> ((8 : Int32) &&& 31)).toInt8.toInt32).toInt8.toInt32))] (.int 0)) (hch_x1 : own_ch x1) :
    MetFree l (⟨cS1, "charAt", "([BI)C"⟩ : MethodName) (head1 (Jvm.Cond.code (⟨cS1, "charAt", "([BI)C"⟩ : MethodName) jdk_52_method_83_code 2 (some .char) :: ws) ({ frames := 3, cells := 0, slots := 0, locals := 40 } : Room)) (fun a U => a = #[(.ref r0), (.int 1)] ∧ Z.Warmed39 U.vm ∧ U.heap = h0) (fun _ _ _ _ _ => True) (fun _ U o U' => ∃ v L, o = .returned v ∧ Q_UC_5_1 Z r0 w_F kB x0 x1 x2 x3 x4 h0 n0 v U'.heap L ∧ FrameEnd U o U' L 0 0) := by
  refine MetFree.of_bodySF (plainFor_of_name pn_java_lang_StringUTF16) hisR ?_
  intro p e s m args below meth c s₁ Bd hml0 hP hK
  obtain ⟨rfl, hZ, hh⟩ := hP
  have hx := Bd.exec
  have hby := Bd.bytes
  have hml : c.maxLocals = 2 := hml0
  have hown : s.vm.findClass cS1 = some m.cls := findClass_of_methodNamed Bd.named
  have hnm := (name_of_methodNamed Bd.named Bd.method).1
  have X0 : Stand p l e ({ frames := 3, cells := 0, slots := 0, locals := 40 } : Room) s m #[(.ref r0), (.int 1)] below meth c s₁ [] 0 0 := Stand.of_body Bd
  have e0 : s₁.heap = h0 := by rw [← hh, Bd.state]; rfl
  have N0 := Fr.nil n0
  have k0 : ∀ t, OwnS p e below s₁ (mkF m 0 #[rv r0, iv 1] []) t → OwnS p e below s₁ (entryFrame m #[(.ref r0), (.int 1)] 2) t := fun t k => castTop (ef_26 m r0 (1 : Int32)) k
  obtain ⟨_, _, ⟨T1, L1, j1, i1⟩, -, X1, ⟨Lc1, hQ1, l1, y1, z1⟩, st1⟩ := Jvm.LawKit.callS X0 hx (y := (⟨cS1, "checkIndex", "(I[B)V"⟩ : MethodName)) hown (mvT hZ (own_at hw 117 rfl)) (mvT hZ (own_at hw 118 rfl)) (mvT hZ (own_at hw 22 rfl)) (mvT hZ (own_at hw 119 rfl)) (by decide) (backOf (W := 0) (rmUK_5 l Z a0 hw [] (1 : Int32) r0 w_F kB [(.int (((x0 >>> ((0 : Int32) &&& 31)).toInt8.toInt32).toInt8.toInt32)), (.int (((x0 >>> ((8 : Int32) &&& 31)).toInt8.toInt32).toInt8.toInt32)), (.int (((x1 >>> ((0 : Int32) &&& 31)).toInt8.toInt32).toInt8.toInt32)), (.int (((x1 >>> ((8 : Int32) &&& 31)).toInt8.toInt32).toInt8.toInt32)), (.int (((x2 >>> ((0 : Int32) &&& 31)).toInt8.toInt32).toInt8.toInt32)), (.int (((x2 >>> ((8 : Int32) &&& 31)).toInt8.toInt32).toInt8.toInt32)), (.int (((x3 >>> ((0 : Int32) &&& 31)).toInt8.toInt32).toInt8.toInt32)), (.int (((x3 >>> ((8 : Int32) &&& 31)).toInt8.toInt32).toInt8.toInt32)), (.int (((x4 >>> ((0 : Int32) &&& 31)).toInt8.toInt32).toInt8.toInt32)), (.int (((x4 >>> ((8 : Int32) &&& 31)).toInt8.toInt32).toInt8.toInt32))] h0 n0 Z0 S_F hwF V_r0 (by decide : ¬ ((1 : Int32) < (0 : Int32))) (by decide : (1 : Int32) < (5 : Int32))) hZ (own_at hw 119 rfl) (own_at hw 22 rfl) (by decide) (by decide)) (g := (mkF m 2 #[rv r0, iv 1] [(.ref r0), (.int 1)])) rfl (by rw [hml]; rfl) (argsL := [(.int 1), (.ref r0)]) (rest := []) (lenOf pd_12 rfl) rfl (Nat.le_refl _) (hb hby d26_2) (fun _ _ => ⟨rfl, e0, (by decide : 0 + 0 ≤ _), (by decide : 0 + 0 ≤ _)⟩)
  dsimp only [Pt.U, Pt.locs, Pt.cells, Pt.slots] at X1 l1 y1 z1 st1 hQ1
  subst l1 y1 z1
  obtain ⟨rfl, N1q, e1⟩ := hQ1
  have N1 := Fr.app N0 N1q
  obtain ⟨_, _, ⟨T2, L2, j2, i2⟩, -, X2, ⟨Lc2, hQ2, l2, y2, z2⟩, st2⟩ := Jvm.LawKit.callS X1 hx (y := (⟨cS1, "getChar", "([BI)C"⟩ : MethodName)) hown (mvT hZ (own_at hw 110 rfl)) (mvT hZ (own_at hw 111 rfl)) (mvT hZ (own_at hw 22 rfl)) (mvT hZ (own_at hw 112 rfl)) (by decide) (backOf (W := 0) (rmGC_5_1 l Z a0 hw [] r0 kB x0 x1 x2 x3 x4 h0 n0 Z0 S_AD S_HI S_LO V_r0 hch_x1) hZ (own_at hw 112 rfl) (own_at hw 22 rfl) (by decide) (by decide)) (g := (mkF m 7 #[rv r0, iv 1] [(.int 1), (.ref r0)])) rfl (by rw [hml]; rfl) (argsL := [(.ref r0), (.int 1)]) (rest := []) (lenOf pd_6 rfl) rfl (Nat.le_refl _) (hb hby d26_7) (fun _ _ => ⟨rfl, e1, (by decide : 0 + 0 ≤ _), (by decide : 0 + 0 ≤ _)⟩)
  dsimp only [Pt.U, Pt.locs, Pt.cells, Pt.slots] at X2 l2 y2 z2 st2 hQ2
  subst l2 y2 z2
  obtain ⟨rfl, N2q, e2⟩ := hQ2
  have N2 := Fr.app N1 N2q
  obtain ⟨fs, hr, hrun, hended, hW, hsame⟩ := X2.leave (v := some (.int (x1.toUInt32.toUInt16.toUInt32.toInt32))) (fun h => by rw [Bd.returns] at h; cases h)
  refine ⟨_, _, k0 _ ?_, hrun, hended, _, _, rfl, ?_, ⟨_, rfl⟩, hW, hsame.mono (by decide) (by decide)⟩
  · show OwnS p e below s₁ (mkF m 0 #[rv r0, iv 1] []) _
    refine oIn X0 hx hby d26_0 rfl (oAn X0 hx hby d26_1 rfl rfl ?_)
    refine st1 _ ?_
    refine oAn X1 hx hby d26_5 rfl rfl (oIn X1 hx hby d26_6 rfl ?_)
    refine st2 _ ?_
    exact retN X2 hx (t := .char) Bd.returns (by simp) (hb hby d26_10) hr
  · show Q_UC_5_1 Z _ _ _ _ _ _ _ _ h0 n0 _ T2.heap _
    rw [e2]
    exact ⟨(congrArg some (congrArg Value.int (own_i2cid hch_x1))), N2, rfl⟩
def Q_CA_5_1 (Z : State) (r0 : Addr) (w_CS : Int32) (w_F : Value) (x0 : Int32) (x1 : Int32) (x2 : Int32) (x3 : Int32) (x4 : Int32) (h0 : Heap) (n0 : Nat) (v : Option Value) (h : Heap) (L : List Loc) : Prop := v = some (.int x1) ∧ Fr n0 L ∧ h = h0
set_option maxRecDepth 65536 in
set_option maxHeartbeats 40000000 in
theorem rmCA_5_1 (l : Launch) (Z : State) (a0 : Array Value) (hw : ∀ d ∈ tables_1, d.before a0 Z = true) (ws : List Jvm.Cond) (r0 : Addr) (w_CS : Int32) (w_F : Value) (x0 : Int32) (x1 : Int32) (x2 : Int32) (x3 : Int32) (x4 : Int32) (h0 : Heap) (n0 : Nat) (Z0 : n0 ≤ h0.size) (S_CS : Sta Z h0 cS0 cS13 "Z" (.int w_CS)) (hcs : ¬ (w_CS = (0 : Int32))) (S_F : Sta Z h0 cS4 cS14 cS5 w_F) (hwF : w_F.isRef = true) (S_AD : Sta Z h0 cS1 cS6 "Z" (.int 1)) (S_HI : Sta Z h0 cS1 cS7 "I" (.int 0)) (S_LO : Sta Z h0 cS1 cS8 "I" (.int 8)) (P_r0 : own_S5 Z h0 r0 x0 x1 x2 x3 x4) (hch_x1 : own_ch x1) :
    MetFree l (⟨cS0, "charAt", "(I)C"⟩ : MethodName) (head1 (Jvm.Cond.code (⟨cS0, "charAt", "(I)C"⟩ : MethodName) jdk_42_method_56_code 2 (some .char) :: ws) ({ frames := 4, cells := 0, slots := 0, locals := 53 } : Room)) (fun a U => a = #[(.ref r0), (.int 1)] ∧ Z.Warmed39 U.vm ∧ U.heap = h0) (fun _ _ _ _ _ => True) (fun _ U o U' => ∃ v L, o = .returned v ∧ Q_CA_5_1 Z r0 w_CS w_F x0 x1 x2 x3 x4 h0 n0 v U'.heap L ∧ FrameEnd U o U' L 0 0) := by
  refine MetFree.of_bodySF (plainFor_of_name pn_java_lang_String) hisR ?_
  intro p e s m args below meth c s₁ Bd hml0 hP hK
  obtain ⟨rfl, hZ, hh⟩ := hP
  have hx := Bd.exec
  have hby := Bd.bytes
  have hml : c.maxLocals = 2 := hml0
  have hown : s.vm.findClass cS0 = some m.cls := findClass_of_methodNamed Bd.named
  have hnm := (name_of_methodNamed Bd.named Bd.method).1
  have X0 : Stand p l e ({ frames := 4, cells := 0, slots := 0, locals := 53 } : Room) s m #[(.ref r0), (.int 1)] below meth c s₁ [] 0 0 := Stand.of_body Bd
  have e0 : s₁.heap = h0 := by rw [← hh, Bd.state]; rfl
  have N0 := Fr.nil n0
  have k0 : ∀ t, OwnS p e below s₁ (mkF m 0 #[rv r0, iv 1] []) t → OwnS p e below s₁ (entryFrame m #[(.ref r0), (.int 1)] 2) t := fun t k => castTop (ef_13 m r0 (1 : Int32)) k
  rcases id P_r0 with ⟨eS, ⟨sA, kS, fC, fV, vA, hl0, hl1, hl2, hl3, hl4⟩ | ⟨sA, kS, fC, fV, vA⟩⟩
  · skip
    obtain ⟨cq1, kq1, q1a, q1b, q1c⟩ := isOf hZ e0 eS
    obtain ⟨_, _, ⟨T1, L1, j1, i1⟩, -, X1, ⟨Lc1, hQ1, l1, y1, z1⟩, st1⟩ := X0.virtualBack hx (y := (⟨cS0, "isLatin1", "()Z"⟩ : MethodName)) (z := (⟨cS0, "isLatin1", "()Z"⟩ : MethodName)) hown (mvT hZ (own_at hw 67 rfl)) (mvT hZ (own_at hw 68 rfl)) (notFace_of_selects (args := #[]) (mvT hZ (own_at hw 70 rfl))) (mvT hZ (own_at hw 70 rfl)) (mvT hZ (own_at hw 69 rfl)) (by decide) (backOf (W := 0) (rmIL0 l Z a0 hw [] r0 w_CS h0 n0 Z0 S_CS hcs fC) hZ (own_at hw 71 rfl) (own_at hw 8 rfl) (by decide) (by decide)) q1a q1c (g := (mkF m 1 #[rv r0, iv 1] [(.ref r0)])) rfl (by rw [hml]; rfl) (Steps.refl _) (argsL := []) (rest := []) (lenOf pd_13 rfl) rfl (Nat.le_refl _) (hb hby d13_1) (fun _ _ => ⟨rfl, e0, (by decide : 0 + 0 ≤ _), (by decide : 0 + 0 ≤ _)⟩)
    dsimp only [Pt.U, Pt.locs, Pt.cells, Pt.slots] at X1 l1 y1 z1 st1 hQ1
    subst l1 y1 z1
    obtain ⟨rfl, N1q, e1⟩ := hQ1
    have N1 := Fr.app N0 N1q
    obtain ⟨T2, X2, e2, st2⟩ := getF X1 hx hZ hown (host := "") (Or.inl (own_at hw 33 rfl)) Via.refl e1 fV (g := (mkF m 8 #[rv r0, iv 1] [(.ref r0)])) rfl rfl (hb hby d13_8)
    obtain ⟨_, _, ⟨T3, L3, j3, i3⟩, -, X3, ⟨Lc3, hQ3, l3, y3, z3⟩, st3⟩ := Jvm.LawKit.callS X2 hx (y := (⟨cS15, "charAt", "([BI)C"⟩ : MethodName)) hown (mvT hZ (own_at hw 72 rfl)) (mvT hZ (own_at hw 73 rfl)) (mvT hZ (own_at hw 74 rfl)) (mvT hZ (own_at hw 75 rfl)) (by decide) (backOf (W := 0) (rmLC_5_1 l Z a0 hw [] sA w_F kS x0 x1 x2 x3 x4 h0 n0 Z0 S_F hwF vA hch_x1 hl1) hZ (own_at hw 75 rfl) (own_at hw 74 rfl) (by decide) (by decide)) (g := (mkF m 12 #[rv r0, iv 1] [(.int 1), (.ref sA)])) rfl (by rw [hml]; rfl) (argsL := [(.ref sA), (.int 1)]) (rest := []) (lenOf pd_6 rfl) rfl (Nat.le_refl _) (hb hby d13_12) (fun _ _ => ⟨rfl, e2, (by decide : 0 + 0 ≤ _), (by decide : 0 + 0 ≤ _)⟩)
    dsimp only [Pt.U, Pt.locs, Pt.cells, Pt.slots] at X3 l3 y3 z3 st3 hQ3
    subst l3 y3 z3
    obtain ⟨rfl, N3q, e3⟩ := hQ3
    have N3 := Fr.app N1 N3q
    obtain ⟨fs, hr, hrun, hended, hW, hsame⟩ := X3.leave (v := some (.int (x1.toUInt32.toUInt16.toUInt32.toInt32))) (fun h => by rw [Bd.returns] at h; cases h)
    refine ⟨_, _, k0 _ ?_, hrun, hended, _, _, rfl, ?_, ⟨_, rfl⟩, hW, hsame.mono (by decide) (by decide)⟩
    · show OwnS p e below s₁ (mkF m 0 #[rv r0, iv 1] []) _
      refine oAn X0 hx hby d13_0 rfl rfl ?_
      refine st1.trans ?_
      refine XS.ifNo X1.here hx rfl (hb hby d13_4) rfl ((if0 _ _).trans (feq (by decide : ¬ ((1 : Int32) = (0 : Int32)))).1) ?_
      refine oAn X1 hx hby d13_7 rfl rfl ?_
      refine st2 _ ?_
      refine oIn X2 hx hby d13_11 rfl ?_
      refine st3 _ ?_
      exact retN X3 hx (t := .char) Bd.returns (by simp) (hb hby d13_15) hr
    · show Q_CA_5_1 Z _ _ _ _ _ _ _ _ h0 n0 _ T3.heap _
      rw [e3]
      exact ⟨(congrArg some (congrArg Value.int (own_i2cid hch_x1))), N3, rfl⟩
  · skip
    obtain ⟨cq4, kq4, q4a, q4b, q4c⟩ := isOf hZ e0 eS
    obtain ⟨_, _, ⟨T4, L4, j4, i4⟩, -, X4, ⟨Lc4, hQ4, l4, y4, z4⟩, st4⟩ := X0.virtualBack hx (y := (⟨cS0, "isLatin1", "()Z"⟩ : MethodName)) (z := (⟨cS0, "isLatin1", "()Z"⟩ : MethodName)) hown (mvT hZ (own_at hw 67 rfl)) (mvT hZ (own_at hw 68 rfl)) (notFace_of_selects (args := #[]) (mvT hZ (own_at hw 70 rfl))) (mvT hZ (own_at hw 70 rfl)) (mvT hZ (own_at hw 69 rfl)) (by decide) (backOf (W := 0) (rmIL1 l Z a0 hw [] r0 w_CS h0 n0 Z0 S_CS hcs fC) hZ (own_at hw 71 rfl) (own_at hw 8 rfl) (by decide) (by decide)) q4a q4c (g := (mkF m 1 #[rv r0, iv 1] [(.ref r0)])) rfl (by rw [hml]; rfl) (Steps.refl _) (argsL := []) (rest := []) (lenOf pd_13 rfl) rfl (Nat.le_refl _) (hb hby d13_1) (fun _ _ => ⟨rfl, e0, (by decide : 0 + 0 ≤ _), (by decide : 0 + 0 ≤ _)⟩)
    dsimp only [Pt.U, Pt.locs, Pt.cells, Pt.slots] at X4 l4 y4 z4 st4 hQ4
    subst l4 y4 z4
    obtain ⟨rfl, N4q, e4⟩ := hQ4
    have N4 := Fr.app N0 N4q
    obtain ⟨T5, X5, e5, st5⟩ := getF X4 hx hZ hown (host := "") (Or.inl (own_at hw 33 rfl)) Via.refl e4 fV (g := (mkF m 17 #[rv r0, iv 1] [(.ref r0)])) rfl rfl (hb hby d13_17)
    obtain ⟨_, _, ⟨T6, L6, j6, i6⟩, -, X6, ⟨Lc6, hQ6, l6, y6, z6⟩, st6⟩ := Jvm.LawKit.callS X5 hx (y := (⟨cS1, "charAt", "([BI)C"⟩ : MethodName)) hown (mvT hZ (own_at hw 114 rfl)) (mvT hZ (own_at hw 115 rfl)) (mvT hZ (own_at hw 22 rfl)) (mvT hZ (own_at hw 116 rfl)) (by decide) (backOf (W := 0) (rmUC_5_1 l Z a0 hw [] sA w_F kS x0 x1 x2 x3 x4 h0 n0 Z0 S_F hwF S_AD S_HI S_LO vA hch_x1) hZ (own_at hw 116 rfl) (own_at hw 22 rfl) (by decide) (by decide)) (g := (mkF m 21 #[rv r0, iv 1] [(.int 1), (.ref sA)])) rfl (by rw [hml]; rfl) (argsL := [(.ref sA), (.int 1)]) (rest := []) (lenOf pd_6 rfl) rfl (Nat.le_refl _) (hb hby d13_21) (fun _ _ => ⟨rfl, e5, (by decide : 0 + 0 ≤ _), (by decide : 0 + 0 ≤ _)⟩)
    dsimp only [Pt.U, Pt.locs, Pt.cells, Pt.slots] at X6 l6 y6 z6 st6 hQ6
    subst l6 y6 z6
    obtain ⟨rfl, N6q, e6⟩ := hQ6
    have N6 := Fr.app N4 N6q
    obtain ⟨fs, hr, hrun, hended, hW, hsame⟩ := X6.leave (v := some (.int (x1.toUInt32.toUInt16.toUInt32.toInt32))) (fun h => by rw [Bd.returns] at h; cases h)
    refine ⟨_, _, k0 _ ?_, hrun, hended, _, _, rfl, ?_, ⟨_, rfl⟩, hW, hsame.mono (by decide) (by decide)⟩
    · show OwnS p e below s₁ (mkF m 0 #[rv r0, iv 1] []) _
      refine oAn X0 hx hby d13_0 rfl rfl ?_
      refine st4.trans ?_
      refine XS.ifYes X4.here hx rfl (pc0 := 4) (pc' := 16) rfl (hb hby d13_4) rfl ((if0 _ _).trans (teq (by decide : (0 : Int32) = (0 : Int32))).1) (by decide) (by decide) ?_
      refine oAn X4 hx hby d13_16 rfl rfl ?_
      refine st5 _ ?_
      refine oIn X5 hx hby d13_20 rfl ?_
      refine st6 _ ?_
      exact retN X6 hx (t := .char) Bd.returns (by simp) (hb hby d13_24) hr
    · show Q_CA_5_1 Z _ _ _ _ _ _ _ _ h0 n0 _ T6.heap _
      rw [e6]
      exact ⟨(congrArg some (congrArg Value.int (own_i2cid hch_x1))), N6, rfl⟩
def Q_UC_5_2 (Z : State) (r0 : Addr) (w_F : Value) (kB : ClassId) (x0 : Int32) (x1 : Int32) (x2 : Int32) (x3 : Int32) (x4 : Int32) (h0 : Heap) (n0 : Nat) (v : Option Value) (h : Heap) (L : List Loc) : Prop := v = some (.int x2) ∧ Fr n0 L ∧ h = h0
set_option maxRecDepth 65536 in
set_option maxHeartbeats 40000000 in
theorem rmUC_5_2 (l : Launch) (Z : State) (a0 : Array Value) (hw : ∀ d ∈ tables_1, d.before a0 Z = true) (ws : List Jvm.Cond) (r0 : Addr) (w_F : Value) (kB : ClassId) (x0 : Int32) (x1 : Int32) (x2 : Int32) (x3 : Int32) (x4 : Int32) (h0 : Heap) (n0 : Nat) (Z0 : n0 ≤ h0.size) (S_F : Sta Z h0 cS4 cS14 cS5 w_F) (hwF : w_F.isRef = true) (S_AD : Sta Z h0 cS1 cS6 "Z" (.int 1)) (S_HI : Sta Z h0 cS1 cS7 "I" (.int 0)) (S_LO : Sta Z h0 cS1 cS8 "I" (.int 8)) (V_r0 : Arv Z h0 r0 kB .byte (10 : Int32) [(.int (((x0 >>> ((0 : Int32) &&& 31)).toInt8.toInt32).toInt8.toInt32)), (.int (((x0 >>> ((8 : Int32) &&& 31)).toInt8.toInt32).toInt8.toInt32)), (.int (((x1 >>> ((0 : Int32) &&& 31)).toInt8.toInt32).toInt8.toInt32)), (.int (((x1 >>> ((8 : Int32) &&& 31)).toInt8.toInt32).toInt8.toInt32)), (.int (((x2 >>> ((0 : Int32) &&& 31)).toInt8.toInt32).toInt8.toInt32)), (.int (((x2 >>> ((8 : Int32) &&& 31)).toInt8.toInt32).toInt8.toInt32)), (.int (((x3 >>> ((0 : Int32) &&& 31)).toInt8.toInt32).toInt8.toInt32)), (.int (((x3 >>> ((8 : Int32) &&& 31)).toInt8.toInt32).toInt8.toInt32)), (.int (((x4 >>> ((0 : Int32) &&& 31)).toInt8.toInt32).toInt8.toInt32)), (.int (((x4 >>> ((8 : Int32) &&& 31)).toInt8.toInt32).toInt8.toInt32))] (.int 0)) (hch_x2 : own_ch x2) :
    MetFree l (⟨cS1, "charAt", "([BI)C"⟩ : MethodName) (head1 (Jvm.Cond.code (⟨cS1, "charAt", "([BI)C"⟩ : MethodName) jdk_52_method_83_code 2 (some .char) :: ws) ({ frames := 3, cells := 0, slots := 0, locals := 40 } : Room)) (fun a U => a = #[(.ref r0), (.int 2)] ∧ Z.Warmed39 U.vm ∧ U.heap = h0) (fun _ _ _ _ _ => True) (fun _ U o U' => ∃ v L, o = .returned v ∧ Q_UC_5_2 Z r0 w_F kB x0 x1 x2 x3 x4 h0 n0 v U'.heap L ∧ FrameEnd U o U' L 0 0) := by
  refine MetFree.of_bodySF (plainFor_of_name pn_java_lang_StringUTF16) hisR ?_
  intro p e s m args below meth c s₁ Bd hml0 hP hK
  obtain ⟨rfl, hZ, hh⟩ := hP
  have hx := Bd.exec
  have hby := Bd.bytes
  have hml : c.maxLocals = 2 := hml0
  have hown : s.vm.findClass cS1 = some m.cls := findClass_of_methodNamed Bd.named
  have hnm := (name_of_methodNamed Bd.named Bd.method).1
  have X0 : Stand p l e ({ frames := 3, cells := 0, slots := 0, locals := 40 } : Room) s m #[(.ref r0), (.int 2)] below meth c s₁ [] 0 0 := Stand.of_body Bd
  have e0 : s₁.heap = h0 := by rw [← hh, Bd.state]; rfl
  have N0 := Fr.nil n0
  have k0 : ∀ t, OwnS p e below s₁ (mkF m 0 #[rv r0, iv 2] []) t → OwnS p e below s₁ (entryFrame m #[(.ref r0), (.int 2)] 2) t := fun t k => castTop (ef_26 m r0 (2 : Int32)) k
  obtain ⟨_, _, ⟨T1, L1, j1, i1⟩, -, X1, ⟨Lc1, hQ1, l1, y1, z1⟩, st1⟩ := Jvm.LawKit.callS X0 hx (y := (⟨cS1, "checkIndex", "(I[B)V"⟩ : MethodName)) hown (mvT hZ (own_at hw 117 rfl)) (mvT hZ (own_at hw 118 rfl)) (mvT hZ (own_at hw 22 rfl)) (mvT hZ (own_at hw 119 rfl)) (by decide) (backOf (W := 0) (rmUK_5 l Z a0 hw [] (2 : Int32) r0 w_F kB [(.int (((x0 >>> ((0 : Int32) &&& 31)).toInt8.toInt32).toInt8.toInt32)), (.int (((x0 >>> ((8 : Int32) &&& 31)).toInt8.toInt32).toInt8.toInt32)), (.int (((x1 >>> ((0 : Int32) &&& 31)).toInt8.toInt32).toInt8.toInt32)), (.int (((x1 >>> ((8 : Int32) &&& 31)).toInt8.toInt32).toInt8.toInt32)), (.int (((x2 >>> ((0 : Int32) &&& 31)).toInt8.toInt32).toInt8.toInt32)), (.int (((x2 >>> ((8 : Int32) &&& 31)).toInt8.toInt32).toInt8.toInt32)), (.int (((x3 >>> ((0 : Int32) &&& 31)).toInt8.toInt32).toInt8.toInt32)), (.int (((x3 >>> ((8 : Int32) &&& 31)).toInt8.toInt32).toInt8.toInt32)), (.int (((x4 >>> ((0 : Int32) &&& 31)).toInt8.toInt32).toInt8.toInt32)), (.int (((x4 >>> ((8 : Int32) &&& 31)).toInt8.toInt32).toInt8.toInt32))] h0 n0 Z0 S_F hwF V_r0 (by decide : ¬ ((2 : Int32) < (0 : Int32))) (by decide : (2 : Int32) < (5 : Int32))) hZ (own_at hw 119 rfl) (own_at hw 22 rfl) (by decide) (by decide)) (g := (mkF m 2 #[rv r0, iv 2] [(.ref r0), (.int 2)])) rfl (by rw [hml]; rfl) (argsL := [(.int 2), (.ref r0)]) (rest := []) (lenOf pd_12 rfl) rfl (Nat.le_refl _) (hb hby d26_2) (fun _ _ => ⟨rfl, e0, (by decide : 0 + 0 ≤ _), (by decide : 0 + 0 ≤ _)⟩)
  dsimp only [Pt.U, Pt.locs, Pt.cells, Pt.slots] at X1 l1 y1 z1 st1 hQ1
  subst l1 y1 z1
  obtain ⟨rfl, N1q, e1⟩ := hQ1
  have N1 := Fr.app N0 N1q
  obtain ⟨_, _, ⟨T2, L2, j2, i2⟩, -, X2, ⟨Lc2, hQ2, l2, y2, z2⟩, st2⟩ := Jvm.LawKit.callS X1 hx (y := (⟨cS1, "getChar", "([BI)C"⟩ : MethodName)) hown (mvT hZ (own_at hw 110 rfl)) (mvT hZ (own_at hw 111 rfl)) (mvT hZ (own_at hw 22 rfl)) (mvT hZ (own_at hw 112 rfl)) (by decide) (backOf (W := 0) (rmGC_5_2 l Z a0 hw [] r0 kB x0 x1 x2 x3 x4 h0 n0 Z0 S_AD S_HI S_LO V_r0 hch_x2) hZ (own_at hw 112 rfl) (own_at hw 22 rfl) (by decide) (by decide)) (g := (mkF m 7 #[rv r0, iv 2] [(.int 2), (.ref r0)])) rfl (by rw [hml]; rfl) (argsL := [(.ref r0), (.int 2)]) (rest := []) (lenOf pd_6 rfl) rfl (Nat.le_refl _) (hb hby d26_7) (fun _ _ => ⟨rfl, e1, (by decide : 0 + 0 ≤ _), (by decide : 0 + 0 ≤ _)⟩)
  dsimp only [Pt.U, Pt.locs, Pt.cells, Pt.slots] at X2 l2 y2 z2 st2 hQ2
  subst l2 y2 z2
  obtain ⟨rfl, N2q, e2⟩ := hQ2
  have N2 := Fr.app N1 N2q
  obtain ⟨fs, hr, hrun, hended, hW, hsame⟩ := X2.leave (v := some (.int (x2.toUInt32.toUInt16.toUInt32.toInt32))) (fun h => by rw [Bd.returns] at h; cases h)
  refine ⟨_, _, k0 _ ?_, hrun, hended, _, _, rfl, ?_, ⟨_, rfl⟩, hW, hsame.mono (by decide) (by decide)⟩
  · show OwnS p e below s₁ (mkF m 0 #[rv r0, iv 2] []) _
    refine oIn X0 hx hby d26_0 rfl (oAn X0 hx hby d26_1 rfl rfl ?_)
    refine st1 _ ?_
    refine oAn X1 hx hby d26_5 rfl rfl (oIn X1 hx hby d26_6 rfl ?_)
    refine st2 _ ?_
    exact retN X2 hx (t := .char) Bd.returns (by simp) (hb hby d26_10) hr
  · show Q_UC_5_2 Z _ _ _ _ _ _ _ _ h0 n0 _ T2.heap _
    rw [e2]
    exact ⟨(congrArg some (congrArg Value.int (own_i2cid hch_x2))), N2, rfl⟩
def Q_CA_5_2 (Z : State) (r0 : Addr) (w_CS : Int32) (w_F : Value) (x0 : Int32) (x1 : Int32) (x2 : Int32) (x3 : Int32) (x4 : Int32) (h0 : Heap) (n0 : Nat) (v : Option Value) (h : Heap) (L : List Loc) : Prop := v = some (.int x2) ∧ Fr n0 L ∧ h = h0
set_option maxRecDepth 65536 in
set_option maxHeartbeats 40000000 in
theorem rmCA_5_2 (l : Launch) (Z : State) (a0 : Array Value) (hw : ∀ d ∈ tables_1, d.before a0 Z = true) (ws : List Jvm.Cond) (r0 : Addr) (w_CS : Int32) (w_F : Value) (x0 : Int32) (x1 : Int32) (x2 : Int32) (x3 : Int32) (x4 : Int32) (h0 : Heap) (n0 : Nat) (Z0 : n0 ≤ h0.size) (S_CS : Sta Z h0 cS0 cS13 "Z" (.int w_CS)) (hcs : ¬ (w_CS = (0 : Int32))) (S_F : Sta Z h0 cS4 cS14 cS5 w_F) (hwF : w_F.isRef = true) (S_AD : Sta Z h0 cS1 cS6 "Z" (.int 1)) (S_HI : Sta Z h0 cS1 cS7 "I" (.int 0)) (S_LO : Sta Z h0 cS1 cS8 "I" (.int 8)) (P_r0 : own_S5 Z h0 r0 x0 x1 x2 x3 x4) (hch_x2 : own_ch x2) :
    MetFree l (⟨cS0, "charAt", "(I)C"⟩ : MethodName) (head1 (Jvm.Cond.code (⟨cS0, "charAt", "(I)C"⟩ : MethodName) jdk_42_method_56_code 2 (some .char) :: ws) ({ frames := 4, cells := 0, slots := 0, locals := 53 } : Room)) (fun a U => a = #[(.ref r0), (.int 2)] ∧ Z.Warmed39 U.vm ∧ U.heap = h0) (fun _ _ _ _ _ => True) (fun _ U o U' => ∃ v L, o = .returned v ∧ Q_CA_5_2 Z r0 w_CS w_F x0 x1 x2 x3 x4 h0 n0 v U'.heap L ∧ FrameEnd U o U' L 0 0) := by
  refine MetFree.of_bodySF (plainFor_of_name pn_java_lang_String) hisR ?_
  intro p e s m args below meth c s₁ Bd hml0 hP hK
  obtain ⟨rfl, hZ, hh⟩ := hP
  have hx := Bd.exec
  have hby := Bd.bytes
  have hml : c.maxLocals = 2 := hml0
  have hown : s.vm.findClass cS0 = some m.cls := findClass_of_methodNamed Bd.named
  have hnm := (name_of_methodNamed Bd.named Bd.method).1
  have X0 : Stand p l e ({ frames := 4, cells := 0, slots := 0, locals := 53 } : Room) s m #[(.ref r0), (.int 2)] below meth c s₁ [] 0 0 := Stand.of_body Bd
  have e0 : s₁.heap = h0 := by rw [← hh, Bd.state]; rfl
  have N0 := Fr.nil n0
  have k0 : ∀ t, OwnS p e below s₁ (mkF m 0 #[rv r0, iv 2] []) t → OwnS p e below s₁ (entryFrame m #[(.ref r0), (.int 2)] 2) t := fun t k => castTop (ef_13 m r0 (2 : Int32)) k
  rcases id P_r0 with ⟨eS, ⟨sA, kS, fC, fV, vA, hl0, hl1, hl2, hl3, hl4⟩ | ⟨sA, kS, fC, fV, vA⟩⟩
  · skip
    obtain ⟨cq1, kq1, q1a, q1b, q1c⟩ := isOf hZ e0 eS
    obtain ⟨_, _, ⟨T1, L1, j1, i1⟩, -, X1, ⟨Lc1, hQ1, l1, y1, z1⟩, st1⟩ := X0.virtualBack hx (y := (⟨cS0, "isLatin1", "()Z"⟩ : MethodName)) (z := (⟨cS0, "isLatin1", "()Z"⟩ : MethodName)) hown (mvT hZ (own_at hw 67 rfl)) (mvT hZ (own_at hw 68 rfl)) (notFace_of_selects (args := #[]) (mvT hZ (own_at hw 70 rfl))) (mvT hZ (own_at hw 70 rfl)) (mvT hZ (own_at hw 69 rfl)) (by decide) (backOf (W := 0) (rmIL0 l Z a0 hw [] r0 w_CS h0 n0 Z0 S_CS hcs fC) hZ (own_at hw 71 rfl) (own_at hw 8 rfl) (by decide) (by decide)) q1a q1c (g := (mkF m 1 #[rv r0, iv 2] [(.ref r0)])) rfl (by rw [hml]; rfl) (Steps.refl _) (argsL := []) (rest := []) (lenOf pd_13 rfl) rfl (Nat.le_refl _) (hb hby d13_1) (fun _ _ => ⟨rfl, e0, (by decide : 0 + 0 ≤ _), (by decide : 0 + 0 ≤ _)⟩)
    dsimp only [Pt.U, Pt.locs, Pt.cells, Pt.slots] at X1 l1 y1 z1 st1 hQ1
    subst l1 y1 z1
    obtain ⟨rfl, N1q, e1⟩ := hQ1
    have N1 := Fr.app N0 N1q
    obtain ⟨T2, X2, e2, st2⟩ := getF X1 hx hZ hown (host := "") (Or.inl (own_at hw 33 rfl)) Via.refl e1 fV (g := (mkF m 8 #[rv r0, iv 2] [(.ref r0)])) rfl rfl (hb hby d13_8)
    obtain ⟨_, _, ⟨T3, L3, j3, i3⟩, -, X3, ⟨Lc3, hQ3, l3, y3, z3⟩, st3⟩ := Jvm.LawKit.callS X2 hx (y := (⟨cS15, "charAt", "([BI)C"⟩ : MethodName)) hown (mvT hZ (own_at hw 72 rfl)) (mvT hZ (own_at hw 73 rfl)) (mvT hZ (own_at hw 74 rfl)) (mvT hZ (own_at hw 75 rfl)) (by decide) (backOf (W := 0) (rmLC_5_2 l Z a0 hw [] sA w_F kS x0 x1 x2 x3 x4 h0 n0 Z0 S_F hwF vA hch_x2 hl2) hZ (own_at hw 75 rfl) (own_at hw 74 rfl) (by decide) (by decide)) (g := (mkF m 12 #[rv r0, iv 2] [(.int 2), (.ref sA)])) rfl (by rw [hml]; rfl) (argsL := [(.ref sA), (.int 2)]) (rest := []) (lenOf pd_6 rfl) rfl (Nat.le_refl _) (hb hby d13_12) (fun _ _ => ⟨rfl, e2, (by decide : 0 + 0 ≤ _), (by decide : 0 + 0 ≤ _)⟩)
    dsimp only [Pt.U, Pt.locs, Pt.cells, Pt.slots] at X3 l3 y3 z3 st3 hQ3
    subst l3 y3 z3
    obtain ⟨rfl, N3q, e3⟩ := hQ3
    have N3 := Fr.app N1 N3q
    obtain ⟨fs, hr, hrun, hended, hW, hsame⟩ := X3.leave (v := some (.int (x2.toUInt32.toUInt16.toUInt32.toInt32))) (fun h => by rw [Bd.returns] at h; cases h)
    refine ⟨_, _, k0 _ ?_, hrun, hended, _, _, rfl, ?_, ⟨_, rfl⟩, hW, hsame.mono (by decide) (by decide)⟩
    · show OwnS p e below s₁ (mkF m 0 #[rv r0, iv 2] []) _
      refine oAn X0 hx hby d13_0 rfl rfl ?_
      refine st1.trans ?_
      refine XS.ifNo X1.here hx rfl (hb hby d13_4) rfl ((if0 _ _).trans (feq (by decide : ¬ ((1 : Int32) = (0 : Int32)))).1) ?_
      refine oAn X1 hx hby d13_7 rfl rfl ?_
      refine st2 _ ?_
      refine oIn X2 hx hby d13_11 rfl ?_
      refine st3 _ ?_
      exact retN X3 hx (t := .char) Bd.returns (by simp) (hb hby d13_15) hr
    · show Q_CA_5_2 Z _ _ _ _ _ _ _ _ h0 n0 _ T3.heap _
      rw [e3]
      exact ⟨(congrArg some (congrArg Value.int (own_i2cid hch_x2))), N3, rfl⟩
  · skip
    obtain ⟨cq4, kq4, q4a, q4b, q4c⟩ := isOf hZ e0 eS
    obtain ⟨_, _, ⟨T4, L4, j4, i4⟩, -, X4, ⟨Lc4, hQ4, l4, y4, z4⟩, st4⟩ := X0.virtualBack hx (y := (⟨cS0, "isLatin1", "()Z"⟩ : MethodName)) (z := (⟨cS0, "isLatin1", "()Z"⟩ : MethodName)) hown (mvT hZ (own_at hw 67 rfl)) (mvT hZ (own_at hw 68 rfl)) (notFace_of_selects (args := #[]) (mvT hZ (own_at hw 70 rfl))) (mvT hZ (own_at hw 70 rfl)) (mvT hZ (own_at hw 69 rfl)) (by decide) (backOf (W := 0) (rmIL1 l Z a0 hw [] r0 w_CS h0 n0 Z0 S_CS hcs fC) hZ (own_at hw 71 rfl) (own_at hw 8 rfl) (by decide) (by decide)) q4a q4c (g := (mkF m 1 #[rv r0, iv 2] [(.ref r0)])) rfl (by rw [hml]; rfl) (Steps.refl _) (argsL := []) (rest := []) (lenOf pd_13 rfl) rfl (Nat.le_refl _) (hb hby d13_1) (fun _ _ => ⟨rfl, e0, (by decide : 0 + 0 ≤ _), (by decide : 0 + 0 ≤ _)⟩)
    dsimp only [Pt.U, Pt.locs, Pt.cells, Pt.slots] at X4 l4 y4 z4 st4 hQ4
    subst l4 y4 z4
    obtain ⟨rfl, N4q, e4⟩ := hQ4
    have N4 := Fr.app N0 N4q
    obtain ⟨T5, X5, e5, st5⟩ := getF X4 hx hZ hown (host := "") (Or.inl (own_at hw 33 rfl)) Via.refl e4 fV (g := (mkF m 17 #[rv r0, iv 2] [(.ref r0)])) rfl rfl (hb hby d13_17)
    obtain ⟨_, _, ⟨T6, L6, j6, i6⟩, -, X6, ⟨Lc6, hQ6, l6, y6, z6⟩, st6⟩ := Jvm.LawKit.callS X5 hx (y := (⟨cS1, "charAt", "([BI)C"⟩ : MethodName)) hown (mvT hZ (own_at hw 114 rfl)) (mvT hZ (own_at hw 115 rfl)) (mvT hZ (own_at hw 22 rfl)) (mvT hZ (own_at hw 116 rfl)) (by decide) (backOf (W := 0) (rmUC_5_2 l Z a0 hw [] sA w_F kS x0 x1 x2 x3 x4 h0 n0 Z0 S_F hwF S_AD S_HI S_LO vA hch_x2) hZ (own_at hw 116 rfl) (own_at hw 22 rfl) (by decide) (by decide)) (g := (mkF m 21 #[rv r0, iv 2] [(.int 2), (.ref sA)])) rfl (by rw [hml]; rfl) (argsL := [(.ref sA), (.int 2)]) (rest := []) (lenOf pd_6 rfl) rfl (Nat.le_refl _) (hb hby d13_21) (fun _ _ => ⟨rfl, e5, (by decide : 0 + 0 ≤ _), (by decide : 0 + 0 ≤ _)⟩)
    dsimp only [Pt.U, Pt.locs, Pt.cells, Pt.slots] at X6 l6 y6 z6 st6 hQ6
    subst l6 y6 z6
    obtain ⟨rfl, N6q, e6⟩ := hQ6
    have N6 := Fr.app N4 N6q
    obtain ⟨fs, hr, hrun, hended, hW, hsame⟩ := X6.leave (v := some (.int (x2.toUInt32.toUInt16.toUInt32.toInt32))) (fun h => by rw [Bd.returns] at h; cases h)
    refine ⟨_, _, k0 _ ?_, hrun, hended, _, _, rfl, ?_, ⟨_, rfl⟩, hW, hsame.mono (by decide) (by decide)⟩
    · show OwnS p e below s₁ (mkF m 0 #[rv r0, iv 2] []) _
      refine oAn X0 hx hby d13_0 rfl rfl ?_
      refine st4.trans ?_
      refine XS.ifYes X4.here hx rfl (pc0 := 4) (pc' := 16) rfl (hb hby d13_4) rfl ((if0 _ _).trans (teq (by decide : (0 : Int32) = (0 : Int32))).1) (by decide) (by decide) ?_
      refine oAn X4 hx hby d13_16 rfl rfl ?_
      refine st5 _ ?_
      refine oIn X5 hx hby d13_20 rfl ?_
      refine st6 _ ?_
      exact retN X6 hx (t := .char) Bd.returns (by simp) (hb hby d13_24) hr
    · show Q_CA_5_2 Z _ _ _ _ _ _ _ _ h0 n0 _ T6.heap _
      rw [e6]
      exact ⟨(congrArg some (congrArg Value.int (own_i2cid hch_x2))), N6, rfl⟩
def Q_UC_5_3 (Z : State) (r0 : Addr) (w_F : Value) (kB : ClassId) (x0 : Int32) (x1 : Int32) (x2 : Int32) (x3 : Int32) (x4 : Int32) (h0 : Heap) (n0 : Nat) (v : Option Value) (h : Heap) (L : List Loc) : Prop := v = some (.int x3) ∧ Fr n0 L ∧ h = h0
set_option maxRecDepth 65536 in
set_option maxHeartbeats 40000000 in
theorem rmUC_5_3 (l : Launch) (Z : State) (a0 : Array Value) (hw : ∀ d ∈ tables_1, d.before a0 Z = true) (ws : List Jvm.Cond) (r0 : Addr) (w_F : Value) (kB : ClassId) (x0 : Int32) (x1 : Int32) (x2 : Int32) (x3 : Int32) (x4 : Int32) (h0 : Heap) (n0 : Nat) (Z0 : n0 ≤ h0.size) (S_F : Sta Z h0 cS4 cS14 cS5 w_F) (hwF : w_F.isRef = true) (S_AD : Sta Z h0 cS1 cS6 "Z" (.int 1)) (S_HI : Sta Z h0 cS1 cS7 "I" (.int 0)) (S_LO : Sta Z h0 cS1 cS8 "I" (.int 8)) (V_r0 : Arv Z h0 r0 kB .byte (10 : Int32) [(.int (((x0 >>> ((0 : Int32) &&& 31)).toInt8.toInt32).toInt8.toInt32)), (.int (((x0 >>> ((8 : Int32) &&& 31)).toInt8.toInt32).toInt8.toInt32)), (.int (((x1 >>> ((0 : Int32) &&& 31)).toInt8.toInt32).toInt8.toInt32)), (.int (((x1 >>> ((8 : Int32) &&& 31)).toInt8.toInt32).toInt8.toInt32)), (.int (((x2 >>> ((0 : Int32) &&& 31)).toInt8.toInt32).toInt8.toInt32)), (.int (((x2 >>> ((8 : Int32) &&& 31)).toInt8.toInt32).toInt8.toInt32)), (.int (((x3 >>> ((0 : Int32) &&& 31)).toInt8.toInt32).toInt8.toInt32)), (.int (((x3 >>> ((8 : Int32) &&& 31)).toInt8.toInt32).toInt8.toInt32)), (.int (((x4 >>> ((0 : Int32) &&& 31)).toInt8.toInt32).toInt8.toInt32)), (.int (((x4 >>> ((8 : Int32) &&& 31)).toInt8.toInt32).toInt8.toInt32))] (.int 0)) (hch_x3 : own_ch x3) :
    MetFree l (⟨cS1, "charAt", "([BI)C"⟩ : MethodName) (head1 (Jvm.Cond.code (⟨cS1, "charAt", "([BI)C"⟩ : MethodName) jdk_52_method_83_code 2 (some .char) :: ws) ({ frames := 3, cells := 0, slots := 0, locals := 40 } : Room)) (fun a U => a = #[(.ref r0), (.int 3)] ∧ Z.Warmed39 U.vm ∧ U.heap = h0) (fun _ _ _ _ _ => True) (fun _ U o U' => ∃ v L, o = .returned v ∧ Q_UC_5_3 Z r0 w_F kB x0 x1 x2 x3 x4 h0 n0 v U'.heap L ∧ FrameEnd U o U' L 0 0) := by
  refine MetFree.of_bodySF (plainFor_of_name pn_java_lang_StringUTF16) hisR ?_
  intro p e s m args below meth c s₁ Bd hml0 hP hK
  obtain ⟨rfl, hZ, hh⟩ := hP
  have hx := Bd.exec
  have hby := Bd.bytes
  have hml : c.maxLocals = 2 := hml0
  have hown : s.vm.findClass cS1 = some m.cls := findClass_of_methodNamed Bd.named
  have hnm := (name_of_methodNamed Bd.named Bd.method).1
  have X0 : Stand p l e ({ frames := 3, cells := 0, slots := 0, locals := 40 } : Room) s m #[(.ref r0), (.int 3)] below meth c s₁ [] 0 0 := Stand.of_body Bd
  have e0 : s₁.heap = h0 := by rw [← hh, Bd.state]; rfl
  have N0 := Fr.nil n0
  have k0 : ∀ t, OwnS p e below s₁ (mkF m 0 #[rv r0, iv 3] []) t → OwnS p e below s₁ (entryFrame m #[(.ref r0), (.int 3)] 2) t := fun t k => castTop (ef_26 m r0 (3 : Int32)) k
  obtain ⟨_, _, ⟨T1, L1, j1, i1⟩, -, X1, ⟨Lc1, hQ1, l1, y1, z1⟩, st1⟩ := Jvm.LawKit.callS X0 hx (y := (⟨cS1, "checkIndex", "(I[B)V"⟩ : MethodName)) hown (mvT hZ (own_at hw 117 rfl)) (mvT hZ (own_at hw 118 rfl)) (mvT hZ (own_at hw 22 rfl)) (mvT hZ (own_at hw 119 rfl)) (by decide) (backOf (W := 0) (rmUK_5 l Z a0 hw [] (3 : Int32) r0 w_F kB [(.int (((x0 >>> ((0 : Int32) &&& 31)).toInt8.toInt32).toInt8.toInt32)), (.int (((x0 >>> ((8 : Int32) &&& 31)).toInt8.toInt32).toInt8.toInt32)), (.int (((x1 >>> ((0 : Int32) &&& 31)).toInt8.toInt32).toInt8.toInt32)), (.int (((x1 >>> ((8 : Int32) &&& 31)).toInt8.toInt32).toInt8.toInt32)), (.int (((x2 >>> ((0 : Int32) &&& 31)).toInt8.toInt32).toInt8.toInt32)), (.int (((x2 >>> ((8 : Int32) &&& 31)).toInt8.toInt32).toInt8.toInt32)), (.int (((x3 >>> ((0 : Int32) &&& 31)).toInt8.toInt32).toInt8.toInt32)), (.int (((x3 >>> ((8 : Int32) &&& 31)).toInt8.toInt32).toInt8.toInt32)), (.int (((x4 >>> ((0 : Int32) &&& 31)).toInt8.toInt32).toInt8.toInt32)), (.int (((x4 >>> ((8 : Int32) &&& 31)).toInt8.toInt32).toInt8.toInt32))] h0 n0 Z0 S_F hwF V_r0 (by decide : ¬ ((3 : Int32) < (0 : Int32))) (by decide : (3 : Int32) < (5 : Int32))) hZ (own_at hw 119 rfl) (own_at hw 22 rfl) (by decide) (by decide)) (g := (mkF m 2 #[rv r0, iv 3] [(.ref r0), (.int 3)])) rfl (by rw [hml]; rfl) (argsL := [(.int 3), (.ref r0)]) (rest := []) (lenOf pd_12 rfl) rfl (Nat.le_refl _) (hb hby d26_2) (fun _ _ => ⟨rfl, e0, (by decide : 0 + 0 ≤ _), (by decide : 0 + 0 ≤ _)⟩)
  dsimp only [Pt.U, Pt.locs, Pt.cells, Pt.slots] at X1 l1 y1 z1 st1 hQ1
  subst l1 y1 z1
  obtain ⟨rfl, N1q, e1⟩ := hQ1
  have N1 := Fr.app N0 N1q
  obtain ⟨_, _, ⟨T2, L2, j2, i2⟩, -, X2, ⟨Lc2, hQ2, l2, y2, z2⟩, st2⟩ := Jvm.LawKit.callS X1 hx (y := (⟨cS1, "getChar", "([BI)C"⟩ : MethodName)) hown (mvT hZ (own_at hw 110 rfl)) (mvT hZ (own_at hw 111 rfl)) (mvT hZ (own_at hw 22 rfl)) (mvT hZ (own_at hw 112 rfl)) (by decide) (backOf (W := 0) (rmGC_5_3 l Z a0 hw [] r0 kB x0 x1 x2 x3 x4 h0 n0 Z0 S_AD S_HI S_LO V_r0 hch_x3) hZ (own_at hw 112 rfl) (own_at hw 22 rfl) (by decide) (by decide)) (g := (mkF m 7 #[rv r0, iv 3] [(.int 3), (.ref r0)])) rfl (by rw [hml]; rfl) (argsL := [(.ref r0), (.int 3)]) (rest := []) (lenOf pd_6 rfl) rfl (Nat.le_refl _) (hb hby d26_7) (fun _ _ => ⟨rfl, e1, (by decide : 0 + 0 ≤ _), (by decide : 0 + 0 ≤ _)⟩)
  dsimp only [Pt.U, Pt.locs, Pt.cells, Pt.slots] at X2 l2 y2 z2 st2 hQ2
  subst l2 y2 z2
  obtain ⟨rfl, N2q, e2⟩ := hQ2
  have N2 := Fr.app N1 N2q
  obtain ⟨fs, hr, hrun, hended, hW, hsame⟩ := X2.leave (v := some (.int (x3.toUInt32.toUInt16.toUInt32.toInt32))) (fun h => by rw [Bd.returns] at h; cases h)
  refine ⟨_, _, k0 _ ?_, hrun, hended, _, _, rfl, ?_, ⟨_, rfl⟩, hW, hsame.mono (by decide) (by decide)⟩
  · show OwnS p e below s₁ (mkF m 0 #[rv r0, iv 3] []) _
    refine oIn X0 hx hby d26_0 rfl (oAn X0 hx hby d26_1 rfl rfl ?_)
    refine st1 _ ?_
    refine oAn X1 hx hby d26_5 rfl rfl (oIn X1 hx hby d26_6 rfl ?_)
    refine st2 _ ?_
    exact retN X2 hx (t := .char) Bd.returns (by simp) (hb hby d26_10) hr
  · show Q_UC_5_3 Z _ _ _ _ _ _ _ _ h0 n0 _ T2.heap _
    rw [e2]
    exact ⟨(congrArg some (congrArg Value.int (own_i2cid hch_x3))), N2, rfl⟩
def Q_CA_5_3 (Z : State) (r0 : Addr) (w_CS : Int32) (w_F : Value) (x0 : Int32) (x1 : Int32) (x2 : Int32) (x3 : Int32) (x4 : Int32) (h0 : Heap) (n0 : Nat) (v : Option Value) (h : Heap) (L : List Loc) : Prop := v = some (.int x3) ∧ Fr n0 L ∧ h = h0
set_option maxRecDepth 65536 in
set_option maxHeartbeats 40000000 in
theorem rmCA_5_3 (l : Launch) (Z : State) (a0 : Array Value) (hw : ∀ d ∈ tables_1, d.before a0 Z = true) (ws : List Jvm.Cond) (r0 : Addr) (w_CS : Int32) (w_F : Value) (x0 : Int32) (x1 : Int32) (x2 : Int32) (x3 : Int32) (x4 : Int32) (h0 : Heap) (n0 : Nat) (Z0 : n0 ≤ h0.size) (S_CS : Sta Z h0 cS0 cS13 "Z" (.int w_CS)) (hcs : ¬ (w_CS = (0 : Int32))) (S_F : Sta Z h0 cS4 cS14 cS5 w_F) (hwF : w_F.isRef = true) (S_AD : Sta Z h0 cS1 cS6 "Z" (.int 1)) (S_HI : Sta Z h0 cS1 cS7 "I" (.int 0)) (S_LO : Sta Z h0 cS1 cS8 "I" (.int 8)) (P_r0 : own_S5 Z h0 r0 x0 x1 x2 x3 x4) (hch_x3 : own_ch x3) :
    MetFree l (⟨cS0, "charAt", "(I)C"⟩ : MethodName) (head1 (Jvm.Cond.code (⟨cS0, "charAt", "(I)C"⟩ : MethodName) jdk_42_method_56_code 2 (some .char) :: ws) ({ frames := 4, cells := 0, slots := 0, locals := 53 } : Room)) (fun a U => a = #[(.ref r0), (.int 3)] ∧ Z.Warmed39 U.vm ∧ U.heap = h0) (fun _ _ _ _ _ => True) (fun _ U o U' => ∃ v L, o = .returned v ∧ Q_CA_5_3 Z r0 w_CS w_F x0 x1 x2 x3 x4 h0 n0 v U'.heap L ∧ FrameEnd U o U' L 0 0) := by
  refine MetFree.of_bodySF (plainFor_of_name pn_java_lang_String) hisR ?_
  intro p e s m args below meth c s₁ Bd hml0 hP hK
  obtain ⟨rfl, hZ, hh⟩ := hP
  have hx := Bd.exec
  have hby := Bd.bytes
  have hml : c.maxLocals = 2 := hml0
  have hown : s.vm.findClass cS0 = some m.cls := findClass_of_methodNamed Bd.named
  have hnm := (name_of_methodNamed Bd.named Bd.method).1
  have X0 : Stand p l e ({ frames := 4, cells := 0, slots := 0, locals := 53 } : Room) s m #[(.ref r0), (.int 3)] below meth c s₁ [] 0 0 := Stand.of_body Bd
  have e0 : s₁.heap = h0 := by rw [← hh, Bd.state]; rfl
  have N0 := Fr.nil n0
  have k0 : ∀ t, OwnS p e below s₁ (mkF m 0 #[rv r0, iv 3] []) t → OwnS p e below s₁ (entryFrame m #[(.ref r0), (.int 3)] 2) t := fun t k => castTop (ef_13 m r0 (3 : Int32)) k
  rcases id P_r0 with ⟨eS, ⟨sA, kS, fC, fV, vA, hl0, hl1, hl2, hl3, hl4⟩ | ⟨sA, kS, fC, fV, vA⟩⟩
  · skip
    obtain ⟨cq1, kq1, q1a, q1b, q1c⟩ := isOf hZ e0 eS
    obtain ⟨_, _, ⟨T1, L1, j1, i1⟩, -, X1, ⟨Lc1, hQ1, l1, y1, z1⟩, st1⟩ := X0.virtualBack hx (y := (⟨cS0, "isLatin1", "()Z"⟩ : MethodName)) (z := (⟨cS0, "isLatin1", "()Z"⟩ : MethodName)) hown (mvT hZ (own_at hw 67 rfl)) (mvT hZ (own_at hw 68 rfl)) (notFace_of_selects (args := #[]) (mvT hZ (own_at hw 70 rfl))) (mvT hZ (own_at hw 70 rfl)) (mvT hZ (own_at hw 69 rfl)) (by decide) (backOf (W := 0) (rmIL0 l Z a0 hw [] r0 w_CS h0 n0 Z0 S_CS hcs fC) hZ (own_at hw 71 rfl) (own_at hw 8 rfl) (by decide) (by decide)) q1a q1c (g := (mkF m 1 #[rv r0, iv 3] [(.ref r0)])) rfl (by rw [hml]; rfl) (Steps.refl _) (argsL := []) (rest := []) (lenOf pd_13 rfl) rfl (Nat.le_refl _) (hb hby d13_1) (fun _ _ => ⟨rfl, e0, (by decide : 0 + 0 ≤ _), (by decide : 0 + 0 ≤ _)⟩)
    dsimp only [Pt.U, Pt.locs, Pt.cells, Pt.slots] at X1 l1 y1 z1 st1 hQ1
    subst l1 y1 z1
    obtain ⟨rfl, N1q, e1⟩ := hQ1
    have N1 := Fr.app N0 N1q
    obtain ⟨T2, X2, e2, st2⟩ := getF X1 hx hZ hown (host := "") (Or.inl (own_at hw 33 rfl)) Via.refl e1 fV (g := (mkF m 8 #[rv r0, iv 3] [(.ref r0)])) rfl rfl (hb hby d13_8)
    obtain ⟨_, _, ⟨T3, L3, j3, i3⟩, -, X3, ⟨Lc3, hQ3, l3, y3, z3⟩, st3⟩ := Jvm.LawKit.callS X2 hx (y := (⟨cS15, "charAt", "([BI)C"⟩ : MethodName)) hown (mvT hZ (own_at hw 72 rfl)) (mvT hZ (own_at hw 73 rfl)) (mvT hZ (own_at hw 74 rfl)) (mvT hZ (own_at hw 75 rfl)) (by decide) (backOf (W := 0) (rmLC_5_3 l Z a0 hw [] sA w_F kS x0 x1 x2 x3 x4 h0 n0 Z0 S_F hwF vA hch_x3 hl3) hZ (own_at hw 75 rfl) (own_at hw 74 rfl) (by decide) (by decide)) (g := (mkF m 12 #[rv r0, iv 3] [(.int 3), (.ref sA)])) rfl (by rw [hml]; rfl) (argsL := [(.ref sA), (.int 3)]) (rest := []) (lenOf pd_6 rfl) rfl (Nat.le_refl _) (hb hby d13_12) (fun _ _ => ⟨rfl, e2, (by decide : 0 + 0 ≤ _), (by decide : 0 + 0 ≤ _)⟩)
    dsimp only [Pt.U, Pt.locs, Pt.cells, Pt.slots] at X3 l3 y3 z3 st3 hQ3
    subst l3 y3 z3
    obtain ⟨rfl, N3q, e3⟩ := hQ3
    have N3 := Fr.app N1 N3q
    obtain ⟨fs, hr, hrun, hended, hW, hsame⟩ := X3.leave (v := some (.int (x3.toUInt32.toUInt16.toUInt32.toInt32))) (fun h => by rw [Bd.returns] at h; cases h)
    refine ⟨_, _, k0 _ ?_, hrun, hended, _, _, rfl, ?_, ⟨_, rfl⟩, hW, hsame.mono (by decide) (by decide)⟩
    · show OwnS p e below s₁ (mkF m 0 #[rv r0, iv 3] []) _
      refine oAn X0 hx hby d13_0 rfl rfl ?_
      refine st1.trans ?_
      refine XS.ifNo X1.here hx rfl (hb hby d13_4) rfl ((if0 _ _).trans (feq (by decide : ¬ ((1 : Int32) = (0 : Int32)))).1) ?_
      refine oAn X1 hx hby d13_7 rfl rfl ?_
      refine st2 _ ?_
      refine oIn X2 hx hby d13_11 rfl ?_
      refine st3 _ ?_
      exact retN X3 hx (t := .char) Bd.returns (by simp) (hb hby d13_15) hr
    · show Q_CA_5_3 Z _ _ _ _ _ _ _ _ h0 n0 _ T3.heap _
      rw [e3]
      exact ⟨(congrArg some (congrArg Value.int (own_i2cid hch_x3))), N3, rfl⟩
  · skip
    obtain ⟨cq4, kq4, q4a, q4b, q4c⟩ := isOf hZ e0 eS
    obtain ⟨_, _, ⟨T4, L4, j4, i4⟩, -, X4, ⟨Lc4, hQ4, l4, y4, z4⟩, st4⟩ := X0.virtualBack hx (y := (⟨cS0, "isLatin1", "()Z"⟩ : MethodName)) (z := (⟨cS0, "isLatin1", "()Z"⟩ : MethodName)) hown (mvT hZ (own_at hw 67 rfl)) (mvT hZ (own_at hw 68 rfl)) (notFace_of_selects (args := #[]) (mvT hZ (own_at hw 70 rfl))) (mvT hZ (own_at hw 70 rfl)) (mvT hZ (own_at hw 69 rfl)) (by decide) (backOf (W := 0) (rmIL1 l Z a0 hw [] r0 w_CS h0 n0 Z0 S_CS hcs fC) hZ (own_at hw 71 rfl) (own_at hw 8 rfl) (by decide) (by decide)) q4a q4c (g := (mkF m 1 #[rv r0, iv 3] [(.ref r0)])) rfl (by rw [hml]; rfl) (Steps.refl _) (argsL := []) (rest := []) (lenOf pd_13 rfl) rfl (Nat.le_refl _) (hb hby d13_1) (fun _ _ => ⟨rfl, e0, (by decide : 0 + 0 ≤ _), (by decide : 0 + 0 ≤ _)⟩)
    dsimp only [Pt.U, Pt.locs, Pt.cells, Pt.slots] at X4 l4 y4 z4 st4 hQ4
    subst l4 y4 z4
    obtain ⟨rfl, N4q, e4⟩ := hQ4
    have N4 := Fr.app N0 N4q
    obtain ⟨T5, X5, e5, st5⟩ := getF X4 hx hZ hown (host := "") (Or.inl (own_at hw 33 rfl)) Via.refl e4 fV (g := (mkF m 17 #[rv r0, iv 3] [(.ref r0)])) rfl rfl (hb hby d13_17)
    obtain ⟨_, _, ⟨T6, L6, j6, i6⟩, -, X6, ⟨Lc6, hQ6, l6, y6, z6⟩, st6⟩ := Jvm.LawKit.callS X5 hx (y := (⟨cS1, "charAt", "([BI)C"⟩ : MethodName)) hown (mvT hZ (own_at hw 114 rfl)) (mvT hZ (own_at hw 115 rfl)) (mvT hZ (own_at hw 22 rfl)) (mvT hZ (own_at hw 116 rfl)) (by decide) (backOf (W := 0) (rmUC_5_3 l Z a0 hw [] sA w_F kS x0 x1 x2 x3 x4 h0 n0 Z0 S_F hwF S_AD S_HI S_LO vA hch_x3) hZ (own_at hw 116 rfl) (own_at hw 22 rfl) (by decide) (by decide)) (g := (mkF m 21 #[rv r0, iv 3] [(.int 3), (.ref sA)])) rfl (by rw [hml]; rfl) (argsL := [(.ref sA), (.int 3)]) (rest := []) (lenOf pd_6 rfl) rfl (Nat.le_refl _) (hb hby d13_21) (fun _ _ => ⟨rfl, e5, (by decide : 0 + 0 ≤ _), (by decide : 0 + 0 ≤ _)⟩)
    dsimp only [Pt.U, Pt.locs, Pt.cells, Pt.slots] at X6 l6 y6 z6 st6 hQ6
    subst l6 y6 z6
    obtain ⟨rfl, N6q, e6⟩ := hQ6
    have N6 := Fr.app N4 N6q
    obtain ⟨fs, hr, hrun, hended, hW, hsame⟩ := X6.leave (v := some (.int (x3.toUInt32.toUInt16.toUInt32.toInt32))) (fun h => by rw [Bd.returns] at h; cases h)
    refine ⟨_, _, k0 _ ?_, hrun, hended, _, _, rfl, ?_, ⟨_, rfl⟩, hW, hsame.mono (by decide) (by decide)⟩
    · show OwnS p e below s₁ (mkF m 0 #[rv r0, iv 3] []) _
      refine oAn X0 hx hby d13_0 rfl rfl ?_
      refine st4.trans ?_
      refine XS.ifYes X4.here hx rfl (pc0 := 4) (pc' := 16) rfl (hb hby d13_4) rfl ((if0 _ _).trans (teq (by decide : (0 : Int32) = (0 : Int32))).1) (by decide) (by decide) ?_
      refine oAn X4 hx hby d13_16 rfl rfl ?_
      refine st5 _ ?_
      refine oIn X5 hx hby d13_20 rfl ?_
      refine st6 _ ?_
      exact retN X6 hx (t := .char) Bd.returns (by simp) (hb hby d13_24) hr
    · show Q_CA_5_3 Z _ _ _ _ _ _ _ _ h0 n0 _ T6.heap _
      rw [e6]
      exact ⟨(congrArg some (congrArg Value.int (own_i2cid hch_x3))), N6, rfl⟩
def Q_UC_5_4 (Z : State) (r0 : Addr) (w_F : Value) (kB : ClassId) (x0 : Int32) (x1 : Int32) (x2 : Int32) (x3 : Int32) (x4 : Int32) (h0 : Heap) (n0 : Nat) (v : Option Value) (h : Heap) (L : List Loc) : Prop := v = some (.int x4) ∧ Fr n0 L ∧ h = h0
set_option maxRecDepth 65536 in
set_option maxHeartbeats 40000000 in
theorem rmUC_5_4 (l : Launch) (Z : State) (a0 : Array Value) (hw : ∀ d ∈ tables_1, d.before a0 Z = true) (ws : List Jvm.Cond) (r0 : Addr) (w_F : Value) (kB : ClassId) (x0 : Int32) (x1 : Int32) (x2 : Int32) (x3 : Int32) (x4 : Int32) (h0 : Heap) (n0 : Nat) (Z0 : n0 ≤ h0.size) (S_F : Sta Z h0 cS4 cS14 cS5 w_F) (hwF : w_F.isRef = true) (S_AD : Sta Z h0 cS1 cS6 "Z" (.int 1)) (S_HI : Sta Z h0 cS1 cS7 "I" (.int 0)) (S_LO : Sta Z h0 cS1 cS8 "I" (.int 8)) (V_r0 : Arv Z h0 r0 kB .byte (10 : Int32) [(.int (((x0 >>> ((0 : Int32) &&& 31)).toInt8.toInt32).toInt8.toInt32)), (.int (((x0 >>> ((8 : Int32) &&& 31)).toInt8.toInt32).toInt8.toInt32)), (.int (((x1 >>> ((0 : Int32) &&& 31)).toInt8.toInt32).toInt8.toInt32)), (.int (((x1 >>> ((8 : Int32) &&& 31)).toInt8.toInt32).toInt8.toInt32)), (.int (((x2 >>> ((0 : Int32) &&& 31)).toInt8.toInt32).toInt8.toInt32)), (.int (((x2 >>> ((8 : Int32) &&& 31)).toInt8.toInt32).toInt8.toInt32)), (.int (((x3 >>> ((0 : Int32) &&& 31)).toInt8.toInt32).toInt8.toInt32)), (.int (((x3 >>> ((8 : Int32) &&& 31)).toInt8.toInt32).toInt8.toInt32)), (.int (((x4 >>> ((0 : Int32) &&& 31)).toInt8.toInt32).toInt8.toInt32)), (.int (((x4 >>> ((8 : Int32) &&& 31)).toInt8.toInt32).toInt8.toInt32))] (.int 0)) (hch_x4 : own_ch x4) :
    MetFree l (⟨cS1, "charAt", "([BI)C"⟩ : MethodName) (head1 (Jvm.Cond.code (⟨cS1, "charAt", "([BI)C"⟩ : MethodName) jdk_52_method_83_code 2 (some .char) :: ws) ({ frames := 3, cells := 0, slots := 0, locals := 40 } : Room)) (fun a U => a = #[(.ref r0), (.int 4)] ∧ Z.Warmed39 U.vm ∧ U.heap = h0) (fun _ _ _ _ _ => True) (fun _ U o U' => ∃ v L, o = .returned v ∧ Q_UC_5_4 Z r0 w_F kB x0 x1 x2 x3 x4 h0 n0 v U'.heap L ∧ FrameEnd U o U' L 0 0) := by
  refine MetFree.of_bodySF (plainFor_of_name pn_java_lang_StringUTF16) hisR ?_
  intro p e s m args below meth c s₁ Bd hml0 hP hK
  obtain ⟨rfl, hZ, hh⟩ := hP
  have hx := Bd.exec
  have hby := Bd.bytes
  have hml : c.maxLocals = 2 := hml0
  have hown : s.vm.findClass cS1 = some m.cls := findClass_of_methodNamed Bd.named
  have hnm := (name_of_methodNamed Bd.named Bd.method).1
  have X0 : Stand p l e ({ frames := 3, cells := 0, slots := 0, locals := 40 } : Room) s m #[(.ref r0), (.int 4)] below meth c s₁ [] 0 0 := Stand.of_body Bd
  have e0 : s₁.heap = h0 := by rw [← hh, Bd.state]; rfl
  have N0 := Fr.nil n0
  have k0 : ∀ t, OwnS p e below s₁ (mkF m 0 #[rv r0, iv 4] []) t → OwnS p e below s₁ (entryFrame m #[(.ref r0), (.int 4)] 2) t := fun t k => castTop (ef_26 m r0 (4 : Int32)) k
  obtain ⟨_, _, ⟨T1, L1, j1, i1⟩, -, X1, ⟨Lc1, hQ1, l1, y1, z1⟩, st1⟩ := Jvm.LawKit.callS X0 hx (y := (⟨cS1, "checkIndex", "(I[B)V"⟩ : MethodName)) hown (mvT hZ (own_at hw 117 rfl)) (mvT hZ (own_at hw 118 rfl)) (mvT hZ (own_at hw 22 rfl)) (mvT hZ (own_at hw 119 rfl)) (by decide) (backOf (W := 0) (rmUK_5 l Z a0 hw [] (4 : Int32) r0 w_F kB [(.int (((x0 >>> ((0 : Int32) &&& 31)).toInt8.toInt32).toInt8.toInt32)), (.int (((x0 >>> ((8 : Int32) &&& 31)).toInt8.toInt32).toInt8.toInt32)), (.int (((x1 >>> ((0 : Int32) &&& 31)).toInt8.toInt32).toInt8.toInt32)), (.int (((x1 >>> ((8 : Int32) &&& 31)).toInt8.toInt32).toInt8.toInt32)), (.int (((x2 >>> ((0 : Int32) &&& 31)).toInt8.toInt32).toInt8.toInt32)), (.int (((x2 >>> ((8 : Int32) &&& 31)).toInt8.toInt32).toInt8.toInt32)), (.int (((x3 >>> ((0 : Int32) &&& 31)).toInt8.toInt32).toInt8.toInt32)), (.int (((x3 >>> ((8 : Int32) &&& 31)).toInt8.toInt32).toInt8.toInt32)), (.int (((x4 >>> ((0 : Int32) &&& 31)).toInt8.toInt32).toInt8.toInt32)), (.int (((x4 >>> ((8 : Int32) &&& 31)).toInt8.toInt32).toInt8.toInt32))] h0 n0 Z0 S_F hwF V_r0 (by decide : ¬ ((4 : Int32) < (0 : Int32))) (by decide : (4 : Int32) < (5 : Int32))) hZ (own_at hw 119 rfl) (own_at hw 22 rfl) (by decide) (by decide)) (g := (mkF m 2 #[rv r0, iv 4] [(.ref r0), (.int 4)])) rfl (by rw [hml]; rfl) (argsL := [(.int 4), (.ref r0)]) (rest := []) (lenOf pd_12 rfl) rfl (Nat.le_refl _) (hb hby d26_2) (fun _ _ => ⟨rfl, e0, (by decide : 0 + 0 ≤ _), (by decide : 0 + 0 ≤ _)⟩)
  dsimp only [Pt.U, Pt.locs, Pt.cells, Pt.slots] at X1 l1 y1 z1 st1 hQ1
  subst l1 y1 z1
  obtain ⟨rfl, N1q, e1⟩ := hQ1
  have N1 := Fr.app N0 N1q
  obtain ⟨_, _, ⟨T2, L2, j2, i2⟩, -, X2, ⟨Lc2, hQ2, l2, y2, z2⟩, st2⟩ := Jvm.LawKit.callS X1 hx (y := (⟨cS1, "getChar", "([BI)C"⟩ : MethodName)) hown (mvT hZ (own_at hw 110 rfl)) (mvT hZ (own_at hw 111 rfl)) (mvT hZ (own_at hw 22 rfl)) (mvT hZ (own_at hw 112 rfl)) (by decide) (backOf (W := 0) (rmGC_5_4 l Z a0 hw [] r0 kB x0 x1 x2 x3 x4 h0 n0 Z0 S_AD S_HI S_LO V_r0 hch_x4) hZ (own_at hw 112 rfl) (own_at hw 22 rfl) (by decide) (by decide)) (g := (mkF m 7 #[rv r0, iv 4] [(.int 4), (.ref r0)])) rfl (by rw [hml]; rfl) (argsL := [(.ref r0), (.int 4)]) (rest := []) (lenOf pd_6 rfl) rfl (Nat.le_refl _) (hb hby d26_7) (fun _ _ => ⟨rfl, e1, (by decide : 0 + 0 ≤ _), (by decide : 0 + 0 ≤ _)⟩)
  dsimp only [Pt.U, Pt.locs, Pt.cells, Pt.slots] at X2 l2 y2 z2 st2 hQ2
  subst l2 y2 z2
  obtain ⟨rfl, N2q, e2⟩ := hQ2
  have N2 := Fr.app N1 N2q
  obtain ⟨fs, hr, hrun, hended, hW, hsame⟩ := X2.leave (v := some (.int (x4.toUInt32.toUInt16.toUInt32.toInt32))) (fun h => by rw [Bd.returns] at h; cases h)
  refine ⟨_, _, k0 _ ?_, hrun, hended, _, _, rfl, ?_, ⟨_, rfl⟩, hW, hsame.mono (by decide) (by decide)⟩
  · show OwnS p e below s₁ (mkF m 0 #[rv r0, iv 4] []) _
    refine oIn X0 hx hby d26_0 rfl (oAn X0 hx hby d26_1 rfl rfl ?_)
    refine st1 _ ?_
    refine oAn X1 hx hby d26_5 rfl rfl (oIn X1 hx hby d26_6 rfl ?_)
    refine st2 _ ?_
    exact retN X2 hx (t := .char) Bd.returns (by simp) (hb hby d26_10) hr
  · show Q_UC_5_4 Z _ _ _ _ _ _ _ _ h0 n0 _ T2.heap _
    rw [e2]
    exact ⟨(congrArg some (congrArg Value.int (own_i2cid hch_x4))), N2, rfl⟩
def Q_CA_5_4 (Z : State) (r0 : Addr) (w_CS : Int32) (w_F : Value) (x0 : Int32) (x1 : Int32) (x2 : Int32) (x3 : Int32) (x4 : Int32) (h0 : Heap) (n0 : Nat) (v : Option Value) (h : Heap) (L : List Loc) : Prop := v = some (.int x4) ∧ Fr n0 L ∧ h = h0
set_option maxRecDepth 65536 in
set_option maxHeartbeats 40000000 in
theorem rmCA_5_4 (l : Launch) (Z : State) (a0 : Array Value) (hw : ∀ d ∈ tables_1, d.before a0 Z = true) (ws : List Jvm.Cond) (r0 : Addr) (w_CS : Int32) (w_F : Value) (x0 : Int32) (x1 : Int32) (x2 : Int32) (x3 : Int32) (x4 : Int32) (h0 : Heap) (n0 : Nat) (Z0 : n0 ≤ h0.size) (S_CS : Sta Z h0 cS0 cS13 "Z" (.int w_CS)) (hcs : ¬ (w_CS = (0 : Int32))) (S_F : Sta Z h0 cS4 cS14 cS5 w_F) (hwF : w_F.isRef = true) (S_AD : Sta Z h0 cS1 cS6 "Z" (.int 1)) (S_HI : Sta Z h0 cS1 cS7 "I" (.int 0)) (S_LO : Sta Z h0 cS1 cS8 "I" (.int 8)) (P_r0 : own_S5 Z h0 r0 x0 x1 x2 x3 x4) (hch_x4 : own_ch x4) :
    MetFree l (⟨cS0, "charAt", "(I)C"⟩ : MethodName) (head1 (Jvm.Cond.code (⟨cS0, "charAt", "(I)C"⟩ : MethodName) jdk_42_method_56_code 2 (some .char) :: ws) ({ frames := 4, cells := 0, slots := 0, locals := 53 } : Room)) (fun a U => a = #[(.ref r0), (.int 4)] ∧ Z.Warmed39 U.vm ∧ U.heap = h0) (fun _ _ _ _ _ => True) (fun _ U o U' => ∃ v L, o = .returned v ∧ Q_CA_5_4 Z r0 w_CS w_F x0 x1 x2 x3 x4 h0 n0 v U'.heap L ∧ FrameEnd U o U' L 0 0) := by
  refine MetFree.of_bodySF (plainFor_of_name pn_java_lang_String) hisR ?_
  intro p e s m args below meth c s₁ Bd hml0 hP hK
  obtain ⟨rfl, hZ, hh⟩ := hP
  have hx := Bd.exec
  have hby := Bd.bytes
  have hml : c.maxLocals = 2 := hml0
  have hown : s.vm.findClass cS0 = some m.cls := findClass_of_methodNamed Bd.named
  have hnm := (name_of_methodNamed Bd.named Bd.method).1
  have X0 : Stand p l e ({ frames := 4, cells := 0, slots := 0, locals := 53 } : Room) s m #[(.ref r0), (.int 4)] below meth c s₁ [] 0 0 := Stand.of_body Bd
  have e0 : s₁.heap = h0 := by rw [← hh, Bd.state]; rfl
  have N0 := Fr.nil n0
  have k0 : ∀ t, OwnS p e below s₁ (mkF m 0 #[rv r0, iv 4] []) t → OwnS p e below s₁ (entryFrame m #[(.ref r0), (.int 4)] 2) t := fun t k => castTop (ef_13 m r0 (4 : Int32)) k
  rcases id P_r0 with ⟨eS, ⟨sA, kS, fC, fV, vA, hl0, hl1, hl2, hl3, hl4⟩ | ⟨sA, kS, fC, fV, vA⟩⟩
  · skip
    obtain ⟨cq1, kq1, q1a, q1b, q1c⟩ := isOf hZ e0 eS
    obtain ⟨_, _, ⟨T1, L1, j1, i1⟩, -, X1, ⟨Lc1, hQ1, l1, y1, z1⟩, st1⟩ := X0.virtualBack hx (y := (⟨cS0, "isLatin1", "()Z"⟩ : MethodName)) (z := (⟨cS0, "isLatin1", "()Z"⟩ : MethodName)) hown (mvT hZ (own_at hw 67 rfl)) (mvT hZ (own_at hw 68 rfl)) (notFace_of_selects (args := #[]) (mvT hZ (own_at hw 70 rfl))) (mvT hZ (own_at hw 70 rfl)) (mvT hZ (own_at hw 69 rfl)) (by decide) (backOf (W := 0) (rmIL0 l Z a0 hw [] r0 w_CS h0 n0 Z0 S_CS hcs fC) hZ (own_at hw 71 rfl) (own_at hw 8 rfl) (by decide) (by decide)) q1a q1c (g := (mkF m 1 #[rv r0, iv 4] [(.ref r0)])) rfl (by rw [hml]; rfl) (Steps.refl _) (argsL := []) (rest := []) (lenOf pd_13 rfl) rfl (Nat.le_refl _) (hb hby d13_1) (fun _ _ => ⟨rfl, e0, (by decide : 0 + 0 ≤ _), (by decide : 0 + 0 ≤ _)⟩)
    dsimp only [Pt.U, Pt.locs, Pt.cells, Pt.slots] at X1 l1 y1 z1 st1 hQ1
    subst l1 y1 z1
    obtain ⟨rfl, N1q, e1⟩ := hQ1
    have N1 := Fr.app N0 N1q
    obtain ⟨T2, X2, e2, st2⟩ := getF X1 hx hZ hown (host := "") (Or.inl (own_at hw 33 rfl)) Via.refl e1 fV (g := (mkF m 8 #[rv r0, iv 4] [(.ref r0)])) rfl rfl (hb hby d13_8)
    obtain ⟨_, _, ⟨T3, L3, j3, i3⟩, -, X3, ⟨Lc3, hQ3, l3, y3, z3⟩, st3⟩ := Jvm.LawKit.callS X2 hx (y := (⟨cS15, "charAt", "([BI)C"⟩ : MethodName)) hown (mvT hZ (own_at hw 72 rfl)) (mvT hZ (own_at hw 73 rfl)) (mvT hZ (own_at hw 74 rfl)) (mvT hZ (own_at hw 75 rfl)) (by decide) (backOf (W := 0) (rmLC_5_4 l Z a0 hw [] sA w_F kS x0 x1 x2 x3 x4 h0 n0 Z0 S_F hwF vA hch_x4 hl4) hZ (own_at hw 75 rfl) (own_at hw 74 rfl) (by decide) (by decide)) (g := (mkF m 12 #[rv r0, iv 4] [(.int 4), (.ref sA)])) rfl (by rw [hml]; rfl) (argsL := [(.ref sA), (.int 4)]) (rest := []) (lenOf pd_6 rfl) rfl (Nat.le_refl _) (hb hby d13_12) (fun _ _ => ⟨rfl, e2, (by decide : 0 + 0 ≤ _), (by decide : 0 + 0 ≤ _)⟩)
    dsimp only [Pt.U, Pt.locs, Pt.cells, Pt.slots] at X3 l3 y3 z3 st3 hQ3
    subst l3 y3 z3
    obtain ⟨rfl, N3q, e3⟩ := hQ3
    have N3 := Fr.app N1 N3q
    obtain ⟨fs, hr, hrun, hended, hW, hsame⟩ := X3.leave (v := some (.int (x4.toUInt32.toUInt16.toUInt32.toInt32))) (fun h => by rw [Bd.returns] at h; cases h)
    refine ⟨_, _, k0 _ ?_, hrun, hended, _, _, rfl, ?_, ⟨_, rfl⟩, hW, hsame.mono (by decide) (by decide)⟩
    · show OwnS p e below s₁ (mkF m 0 #[rv r0, iv 4] []) _
      refine oAn X0 hx hby d13_0 rfl rfl ?_
      refine st1.trans ?_
      refine XS.ifNo X1.here hx rfl (hb hby d13_4) rfl ((if0 _ _).trans (feq (by decide : ¬ ((1 : Int32) = (0 : Int32)))).1) ?_
      refine oAn X1 hx hby d13_7 rfl rfl ?_
      refine st2 _ ?_
      refine oIn X2 hx hby d13_11 rfl ?_
      refine st3 _ ?_
      exact retN X3 hx (t := .char) Bd.returns (by simp) (hb hby d13_15) hr
    · show Q_CA_5_4 Z _ _ _ _ _ _ _ _ h0 n0 _ T3.heap _
      rw [e3]
      exact ⟨(congrArg some (congrArg Value.int (own_i2cid hch_x4))), N3, rfl⟩
  · skip
    obtain ⟨cq4, kq4, q4a, q4b, q4c⟩ := isOf hZ e0 eS
    obtain ⟨_, _, ⟨T4, L4, j4, i4⟩, -, X4, ⟨Lc4, hQ4, l4, y4, z4⟩, st4⟩ := X0.virtualBack hx (y := (⟨cS0, "isLatin1", "()Z"⟩ : MethodName)) (z := (⟨cS0, "isLatin1", "()Z"⟩ : MethodName)) hown (mvT hZ (own_at hw 67 rfl)) (mvT hZ (own_at hw 68 rfl)) (notFace_of_selects (args := #[]) (mvT hZ (own_at hw 70 rfl))) (mvT hZ (own_at hw 70 rfl)) (mvT hZ (own_at hw 69 rfl)) (by decide) (backOf (W := 0) (rmIL1 l Z a0 hw [] r0 w_CS h0 n0 Z0 S_CS hcs fC) hZ (own_at hw 71 rfl) (own_at hw 8 rfl) (by decide) (by decide)) q4a q4c (g := (mkF m 1 #[rv r0, iv 4] [(.ref r0)])) rfl (by rw [hml]; rfl) (Steps.refl _) (argsL := []) (rest := []) (lenOf pd_13 rfl) rfl (Nat.le_refl _) (hb hby d13_1) (fun _ _ => ⟨rfl, e0, (by decide : 0 + 0 ≤ _), (by decide : 0 + 0 ≤ _)⟩)
    dsimp only [Pt.U, Pt.locs, Pt.cells, Pt.slots] at X4 l4 y4 z4 st4 hQ4
    subst l4 y4 z4
    obtain ⟨rfl, N4q, e4⟩ := hQ4
    have N4 := Fr.app N0 N4q
    obtain ⟨T5, X5, e5, st5⟩ := getF X4 hx hZ hown (host := "") (Or.inl (own_at hw 33 rfl)) Via.refl e4 fV (g := (mkF m 17 #[rv r0, iv 4] [(.ref r0)])) rfl rfl (hb hby d13_17)
    obtain ⟨_, _, ⟨T6, L6, j6, i6⟩, -, X6, ⟨Lc6, hQ6, l6, y6, z6⟩, st6⟩ := Jvm.LawKit.callS X5 hx (y := (⟨cS1, "charAt", "([BI)C"⟩ : MethodName)) hown (mvT hZ (own_at hw 114 rfl)) (mvT hZ (own_at hw 115 rfl)) (mvT hZ (own_at hw 22 rfl)) (mvT hZ (own_at hw 116 rfl)) (by decide) (backOf (W := 0) (rmUC_5_4 l Z a0 hw [] sA w_F kS x0 x1 x2 x3 x4 h0 n0 Z0 S_F hwF S_AD S_HI S_LO vA hch_x4) hZ (own_at hw 116 rfl) (own_at hw 22 rfl) (by decide) (by decide)) (g := (mkF m 21 #[rv r0, iv 4] [(.int 4), (.ref sA)])) rfl (by rw [hml]; rfl) (argsL := [(.ref sA), (.int 4)]) (rest := []) (lenOf pd_6 rfl) rfl (Nat.le_refl _) (hb hby d13_21) (fun _ _ => ⟨rfl, e5, (by decide : 0 + 0 ≤ _), (by decide : 0 + 0 ≤ _)⟩)
    dsimp only [Pt.U, Pt.locs, Pt.cells, Pt.slots] at X6 l6 y6 z6 st6 hQ6
    subst l6 y6 z6
    obtain ⟨rfl, N6q, e6⟩ := hQ6
    have N6 := Fr.app N4 N6q
    obtain ⟨fs, hr, hrun, hended, hW, hsame⟩ := X6.leave (v := some (.int (x4.toUInt32.toUInt16.toUInt32.toInt32))) (fun h => by rw [Bd.returns] at h; cases h)
    refine ⟨_, _, k0 _ ?_, hrun, hended, _, _, rfl, ?_, ⟨_, rfl⟩, hW, hsame.mono (by decide) (by decide)⟩
    · show OwnS p e below s₁ (mkF m 0 #[rv r0, iv 4] []) _
      refine oAn X0 hx hby d13_0 rfl rfl ?_
      refine st4.trans ?_
      refine XS.ifYes X4.here hx rfl (pc0 := 4) (pc' := 16) rfl (hb hby d13_4) rfl ((if0 _ _).trans (teq (by decide : (0 : Int32) = (0 : Int32))).1) (by decide) (by decide) ?_
      refine oAn X4 hx hby d13_16 rfl rfl ?_
      refine st5 _ ?_
      refine oIn X5 hx hby d13_20 rfl ?_
      refine st6 _ ?_
      exact retN X6 hx (t := .char) Bd.returns (by simp) (hb hby d13_24) hr
    · show Q_CA_5_4 Z _ _ _ _ _ _ _ _ h0 n0 _ T6.heap _
      rw [e6]
      exact ⟨(congrArg some (congrArg Value.int (own_i2cid hch_x4))), N6, rfl⟩
theorem d1_0 : decode method_3_code 0 = .ok (.iload_n 0, 1) := by decide +kernel
theorem d1_1 : decode method_3_code 1 = .ok (.bipush 7, 2) := by decide +kernel
theorem d1_3 : decode method_3_code 3 = .ok (.iand, 1) := by decide +kernel
theorem d1_4 : decode method_3_code 4 = .ok (.istore_n 1, 1) := by decide +kernel
theorem d1_5 : decode method_3_code 5 = .ok (.iload_n 1, 1) := by decide +kernel
theorem d1_6 : decode method_3_code 6 = .ok (.ifCond .ne 6, 3) := by decide +kernel
theorem d1_9 : decode method_3_code 9 = .ok (.bipush 34, 2) := by decide +kernel
theorem d1_11 : decode method_3_code 11 = .ok (.ireturn, 1) := by decide +kernel
theorem d1_12 : decode method_3_code 12 = .ok (.iload_n 1, 1) := by decide +kernel
theorem d1_13 : decode method_3_code 13 = .ok (.iconst 1, 1) := by decide +kernel
theorem d1_14 : decode method_3_code 14 = .ok (.if_icmp .ne 6, 3) := by decide +kernel
theorem d1_17 : decode method_3_code 17 = .ok (.bipush 87, 2) := by decide +kernel
theorem d1_19 : decode method_3_code 19 = .ok (.ireturn, 1) := by decide +kernel
theorem d1_20 : decode method_3_code 20 = .ok (.iload_n 1, 1) := by decide +kernel
theorem d1_21 : decode method_3_code 21 = .ok (.iconst 2, 1) := by decide +kernel
theorem d1_22 : decode method_3_code 22 = .ok (.if_icmp .ne 6, 3) := by decide +kernel
theorem d1_25 : decode method_3_code 25 = .ok (.bipush 47, 2) := by decide +kernel
theorem d1_27 : decode method_3_code 27 = .ok (.ireturn, 1) := by decide +kernel
theorem d1_28 : decode method_3_code 28 = .ok (.iload_n 1, 1) := by decide +kernel
theorem d1_29 : decode method_3_code 29 = .ok (.iconst 3, 1) := by decide +kernel
theorem d1_30 : decode method_3_code 30 = .ok (.if_icmp .ne 12, 3) := by decide +kernel
theorem d1_33 : decode method_3_code 33 = .ok (.iload_n 0, 1) := by decide +kernel
theorem d1_34 : decode method_3_code 34 = .ok (.iconst 3, 1) := by decide +kernel
theorem d1_35 : decode method_3_code 35 = .ok (.iushr, 1) := by decide +kernel
theorem d1_36 : decode method_3_code 36 = .ok (.sipush 255, 3) := by decide +kernel
theorem d1_39 : decode method_3_code 39 = .ok (.iand, 1) := by decide +kernel
theorem d1_40 : decode method_3_code 40 = .ok (.i2c, 1) := by decide +kernel
theorem d1_41 : decode method_3_code 41 = .ok (.ireturn, 1) := by decide +kernel
theorem d1_42 : decode method_3_code 42 = .ok (.iload_n 0, 1) := by decide +kernel
theorem d1_43 : decode method_3_code 43 = .ok (.iconst 3, 1) := by decide +kernel
theorem d1_44 : decode method_3_code 44 = .ok (.iushr, 1) := by decide +kernel
theorem d1_45 : decode method_3_code 45 = .ok (.ldc 29, 2) := by decide +kernel
theorem d1_47 : decode method_3_code 47 = .ok (.iand, 1) := by decide +kernel
theorem d1_48 : decode method_3_code 48 = .ok (.i2c, 1) := by decide +kernel
theorem d1_49 : decode method_3_code 49 = .ok (.ireturn, 1) := by decide +kernel
theorem pn_com_example_strict_lock_strictlock_EntityTagsEndPinLaw : plainName cS2 = true := by first | (simp [plainName, overriddenIn]; done) | decide +kernel
theorem ef_1 (m : MethodId) (x0 : Int32) : entryFrame m #[(.int x0)] 2 = mkF m 0 #[.val (.int x0), .unset] [] := by first | (simp [entryFrame, mkF, argsToLocals, Value.category]; done) | rfl
def Q_Pk (Z : State) (p0 : Int32) (h0 : Heap) (n0 : Nat) (v : Option Value) (h : Heap) (L : List Loc) : Prop := ∃ rr : Int32, v = some (.int rr) ∧ Fr n0 L ∧ h = h0 ∧ own_ch rr
set_option maxRecDepth 65536 in
set_option maxHeartbeats 40000000 in
theorem rmPk (l : Launch) (Z : State) (a0 : Array Value) (hw : ∀ d ∈ tables_1, d.before a0 Z = true) (ws : List Jvm.Cond) (p0 : Int32) (h0 : Heap) (n0 : Nat) (Z0 : n0 ≤ h0.size) :
    MetFree l (⟨cS2, "pick", "(I)C"⟩ : MethodName) (head1 (Jvm.Cond.code (⟨cS2, "pick", "(I)C"⟩ : MethodName) method_3_code 2 (some .char) :: ws) ({ frames := 0, cells := 0, slots := 0, locals := 0 } : Room)) (fun a U => a = #[(.int p0)] ∧ Z.Warmed39 U.vm ∧ U.heap = h0) (fun _ _ _ _ _ => True) (fun _ U o U' => ∃ v L, o = .returned v ∧ Q_Pk Z p0 h0 n0 v U'.heap L ∧ FrameEnd U o U' L 0 0) := by
  refine MetFree.of_bodySF (plainFor_of_name pn_com_example_strict_lock_strictlock_EntityTagsEndPinLaw) hisR ?_
  intro p e s m args below meth c s₁ Bd hml0 hP hK
  obtain ⟨rfl, hZ, hh⟩ := hP
  have hx := Bd.exec
  have hby := Bd.bytes
  have hml : c.maxLocals = 2 := hml0
  have hown : s.vm.findClass cS2 = some m.cls := findClass_of_methodNamed Bd.named
  have hnm := (name_of_methodNamed Bd.named Bd.method).1
  have X0 : Stand p l e ({ frames := 0, cells := 0, slots := 0, locals := 0 } : Room) s m #[(.int p0)] below meth c s₁ [] 0 0 := Stand.of_body Bd
  have e0 : s₁.heap = h0 := by rw [← hh, Bd.state]; rfl
  have N0 := Fr.nil n0
  have k0 : ∀ t, OwnS p e below s₁ (mkF m 0 #[iv p0, .unset] []) t → OwnS p e below s₁ (entryFrame m #[(.int p0)] 2) t := fun t k => castTop (ef_1 m p0) k
  have k2 : ∀ t, OwnS p e below s₁ (mkF m 6 #[iv p0, iv (p0 &&& (7 : Int32))] [(.int (p0 &&& (7 : Int32)))]) t → OwnS p e below s₁ (entryFrame m #[(.int p0)] 2) t := fun t q => by
   refine k0 t ?_
   show OwnS p e below s₁ (mkF m 0 #[iv p0, .unset] []) _
   refine oIn X0 hx hby d1_0 rfl (oBp X0 hx hby d1_1 ?_)
   refine XS.iand X0.here hx rfl (hb hby d1_3) rfl ?_
   refine XS.istoreN X0.here hx rfl (hb hby d1_4) rfl (l' := #[iv p0, iv (p0 &&& (7 : Int32))]) rfl ?_
   refine oIn X0 hx hby d1_5 rfl ?_
   exact q
  by_cases hc6_1 : (p0 &&& (7 : Int32)) = (0 : Int32)
  · obtain ⟨fs, hr, hrun, hended, hW, hsame⟩ := X0.leave (v := some (.int 34)) (fun h => by rw [Bd.returns] at h; cases h)
    refine ⟨_, _, k2 _ ?_, hrun, hended, _, _, rfl, ?_, ⟨_, rfl⟩, hW, hsame.mono (by decide) (by decide)⟩
    · refine XS.ifNo X0.here hx rfl (hb hby d1_6) rfl ((if0 _ _).trans (teq hc6_1).2) ?_
      refine oBp X0 hx hby d1_9 ?_
      exact retN X0 hx (t := .char) Bd.returns (by simp) (hb hby d1_11) hr
    · show Q_Pk Z _ h0 n0 _ s₁.heap _
      rw [e0]
      exact ⟨(34 : Int32), rfl, N0, rfl, (by unfold own_ch; decide)⟩
  · have k4 : ∀ t, OwnS p e below s₁ (mkF m 14 #[iv p0, iv (p0 &&& (7 : Int32))] [(.int 1), (.int (p0 &&& (7 : Int32)))]) t → OwnS p e below s₁ (entryFrame m #[(.int p0)] 2) t := fun t q => by
     refine k2 t ?_
     refine XS.ifYes X0.here hx rfl (pc0 := 6) (pc' := 12) rfl (hb hby d1_6) rfl ((if0 _ _).trans (feq hc6_1).2) (by decide) (by decide) ?_
     refine oIn X0 hx hby d1_12 rfl (oIc X0 hx hby d1_13 ?_)
     exact q
    by_cases hc14_3 : (p0 &&& (7 : Int32)) = (1 : Int32)
    · obtain ⟨fs, hr, hrun, hended, hW, hsame⟩ := X0.leave (v := some (.int 87)) (fun h => by rw [Bd.returns] at h; cases h)
      refine ⟨_, _, k4 _ ?_, hrun, hended, _, _, rfl, ?_, ⟨_, rfl⟩, hW, hsame.mono (by decide) (by decide)⟩
      · refine XS.icmpNo X0.here hx rfl (hb hby d1_14) rfl (teq hc14_3).2 ?_
        refine oBp X0 hx hby d1_17 ?_
        exact retN X0 hx (t := .char) Bd.returns (by simp) (hb hby d1_19) hr
      · show Q_Pk Z _ h0 n0 _ s₁.heap _
        rw [e0]
        exact ⟨(87 : Int32), rfl, N0, rfl, (by unfold own_ch; decide)⟩
    · have k6 : ∀ t, OwnS p e below s₁ (mkF m 22 #[iv p0, iv (p0 &&& (7 : Int32))] [(.int 2), (.int (p0 &&& (7 : Int32)))]) t → OwnS p e below s₁ (entryFrame m #[(.int p0)] 2) t := fun t q => by
       refine k4 t ?_
       refine XS.icmpYes X0.here hx rfl (pc0 := 14) (pc' := 20) rfl (hb hby d1_14) rfl (feq hc14_3).2 (by decide) (by decide) ?_
       refine oIn X0 hx hby d1_20 rfl (oIc X0 hx hby d1_21 ?_)
       exact q
      by_cases hc22_5 : (p0 &&& (7 : Int32)) = (2 : Int32)
      · obtain ⟨fs, hr, hrun, hended, hW, hsame⟩ := X0.leave (v := some (.int 47)) (fun h => by rw [Bd.returns] at h; cases h)
        refine ⟨_, _, k6 _ ?_, hrun, hended, _, _, rfl, ?_, ⟨_, rfl⟩, hW, hsame.mono (by decide) (by decide)⟩
        · refine XS.icmpNo X0.here hx rfl (hb hby d1_22) rfl (teq hc22_5).2 ?_
          refine oBp X0 hx hby d1_25 ?_
          exact retN X0 hx (t := .char) Bd.returns (by simp) (hb hby d1_27) hr
        · show Q_Pk Z _ h0 n0 _ s₁.heap _
          rw [e0]
          exact ⟨(47 : Int32), rfl, N0, rfl, (by unfold own_ch; decide)⟩
      · have k8 : ∀ t, OwnS p e below s₁ (mkF m 30 #[iv p0, iv (p0 &&& (7 : Int32))] [(.int 3), (.int (p0 &&& (7 : Int32)))]) t → OwnS p e below s₁ (entryFrame m #[(.int p0)] 2) t := fun t q => by
         refine k6 t ?_
         refine XS.icmpYes X0.here hx rfl (pc0 := 22) (pc' := 28) rfl (hb hby d1_22) rfl (feq hc22_5).2 (by decide) (by decide) ?_
         refine oIn X0 hx hby d1_28 rfl (oIc X0 hx hby d1_29 ?_)
         exact q
        by_cases hc30_7 : (p0 &&& (7 : Int32)) = (3 : Int32)
        · obtain ⟨fs, hr, hrun, hended, hW, hsame⟩ := X0.leave (v := some (.int (((((p0.toUInt32 >>> ((3 : Int32) &&& 31).toUInt32).toInt32) &&& (255 : Int32)).toUInt32.toUInt16.toUInt32.toInt32).toUInt32.toUInt16.toUInt32.toInt32))) (fun h => by rw [Bd.returns] at h; cases h)
          refine ⟨_, _, k8 _ ?_, hrun, hended, _, _, rfl, ?_, ⟨_, rfl⟩, hW, hsame.mono (by decide) (by decide)⟩
          · refine XS.icmpNo X0.here hx rfl (hb hby d1_30) rfl (teq hc30_7).2 ?_
            refine oIn X0 hx hby d1_33 rfl (oIc X0 hx hby d1_34 ?_)
            refine XS.iushr X0.here hx rfl (hb hby d1_35) rfl ?_
            refine XS.sipush X0.here hx rfl (hb hby d1_36) ?_
            refine XS.iand X0.here hx rfl (hb hby d1_39) rfl ?_
            refine XS.i2c X0.here hx rfl (hb hby d1_40) rfl ?_
            exact retN X0 hx (t := .char) Bd.returns (by simp) (hb hby d1_41) hr
          · show Q_Pk Z _ h0 n0 _ s₁.heap _
            rw [e0]
            exact ⟨(((((p0.toUInt32 >>> ((3 : Int32) &&& 31).toUInt32).toInt32) &&& (255 : Int32)).toUInt32.toUInt16.toUInt32.toInt32).toUInt32.toUInt16.toUInt32.toInt32), rfl, N0, rfl, (own_chc _)⟩
        · obtain ⟨fs, hr, hrun, hended, hW, hsame⟩ := X0.leave (v := some (.int (((((p0.toUInt32 >>> ((3 : Int32) &&& 31).toUInt32).toInt32) &&& (65535 : Int32)).toUInt32.toUInt16.toUInt32.toInt32).toUInt32.toUInt16.toUInt32.toInt32))) (fun h => by rw [Bd.returns] at h; cases h)
          refine ⟨_, _, k8 _ ?_, hrun, hended, _, _, rfl, ?_, ⟨_, rfl⟩, hW, hsame.mono (by decide) (by decide)⟩
          · refine XS.icmpYes X0.here hx rfl (pc0 := 30) (pc' := 42) rfl (hb hby d1_30) rfl (feq hc30_7).2 (by decide) (by decide) ?_
            refine oIn X0 hx hby d1_42 rfl (oIc X0 hx hby d1_43 ?_)
            refine XS.iushr X0.here hx rfl (hb hby d1_44) rfl ?_
            refine X0.ldcInt hx hown (mvT hZ (own_at hw 87 rfl)) (g := (mkF m 45 #[iv p0, iv (p0 &&& (7 : Int32))] [(.int ((p0.toUInt32 >>> ((3 : Int32) &&& 31).toUInt32).toInt32))])) rfl (hb hby d1_45) _ ?_
            refine XS.iand X0.here hx rfl (hb hby d1_47) rfl ?_
            refine XS.i2c X0.here hx rfl (hb hby d1_48) rfl ?_
            exact retN X0 hx (t := .char) Bd.returns (by simp) (hb hby d1_49) hr
          · show Q_Pk Z _ h0 n0 _ s₁.heap _
            rw [e0]
            exact ⟨(((((p0.toUInt32 >>> ((3 : Int32) &&& 31).toUInt32).toInt32) &&& (65535 : Int32)).toUInt32.toUInt16.toUInt32.toInt32).toUInt32.toUInt16.toUInt32.toInt32), rfl, N0, rfl, (own_chc _)⟩
theorem d20_0 : decode method_4_code 0 = .ok (.iload_n 0, 1) := by decide +kernel
theorem d20_1 : decode method_4_code 1 = .ok (.bipush 33, 2) := by decide +kernel
theorem d20_3 : decode method_4_code 3 = .ok (.if_icmp .eq 29, 3) := by decide +kernel
theorem d20_6 : decode method_4_code 6 = .ok (.iload_n 0, 1) := by decide +kernel
theorem d20_7 : decode method_4_code 7 = .ok (.bipush 35, 2) := by decide +kernel
theorem d20_9 : decode method_4_code 9 = .ok (.if_icmp .lt 9, 3) := by decide +kernel
theorem d20_12 : decode method_4_code 12 = .ok (.iload_n 0, 1) := by decide +kernel
theorem d20_13 : decode method_4_code 13 = .ok (.bipush 126, 2) := by decide +kernel
theorem d20_15 : decode method_4_code 15 = .ok (.if_icmp .le 17, 3) := by decide +kernel
theorem d20_18 : decode method_4_code 18 = .ok (.iload_n 0, 1) := by decide +kernel
theorem d20_19 : decode method_4_code 19 = .ok (.sipush 128, 3) := by decide +kernel
theorem d20_22 : decode method_4_code 22 = .ok (.if_icmp .lt 14, 3) := by decide +kernel
theorem d20_25 : decode method_4_code 25 = .ok (.iload_n 0, 1) := by decide +kernel
theorem d20_26 : decode method_4_code 26 = .ok (.sipush 255, 3) := by decide +kernel
theorem d20_29 : decode method_4_code 29 = .ok (.if_icmp .gt 7, 3) := by decide +kernel
theorem d20_32 : decode method_4_code 32 = .ok (.iconst 1, 1) := by decide +kernel
theorem d20_33 : decode method_4_code 33 = .ok (.goto 4, 3) := by decide +kernel
theorem d20_37 : decode method_4_code 37 = .ok (.ireturn, 1) := by decide +kernel
theorem ef_20 (m : MethodId) (x0 : Int32) : entryFrame m #[(.int x0)] 1 = mkF m 0 #[.val (.int x0)] [] := by first | (simp [entryFrame, mkF, argsToLocals, Value.category]; done) | rfl
def Q_Et_t (Z : State) (p0 : Int32) (h0 : Heap) (n0 : Nat) (v : Option Value) (h : Heap) (L : List Loc) : Prop := v = some (.int 1) ∧ Fr n0 L ∧ h = h0
set_option maxRecDepth 65536 in
set_option maxHeartbeats 40000000 in
theorem rmEt_t (l : Launch) (Z : State) (a0 : Array Value) (hw : ∀ d ∈ tables_1, d.before a0 Z = true) (ws : List Jvm.Cond) (p0 : Int32) (h0 : Heap) (n0 : Nat) (Z0 : n0 ≤ h0.size) (het : own_et p0 = true) :
    MetFree l (⟨cS2, "etagc", "(C)Z"⟩ : MethodName) (head1 (Jvm.Cond.code (⟨cS2, "etagc", "(C)Z"⟩ : MethodName) method_4_code 1 (some .boolean) :: ws) ({ frames := 0, cells := 0, slots := 0, locals := 0 } : Room)) (fun a U => a = #[(.int p0)] ∧ Z.Warmed39 U.vm ∧ U.heap = h0) (fun _ _ _ _ _ => True) (fun _ U o U' => ∃ v L, o = .returned v ∧ Q_Et_t Z p0 h0 n0 v U'.heap L ∧ FrameEnd U o U' L 0 0) := by
  refine MetFree.of_bodySF (plainFor_of_name pn_com_example_strict_lock_strictlock_EntityTagsEndPinLaw) hisR ?_
  intro p e s m args below meth c s₁ Bd hml0 hP hK
  obtain ⟨rfl, hZ, hh⟩ := hP
  have hx := Bd.exec
  have hby := Bd.bytes
  have hml : c.maxLocals = 1 := hml0
  have hown : s.vm.findClass cS2 = some m.cls := findClass_of_methodNamed Bd.named
  have hnm := (name_of_methodNamed Bd.named Bd.method).1
  have X0 : Stand p l e ({ frames := 0, cells := 0, slots := 0, locals := 0 } : Room) s m #[(.int p0)] below meth c s₁ [] 0 0 := Stand.of_body Bd
  have e0 : s₁.heap = h0 := by rw [← hh, Bd.state]; rfl
  have N0 := Fr.nil n0
  have k0 : ∀ t, OwnS p e below s₁ (mkF m 0 #[iv p0] []) t → OwnS p e below s₁ (entryFrame m #[(.int p0)] 1) t := fun t k => castTop (ef_20 m p0) k
  have k2 : ∀ t, OwnS p e below s₁ (mkF m 3 #[iv p0] [(.int 33), (.int p0)]) t → OwnS p e below s₁ (entryFrame m #[(.int p0)] 1) t := fun t q => by
   refine k0 t ?_
   show OwnS p e below s₁ (mkF m 0 #[iv p0] []) _
   refine oIn X0 hx hby d20_0 rfl (oBp X0 hx hby d20_1 ?_)
   exact q
  by_cases hc3_1 : p0 = (33 : Int32)
  · obtain ⟨fs, hr, hrun, hended, hW, hsame⟩ := X0.leave (v := some (.int 1)) (fun h => by rw [Bd.returns] at h; cases h)
    refine ⟨_, _, k2 _ ?_, hrun, hended, _, _, rfl, ?_, ⟨_, rfl⟩, hW, hsame.mono (by decide) (by decide)⟩
    · refine XS.icmpYes X0.here hx rfl (pc0 := 3) (pc' := 32) rfl (hb hby d20_3) rfl (teq hc3_1).1 (by decide) (by decide) ?_
      refine oIc X0 hx hby d20_32 (oGo X0 hx hby 33 37 d20_33 (by decide) (by decide) ?_)
      exact retN X0 hx (t := .boolean) Bd.returns (by simp) (hb hby d20_37) hr
    · show Q_Et_t Z _ h0 n0 _ s₁.heap _
      rw [e0]
      exact ⟨rfl, N0, rfl⟩
  · have k4 : ∀ t, OwnS p e below s₁ (mkF m 15 #[iv p0] [(.int 126), (.int p0)]) t → OwnS p e below s₁ (entryFrame m #[(.int p0)] 1) t := fun t q => by
     refine k2 t ?_
     refine XS.icmpNo X0.here hx rfl (hb hby d20_3) rfl (feq hc3_1).1 ?_
     refine oIn X0 hx hby d20_6 rfl (oBp X0 hx hby d20_7 ?_)
     refine XS.icmpNo X0.here hx rfl (hb hby d20_9) rfl (flt (own_t1 het hc3_1)).1 ?_
     refine oIn X0 hx hby d20_12 rfl (oBp X0 hx hby d20_13 ?_)
     exact q
    by_cases hc15_3 : (126 : Int32) < p0
    · obtain ⟨fs, hr, hrun, hended, hW, hsame⟩ := X0.leave (v := some (.int 1)) (fun h => by rw [Bd.returns] at h; cases h)
      refine ⟨_, _, k4 _ ?_, hrun, hended, _, _, rfl, ?_, ⟨_, rfl⟩, hW, hsame.mono (by decide) (by decide)⟩
      · refine XS.icmpNo X0.here hx rfl (hb hby d20_15) rfl (tlt hc15_3).2.2.2 ?_
        refine oIn X0 hx hby d20_18 rfl ?_
        refine XS.sipush X0.here hx rfl (hb hby d20_19) ?_
        refine XS.icmpNo X0.here hx rfl (hb hby d20_22) rfl (flt (own_t2 het hc3_1 hc15_3)).1 ?_
        refine oIn X0 hx hby d20_25 rfl ?_
        refine XS.sipush X0.here hx rfl (hb hby d20_26) ?_
        refine XS.icmpNo X0.here hx rfl (hb hby d20_29) rfl (flt (own_t3 het)).2.2.1 ?_
        refine oIc X0 hx hby d20_32 (oGo X0 hx hby 33 37 d20_33 (by decide) (by decide) ?_)
        exact retN X0 hx (t := .boolean) Bd.returns (by simp) (hb hby d20_37) hr
      · show Q_Et_t Z _ h0 n0 _ s₁.heap _
        rw [e0]
        exact ⟨rfl, N0, rfl⟩
    · obtain ⟨fs, hr, hrun, hended, hW, hsame⟩ := X0.leave (v := some (.int 1)) (fun h => by rw [Bd.returns] at h; cases h)
      refine ⟨_, _, k4 _ ?_, hrun, hended, _, _, rfl, ?_, ⟨_, rfl⟩, hW, hsame.mono (by decide) (by decide)⟩
      · refine XS.icmpYes X0.here hx rfl (pc0 := 15) (pc' := 32) rfl (hb hby d20_15) rfl (flt hc15_3).2.2.2 (by decide) (by decide) ?_
        refine oIc X0 hx hby d20_32 (oGo X0 hx hby 33 37 d20_33 (by decide) (by decide) ?_)
        exact retN X0 hx (t := .boolean) Bd.returns (by simp) (hb hby d20_37) hr
      · show Q_Et_t Z _ h0 n0 _ s₁.heap _
        rw [e0]
        exact ⟨rfl, N0, rfl⟩
theorem d20_36 : decode method_4_code 36 = .ok (.iconst 0, 1) := by decide +kernel
def Q_Et_f (Z : State) (p0 : Int32) (h0 : Heap) (n0 : Nat) (v : Option Value) (h : Heap) (L : List Loc) : Prop := v = some (.int 0) ∧ Fr n0 L ∧ h = h0
set_option maxRecDepth 65536 in
set_option maxHeartbeats 40000000 in
theorem rmEt_f (l : Launch) (Z : State) (a0 : Array Value) (hw : ∀ d ∈ tables_1, d.before a0 Z = true) (ws : List Jvm.Cond) (p0 : Int32) (h0 : Heap) (n0 : Nat) (Z0 : n0 ≤ h0.size) (het : own_et p0 = false) :
    MetFree l (⟨cS2, "etagc", "(C)Z"⟩ : MethodName) (head1 (Jvm.Cond.code (⟨cS2, "etagc", "(C)Z"⟩ : MethodName) method_4_code 1 (some .boolean) :: ws) ({ frames := 0, cells := 0, slots := 0, locals := 0 } : Room)) (fun a U => a = #[(.int p0)] ∧ Z.Warmed39 U.vm ∧ U.heap = h0) (fun _ _ _ _ _ => True) (fun _ U o U' => ∃ v L, o = .returned v ∧ Q_Et_f Z p0 h0 n0 v U'.heap L ∧ FrameEnd U o U' L 0 0) := by
  refine MetFree.of_bodySF (plainFor_of_name pn_com_example_strict_lock_strictlock_EntityTagsEndPinLaw) hisR ?_
  intro p e s m args below meth c s₁ Bd hml0 hP hK
  obtain ⟨rfl, hZ, hh⟩ := hP
  have hx := Bd.exec
  have hby := Bd.bytes
  have hml : c.maxLocals = 1 := hml0
  have hown : s.vm.findClass cS2 = some m.cls := findClass_of_methodNamed Bd.named
  have hnm := (name_of_methodNamed Bd.named Bd.method).1
  have X0 : Stand p l e ({ frames := 0, cells := 0, slots := 0, locals := 0 } : Room) s m #[(.int p0)] below meth c s₁ [] 0 0 := Stand.of_body Bd
  have e0 : s₁.heap = h0 := by rw [← hh, Bd.state]; rfl
  have N0 := Fr.nil n0
  have k0 : ∀ t, OwnS p e below s₁ (mkF m 0 #[iv p0] []) t → OwnS p e below s₁ (entryFrame m #[(.int p0)] 1) t := fun t k => castTop (ef_20 m p0) k
  have k2 : ∀ t, OwnS p e below s₁ (mkF m 9 #[iv p0] [(.int 35), (.int p0)]) t → OwnS p e below s₁ (entryFrame m #[(.int p0)] 1) t := fun t q => by
   refine k0 t ?_
   show OwnS p e below s₁ (mkF m 0 #[iv p0] []) _
   refine oIn X0 hx hby d20_0 rfl (oBp X0 hx hby d20_1 ?_)
   refine XS.icmpNo X0.here hx rfl (hb hby d20_3) rfl (feq (own_f1 het)).1 ?_
   refine oIn X0 hx hby d20_6 rfl (oBp X0 hx hby d20_7 ?_)
   exact q
  by_cases hc9_1 : p0 < (35 : Int32)
  · have k4 : ∀ t, OwnS p e below s₁ (mkF m 22 #[iv p0] [(.int 128), (.int p0)]) t → OwnS p e below s₁ (entryFrame m #[(.int p0)] 1) t := fun t q => by
     refine k2 t ?_
     refine XS.icmpYes X0.here hx rfl (pc0 := 9) (pc' := 18) rfl (hb hby d20_9) rfl (tlt hc9_1).1 (by decide) (by decide) ?_
     refine oIn X0 hx hby d20_18 rfl ?_
     refine XS.sipush X0.here hx rfl (hb hby d20_19) ?_
     exact q
    by_cases hc22_3 : p0 < (128 : Int32)
    · obtain ⟨fs, hr, hrun, hended, hW, hsame⟩ := X0.leave (v := some (.int 0)) (fun h => by rw [Bd.returns] at h; cases h)
      refine ⟨_, _, k4 _ ?_, hrun, hended, _, _, rfl, ?_, ⟨_, rfl⟩, hW, hsame.mono (by decide) (by decide)⟩
      · refine XS.icmpYes X0.here hx rfl (pc0 := 22) (pc' := 36) rfl (hb hby d20_22) rfl (tlt hc22_3).1 (by decide) (by decide) ?_
        refine oIc X0 hx hby d20_36 ?_
        exact retN X0 hx (t := .boolean) Bd.returns (by simp) (hb hby d20_37) hr
      · show Q_Et_f Z _ h0 n0 _ s₁.heap _
        rw [e0]
        exact ⟨rfl, N0, rfl⟩
    · obtain ⟨fs, hr, hrun, hended, hW, hsame⟩ := X0.leave (v := some (.int 0)) (fun h => by rw [Bd.returns] at h; cases h)
      refine ⟨_, _, k4 _ ?_, hrun, hended, _, _, rfl, ?_, ⟨_, rfl⟩, hW, hsame.mono (by decide) (by decide)⟩
      · refine XS.icmpNo X0.here hx rfl (hb hby d20_22) rfl (flt hc22_3).1 ?_
        refine oIn X0 hx hby d20_25 rfl ?_
        refine XS.sipush X0.here hx rfl (hb hby d20_26) ?_
        refine XS.icmpYes X0.here hx rfl (pc0 := 29) (pc' := 36) rfl (hb hby d20_29) rfl (tlt (own_f3 het hc22_3)).2.2.1 (by decide) (by decide) ?_
        refine oIc X0 hx hby d20_36 ?_
        exact retN X0 hx (t := .boolean) Bd.returns (by simp) (hb hby d20_37) hr
      · show Q_Et_f Z _ h0 n0 _ s₁.heap _
        rw [e0]
        exact ⟨rfl, N0, rfl⟩
  · have k6 : ∀ t, OwnS p e below s₁ (mkF m 22 #[iv p0] [(.int 128), (.int p0)]) t → OwnS p e below s₁ (entryFrame m #[(.int p0)] 1) t := fun t q => by
     refine k2 t ?_
     refine XS.icmpNo X0.here hx rfl (hb hby d20_9) rfl (flt hc9_1).1 ?_
     refine oIn X0 hx hby d20_12 rfl (oBp X0 hx hby d20_13 ?_)
     refine XS.icmpNo X0.here hx rfl (hb hby d20_15) rfl (tlt (own_f2 het hc9_1)).2.2.2 ?_
     refine oIn X0 hx hby d20_18 rfl ?_
     refine XS.sipush X0.here hx rfl (hb hby d20_19) ?_
     exact q
    by_cases hc22_5 : p0 < (128 : Int32)
    · obtain ⟨fs, hr, hrun, hended, hW, hsame⟩ := X0.leave (v := some (.int 0)) (fun h => by rw [Bd.returns] at h; cases h)
      refine ⟨_, _, k6 _ ?_, hrun, hended, _, _, rfl, ?_, ⟨_, rfl⟩, hW, hsame.mono (by decide) (by decide)⟩
      · refine XS.icmpYes X0.here hx rfl (pc0 := 22) (pc' := 36) rfl (hb hby d20_22) rfl (tlt hc22_5).1 (by decide) (by decide) ?_
        refine oIc X0 hx hby d20_36 ?_
        exact retN X0 hx (t := .boolean) Bd.returns (by simp) (hb hby d20_37) hr
      · show Q_Et_f Z _ h0 n0 _ s₁.heap _
        rw [e0]
        exact ⟨rfl, N0, rfl⟩
    · obtain ⟨fs, hr, hrun, hended, hW, hsame⟩ := X0.leave (v := some (.int 0)) (fun h => by rw [Bd.returns] at h; cases h)
      refine ⟨_, _, k6 _ ?_, hrun, hended, _, _, rfl, ?_, ⟨_, rfl⟩, hW, hsame.mono (by decide) (by decide)⟩
      · refine XS.icmpNo X0.here hx rfl (hb hby d20_22) rfl (flt hc22_5).1 ?_
        refine oIn X0 hx hby d20_25 rfl ?_
        refine XS.sipush X0.here hx rfl (hb hby d20_26) ?_
        refine XS.icmpYes X0.here hx rfl (pc0 := 29) (pc' := 36) rfl (hb hby d20_29) rfl (tlt (own_f3 het hc22_5)).2.2.1 (by decide) (by decide) ?_
        refine oIc X0 hx hby d20_36 ?_
        exact retN X0 hx (t := .boolean) Bd.returns (by simp) (hb hby d20_37) hr
      · show Q_Et_f Z _ h0 n0 _ s₁.heap _
        rw [e0]
        exact ⟨rfl, N0, rfl⟩
theorem d19_0 : decode method_5_code 0 = .ok (.iload_n 1, 1) := by decide +kernel
theorem d19_1 : decode method_5_code 1 = .ok (.iconst 5, 1) := by decide +kernel
theorem d19_2 : decode method_5_code 2 = .ok (.if_icmp .lt 6, 3) := by decide +kernel
theorem d19_5 : decode method_5_code 5 = .ok (.bipush (-2), 2) := by decide +kernel
theorem d19_7 : decode method_5_code 7 = .ok (.ireturn, 1) := by decide +kernel
theorem ef_19 (m : MethodId) (x0 : Addr) (x1 : Int32) : entryFrame m #[(.ref x0), (.int x1)] 2 = mkF m 0 #[.val (.ref x0), .val (.int x1)] [] := by first | (simp [entryFrame, mkF, argsToLocals, Value.category]; done) | rfl
def Q_Lk_far (Z : State) (r0 : Addr) (p1 : Int32) (h0 : Heap) (n0 : Nat) (v : Option Value) (h : Heap) (L : List Loc) : Prop := v = some (.int (-2)) ∧ Fr n0 L ∧ h = h0
set_option maxRecDepth 65536 in
set_option maxHeartbeats 40000000 in
theorem rmLk_far (l : Launch) (Z : State) (a0 : Array Value) (hw : ∀ d ∈ tables_1, d.before a0 Z = true) (ws : List Jvm.Cond) (r0 : Addr) (p1 : Int32) (h0 : Heap) (n0 : Nat) (Z0 : n0 ≤ h0.size) (hfar : ¬ (p1 < (5 : Int32))) :
    MetFree l (⟨cS2, "look", "([CI)I"⟩ : MethodName) (head1 (Jvm.Cond.code (⟨cS2, "look", "([CI)I"⟩ : MethodName) method_5_code 2 (some .int) :: ws) ({ frames := 0, cells := 0, slots := 0, locals := 0 } : Room)) (fun a U => a = #[(.ref r0), (.int p1)] ∧ Z.Warmed39 U.vm ∧ U.heap = h0) (fun _ _ _ _ _ => True) (fun _ U o U' => ∃ v L, o = .returned v ∧ Q_Lk_far Z r0 p1 h0 n0 v U'.heap L ∧ FrameEnd U o U' L 0 0) := by
  refine MetFree.of_bodySF (plainFor_of_name pn_com_example_strict_lock_strictlock_EntityTagsEndPinLaw) hisR ?_
  intro p e s m args below meth c s₁ Bd hml0 hP hK
  obtain ⟨rfl, hZ, hh⟩ := hP
  have hx := Bd.exec
  have hby := Bd.bytes
  have hml : c.maxLocals = 2 := hml0
  have hown : s.vm.findClass cS2 = some m.cls := findClass_of_methodNamed Bd.named
  have hnm := (name_of_methodNamed Bd.named Bd.method).1
  have X0 : Stand p l e ({ frames := 0, cells := 0, slots := 0, locals := 0 } : Room) s m #[(.ref r0), (.int p1)] below meth c s₁ [] 0 0 := Stand.of_body Bd
  have e0 : s₁.heap = h0 := by rw [← hh, Bd.state]; rfl
  have N0 := Fr.nil n0
  have k0 : ∀ t, OwnS p e below s₁ (mkF m 0 #[rv r0, iv p1] []) t → OwnS p e below s₁ (entryFrame m #[(.ref r0), (.int p1)] 2) t := fun t k => castTop (ef_19 m r0 p1) k
  obtain ⟨fs, hr, hrun, hended, hW, hsame⟩ := X0.leave (v := some (.int (-2))) (fun h => by rw [Bd.returns] at h; cases h)
  refine ⟨_, _, k0 _ ?_, hrun, hended, _, _, rfl, ?_, ⟨_, rfl⟩, hW, hsame.mono (by decide) (by decide)⟩
  · show OwnS p e below s₁ (mkF m 0 #[rv r0, iv p1] []) _
    refine oIn X0 hx hby d19_0 rfl (oIc X0 hx hby d19_1 ?_)
    refine XS.icmpNo X0.here hx rfl (hb hby d19_2) rfl (flt hfar).1 ?_
    refine oBp X0 hx hby d19_5 ?_
    exact retI X0 hx Bd.returns (hb hby d19_7) hr
  · show Q_Lk_far Z _ _ h0 n0 _ s₁.heap _
    rw [e0]
    exact ⟨rfl, N0, rfl⟩
theorem pd_14 : parseMethodDescriptor "(C)Z" = some ⟨[.char], some .boolean⟩ := by decide +kernel
theorem d19_8 : decode method_5_code 8 = .ok (.aload_n 0, 1) := by decide +kernel
theorem d19_9 : decode method_5_code 9 = .ok (.iload_n 1, 1) := by decide +kernel
theorem d19_10 : decode method_5_code 10 = .ok (.caload, 1) := by decide +kernel
theorem d19_11 : decode method_5_code 11 = .ok (.bipush 34, 2) := by decide +kernel
theorem d19_13 : decode method_5_code 13 = .ok (.if_icmp .ne 7, 3) := by decide +kernel
theorem d19_16 : decode method_5_code 16 = .ok (.iload_n 1, 1) := by decide +kernel
theorem d19_17 : decode method_5_code 17 = .ok (.iconst 1, 1) := by decide +kernel
theorem d19_18 : decode method_5_code 18 = .ok (.iadd, 1) := by decide +kernel
theorem d19_19 : decode method_5_code 19 = .ok (.ireturn, 1) := by decide +kernel
theorem d19_20 : decode method_5_code 20 = .ok (.aload_n 0, 1) := by decide +kernel
theorem d19_21 : decode method_5_code 21 = .ok (.iload_n 1, 1) := by decide +kernel
theorem d19_22 : decode method_5_code 22 = .ok (.caload, 1) := by decide +kernel
theorem d19_23 : decode method_5_code 23 = .ok (.invokestatic 30, 3) := by decide +kernel
theorem d19_26 : decode method_5_code 26 = .ok (.ifCond .eq 5, 3) := by decide +kernel
theorem d19_29 : decode method_5_code 29 = .ok (.iconst (-1), 1) := by decide +kernel
theorem d19_30 : decode method_5_code 30 = .ok (.ireturn, 1) := by decide +kernel
theorem d19_31 : decode method_5_code 31 = .ok (.bipush (-2), 2) := by decide +kernel
theorem d19_33 : decode method_5_code 33 = .ok (.ireturn, 1) := by decide +kernel
def Q_Lk_1 (Z : State) (r0 : Addr) (kC : ClassId) (x0 : Int32) (x1 : Int32) (x2 : Int32) (x3 : Int32) (x4 : Int32) (h0 : Heap) (n0 : Nat) (v : Option Value) (h : Heap) (L : List Loc) : Prop := (v = some (.int 2) ∧ Fr n0 L ∧ h = h0 ∧ x1 = (34 : Int32)) ∨ (v = some (.int (-1)) ∧ Fr n0 L ∧ h = h0 ∧ ¬ (x1 = (34 : Int32)) ∧ own_et x1 = true) ∨ (v = some (.int (-2)) ∧ Fr n0 L ∧ h = h0 ∧ ¬ (x1 = (34 : Int32)) ∧ own_et x1 = false)
set_option maxRecDepth 65536 in
set_option maxHeartbeats 40000000 in
theorem rmLk_1 (l : Launch) (Z : State) (a0 : Array Value) (hw : ∀ d ∈ tables_1, d.before a0 Z = true) (ws : List Jvm.Cond) (r0 : Addr) (kC : ClassId) (x0 : Int32) (x1 : Int32) (x2 : Int32) (x3 : Int32) (x4 : Int32) (h0 : Heap) (n0 : Nat) (Z0 : n0 ≤ h0.size) (V_r0 : Arv Z h0 r0 kC .char (5 : Int32) [(.int x0), (.int x1), (.int x2), (.int x3), (.int x4)] (.int 0)) :
    MetFree l (⟨cS2, "look", "([CI)I"⟩ : MethodName) (head1 (Jvm.Cond.code (⟨cS2, "look", "([CI)I"⟩ : MethodName) method_5_code 2 (some .int) :: ws) ({ frames := 1, cells := 0, slots := 0, locals := 12 } : Room)) (fun a U => a = #[(.ref r0), (.int 1)] ∧ Z.Warmed39 U.vm ∧ U.heap = h0) (fun _ _ _ _ _ => True) (fun _ U o U' => ∃ v L, o = .returned v ∧ Q_Lk_1 Z r0 kC x0 x1 x2 x3 x4 h0 n0 v U'.heap L ∧ FrameEnd U o U' L 0 0) := by
  refine MetFree.of_bodySF (plainFor_of_name pn_com_example_strict_lock_strictlock_EntityTagsEndPinLaw) hisR ?_
  intro p e s m args below meth c s₁ Bd hml0 hP hK
  obtain ⟨rfl, hZ, hh⟩ := hP
  have hx := Bd.exec
  have hby := Bd.bytes
  have hml : c.maxLocals = 2 := hml0
  have hown : s.vm.findClass cS2 = some m.cls := findClass_of_methodNamed Bd.named
  have hnm := (name_of_methodNamed Bd.named Bd.method).1
  have X0 : Stand p l e ({ frames := 1, cells := 0, slots := 0, locals := 12 } : Room) s m #[(.ref r0), (.int 1)] below meth c s₁ [] 0 0 := Stand.of_body Bd
  have e0 : s₁.heap = h0 := by rw [← hh, Bd.state]; rfl
  have N0 := Fr.nil n0
  have k0 : ∀ t, OwnS p e below s₁ (mkF m 0 #[rv r0, iv 1] []) t → OwnS p e below s₁ (entryFrame m #[(.ref r0), (.int 1)] 2) t := fun t k => castTop (ef_19 m r0 (1 : Int32)) k
  obtain ⟨cl_z1, Ar_z1, q_z1, S_z1, N_z1, H_z1, G_z1⟩ := id V_r0
  have hin2 : ¬ ((1 : Int32) < 0 ∨ cl_z1.slots.size ≤ ((1 : Int32)).toNatClampNeg) := inb_of S_z1 ⟨by decide, by decide⟩
  have k4 : ∀ t, OwnS p e below s₁ (mkF m 13 #[rv r0, iv 1] [(.int 34), (.int x1)]) t → OwnS p e below s₁ (entryFrame m #[(.ref r0), (.int 1)] 2) t := fun t q => by
   refine k0 t ?_
   show OwnS p e below s₁ (mkF m 0 #[rv r0, iv 1] []) _
   refine oIn X0 hx hby d19_0 rfl (oIc X0 hx hby d19_1 ?_)
   refine XS.icmpYes X0.here hx rfl (pc0 := 2) (pc' := 8) rfl (hb hby d19_2) rfl (tlt (by decide : (1 : Int32) < (5 : Int32))).1 (by decide) (by decide) ?_
   refine oAn X0 hx hby d19_8 rfl rfl (oIn X0 hx hby d19_9 rfl ?_)
   refine X0.caload hx (j := (1 : Int32)) (v := (.int x1)) (by rw [e0]; exact Ar_z1.1) (State.isArrayOf_alike hZ.alike Ar_z1.2.1) Ar_z1.2.2 hin2 (Has.at H_z1 hin2 rfl) (g := (mkF m 10 #[rv r0, iv 1] [(.int 1), (.ref r0)])) rfl rfl (hb hby d19_10) _ ?_
   refine oBp X0 hx hby d19_11 ?_
   exact q
  by_cases hc13_3 : x1 = (34 : Int32)
  · obtain ⟨fs, hr, hrun, hended, hW, hsame⟩ := X0.leave (v := some (.int 2)) (fun h => by rw [Bd.returns] at h; cases h)
    refine ⟨_, _, k4 _ ?_, hrun, hended, _, _, rfl, ?_, ⟨_, rfl⟩, hW, hsame.mono (by decide) (by decide)⟩
    · refine XS.icmpNo X0.here hx rfl (hb hby d19_13) rfl (teq hc13_3).2 ?_
      refine oIn X0 hx hby d19_16 rfl (oIc X0 hx hby d19_17 ?_)
      refine XS.iadd X0.here hx rfl (hb hby d19_18) rfl ?_
      exact retI X0 hx Bd.returns (hb hby d19_19) hr
    · show Q_Lk_1 Z _ _ _ _ _ _ _ h0 n0 _ s₁.heap _
      rw [e0]
      exact Or.inl (⟨rfl, N0, rfl, hc13_3⟩)
  · have hin5 : ¬ ((1 : Int32) < 0 ∨ cl_z1.slots.size ≤ ((1 : Int32)).toNatClampNeg) := inb_of S_z1 ⟨by decide, by decide⟩
    have k7 : ∀ t, OwnS p e below s₁ (mkF m 23 #[rv r0, iv 1] [(.int x1)]) t → OwnS p e below s₁ (entryFrame m #[(.ref r0), (.int 1)] 2) t := fun t q => by
     refine k4 t ?_
     refine XS.icmpYes X0.here hx rfl (pc0 := 13) (pc' := 20) rfl (hb hby d19_13) rfl (feq hc13_3).2 (by decide) (by decide) ?_
     refine oAn X0 hx hby d19_20 rfl rfl (oIn X0 hx hby d19_21 rfl ?_)
     refine X0.caload hx (j := (1 : Int32)) (v := (.int x1)) (by rw [e0]; exact Ar_z1.1) (State.isArrayOf_alike hZ.alike Ar_z1.2.1) Ar_z1.2.2 hin5 (Has.at H_z1 hin5 rfl) (g := (mkF m 22 #[rv r0, iv 1] [(.int 1), (.ref r0)])) rfl rfl (hb hby d19_22) _ ?_
     exact q
    rcases own_ett x1 with hq6 | hq6
    · skip
      obtain ⟨_, _, ⟨T8, L8, j8, i8⟩, -, X8, ⟨Lc8, hQ8, l8, y8, z8⟩, st8⟩ := Jvm.LawKit.callS X0 hx (y := (⟨cS2, "etagc", "(C)Z"⟩ : MethodName)) hown (mvT hZ (own_at hw 91 rfl)) (mvT hZ (own_at hw 92 rfl)) (mvT hZ (own_at hw 3 rfl)) (mvT hZ (own_at hw 93 rfl)) (by decide) (backOf (W := 0) (rmEt_t l Z a0 hw [] x1 h0 n0 Z0 hq6) hZ (own_at hw 93 rfl) (own_at hw 3 rfl) (by decide) (by decide)) (g := (mkF m 23 #[rv r0, iv 1] [(.int x1)])) rfl (by rw [hml]; rfl) (argsL := [(.int x1)]) (rest := []) (lenOf pd_14 rfl) rfl (Nat.le_refl _) (hb hby d19_23) (fun _ _ => ⟨rfl, e0, (by decide : 0 + 0 ≤ _), (by decide : 0 + 0 ≤ _)⟩)
      dsimp only [Pt.U, Pt.locs, Pt.cells, Pt.slots] at X8 l8 y8 z8 st8 hQ8
      subst l8 y8 z8
      obtain ⟨rfl, N8q, e8⟩ := hQ8
      have N8 := Fr.app N0 N8q
      obtain ⟨fs, hr, hrun, hended, hW, hsame⟩ := X8.leave (v := some (.int (-1))) (fun h => by rw [Bd.returns] at h; cases h)
      refine ⟨_, _, k7 _ ?_, hrun, hended, _, _, rfl, ?_, ⟨_, rfl⟩, hW, hsame.mono (by decide) (by decide)⟩
      · show OwnS p e below s₁ (mkF m 23 #[rv r0, iv 1] [(.int x1)]) _
        refine st8 _ ?_
        refine XS.ifNo X8.here hx rfl (hb hby d19_26) rfl ((if0 _ _).trans (feq (by decide : ¬ ((1 : Int32) = (0 : Int32)))).1) ?_
        refine oIc X8 hx hby d19_29 ?_
        exact retI X8 hx Bd.returns (hb hby d19_30) hr
      · show Q_Lk_1 Z _ _ _ _ _ _ _ h0 n0 _ T8.heap _
        rw [e8]
        exact Or.inr (Or.inl (⟨rfl, N8, rfl, hc13_3, hq6⟩))
    · skip
      obtain ⟨_, _, ⟨T9, L9, j9, i9⟩, -, X9, ⟨Lc9, hQ9, l9, y9, z9⟩, st9⟩ := Jvm.LawKit.callS X0 hx (y := (⟨cS2, "etagc", "(C)Z"⟩ : MethodName)) hown (mvT hZ (own_at hw 91 rfl)) (mvT hZ (own_at hw 92 rfl)) (mvT hZ (own_at hw 3 rfl)) (mvT hZ (own_at hw 93 rfl)) (by decide) (backOf (W := 0) (rmEt_f l Z a0 hw [] x1 h0 n0 Z0 hq6) hZ (own_at hw 93 rfl) (own_at hw 3 rfl) (by decide) (by decide)) (g := (mkF m 23 #[rv r0, iv 1] [(.int x1)])) rfl (by rw [hml]; rfl) (argsL := [(.int x1)]) (rest := []) (lenOf pd_14 rfl) rfl (Nat.le_refl _) (hb hby d19_23) (fun _ _ => ⟨rfl, e0, (by decide : 0 + 0 ≤ _), (by decide : 0 + 0 ≤ _)⟩)
      dsimp only [Pt.U, Pt.locs, Pt.cells, Pt.slots] at X9 l9 y9 z9 st9 hQ9
      subst l9 y9 z9
      obtain ⟨rfl, N9q, e9⟩ := hQ9
      have N9 := Fr.app N0 N9q
      obtain ⟨fs, hr, hrun, hended, hW, hsame⟩ := X9.leave (v := some (.int (-2))) (fun h => by rw [Bd.returns] at h; cases h)
      refine ⟨_, _, k7 _ ?_, hrun, hended, _, _, rfl, ?_, ⟨_, rfl⟩, hW, hsame.mono (by decide) (by decide)⟩
      · show OwnS p e below s₁ (mkF m 23 #[rv r0, iv 1] [(.int x1)]) _
        refine st9 _ ?_
        refine XS.ifYes X9.here hx rfl (pc0 := 26) (pc' := 31) rfl (hb hby d19_26) rfl ((if0 _ _).trans (teq (by decide : (0 : Int32) = (0 : Int32))).1) (by decide) (by decide) ?_
        refine oBp X9 hx hby d19_31 ?_
        exact retI X9 hx Bd.returns (hb hby d19_33) hr
      · show Q_Lk_1 Z _ _ _ _ _ _ _ h0 n0 _ T9.heap _
        rw [e9]
        exact Or.inr (Or.inr ((⟨rfl, N9, rfl, hc13_3, hq6⟩)))
def Q_Lk_2 (Z : State) (r0 : Addr) (kC : ClassId) (x0 : Int32) (x1 : Int32) (x2 : Int32) (x3 : Int32) (x4 : Int32) (h0 : Heap) (n0 : Nat) (v : Option Value) (h : Heap) (L : List Loc) : Prop := (v = some (.int 3) ∧ Fr n0 L ∧ h = h0 ∧ x2 = (34 : Int32)) ∨ (v = some (.int (-1)) ∧ Fr n0 L ∧ h = h0 ∧ ¬ (x2 = (34 : Int32)) ∧ own_et x2 = true) ∨ (v = some (.int (-2)) ∧ Fr n0 L ∧ h = h0 ∧ ¬ (x2 = (34 : Int32)) ∧ own_et x2 = false)
set_option maxRecDepth 65536 in
set_option maxHeartbeats 40000000 in
theorem rmLk_2 (l : Launch) (Z : State) (a0 : Array Value) (hw : ∀ d ∈ tables_1, d.before a0 Z = true) (ws : List Jvm.Cond) (r0 : Addr) (kC : ClassId) (x0 : Int32) (x1 : Int32) (x2 : Int32) (x3 : Int32) (x4 : Int32) (h0 : Heap) (n0 : Nat) (Z0 : n0 ≤ h0.size) (V_r0 : Arv Z h0 r0 kC .char (5 : Int32) [(.int x0), (.int x1), (.int x2), (.int x3), (.int x4)] (.int 0)) :
    MetFree l (⟨cS2, "look", "([CI)I"⟩ : MethodName) (head1 (Jvm.Cond.code (⟨cS2, "look", "([CI)I"⟩ : MethodName) method_5_code 2 (some .int) :: ws) ({ frames := 1, cells := 0, slots := 0, locals := 12 } : Room)) (fun a U => a = #[(.ref r0), (.int 2)] ∧ Z.Warmed39 U.vm ∧ U.heap = h0) (fun _ _ _ _ _ => True) (fun _ U o U' => ∃ v L, o = .returned v ∧ Q_Lk_2 Z r0 kC x0 x1 x2 x3 x4 h0 n0 v U'.heap L ∧ FrameEnd U o U' L 0 0) := by
  refine MetFree.of_bodySF (plainFor_of_name pn_com_example_strict_lock_strictlock_EntityTagsEndPinLaw) hisR ?_
  intro p e s m args below meth c s₁ Bd hml0 hP hK
  obtain ⟨rfl, hZ, hh⟩ := hP
  have hx := Bd.exec
  have hby := Bd.bytes
  have hml : c.maxLocals = 2 := hml0
  have hown : s.vm.findClass cS2 = some m.cls := findClass_of_methodNamed Bd.named
  have hnm := (name_of_methodNamed Bd.named Bd.method).1
  have X0 : Stand p l e ({ frames := 1, cells := 0, slots := 0, locals := 12 } : Room) s m #[(.ref r0), (.int 2)] below meth c s₁ [] 0 0 := Stand.of_body Bd
  have e0 : s₁.heap = h0 := by rw [← hh, Bd.state]; rfl
  have N0 := Fr.nil n0
  have k0 : ∀ t, OwnS p e below s₁ (mkF m 0 #[rv r0, iv 2] []) t → OwnS p e below s₁ (entryFrame m #[(.ref r0), (.int 2)] 2) t := fun t k => castTop (ef_19 m r0 (2 : Int32)) k
  obtain ⟨cl_z1, Ar_z1, q_z1, S_z1, N_z1, H_z1, G_z1⟩ := id V_r0
  have hin2 : ¬ ((2 : Int32) < 0 ∨ cl_z1.slots.size ≤ ((2 : Int32)).toNatClampNeg) := inb_of S_z1 ⟨by decide, by decide⟩
  have k4 : ∀ t, OwnS p e below s₁ (mkF m 13 #[rv r0, iv 2] [(.int 34), (.int x2)]) t → OwnS p e below s₁ (entryFrame m #[(.ref r0), (.int 2)] 2) t := fun t q => by
   refine k0 t ?_
   show OwnS p e below s₁ (mkF m 0 #[rv r0, iv 2] []) _
   refine oIn X0 hx hby d19_0 rfl (oIc X0 hx hby d19_1 ?_)
   refine XS.icmpYes X0.here hx rfl (pc0 := 2) (pc' := 8) rfl (hb hby d19_2) rfl (tlt (by decide : (2 : Int32) < (5 : Int32))).1 (by decide) (by decide) ?_
   refine oAn X0 hx hby d19_8 rfl rfl (oIn X0 hx hby d19_9 rfl ?_)
   refine X0.caload hx (j := (2 : Int32)) (v := (.int x2)) (by rw [e0]; exact Ar_z1.1) (State.isArrayOf_alike hZ.alike Ar_z1.2.1) Ar_z1.2.2 hin2 (Has.at H_z1 hin2 rfl) (g := (mkF m 10 #[rv r0, iv 2] [(.int 2), (.ref r0)])) rfl rfl (hb hby d19_10) _ ?_
   refine oBp X0 hx hby d19_11 ?_
   exact q
  by_cases hc13_3 : x2 = (34 : Int32)
  · obtain ⟨fs, hr, hrun, hended, hW, hsame⟩ := X0.leave (v := some (.int 3)) (fun h => by rw [Bd.returns] at h; cases h)
    refine ⟨_, _, k4 _ ?_, hrun, hended, _, _, rfl, ?_, ⟨_, rfl⟩, hW, hsame.mono (by decide) (by decide)⟩
    · refine XS.icmpNo X0.here hx rfl (hb hby d19_13) rfl (teq hc13_3).2 ?_
      refine oIn X0 hx hby d19_16 rfl (oIc X0 hx hby d19_17 ?_)
      refine XS.iadd X0.here hx rfl (hb hby d19_18) rfl ?_
      exact retI X0 hx Bd.returns (hb hby d19_19) hr
    · show Q_Lk_2 Z _ _ _ _ _ _ _ h0 n0 _ s₁.heap _
      rw [e0]
      exact Or.inl (⟨rfl, N0, rfl, hc13_3⟩)
  · have hin5 : ¬ ((2 : Int32) < 0 ∨ cl_z1.slots.size ≤ ((2 : Int32)).toNatClampNeg) := inb_of S_z1 ⟨by decide, by decide⟩
    have k7 : ∀ t, OwnS p e below s₁ (mkF m 23 #[rv r0, iv 2] [(.int x2)]) t → OwnS p e below s₁ (entryFrame m #[(.ref r0), (.int 2)] 2) t := fun t q => by
     refine k4 t ?_
     refine XS.icmpYes X0.here hx rfl (pc0 := 13) (pc' := 20) rfl (hb hby d19_13) rfl (feq hc13_3).2 (by decide) (by decide) ?_
     refine oAn X0 hx hby d19_20 rfl rfl (oIn X0 hx hby d19_21 rfl ?_)
     refine X0.caload hx (j := (2 : Int32)) (v := (.int x2)) (by rw [e0]; exact Ar_z1.1) (State.isArrayOf_alike hZ.alike Ar_z1.2.1) Ar_z1.2.2 hin5 (Has.at H_z1 hin5 rfl) (g := (mkF m 22 #[rv r0, iv 2] [(.int 2), (.ref r0)])) rfl rfl (hb hby d19_22) _ ?_
     exact q
    rcases own_ett x2 with hq6 | hq6
    · skip
      obtain ⟨_, _, ⟨T8, L8, j8, i8⟩, -, X8, ⟨Lc8, hQ8, l8, y8, z8⟩, st8⟩ := Jvm.LawKit.callS X0 hx (y := (⟨cS2, "etagc", "(C)Z"⟩ : MethodName)) hown (mvT hZ (own_at hw 91 rfl)) (mvT hZ (own_at hw 92 rfl)) (mvT hZ (own_at hw 3 rfl)) (mvT hZ (own_at hw 93 rfl)) (by decide) (backOf (W := 0) (rmEt_t l Z a0 hw [] x2 h0 n0 Z0 hq6) hZ (own_at hw 93 rfl) (own_at hw 3 rfl) (by decide) (by decide)) (g := (mkF m 23 #[rv r0, iv 2] [(.int x2)])) rfl (by rw [hml]; rfl) (argsL := [(.int x2)]) (rest := []) (lenOf pd_14 rfl) rfl (Nat.le_refl _) (hb hby d19_23) (fun _ _ => ⟨rfl, e0, (by decide : 0 + 0 ≤ _), (by decide : 0 + 0 ≤ _)⟩)
      dsimp only [Pt.U, Pt.locs, Pt.cells, Pt.slots] at X8 l8 y8 z8 st8 hQ8
      subst l8 y8 z8
      obtain ⟨rfl, N8q, e8⟩ := hQ8
      have N8 := Fr.app N0 N8q
      obtain ⟨fs, hr, hrun, hended, hW, hsame⟩ := X8.leave (v := some (.int (-1))) (fun h => by rw [Bd.returns] at h; cases h)
      refine ⟨_, _, k7 _ ?_, hrun, hended, _, _, rfl, ?_, ⟨_, rfl⟩, hW, hsame.mono (by decide) (by decide)⟩
      · show OwnS p e below s₁ (mkF m 23 #[rv r0, iv 2] [(.int x2)]) _
        refine st8 _ ?_
        refine XS.ifNo X8.here hx rfl (hb hby d19_26) rfl ((if0 _ _).trans (feq (by decide : ¬ ((1 : Int32) = (0 : Int32)))).1) ?_
        refine oIc X8 hx hby d19_29 ?_
        exact retI X8 hx Bd.returns (hb hby d19_30) hr
      · show Q_Lk_2 Z _ _ _ _ _ _ _ h0 n0 _ T8.heap _
        rw [e8]
        exact Or.inr (Or.inl (⟨rfl, N8, rfl, hc13_3, hq6⟩))
    · skip
      obtain ⟨_, _, ⟨T9, L9, j9, i9⟩, -, X9, ⟨Lc9, hQ9, l9, y9, z9⟩, st9⟩ := Jvm.LawKit.callS X0 hx (y := (⟨cS2, "etagc", "(C)Z"⟩ : MethodName)) hown (mvT hZ (own_at hw 91 rfl)) (mvT hZ (own_at hw 92 rfl)) (mvT hZ (own_at hw 3 rfl)) (mvT hZ (own_at hw 93 rfl)) (by decide) (backOf (W := 0) (rmEt_f l Z a0 hw [] x2 h0 n0 Z0 hq6) hZ (own_at hw 93 rfl) (own_at hw 3 rfl) (by decide) (by decide)) (g := (mkF m 23 #[rv r0, iv 2] [(.int x2)])) rfl (by rw [hml]; rfl) (argsL := [(.int x2)]) (rest := []) (lenOf pd_14 rfl) rfl (Nat.le_refl _) (hb hby d19_23) (fun _ _ => ⟨rfl, e0, (by decide : 0 + 0 ≤ _), (by decide : 0 + 0 ≤ _)⟩)
      dsimp only [Pt.U, Pt.locs, Pt.cells, Pt.slots] at X9 l9 y9 z9 st9 hQ9
      subst l9 y9 z9
      obtain ⟨rfl, N9q, e9⟩ := hQ9
      have N9 := Fr.app N0 N9q
      obtain ⟨fs, hr, hrun, hended, hW, hsame⟩ := X9.leave (v := some (.int (-2))) (fun h => by rw [Bd.returns] at h; cases h)
      refine ⟨_, _, k7 _ ?_, hrun, hended, _, _, rfl, ?_, ⟨_, rfl⟩, hW, hsame.mono (by decide) (by decide)⟩
      · show OwnS p e below s₁ (mkF m 23 #[rv r0, iv 2] [(.int x2)]) _
        refine st9 _ ?_
        refine XS.ifYes X9.here hx rfl (pc0 := 26) (pc' := 31) rfl (hb hby d19_26) rfl ((if0 _ _).trans (teq (by decide : (0 : Int32) = (0 : Int32))).1) (by decide) (by decide) ?_
        refine oBp X9 hx hby d19_31 ?_
        exact retI X9 hx Bd.returns (hb hby d19_33) hr
      · show Q_Lk_2 Z _ _ _ _ _ _ _ h0 n0 _ T9.heap _
        rw [e9]
        exact Or.inr (Or.inr ((⟨rfl, N9, rfl, hc13_3, hq6⟩)))
def Q_Lk_3 (Z : State) (r0 : Addr) (kC : ClassId) (x0 : Int32) (x1 : Int32) (x2 : Int32) (x3 : Int32) (x4 : Int32) (h0 : Heap) (n0 : Nat) (v : Option Value) (h : Heap) (L : List Loc) : Prop := (v = some (.int 4) ∧ Fr n0 L ∧ h = h0 ∧ x3 = (34 : Int32)) ∨ (v = some (.int (-1)) ∧ Fr n0 L ∧ h = h0 ∧ ¬ (x3 = (34 : Int32)) ∧ own_et x3 = true) ∨ (v = some (.int (-2)) ∧ Fr n0 L ∧ h = h0 ∧ ¬ (x3 = (34 : Int32)) ∧ own_et x3 = false)
set_option maxRecDepth 65536 in
set_option maxHeartbeats 40000000 in
theorem rmLk_3 (l : Launch) (Z : State) (a0 : Array Value) (hw : ∀ d ∈ tables_1, d.before a0 Z = true) (ws : List Jvm.Cond) (r0 : Addr) (kC : ClassId) (x0 : Int32) (x1 : Int32) (x2 : Int32) (x3 : Int32) (x4 : Int32) (h0 : Heap) (n0 : Nat) (Z0 : n0 ≤ h0.size) (V_r0 : Arv Z h0 r0 kC .char (5 : Int32) [(.int x0), (.int x1), (.int x2), (.int x3), (.int x4)] (.int 0)) :
    MetFree l (⟨cS2, "look", "([CI)I"⟩ : MethodName) (head1 (Jvm.Cond.code (⟨cS2, "look", "([CI)I"⟩ : MethodName) method_5_code 2 (some .int) :: ws) ({ frames := 1, cells := 0, slots := 0, locals := 12 } : Room)) (fun a U => a = #[(.ref r0), (.int 3)] ∧ Z.Warmed39 U.vm ∧ U.heap = h0) (fun _ _ _ _ _ => True) (fun _ U o U' => ∃ v L, o = .returned v ∧ Q_Lk_3 Z r0 kC x0 x1 x2 x3 x4 h0 n0 v U'.heap L ∧ FrameEnd U o U' L 0 0) := by
  refine MetFree.of_bodySF (plainFor_of_name pn_com_example_strict_lock_strictlock_EntityTagsEndPinLaw) hisR ?_
  intro p e s m args below meth c s₁ Bd hml0 hP hK
  obtain ⟨rfl, hZ, hh⟩ := hP
  have hx := Bd.exec
  have hby := Bd.bytes
  have hml : c.maxLocals = 2 := hml0
  have hown : s.vm.findClass cS2 = some m.cls := findClass_of_methodNamed Bd.named
  have hnm := (name_of_methodNamed Bd.named Bd.method).1
  have X0 : Stand p l e ({ frames := 1, cells := 0, slots := 0, locals := 12 } : Room) s m #[(.ref r0), (.int 3)] below meth c s₁ [] 0 0 := Stand.of_body Bd
  have e0 : s₁.heap = h0 := by rw [← hh, Bd.state]; rfl
  have N0 := Fr.nil n0
  have k0 : ∀ t, OwnS p e below s₁ (mkF m 0 #[rv r0, iv 3] []) t → OwnS p e below s₁ (entryFrame m #[(.ref r0), (.int 3)] 2) t := fun t k => castTop (ef_19 m r0 (3 : Int32)) k
  obtain ⟨cl_z1, Ar_z1, q_z1, S_z1, N_z1, H_z1, G_z1⟩ := id V_r0
  have hin2 : ¬ ((3 : Int32) < 0 ∨ cl_z1.slots.size ≤ ((3 : Int32)).toNatClampNeg) := inb_of S_z1 ⟨by decide, by decide⟩
  have k4 : ∀ t, OwnS p e below s₁ (mkF m 13 #[rv r0, iv 3] [(.int 34), (.int x3)]) t → OwnS p e below s₁ (entryFrame m #[(.ref r0), (.int 3)] 2) t := fun t q => by
   refine k0 t ?_
   show OwnS p e below s₁ (mkF m 0 #[rv r0, iv 3] []) _
   refine oIn X0 hx hby d19_0 rfl (oIc X0 hx hby d19_1 ?_)
   refine XS.icmpYes X0.here hx rfl (pc0 := 2) (pc' := 8) rfl (hb hby d19_2) rfl (tlt (by decide : (3 : Int32) < (5 : Int32))).1 (by decide) (by decide) ?_
   refine oAn X0 hx hby d19_8 rfl rfl (oIn X0 hx hby d19_9 rfl ?_)
   refine X0.caload hx (j := (3 : Int32)) (v := (.int x3)) (by rw [e0]; exact Ar_z1.1) (State.isArrayOf_alike hZ.alike Ar_z1.2.1) Ar_z1.2.2 hin2 (Has.at H_z1 hin2 rfl) (g := (mkF m 10 #[rv r0, iv 3] [(.int 3), (.ref r0)])) rfl rfl (hb hby d19_10) _ ?_
   refine oBp X0 hx hby d19_11 ?_
   exact q
  by_cases hc13_3 : x3 = (34 : Int32)
  · obtain ⟨fs, hr, hrun, hended, hW, hsame⟩ := X0.leave (v := some (.int 4)) (fun h => by rw [Bd.returns] at h; cases h)
    refine ⟨_, _, k4 _ ?_, hrun, hended, _, _, rfl, ?_, ⟨_, rfl⟩, hW, hsame.mono (by decide) (by decide)⟩
    · refine XS.icmpNo X0.here hx rfl (hb hby d19_13) rfl (teq hc13_3).2 ?_
      refine oIn X0 hx hby d19_16 rfl (oIc X0 hx hby d19_17 ?_)
      refine XS.iadd X0.here hx rfl (hb hby d19_18) rfl ?_
      exact retI X0 hx Bd.returns (hb hby d19_19) hr
    · show Q_Lk_3 Z _ _ _ _ _ _ _ h0 n0 _ s₁.heap _
      rw [e0]
      exact Or.inl (⟨rfl, N0, rfl, hc13_3⟩)
  · have hin5 : ¬ ((3 : Int32) < 0 ∨ cl_z1.slots.size ≤ ((3 : Int32)).toNatClampNeg) := inb_of S_z1 ⟨by decide, by decide⟩
    have k7 : ∀ t, OwnS p e below s₁ (mkF m 23 #[rv r0, iv 3] [(.int x3)]) t → OwnS p e below s₁ (entryFrame m #[(.ref r0), (.int 3)] 2) t := fun t q => by
     refine k4 t ?_
     refine XS.icmpYes X0.here hx rfl (pc0 := 13) (pc' := 20) rfl (hb hby d19_13) rfl (feq hc13_3).2 (by decide) (by decide) ?_
     refine oAn X0 hx hby d19_20 rfl rfl (oIn X0 hx hby d19_21 rfl ?_)
     refine X0.caload hx (j := (3 : Int32)) (v := (.int x3)) (by rw [e0]; exact Ar_z1.1) (State.isArrayOf_alike hZ.alike Ar_z1.2.1) Ar_z1.2.2 hin5 (Has.at H_z1 hin5 rfl) (g := (mkF m 22 #[rv r0, iv 3] [(.int 3), (.ref r0)])) rfl rfl (hb hby d19_22) _ ?_
     exact q
    rcases own_ett x3 with hq6 | hq6
    · skip
      obtain ⟨_, _, ⟨T8, L8, j8, i8⟩, -, X8, ⟨Lc8, hQ8, l8, y8, z8⟩, st8⟩ := Jvm.LawKit.callS X0 hx (y := (⟨cS2, "etagc", "(C)Z"⟩ : MethodName)) hown (mvT hZ (own_at hw 91 rfl)) (mvT hZ (own_at hw 92 rfl)) (mvT hZ (own_at hw 3 rfl)) (mvT hZ (own_at hw 93 rfl)) (by decide) (backOf (W := 0) (rmEt_t l Z a0 hw [] x3 h0 n0 Z0 hq6) hZ (own_at hw 93 rfl) (own_at hw 3 rfl) (by decide) (by decide)) (g := (mkF m 23 #[rv r0, iv 3] [(.int x3)])) rfl (by rw [hml]; rfl) (argsL := [(.int x3)]) (rest := []) (lenOf pd_14 rfl) rfl (Nat.le_refl _) (hb hby d19_23) (fun _ _ => ⟨rfl, e0, (by decide : 0 + 0 ≤ _), (by decide : 0 + 0 ≤ _)⟩)
      dsimp only [Pt.U, Pt.locs, Pt.cells, Pt.slots] at X8 l8 y8 z8 st8 hQ8
      subst l8 y8 z8
      obtain ⟨rfl, N8q, e8⟩ := hQ8
      have N8 := Fr.app N0 N8q
      obtain ⟨fs, hr, hrun, hended, hW, hsame⟩ := X8.leave (v := some (.int (-1))) (fun h => by rw [Bd.returns] at h; cases h)
      refine ⟨_, _, k7 _ ?_, hrun, hended, _, _, rfl, ?_, ⟨_, rfl⟩, hW, hsame.mono (by decide) (by decide)⟩
      · show OwnS p e below s₁ (mkF m 23 #[rv r0, iv 3] [(.int x3)]) _
        refine st8 _ ?_
        refine XS.ifNo X8.here hx rfl (hb hby d19_26) rfl ((if0 _ _).trans (feq (by decide : ¬ ((1 : Int32) = (0 : Int32)))).1) ?_
        refine oIc X8 hx hby d19_29 ?_
        exact retI X8 hx Bd.returns (hb hby d19_30) hr
      · show Q_Lk_3 Z _ _ _ _ _ _ _ h0 n0 _ T8.heap _
        rw [e8]
        exact Or.inr (Or.inl (⟨rfl, N8, rfl, hc13_3, hq6⟩))
    · skip
      obtain ⟨_, _, ⟨T9, L9, j9, i9⟩, -, X9, ⟨Lc9, hQ9, l9, y9, z9⟩, st9⟩ := Jvm.LawKit.callS X0 hx (y := (⟨cS2, "etagc", "(C)Z"⟩ : MethodName)) hown (mvT hZ (own_at hw 91 rfl)) (mvT hZ (own_at hw 92 rfl)) (mvT hZ (own_at hw 3 rfl)) (mvT hZ (own_at hw 93 rfl)) (by decide) (backOf (W := 0) (rmEt_f l Z a0 hw [] x3 h0 n0 Z0 hq6) hZ (own_at hw 93 rfl) (own_at hw 3 rfl) (by decide) (by decide)) (g := (mkF m 23 #[rv r0, iv 3] [(.int x3)])) rfl (by rw [hml]; rfl) (argsL := [(.int x3)]) (rest := []) (lenOf pd_14 rfl) rfl (Nat.le_refl _) (hb hby d19_23) (fun _ _ => ⟨rfl, e0, (by decide : 0 + 0 ≤ _), (by decide : 0 + 0 ≤ _)⟩)
      dsimp only [Pt.U, Pt.locs, Pt.cells, Pt.slots] at X9 l9 y9 z9 st9 hQ9
      subst l9 y9 z9
      obtain ⟨rfl, N9q, e9⟩ := hQ9
      have N9 := Fr.app N0 N9q
      obtain ⟨fs, hr, hrun, hended, hW, hsame⟩ := X9.leave (v := some (.int (-2))) (fun h => by rw [Bd.returns] at h; cases h)
      refine ⟨_, _, k7 _ ?_, hrun, hended, _, _, rfl, ?_, ⟨_, rfl⟩, hW, hsame.mono (by decide) (by decide)⟩
      · show OwnS p e below s₁ (mkF m 23 #[rv r0, iv 3] [(.int x3)]) _
        refine st9 _ ?_
        refine XS.ifYes X9.here hx rfl (pc0 := 26) (pc' := 31) rfl (hb hby d19_26) rfl ((if0 _ _).trans (teq (by decide : (0 : Int32) = (0 : Int32))).1) (by decide) (by decide) ?_
        refine oBp X9 hx hby d19_31 ?_
        exact retI X9 hx Bd.returns (hb hby d19_33) hr
      · show Q_Lk_3 Z _ _ _ _ _ _ _ h0 n0 _ T9.heap _
        rw [e9]
        exact Or.inr (Or.inr ((⟨rfl, N9, rfl, hc13_3, hq6⟩)))
def Q_Lk_4 (Z : State) (r0 : Addr) (kC : ClassId) (x0 : Int32) (x1 : Int32) (x2 : Int32) (x3 : Int32) (x4 : Int32) (h0 : Heap) (n0 : Nat) (v : Option Value) (h : Heap) (L : List Loc) : Prop := (v = some (.int 5) ∧ Fr n0 L ∧ h = h0 ∧ x4 = (34 : Int32)) ∨ (v = some (.int (-1)) ∧ Fr n0 L ∧ h = h0 ∧ ¬ (x4 = (34 : Int32)) ∧ own_et x4 = true) ∨ (v = some (.int (-2)) ∧ Fr n0 L ∧ h = h0 ∧ ¬ (x4 = (34 : Int32)) ∧ own_et x4 = false)
set_option maxRecDepth 65536 in
set_option maxHeartbeats 40000000 in
theorem rmLk_4 (l : Launch) (Z : State) (a0 : Array Value) (hw : ∀ d ∈ tables_1, d.before a0 Z = true) (ws : List Jvm.Cond) (r0 : Addr) (kC : ClassId) (x0 : Int32) (x1 : Int32) (x2 : Int32) (x3 : Int32) (x4 : Int32) (h0 : Heap) (n0 : Nat) (Z0 : n0 ≤ h0.size) (V_r0 : Arv Z h0 r0 kC .char (5 : Int32) [(.int x0), (.int x1), (.int x2), (.int x3), (.int x4)] (.int 0)) :
    MetFree l (⟨cS2, "look", "([CI)I"⟩ : MethodName) (head1 (Jvm.Cond.code (⟨cS2, "look", "([CI)I"⟩ : MethodName) method_5_code 2 (some .int) :: ws) ({ frames := 1, cells := 0, slots := 0, locals := 12 } : Room)) (fun a U => a = #[(.ref r0), (.int 4)] ∧ Z.Warmed39 U.vm ∧ U.heap = h0) (fun _ _ _ _ _ => True) (fun _ U o U' => ∃ v L, o = .returned v ∧ Q_Lk_4 Z r0 kC x0 x1 x2 x3 x4 h0 n0 v U'.heap L ∧ FrameEnd U o U' L 0 0) := by
  refine MetFree.of_bodySF (plainFor_of_name pn_com_example_strict_lock_strictlock_EntityTagsEndPinLaw) hisR ?_
  intro p e s m args below meth c s₁ Bd hml0 hP hK
  obtain ⟨rfl, hZ, hh⟩ := hP
  have hx := Bd.exec
  have hby := Bd.bytes
  have hml : c.maxLocals = 2 := hml0
  have hown : s.vm.findClass cS2 = some m.cls := findClass_of_methodNamed Bd.named
  have hnm := (name_of_methodNamed Bd.named Bd.method).1
  have X0 : Stand p l e ({ frames := 1, cells := 0, slots := 0, locals := 12 } : Room) s m #[(.ref r0), (.int 4)] below meth c s₁ [] 0 0 := Stand.of_body Bd
  have e0 : s₁.heap = h0 := by rw [← hh, Bd.state]; rfl
  have N0 := Fr.nil n0
  have k0 : ∀ t, OwnS p e below s₁ (mkF m 0 #[rv r0, iv 4] []) t → OwnS p e below s₁ (entryFrame m #[(.ref r0), (.int 4)] 2) t := fun t k => castTop (ef_19 m r0 (4 : Int32)) k
  obtain ⟨cl_z1, Ar_z1, q_z1, S_z1, N_z1, H_z1, G_z1⟩ := id V_r0
  have hin2 : ¬ ((4 : Int32) < 0 ∨ cl_z1.slots.size ≤ ((4 : Int32)).toNatClampNeg) := inb_of S_z1 ⟨by decide, by decide⟩
  have k4 : ∀ t, OwnS p e below s₁ (mkF m 13 #[rv r0, iv 4] [(.int 34), (.int x4)]) t → OwnS p e below s₁ (entryFrame m #[(.ref r0), (.int 4)] 2) t := fun t q => by
   refine k0 t ?_
   show OwnS p e below s₁ (mkF m 0 #[rv r0, iv 4] []) _
   refine oIn X0 hx hby d19_0 rfl (oIc X0 hx hby d19_1 ?_)
   refine XS.icmpYes X0.here hx rfl (pc0 := 2) (pc' := 8) rfl (hb hby d19_2) rfl (tlt (by decide : (4 : Int32) < (5 : Int32))).1 (by decide) (by decide) ?_
   refine oAn X0 hx hby d19_8 rfl rfl (oIn X0 hx hby d19_9 rfl ?_)
   refine X0.caload hx (j := (4 : Int32)) (v := (.int x4)) (by rw [e0]; exact Ar_z1.1) (State.isArrayOf_alike hZ.alike Ar_z1.2.1) Ar_z1.2.2 hin2 (Has.at H_z1 hin2 rfl) (g := (mkF m 10 #[rv r0, iv 4] [(.int 4), (.ref r0)])) rfl rfl (hb hby d19_10) _ ?_
   refine oBp X0 hx hby d19_11 ?_
   exact q
  by_cases hc13_3 : x4 = (34 : Int32)
  · obtain ⟨fs, hr, hrun, hended, hW, hsame⟩ := X0.leave (v := some (.int 5)) (fun h => by rw [Bd.returns] at h; cases h)
    refine ⟨_, _, k4 _ ?_, hrun, hended, _, _, rfl, ?_, ⟨_, rfl⟩, hW, hsame.mono (by decide) (by decide)⟩
    · refine XS.icmpNo X0.here hx rfl (hb hby d19_13) rfl (teq hc13_3).2 ?_
      refine oIn X0 hx hby d19_16 rfl (oIc X0 hx hby d19_17 ?_)
      refine XS.iadd X0.here hx rfl (hb hby d19_18) rfl ?_
      exact retI X0 hx Bd.returns (hb hby d19_19) hr
    · show Q_Lk_4 Z _ _ _ _ _ _ _ h0 n0 _ s₁.heap _
      rw [e0]
      exact Or.inl (⟨rfl, N0, rfl, hc13_3⟩)
  · have hin5 : ¬ ((4 : Int32) < 0 ∨ cl_z1.slots.size ≤ ((4 : Int32)).toNatClampNeg) := inb_of S_z1 ⟨by decide, by decide⟩
    have k7 : ∀ t, OwnS p e below s₁ (mkF m 23 #[rv r0, iv 4] [(.int x4)]) t → OwnS p e below s₁ (entryFrame m #[(.ref r0), (.int 4)] 2) t := fun t q => by
     refine k4 t ?_
     refine XS.icmpYes X0.here hx rfl (pc0 := 13) (pc' := 20) rfl (hb hby d19_13) rfl (feq hc13_3).2 (by decide) (by decide) ?_
     refine oAn X0 hx hby d19_20 rfl rfl (oIn X0 hx hby d19_21 rfl ?_)
     refine X0.caload hx (j := (4 : Int32)) (v := (.int x4)) (by rw [e0]; exact Ar_z1.1) (State.isArrayOf_alike hZ.alike Ar_z1.2.1) Ar_z1.2.2 hin5 (Has.at H_z1 hin5 rfl) (g := (mkF m 22 #[rv r0, iv 4] [(.int 4), (.ref r0)])) rfl rfl (hb hby d19_22) _ ?_
     exact q
    rcases own_ett x4 with hq6 | hq6
    · skip
      obtain ⟨_, _, ⟨T8, L8, j8, i8⟩, -, X8, ⟨Lc8, hQ8, l8, y8, z8⟩, st8⟩ := Jvm.LawKit.callS X0 hx (y := (⟨cS2, "etagc", "(C)Z"⟩ : MethodName)) hown (mvT hZ (own_at hw 91 rfl)) (mvT hZ (own_at hw 92 rfl)) (mvT hZ (own_at hw 3 rfl)) (mvT hZ (own_at hw 93 rfl)) (by decide) (backOf (W := 0) (rmEt_t l Z a0 hw [] x4 h0 n0 Z0 hq6) hZ (own_at hw 93 rfl) (own_at hw 3 rfl) (by decide) (by decide)) (g := (mkF m 23 #[rv r0, iv 4] [(.int x4)])) rfl (by rw [hml]; rfl) (argsL := [(.int x4)]) (rest := []) (lenOf pd_14 rfl) rfl (Nat.le_refl _) (hb hby d19_23) (fun _ _ => ⟨rfl, e0, (by decide : 0 + 0 ≤ _), (by decide : 0 + 0 ≤ _)⟩)
      dsimp only [Pt.U, Pt.locs, Pt.cells, Pt.slots] at X8 l8 y8 z8 st8 hQ8
      subst l8 y8 z8
      obtain ⟨rfl, N8q, e8⟩ := hQ8
      have N8 := Fr.app N0 N8q
      obtain ⟨fs, hr, hrun, hended, hW, hsame⟩ := X8.leave (v := some (.int (-1))) (fun h => by rw [Bd.returns] at h; cases h)
      refine ⟨_, _, k7 _ ?_, hrun, hended, _, _, rfl, ?_, ⟨_, rfl⟩, hW, hsame.mono (by decide) (by decide)⟩
      · show OwnS p e below s₁ (mkF m 23 #[rv r0, iv 4] [(.int x4)]) _
        refine st8 _ ?_
        refine XS.ifNo X8.here hx rfl (hb hby d19_26) rfl ((if0 _ _).trans (feq (by decide : ¬ ((1 : Int32) = (0 : Int32)))).1) ?_
        refine oIc X8 hx hby d19_29 ?_
        exact retI X8 hx Bd.returns (hb hby d19_30) hr
      · show Q_Lk_4 Z _ _ _ _ _ _ _ h0 n0 _ T8.heap _
        rw [e8]
        exact Or.inr (Or.inl (⟨rfl, N8, rfl, hc13_3, hq6⟩))
    · skip
      obtain ⟨_, _, ⟨T9, L9, j9, i9⟩, -, X9, ⟨Lc9, hQ9, l9, y9, z9⟩, st9⟩ := Jvm.LawKit.callS X0 hx (y := (⟨cS2, "etagc", "(C)Z"⟩ : MethodName)) hown (mvT hZ (own_at hw 91 rfl)) (mvT hZ (own_at hw 92 rfl)) (mvT hZ (own_at hw 3 rfl)) (mvT hZ (own_at hw 93 rfl)) (by decide) (backOf (W := 0) (rmEt_f l Z a0 hw [] x4 h0 n0 Z0 hq6) hZ (own_at hw 93 rfl) (own_at hw 3 rfl) (by decide) (by decide)) (g := (mkF m 23 #[rv r0, iv 4] [(.int x4)])) rfl (by rw [hml]; rfl) (argsL := [(.int x4)]) (rest := []) (lenOf pd_14 rfl) rfl (Nat.le_refl _) (hb hby d19_23) (fun _ _ => ⟨rfl, e0, (by decide : 0 + 0 ≤ _), (by decide : 0 + 0 ≤ _)⟩)
      dsimp only [Pt.U, Pt.locs, Pt.cells, Pt.slots] at X9 l9 y9 z9 st9 hQ9
      subst l9 y9 z9
      obtain ⟨rfl, N9q, e9⟩ := hQ9
      have N9 := Fr.app N0 N9q
      obtain ⟨fs, hr, hrun, hended, hW, hsame⟩ := X9.leave (v := some (.int (-2))) (fun h => by rw [Bd.returns] at h; cases h)
      refine ⟨_, _, k7 _ ?_, hrun, hended, _, _, rfl, ?_, ⟨_, rfl⟩, hW, hsame.mono (by decide) (by decide)⟩
      · show OwnS p e below s₁ (mkF m 23 #[rv r0, iv 4] [(.int x4)]) _
        refine st9 _ ?_
        refine XS.ifYes X9.here hx rfl (pc0 := 26) (pc' := 31) rfl (hb hby d19_26) rfl ((if0 _ _).trans (teq (by decide : (0 : Int32) = (0 : Int32))).1) (by decide) (by decide) ?_
        refine oBp X9 hx hby d19_31 ?_
        exact retI X9 hx Bd.returns (hb hby d19_33) hr
      · show Q_Lk_4 Z _ _ _ _ _ _ _ h0 n0 _ T9.heap _
        rw [e9]
        exact Or.inr (Or.inr ((⟨rfl, N9, rfl, hc13_3, hq6⟩)))
theorem pd_15 : parseMethodDescriptor "([CI)I" = some ⟨[(.array .char), .int], some .int⟩ := by decide +kernel
theorem d18_46 : decode method_6_code 46 = .ok (.iload_n 2, 1) := by decide +kernel
theorem d18_47 : decode method_6_code 47 = .ok (.iconst 1, 1) := by decide +kernel
theorem d18_48 : decode method_6_code 48 = .ok (.iadd, 1) := by decide +kernel
theorem d18_49 : decode method_6_code 49 = .ok (.istore_n 3, 1) := by decide +kernel
theorem d18_50 : decode method_6_code 50 = .ok (.aload_n 0, 1) := by decide +kernel
theorem d18_51 : decode method_6_code 51 = .ok (.iload_n 3, 1) := by decide +kernel
theorem d18_52 : decode method_6_code 52 = .ok (.invokestatic 34, 3) := by decide +kernel
theorem d18_55 : decode method_6_code 55 = .ok (.istore 4, 2) := by decide +kernel
theorem d18_57 : decode method_6_code 57 = .ok (.iload 4, 2) := by decide +kernel
theorem d18_59 : decode method_6_code 59 = .ok (.iconst (-1), 1) := by decide +kernel
theorem d18_60 : decode method_6_code 60 = .ok (.if_icmp .eq 15, 3) := by decide +kernel
theorem d18_63 : decode method_6_code 63 = .ok (.iload 4, 2) := by decide +kernel
theorem d18_65 : decode method_6_code 65 = .ok (.ifCond .ge 7, 3) := by decide +kernel
theorem d18_68 : decode method_6_code 68 = .ok (.iconst (-1), 1) := by decide +kernel
theorem d18_69 : decode method_6_code 69 = .ok (.goto 5, 3) := by decide +kernel
theorem d18_72 : decode method_6_code 72 = .ok (.iload 4, 2) := by decide +kernel
theorem d18_74 : decode method_6_code 74 = .ok (.ireturn, 1) := by decide +kernel
theorem d18_75 : decode method_6_code 75 = .ok (.aload_n 0, 1) := by decide +kernel
theorem d18_76 : decode method_6_code 76 = .ok (.iload_n 3, 1) := by decide +kernel
theorem d18_77 : decode method_6_code 77 = .ok (.iconst 1, 1) := by decide +kernel
theorem d18_78 : decode method_6_code 78 = .ok (.iadd, 1) := by decide +kernel
theorem d18_79 : decode method_6_code 79 = .ok (.invokestatic 34, 3) := by decide +kernel
theorem d18_82 : decode method_6_code 82 = .ok (.istore 4, 2) := by decide +kernel
theorem d18_84 : decode method_6_code 84 = .ok (.iload 4, 2) := by decide +kernel
theorem d18_86 : decode method_6_code 86 = .ok (.iconst (-1), 1) := by decide +kernel
theorem d18_87 : decode method_6_code 87 = .ok (.if_icmp .eq 15, 3) := by decide +kernel
theorem d18_90 : decode method_6_code 90 = .ok (.iload 4, 2) := by decide +kernel
theorem d18_92 : decode method_6_code 92 = .ok (.ifCond .ge 7, 3) := by decide +kernel
theorem d18_95 : decode method_6_code 95 = .ok (.iconst (-1), 1) := by decide +kernel
theorem d18_96 : decode method_6_code 96 = .ok (.goto 5, 3) := by decide +kernel
theorem d18_99 : decode method_6_code 99 = .ok (.iload 4, 2) := by decide +kernel
theorem d18_101 : decode method_6_code 101 = .ok (.ireturn, 1) := by decide +kernel
theorem d18_102 : decode method_6_code 102 = .ok (.aload_n 0, 1) := by decide +kernel
theorem d18_103 : decode method_6_code 103 = .ok (.iload_n 3, 1) := by decide +kernel
theorem d18_104 : decode method_6_code 104 = .ok (.iconst 2, 1) := by decide +kernel
theorem d18_105 : decode method_6_code 105 = .ok (.iadd, 1) := by decide +kernel
theorem d18_106 : decode method_6_code 106 = .ok (.invokestatic 34, 3) := by decide +kernel
theorem d18_109 : decode method_6_code 109 = .ok (.istore 4, 2) := by decide +kernel
theorem d18_111 : decode method_6_code 111 = .ok (.iload 4, 2) := by decide +kernel
theorem d18_113 : decode method_6_code 113 = .ok (.iconst (-1), 1) := by decide +kernel
theorem d18_114 : decode method_6_code 114 = .ok (.if_icmp .eq 15, 3) := by decide +kernel
theorem d18_117 : decode method_6_code 117 = .ok (.iload 4, 2) := by decide +kernel
theorem d18_119 : decode method_6_code 119 = .ok (.ifCond .ge 7, 3) := by decide +kernel
theorem d18_122 : decode method_6_code 122 = .ok (.iconst (-1), 1) := by decide +kernel
theorem d18_123 : decode method_6_code 123 = .ok (.goto 5, 3) := by decide +kernel
theorem d18_126 : decode method_6_code 126 = .ok (.iload 4, 2) := by decide +kernel
theorem d18_128 : decode method_6_code 128 = .ok (.ireturn, 1) := by decide +kernel
theorem d18_129 : decode method_6_code 129 = .ok (.aload_n 0, 1) := by decide +kernel
theorem d18_130 : decode method_6_code 130 = .ok (.iload_n 3, 1) := by decide +kernel
theorem d18_131 : decode method_6_code 131 = .ok (.iconst 3, 1) := by decide +kernel
theorem d18_132 : decode method_6_code 132 = .ok (.iadd, 1) := by decide +kernel
theorem d18_133 : decode method_6_code 133 = .ok (.invokestatic 34, 3) := by decide +kernel
theorem d18_136 : decode method_6_code 136 = .ok (.istore 4, 2) := by decide +kernel
theorem d18_138 : decode method_6_code 138 = .ok (.iload 4, 2) := by decide +kernel
theorem d18_140 : decode method_6_code 140 = .ok (.iconst (-1), 1) := by decide +kernel
theorem d18_141 : decode method_6_code 141 = .ok (.if_icmp .eq 15, 3) := by decide +kernel
theorem d18_144 : decode method_6_code 144 = .ok (.iload 4, 2) := by decide +kernel
theorem d18_146 : decode method_6_code 146 = .ok (.ifCond .ge 7, 3) := by decide +kernel
theorem d18_149 : decode method_6_code 149 = .ok (.iconst (-1), 1) := by decide +kernel
theorem d18_150 : decode method_6_code 150 = .ok (.goto 5, 3) := by decide +kernel
theorem d18_153 : decode method_6_code 153 = .ok (.iload 4, 2) := by decide +kernel
theorem d18_155 : decode method_6_code 155 = .ok (.ireturn, 1) := by decide +kernel
theorem d18_156 : decode method_6_code 156 = .ok (.aload_n 0, 1) := by decide +kernel
theorem d18_157 : decode method_6_code 157 = .ok (.iload_n 3, 1) := by decide +kernel
theorem d18_158 : decode method_6_code 158 = .ok (.iconst 4, 1) := by decide +kernel
theorem d18_159 : decode method_6_code 159 = .ok (.iadd, 1) := by decide +kernel
theorem d18_160 : decode method_6_code 160 = .ok (.invokestatic 34, 3) := by decide +kernel
theorem d18_163 : decode method_6_code 163 = .ok (.istore 4, 2) := by decide +kernel
theorem d18_165 : decode method_6_code 165 = .ok (.iload 4, 2) := by decide +kernel
theorem d18_167 : decode method_6_code 167 = .ok (.iconst (-1), 1) := by decide +kernel
theorem d18_168 : decode method_6_code 168 = .ok (.if_icmp .eq 15, 3) := by decide +kernel
theorem d18_171 : decode method_6_code 171 = .ok (.iload 4, 2) := by decide +kernel
theorem d18_173 : decode method_6_code 173 = .ok (.ifCond .ge 7, 3) := by decide +kernel
theorem d18_176 : decode method_6_code 176 = .ok (.iconst (-1), 1) := by decide +kernel
theorem d18_177 : decode method_6_code 177 = .ok (.goto 5, 3) := by decide +kernel
theorem d18_182 : decode method_6_code 182 = .ok (.ireturn, 1) := by decide +kernel
def Q_sgRf_0 (Z : State) (r0 : Addr) (p1 : Int32) (kC : ClassId) (x0 : Int32) (x1 : Int32) (x2 : Int32) (x3 : Int32) (x4 : Int32) (h0 : Heap) (n0 : Nat) (v : Option Value) (h : Heap) (L : List Loc) : Prop := v = some (.int (own_sc1 x0 x1 x2 x3 x4)) ∧ Fr n0 L ∧ h = h0
set_option maxRecDepth 65536 in
set_option maxHeartbeats 40000000 in
theorem sgRf_0 (l : Launch) (Z : State) (a0 : Array Value) (hw : ∀ d ∈ tables_1, d.before a0 Z = true) {p : Program} {e : Env} {s : State} {m : MethodId} {args : Array Value} {below : List Frame} {meth : Method} {c : Code} {T0 : State} {locs : List Loc} (r0 : Addr) (p1 : Int32) (kC : ClassId) (x0 : Int32) (x1 : Int32) (x2 : Int32) (x3 : Int32) (x4 : Int32) (h0 : Heap) (n0 : Nat) (Z0 : n0 ≤ h0.size) (V_r0 : Arv Z h0 r0 kC .char (5 : Int32) [(.int x0), (.int x1), (.int x2), (.int x3), (.int x4)] (.int 0))
    (X0 : Stand p l e ({ frames := 2, cells := 0, slots := 0, locals := 40 } : Room) s m args below meth c T0 locs 0 0) (hx : p.tables.exec = Jvm.exec) (hZ : Z.Warmed39 s.vm) (hby : c.code = method_6_code) (hml : c.maxLocals = 5) (hown : s.vm.findClass cS2 = some m.cls) (hret : meth.sig.returnType = some .int) (hlk : meth.locks = false) (e0 : T0.heap = h0) (N0 : Fr n0 locs) :
    ∃ s₂ o, Steps p.tables e below (T0.setTop (mkF m 46 #[rv r0, iv p1, iv 0, .unset, .unset] [])) s₂ ∧ s₂.status = .running ∧ Ended s₂ below o ∧ ∃ v L, o = .returned v ∧ Q_sgRf_0 Z r0 p1 kC x0 x1 x2 x3 x4 h0 n0 v s₂.heap L ∧ FrameEnd s o s₂ L ({ frames := 2, cells := 0, slots := 0, locals := 40 } : Room).cells ({ frames := 2, cells := 0, slots := 0, locals := 40 } : Room).slots := by
  have k0 : ∀ t, OwnS p e below T0 (mkF m 46 #[rv r0, iv p1, iv 0, .unset, .unset] []) t → OwnS p e below T0 (mkF m 46 #[rv r0, iv p1, iv 0, .unset, .unset] []) t := fun _ q => q
  obtain ⟨_, _, ⟨T1, L1, j1, i1⟩, -, X1, ⟨Lc1, hQ1, l1, y1, z1⟩, st1⟩ := Jvm.LawKit.callS X0 hx (y := (⟨cS2, "look", "([CI)I"⟩ : MethodName)) hown (mvT hZ (own_at hw 88 rfl)) (mvT hZ (own_at hw 89 rfl)) (mvT hZ (own_at hw 3 rfl)) (mvT hZ (own_at hw 90 rfl)) (by decide) (backOf (W := 0) (rmLk_1 l Z a0 hw [] r0 kC x0 x1 x2 x3 x4 h0 n0 Z0 V_r0) hZ (own_at hw 90 rfl) (own_at hw 3 rfl) (by decide) (by decide)) (g := (mkF m 52 #[rv r0, iv p1, iv 0, iv 1, .unset] [(.int 1), (.ref r0)])) rfl (by rw [hml]; rfl) (argsL := [(.ref r0), (.int 1)]) (rest := []) (lenOf pd_15 rfl) rfl (Nat.le_refl _) (hb hby d18_52) (fun _ _ => ⟨rfl, e0, (by decide : 0 + 0 ≤ _), (by decide : 0 + 0 ≤ _)⟩)
  dsimp only [Pt.U, Pt.locs, Pt.cells, Pt.slots] at X1 l1 y1 z1 st1 hQ1
  subst l1 y1 z1
  have k2 : ∀ t, OwnS p e below T0 (mkF m 52 #[rv r0, iv p1, iv 0, iv 1, .unset] [(.int 1), (.ref r0)]) t → OwnS p e below T0 (mkF m 46 #[rv r0, iv p1, iv 0, .unset, .unset] []) t := fun t q => by
   refine k0 t ?_
   show OwnS p e below T0 (mkF m 46 #[rv r0, iv p1, iv 0, .unset, .unset] []) _
   refine oIn X0 hx hby d18_46 rfl (oIc X0 hx hby d18_47 ?_)
   refine XS.iadd X0.here hx rfl (hb hby d18_48) rfl ?_
   refine XS.istoreN X0.here hx rfl (hb hby d18_49) rfl (l' := #[rv r0, iv p1, iv 0, iv 1, .unset]) rfl ?_
   refine oAn X0 hx hby d18_50 rfl rfl (oIn X0 hx hby d18_51 rfl ?_)
   exact q
  rcases hQ1 with ⟨rfl, N1q, e1, p1_0⟩ | ⟨rfl, N1q, e1, p1_0, p1_1⟩ | ⟨rfl, N1q, e1, p1_0, p1_1⟩
  · have N1 := Fr.app N0 N1q
    obtain ⟨fs, hr, hrun, hended, hW, hsame⟩ := X1.leave (v := some (.int 2)) (fun h => by rw [hret] at h; cases h)
    refine ⟨_, _, k2 _ ?_, hrun, hended, _, _, rfl, ?_, ⟨_, rfl⟩, hW, hsame.mono (by decide) (by decide)⟩
    · refine st1 _ ?_
      refine XS.istore X1.here hx rfl (hb hby d18_55) rfl (l' := #[rv r0, iv p1, iv 0, iv 1, iv 2]) rfl ?_
      refine oIl X1 hx hby d18_57 rfl (oIc X1 hx hby d18_59 ?_)
      refine XS.icmpNo X1.here hx rfl (hb hby d18_60) rfl (feq (by decide : ¬ ((2 : Int32) = (-1 : Int32)))).1 ?_
      refine oIl X1 hx hby d18_63 rfl ?_
      refine XS.ifYes X1.here hx rfl (pc0 := 65) (pc' := 72) rfl (hb hby d18_65) rfl ((if0 _ _).trans (flt (by decide : ¬ ((2 : Int32) < (0 : Int32)))).2.1) (by decide) (by decide) ?_
      refine oIl X1 hx hby d18_72 rfl ?_
      exact retI X1 hx hret (hb hby d18_74) hr
    · show Q_sgRf_0 Z _ _ _ _ _ _ _ _ h0 n0 _ T1.heap _
      rw [e1]
      exact ⟨(by simp [own_sc1, own_sc2, own_sc3, own_sc4, own_sc5, p1_0]), N1, rfl⟩
  · have N1 := Fr.app N0 N1q
    obtain ⟨_, _, ⟨T3, L3, j3, i3⟩, -, X3, ⟨Lc3, hQ3, l3, y3, z3⟩, st3⟩ := Jvm.LawKit.callS X1 hx (y := (⟨cS2, "look", "([CI)I"⟩ : MethodName)) hown (mvT hZ (own_at hw 88 rfl)) (mvT hZ (own_at hw 89 rfl)) (mvT hZ (own_at hw 3 rfl)) (mvT hZ (own_at hw 90 rfl)) (by decide) (backOf (W := 0) (rmLk_2 l Z a0 hw [] r0 kC x0 x1 x2 x3 x4 h0 n0 Z0 V_r0) hZ (own_at hw 90 rfl) (own_at hw 3 rfl) (by decide) (by decide)) (g := (mkF m 79 #[rv r0, iv p1, iv 0, iv 1, iv (-1 : Int32)] [(.int 2), (.ref r0)])) rfl (by rw [hml]; rfl) (argsL := [(.ref r0), (.int 2)]) (rest := []) (lenOf pd_15 rfl) rfl (Nat.le_refl _) (hb hby d18_79) (fun _ _ => ⟨rfl, e1, (by decide : 0 + 0 ≤ _), (by decide : 0 + 0 ≤ _)⟩)
    dsimp only [Pt.U, Pt.locs, Pt.cells, Pt.slots] at X3 l3 y3 z3 st3 hQ3
    subst l3 y3 z3
    have k4 : ∀ t, OwnS p e below T1 (mkF m 79 #[rv r0, iv p1, iv 0, iv 1, iv (-1 : Int32)] [(.int 2), (.ref r0)]) t → OwnS p e below T0 (mkF m 46 #[rv r0, iv p1, iv 0, .unset, .unset] []) t := fun t q => by
     refine k2 t ?_
     refine st1 _ ?_
     refine XS.istore X1.here hx rfl (hb hby d18_55) rfl (l' := #[rv r0, iv p1, iv 0, iv 1, iv (-1 : Int32)]) rfl ?_
     refine oIl X1 hx hby d18_57 rfl (oIc X1 hx hby d18_59 ?_)
     refine XS.icmpYes X1.here hx rfl (pc0 := 60) (pc' := 75) rfl (hb hby d18_60) rfl (teq (by decide : (-1 : Int32) = (-1 : Int32))).1 (by decide) (by decide) ?_
     refine oAn X1 hx hby d18_75 rfl rfl (oIn X1 hx hby d18_76 rfl (oIc X1 hx hby d18_77 ?_))
     refine XS.iadd X1.here hx rfl (hb hby d18_78) rfl ?_
     exact q
    rcases hQ3 with ⟨rfl, N3q, e3, p3_0⟩ | ⟨rfl, N3q, e3, p3_0, p3_1⟩ | ⟨rfl, N3q, e3, p3_0, p3_1⟩
    · have N3 := Fr.app N1 N3q
      obtain ⟨fs, hr, hrun, hended, hW, hsame⟩ := X3.leave (v := some (.int 3)) (fun h => by rw [hret] at h; cases h)
      refine ⟨_, _, k4 _ ?_, hrun, hended, _, _, rfl, ?_, ⟨_, rfl⟩, hW, hsame.mono (by decide) (by decide)⟩
      · refine st3 _ ?_
        refine XS.istore X3.here hx rfl (hb hby d18_82) rfl (l' := #[rv r0, iv p1, iv 0, iv 1, iv 3]) rfl ?_
        refine oIl X3 hx hby d18_84 rfl (oIc X3 hx hby d18_86 ?_)
        refine XS.icmpNo X3.here hx rfl (hb hby d18_87) rfl (feq (by decide : ¬ ((3 : Int32) = (-1 : Int32)))).1 ?_
        refine oIl X3 hx hby d18_90 rfl ?_
        refine XS.ifYes X3.here hx rfl (pc0 := 92) (pc' := 99) rfl (hb hby d18_92) rfl ((if0 _ _).trans (flt (by decide : ¬ ((3 : Int32) < (0 : Int32)))).2.1) (by decide) (by decide) ?_
        refine oIl X3 hx hby d18_99 rfl ?_
        exact retI X3 hx hret (hb hby d18_101) hr
      · show Q_sgRf_0 Z _ _ _ _ _ _ _ _ h0 n0 _ T3.heap _
        rw [e3]
        exact ⟨(by simp [own_sc1, own_sc2, own_sc3, own_sc4, own_sc5, p1_0, p1_1, p3_0]), N3, rfl⟩
    · have N3 := Fr.app N1 N3q
      obtain ⟨_, _, ⟨T5, L5, j5, i5⟩, -, X5, ⟨Lc5, hQ5, l5, y5, z5⟩, st5⟩ := Jvm.LawKit.callS X3 hx (y := (⟨cS2, "look", "([CI)I"⟩ : MethodName)) hown (mvT hZ (own_at hw 88 rfl)) (mvT hZ (own_at hw 89 rfl)) (mvT hZ (own_at hw 3 rfl)) (mvT hZ (own_at hw 90 rfl)) (by decide) (backOf (W := 0) (rmLk_3 l Z a0 hw [] r0 kC x0 x1 x2 x3 x4 h0 n0 Z0 V_r0) hZ (own_at hw 90 rfl) (own_at hw 3 rfl) (by decide) (by decide)) (g := (mkF m 106 #[rv r0, iv p1, iv 0, iv 1, iv (-1 : Int32)] [(.int 3), (.ref r0)])) rfl (by rw [hml]; rfl) (argsL := [(.ref r0), (.int 3)]) (rest := []) (lenOf pd_15 rfl) rfl (Nat.le_refl _) (hb hby d18_106) (fun _ _ => ⟨rfl, e3, (by decide : 0 + 0 ≤ _), (by decide : 0 + 0 ≤ _)⟩)
      dsimp only [Pt.U, Pt.locs, Pt.cells, Pt.slots] at X5 l5 y5 z5 st5 hQ5
      subst l5 y5 z5
      have k6 : ∀ t, OwnS p e below T3 (mkF m 106 #[rv r0, iv p1, iv 0, iv 1, iv (-1 : Int32)] [(.int 3), (.ref r0)]) t → OwnS p e below T0 (mkF m 46 #[rv r0, iv p1, iv 0, .unset, .unset] []) t := fun t q => by
       refine k4 t ?_
       refine st3 _ ?_
       refine XS.istore X3.here hx rfl (hb hby d18_82) rfl (l' := #[rv r0, iv p1, iv 0, iv 1, iv (-1 : Int32)]) rfl ?_
       refine oIl X3 hx hby d18_84 rfl (oIc X3 hx hby d18_86 ?_)
       refine XS.icmpYes X3.here hx rfl (pc0 := 87) (pc' := 102) rfl (hb hby d18_87) rfl (teq (by decide : (-1 : Int32) = (-1 : Int32))).1 (by decide) (by decide) ?_
       refine oAn X3 hx hby d18_102 rfl rfl (oIn X3 hx hby d18_103 rfl (oIc X3 hx hby d18_104 ?_))
       refine XS.iadd X3.here hx rfl (hb hby d18_105) rfl ?_
       exact q
      rcases hQ5 with ⟨rfl, N5q, e5, p5_0⟩ | ⟨rfl, N5q, e5, p5_0, p5_1⟩ | ⟨rfl, N5q, e5, p5_0, p5_1⟩
      · have N5 := Fr.app N3 N5q
        obtain ⟨fs, hr, hrun, hended, hW, hsame⟩ := X5.leave (v := some (.int 4)) (fun h => by rw [hret] at h; cases h)
        refine ⟨_, _, k6 _ ?_, hrun, hended, _, _, rfl, ?_, ⟨_, rfl⟩, hW, hsame.mono (by decide) (by decide)⟩
        · refine st5 _ ?_
          refine XS.istore X5.here hx rfl (hb hby d18_109) rfl (l' := #[rv r0, iv p1, iv 0, iv 1, iv 4]) rfl ?_
          refine oIl X5 hx hby d18_111 rfl (oIc X5 hx hby d18_113 ?_)
          refine XS.icmpNo X5.here hx rfl (hb hby d18_114) rfl (feq (by decide : ¬ ((4 : Int32) = (-1 : Int32)))).1 ?_
          refine oIl X5 hx hby d18_117 rfl ?_
          refine XS.ifYes X5.here hx rfl (pc0 := 119) (pc' := 126) rfl (hb hby d18_119) rfl ((if0 _ _).trans (flt (by decide : ¬ ((4 : Int32) < (0 : Int32)))).2.1) (by decide) (by decide) ?_
          refine oIl X5 hx hby d18_126 rfl ?_
          exact retI X5 hx hret (hb hby d18_128) hr
        · show Q_sgRf_0 Z _ _ _ _ _ _ _ _ h0 n0 _ T5.heap _
          rw [e5]
          exact ⟨(by simp [own_sc1, own_sc2, own_sc3, own_sc4, own_sc5, p1_0, p1_1, p3_0, p3_1, p5_0]), N5, rfl⟩
      · have N5 := Fr.app N3 N5q
        obtain ⟨_, _, ⟨T7, L7, j7, i7⟩, -, X7, ⟨Lc7, hQ7, l7, y7, z7⟩, st7⟩ := Jvm.LawKit.callS X5 hx (y := (⟨cS2, "look", "([CI)I"⟩ : MethodName)) hown (mvT hZ (own_at hw 88 rfl)) (mvT hZ (own_at hw 89 rfl)) (mvT hZ (own_at hw 3 rfl)) (mvT hZ (own_at hw 90 rfl)) (by decide) (backOf (W := 0) (rmLk_4 l Z a0 hw [] r0 kC x0 x1 x2 x3 x4 h0 n0 Z0 V_r0) hZ (own_at hw 90 rfl) (own_at hw 3 rfl) (by decide) (by decide)) (g := (mkF m 133 #[rv r0, iv p1, iv 0, iv 1, iv (-1 : Int32)] [(.int 4), (.ref r0)])) rfl (by rw [hml]; rfl) (argsL := [(.ref r0), (.int 4)]) (rest := []) (lenOf pd_15 rfl) rfl (Nat.le_refl _) (hb hby d18_133) (fun _ _ => ⟨rfl, e5, (by decide : 0 + 0 ≤ _), (by decide : 0 + 0 ≤ _)⟩)
        dsimp only [Pt.U, Pt.locs, Pt.cells, Pt.slots] at X7 l7 y7 z7 st7 hQ7
        subst l7 y7 z7
        have k8 : ∀ t, OwnS p e below T5 (mkF m 133 #[rv r0, iv p1, iv 0, iv 1, iv (-1 : Int32)] [(.int 4), (.ref r0)]) t → OwnS p e below T0 (mkF m 46 #[rv r0, iv p1, iv 0, .unset, .unset] []) t := fun t q => by
         refine k6 t ?_
         refine st5 _ ?_
         refine XS.istore X5.here hx rfl (hb hby d18_109) rfl (l' := #[rv r0, iv p1, iv 0, iv 1, iv (-1 : Int32)]) rfl ?_
         refine oIl X5 hx hby d18_111 rfl (oIc X5 hx hby d18_113 ?_)
         refine XS.icmpYes X5.here hx rfl (pc0 := 114) (pc' := 129) rfl (hb hby d18_114) rfl (teq (by decide : (-1 : Int32) = (-1 : Int32))).1 (by decide) (by decide) ?_
         refine oAn X5 hx hby d18_129 rfl rfl (oIn X5 hx hby d18_130 rfl (oIc X5 hx hby d18_131 ?_))
         refine XS.iadd X5.here hx rfl (hb hby d18_132) rfl ?_
         exact q
        rcases hQ7 with ⟨rfl, N7q, e7, p7_0⟩ | ⟨rfl, N7q, e7, p7_0, p7_1⟩ | ⟨rfl, N7q, e7, p7_0, p7_1⟩
        · have N7 := Fr.app N5 N7q
          obtain ⟨fs, hr, hrun, hended, hW, hsame⟩ := X7.leave (v := some (.int 5)) (fun h => by rw [hret] at h; cases h)
          refine ⟨_, _, k8 _ ?_, hrun, hended, _, _, rfl, ?_, ⟨_, rfl⟩, hW, hsame.mono (by decide) (by decide)⟩
          · refine st7 _ ?_
            refine XS.istore X7.here hx rfl (hb hby d18_136) rfl (l' := #[rv r0, iv p1, iv 0, iv 1, iv 5]) rfl ?_
            refine oIl X7 hx hby d18_138 rfl (oIc X7 hx hby d18_140 ?_)
            refine XS.icmpNo X7.here hx rfl (hb hby d18_141) rfl (feq (by decide : ¬ ((5 : Int32) = (-1 : Int32)))).1 ?_
            refine oIl X7 hx hby d18_144 rfl ?_
            refine XS.ifYes X7.here hx rfl (pc0 := 146) (pc' := 153) rfl (hb hby d18_146) rfl ((if0 _ _).trans (flt (by decide : ¬ ((5 : Int32) < (0 : Int32)))).2.1) (by decide) (by decide) ?_
            refine oIl X7 hx hby d18_153 rfl ?_
            exact retI X7 hx hret (hb hby d18_155) hr
          · show Q_sgRf_0 Z _ _ _ _ _ _ _ _ h0 n0 _ T7.heap _
            rw [e7]
            exact ⟨(by simp [own_sc1, own_sc2, own_sc3, own_sc4, own_sc5, p1_0, p1_1, p3_0, p3_1, p5_0, p5_1, p7_0]), N7, rfl⟩
        · have N7 := Fr.app N5 N7q
          obtain ⟨_, _, ⟨T9, L9, j9, i9⟩, -, X9, ⟨Lc9, hQ9, l9, y9, z9⟩, st9⟩ := Jvm.LawKit.callS X7 hx (y := (⟨cS2, "look", "([CI)I"⟩ : MethodName)) hown (mvT hZ (own_at hw 88 rfl)) (mvT hZ (own_at hw 89 rfl)) (mvT hZ (own_at hw 3 rfl)) (mvT hZ (own_at hw 90 rfl)) (by decide) (backOf (W := 0) (rmLk_far l Z a0 hw [] r0 (5 : Int32) h0 n0 Z0 (by decide : ¬ ((5 : Int32) < (5 : Int32)))) hZ (own_at hw 90 rfl) (own_at hw 3 rfl) (by decide) (by decide)) (g := (mkF m 160 #[rv r0, iv p1, iv 0, iv 1, iv (-1 : Int32)] [(.int 5), (.ref r0)])) rfl (by rw [hml]; rfl) (argsL := [(.ref r0), (.int 5)]) (rest := []) (lenOf pd_15 rfl) rfl (Nat.le_refl _) (hb hby d18_160) (fun _ _ => ⟨rfl, e7, (by decide : 0 + 0 ≤ _), (by decide : 0 + 0 ≤ _)⟩)
          dsimp only [Pt.U, Pt.locs, Pt.cells, Pt.slots] at X9 l9 y9 z9 st9 hQ9
          subst l9 y9 z9
          obtain ⟨rfl, N9q, e9⟩ := hQ9
          have N9 := Fr.app N7 N9q
          obtain ⟨fs, hr, hrun, hended, hW, hsame⟩ := X9.leave (v := some (.int (-1))) (fun h => by rw [hret] at h; cases h)
          refine ⟨_, _, k8 _ ?_, hrun, hended, _, _, rfl, ?_, ⟨_, rfl⟩, hW, hsame.mono (by decide) (by decide)⟩
          · refine st7 _ ?_
            refine XS.istore X7.here hx rfl (hb hby d18_136) rfl (l' := #[rv r0, iv p1, iv 0, iv 1, iv (-1 : Int32)]) rfl ?_
            refine oIl X7 hx hby d18_138 rfl (oIc X7 hx hby d18_140 ?_)
            refine XS.icmpYes X7.here hx rfl (pc0 := 141) (pc' := 156) rfl (hb hby d18_141) rfl (teq (by decide : (-1 : Int32) = (-1 : Int32))).1 (by decide) (by decide) ?_
            refine oAn X7 hx hby d18_156 rfl rfl (oIn X7 hx hby d18_157 rfl (oIc X7 hx hby d18_158 ?_))
            refine XS.iadd X7.here hx rfl (hb hby d18_159) rfl ?_
            refine st9 _ ?_
            refine XS.istore X9.here hx rfl (hb hby d18_163) rfl (l' := #[rv r0, iv p1, iv 0, iv 1, iv (-2 : Int32)]) rfl ?_
            refine oIl X9 hx hby d18_165 rfl (oIc X9 hx hby d18_167 ?_)
            refine XS.icmpNo X9.here hx rfl (hb hby d18_168) rfl (feq (by decide : ¬ ((-2 : Int32) = (-1 : Int32)))).1 ?_
            refine oIl X9 hx hby d18_171 rfl ?_
            refine XS.ifNo X9.here hx rfl (hb hby d18_173) rfl ((if0 _ _).trans (tlt (by decide : (-2 : Int32) < (0 : Int32))).2.1) ?_
            refine oIc X9 hx hby d18_176 (oGo X9 hx hby 177 182 d18_177 (by decide) (by decide) ?_)
            exact retI X9 hx hret (hb hby d18_182) hr
          · show Q_sgRf_0 Z _ _ _ _ _ _ _ _ h0 n0 _ T9.heap _
            rw [e9]
            exact ⟨(by simp [own_sc1, own_sc2, own_sc3, own_sc4, own_sc5, p1_0, p1_1, p3_0, p3_1, p5_0, p5_1, p7_0, p7_1]), N9, rfl⟩
        · have N7 := Fr.app N5 N7q
          obtain ⟨fs, hr, hrun, hended, hW, hsame⟩ := X7.leave (v := some (.int (-1))) (fun h => by rw [hret] at h; cases h)
          refine ⟨_, _, k8 _ ?_, hrun, hended, _, _, rfl, ?_, ⟨_, rfl⟩, hW, hsame.mono (by decide) (by decide)⟩
          · refine st7 _ ?_
            refine XS.istore X7.here hx rfl (hb hby d18_136) rfl (l' := #[rv r0, iv p1, iv 0, iv 1, iv (-2 : Int32)]) rfl ?_
            refine oIl X7 hx hby d18_138 rfl (oIc X7 hx hby d18_140 ?_)
            refine XS.icmpNo X7.here hx rfl (hb hby d18_141) rfl (feq (by decide : ¬ ((-2 : Int32) = (-1 : Int32)))).1 ?_
            refine oIl X7 hx hby d18_144 rfl ?_
            refine XS.ifNo X7.here hx rfl (hb hby d18_146) rfl ((if0 _ _).trans (tlt (by decide : (-2 : Int32) < (0 : Int32))).2.1) ?_
            refine oIc X7 hx hby d18_149 (oGo X7 hx hby 150 155 d18_150 (by decide) (by decide) ?_)
            exact retI X7 hx hret (hb hby d18_155) hr
          · show Q_sgRf_0 Z _ _ _ _ _ _ _ _ h0 n0 _ T7.heap _
            rw [e7]
            exact ⟨(by simp [own_sc1, own_sc2, own_sc3, own_sc4, own_sc5, p1_0, p1_1, p3_0, p3_1, p5_0, p5_1, p7_0, p7_1]), N7, rfl⟩
      · have N5 := Fr.app N3 N5q
        obtain ⟨fs, hr, hrun, hended, hW, hsame⟩ := X5.leave (v := some (.int (-1))) (fun h => by rw [hret] at h; cases h)
        refine ⟨_, _, k6 _ ?_, hrun, hended, _, _, rfl, ?_, ⟨_, rfl⟩, hW, hsame.mono (by decide) (by decide)⟩
        · refine st5 _ ?_
          refine XS.istore X5.here hx rfl (hb hby d18_109) rfl (l' := #[rv r0, iv p1, iv 0, iv 1, iv (-2 : Int32)]) rfl ?_
          refine oIl X5 hx hby d18_111 rfl (oIc X5 hx hby d18_113 ?_)
          refine XS.icmpNo X5.here hx rfl (hb hby d18_114) rfl (feq (by decide : ¬ ((-2 : Int32) = (-1 : Int32)))).1 ?_
          refine oIl X5 hx hby d18_117 rfl ?_
          refine XS.ifNo X5.here hx rfl (hb hby d18_119) rfl ((if0 _ _).trans (tlt (by decide : (-2 : Int32) < (0 : Int32))).2.1) ?_
          refine oIc X5 hx hby d18_122 (oGo X5 hx hby 123 128 d18_123 (by decide) (by decide) ?_)
          exact retI X5 hx hret (hb hby d18_128) hr
        · show Q_sgRf_0 Z _ _ _ _ _ _ _ _ h0 n0 _ T5.heap _
          rw [e5]
          exact ⟨(by simp [own_sc1, own_sc2, own_sc3, own_sc4, own_sc5, p1_0, p1_1, p3_0, p3_1, p5_0, p5_1]), N5, rfl⟩
    · have N3 := Fr.app N1 N3q
      obtain ⟨fs, hr, hrun, hended, hW, hsame⟩ := X3.leave (v := some (.int (-1))) (fun h => by rw [hret] at h; cases h)
      refine ⟨_, _, k4 _ ?_, hrun, hended, _, _, rfl, ?_, ⟨_, rfl⟩, hW, hsame.mono (by decide) (by decide)⟩
      · refine st3 _ ?_
        refine XS.istore X3.here hx rfl (hb hby d18_82) rfl (l' := #[rv r0, iv p1, iv 0, iv 1, iv (-2 : Int32)]) rfl ?_
        refine oIl X3 hx hby d18_84 rfl (oIc X3 hx hby d18_86 ?_)
        refine XS.icmpNo X3.here hx rfl (hb hby d18_87) rfl (feq (by decide : ¬ ((-2 : Int32) = (-1 : Int32)))).1 ?_
        refine oIl X3 hx hby d18_90 rfl ?_
        refine XS.ifNo X3.here hx rfl (hb hby d18_92) rfl ((if0 _ _).trans (tlt (by decide : (-2 : Int32) < (0 : Int32))).2.1) ?_
        refine oIc X3 hx hby d18_95 (oGo X3 hx hby 96 101 d18_96 (by decide) (by decide) ?_)
        exact retI X3 hx hret (hb hby d18_101) hr
      · show Q_sgRf_0 Z _ _ _ _ _ _ _ _ h0 n0 _ T3.heap _
        rw [e3]
        exact ⟨(by simp [own_sc1, own_sc2, own_sc3, own_sc4, own_sc5, p1_0, p1_1, p3_0, p3_1]), N3, rfl⟩
  · have N1 := Fr.app N0 N1q
    obtain ⟨fs, hr, hrun, hended, hW, hsame⟩ := X1.leave (v := some (.int (-1))) (fun h => by rw [hret] at h; cases h)
    refine ⟨_, _, k2 _ ?_, hrun, hended, _, _, rfl, ?_, ⟨_, rfl⟩, hW, hsame.mono (by decide) (by decide)⟩
    · refine st1 _ ?_
      refine XS.istore X1.here hx rfl (hb hby d18_55) rfl (l' := #[rv r0, iv p1, iv 0, iv 1, iv (-2 : Int32)]) rfl ?_
      refine oIl X1 hx hby d18_57 rfl (oIc X1 hx hby d18_59 ?_)
      refine XS.icmpNo X1.here hx rfl (hb hby d18_60) rfl (feq (by decide : ¬ ((-2 : Int32) = (-1 : Int32)))).1 ?_
      refine oIl X1 hx hby d18_63 rfl ?_
      refine XS.ifNo X1.here hx rfl (hb hby d18_65) rfl ((if0 _ _).trans (tlt (by decide : (-2 : Int32) < (0 : Int32))).2.1) ?_
      refine oIc X1 hx hby d18_68 (oGo X1 hx hby 69 74 d18_69 (by decide) (by decide) ?_)
      exact retI X1 hx hret (hb hby d18_74) hr
    · show Q_sgRf_0 Z _ _ _ _ _ _ _ _ h0 n0 _ T1.heap _
      rw [e1]
      exact ⟨(by simp [own_sc1, own_sc2, own_sc3, own_sc4, own_sc5, p1_0, p1_1]), N1, rfl⟩
def Q_sgRf_1 (Z : State) (r0 : Addr) (p1 : Int32) (kC : ClassId) (x0 : Int32) (x1 : Int32) (x2 : Int32) (x3 : Int32) (x4 : Int32) (h0 : Heap) (n0 : Nat) (v : Option Value) (h : Heap) (L : List Loc) : Prop := v = some (.int (own_sc2 x0 x1 x2 x3 x4)) ∧ Fr n0 L ∧ h = h0
set_option maxRecDepth 65536 in
set_option maxHeartbeats 40000000 in
theorem sgRf_1 (l : Launch) (Z : State) (a0 : Array Value) (hw : ∀ d ∈ tables_1, d.before a0 Z = true) {p : Program} {e : Env} {s : State} {m : MethodId} {args : Array Value} {below : List Frame} {meth : Method} {c : Code} {T0 : State} {locs : List Loc} (r0 : Addr) (p1 : Int32) (kC : ClassId) (x0 : Int32) (x1 : Int32) (x2 : Int32) (x3 : Int32) (x4 : Int32) (h0 : Heap) (n0 : Nat) (Z0 : n0 ≤ h0.size) (V_r0 : Arv Z h0 r0 kC .char (5 : Int32) [(.int x0), (.int x1), (.int x2), (.int x3), (.int x4)] (.int 0))
    (X0 : Stand p l e ({ frames := 2, cells := 0, slots := 0, locals := 40 } : Room) s m args below meth c T0 locs 0 0) (hx : p.tables.exec = Jvm.exec) (hZ : Z.Warmed39 s.vm) (hby : c.code = method_6_code) (hml : c.maxLocals = 5) (hown : s.vm.findClass cS2 = some m.cls) (hret : meth.sig.returnType = some .int) (hlk : meth.locks = false) (e0 : T0.heap = h0) (N0 : Fr n0 locs) :
    ∃ s₂ o, Steps p.tables e below (T0.setTop (mkF m 46 #[rv r0, iv p1, iv 1, .unset, .unset] [])) s₂ ∧ s₂.status = .running ∧ Ended s₂ below o ∧ ∃ v L, o = .returned v ∧ Q_sgRf_1 Z r0 p1 kC x0 x1 x2 x3 x4 h0 n0 v s₂.heap L ∧ FrameEnd s o s₂ L ({ frames := 2, cells := 0, slots := 0, locals := 40 } : Room).cells ({ frames := 2, cells := 0, slots := 0, locals := 40 } : Room).slots := by
  have k0 : ∀ t, OwnS p e below T0 (mkF m 46 #[rv r0, iv p1, iv 1, .unset, .unset] []) t → OwnS p e below T0 (mkF m 46 #[rv r0, iv p1, iv 1, .unset, .unset] []) t := fun _ q => q
  obtain ⟨_, _, ⟨T1, L1, j1, i1⟩, -, X1, ⟨Lc1, hQ1, l1, y1, z1⟩, st1⟩ := Jvm.LawKit.callS X0 hx (y := (⟨cS2, "look", "([CI)I"⟩ : MethodName)) hown (mvT hZ (own_at hw 88 rfl)) (mvT hZ (own_at hw 89 rfl)) (mvT hZ (own_at hw 3 rfl)) (mvT hZ (own_at hw 90 rfl)) (by decide) (backOf (W := 0) (rmLk_2 l Z a0 hw [] r0 kC x0 x1 x2 x3 x4 h0 n0 Z0 V_r0) hZ (own_at hw 90 rfl) (own_at hw 3 rfl) (by decide) (by decide)) (g := (mkF m 52 #[rv r0, iv p1, iv 1, iv 2, .unset] [(.int 2), (.ref r0)])) rfl (by rw [hml]; rfl) (argsL := [(.ref r0), (.int 2)]) (rest := []) (lenOf pd_15 rfl) rfl (Nat.le_refl _) (hb hby d18_52) (fun _ _ => ⟨rfl, e0, (by decide : 0 + 0 ≤ _), (by decide : 0 + 0 ≤ _)⟩)
  dsimp only [Pt.U, Pt.locs, Pt.cells, Pt.slots] at X1 l1 y1 z1 st1 hQ1
  subst l1 y1 z1
  have k2 : ∀ t, OwnS p e below T0 (mkF m 52 #[rv r0, iv p1, iv 1, iv 2, .unset] [(.int 2), (.ref r0)]) t → OwnS p e below T0 (mkF m 46 #[rv r0, iv p1, iv 1, .unset, .unset] []) t := fun t q => by
   refine k0 t ?_
   show OwnS p e below T0 (mkF m 46 #[rv r0, iv p1, iv 1, .unset, .unset] []) _
   refine oIn X0 hx hby d18_46 rfl (oIc X0 hx hby d18_47 ?_)
   refine XS.iadd X0.here hx rfl (hb hby d18_48) rfl ?_
   refine XS.istoreN X0.here hx rfl (hb hby d18_49) rfl (l' := #[rv r0, iv p1, iv 1, iv 2, .unset]) rfl ?_
   refine oAn X0 hx hby d18_50 rfl rfl (oIn X0 hx hby d18_51 rfl ?_)
   exact q
  rcases hQ1 with ⟨rfl, N1q, e1, p1_0⟩ | ⟨rfl, N1q, e1, p1_0, p1_1⟩ | ⟨rfl, N1q, e1, p1_0, p1_1⟩
  · have N1 := Fr.app N0 N1q
    obtain ⟨fs, hr, hrun, hended, hW, hsame⟩ := X1.leave (v := some (.int 3)) (fun h => by rw [hret] at h; cases h)
    refine ⟨_, _, k2 _ ?_, hrun, hended, _, _, rfl, ?_, ⟨_, rfl⟩, hW, hsame.mono (by decide) (by decide)⟩
    · refine st1 _ ?_
      refine XS.istore X1.here hx rfl (hb hby d18_55) rfl (l' := #[rv r0, iv p1, iv 1, iv 2, iv 3]) rfl ?_
      refine oIl X1 hx hby d18_57 rfl (oIc X1 hx hby d18_59 ?_)
      refine XS.icmpNo X1.here hx rfl (hb hby d18_60) rfl (feq (by decide : ¬ ((3 : Int32) = (-1 : Int32)))).1 ?_
      refine oIl X1 hx hby d18_63 rfl ?_
      refine XS.ifYes X1.here hx rfl (pc0 := 65) (pc' := 72) rfl (hb hby d18_65) rfl ((if0 _ _).trans (flt (by decide : ¬ ((3 : Int32) < (0 : Int32)))).2.1) (by decide) (by decide) ?_
      refine oIl X1 hx hby d18_72 rfl ?_
      exact retI X1 hx hret (hb hby d18_74) hr
    · show Q_sgRf_1 Z _ _ _ _ _ _ _ _ h0 n0 _ T1.heap _
      rw [e1]
      exact ⟨(by simp [own_sc1, own_sc2, own_sc3, own_sc4, own_sc5, p1_0]), N1, rfl⟩
  · have N1 := Fr.app N0 N1q
    obtain ⟨_, _, ⟨T3, L3, j3, i3⟩, -, X3, ⟨Lc3, hQ3, l3, y3, z3⟩, st3⟩ := Jvm.LawKit.callS X1 hx (y := (⟨cS2, "look", "([CI)I"⟩ : MethodName)) hown (mvT hZ (own_at hw 88 rfl)) (mvT hZ (own_at hw 89 rfl)) (mvT hZ (own_at hw 3 rfl)) (mvT hZ (own_at hw 90 rfl)) (by decide) (backOf (W := 0) (rmLk_3 l Z a0 hw [] r0 kC x0 x1 x2 x3 x4 h0 n0 Z0 V_r0) hZ (own_at hw 90 rfl) (own_at hw 3 rfl) (by decide) (by decide)) (g := (mkF m 79 #[rv r0, iv p1, iv 1, iv 2, iv (-1 : Int32)] [(.int 3), (.ref r0)])) rfl (by rw [hml]; rfl) (argsL := [(.ref r0), (.int 3)]) (rest := []) (lenOf pd_15 rfl) rfl (Nat.le_refl _) (hb hby d18_79) (fun _ _ => ⟨rfl, e1, (by decide : 0 + 0 ≤ _), (by decide : 0 + 0 ≤ _)⟩)
    dsimp only [Pt.U, Pt.locs, Pt.cells, Pt.slots] at X3 l3 y3 z3 st3 hQ3
    subst l3 y3 z3
    have k4 : ∀ t, OwnS p e below T1 (mkF m 79 #[rv r0, iv p1, iv 1, iv 2, iv (-1 : Int32)] [(.int 3), (.ref r0)]) t → OwnS p e below T0 (mkF m 46 #[rv r0, iv p1, iv 1, .unset, .unset] []) t := fun t q => by
     refine k2 t ?_
     refine st1 _ ?_
     refine XS.istore X1.here hx rfl (hb hby d18_55) rfl (l' := #[rv r0, iv p1, iv 1, iv 2, iv (-1 : Int32)]) rfl ?_
     refine oIl X1 hx hby d18_57 rfl (oIc X1 hx hby d18_59 ?_)
     refine XS.icmpYes X1.here hx rfl (pc0 := 60) (pc' := 75) rfl (hb hby d18_60) rfl (teq (by decide : (-1 : Int32) = (-1 : Int32))).1 (by decide) (by decide) ?_
     refine oAn X1 hx hby d18_75 rfl rfl (oIn X1 hx hby d18_76 rfl (oIc X1 hx hby d18_77 ?_))
     refine XS.iadd X1.here hx rfl (hb hby d18_78) rfl ?_
     exact q
    rcases hQ3 with ⟨rfl, N3q, e3, p3_0⟩ | ⟨rfl, N3q, e3, p3_0, p3_1⟩ | ⟨rfl, N3q, e3, p3_0, p3_1⟩
    · have N3 := Fr.app N1 N3q
      obtain ⟨fs, hr, hrun, hended, hW, hsame⟩ := X3.leave (v := some (.int 4)) (fun h => by rw [hret] at h; cases h)
      refine ⟨_, _, k4 _ ?_, hrun, hended, _, _, rfl, ?_, ⟨_, rfl⟩, hW, hsame.mono (by decide) (by decide)⟩
      · refine st3 _ ?_
        refine XS.istore X3.here hx rfl (hb hby d18_82) rfl (l' := #[rv r0, iv p1, iv 1, iv 2, iv 4]) rfl ?_
        refine oIl X3 hx hby d18_84 rfl (oIc X3 hx hby d18_86 ?_)
        refine XS.icmpNo X3.here hx rfl (hb hby d18_87) rfl (feq (by decide : ¬ ((4 : Int32) = (-1 : Int32)))).1 ?_
        refine oIl X3 hx hby d18_90 rfl ?_
        refine XS.ifYes X3.here hx rfl (pc0 := 92) (pc' := 99) rfl (hb hby d18_92) rfl ((if0 _ _).trans (flt (by decide : ¬ ((4 : Int32) < (0 : Int32)))).2.1) (by decide) (by decide) ?_
        refine oIl X3 hx hby d18_99 rfl ?_
        exact retI X3 hx hret (hb hby d18_101) hr
      · show Q_sgRf_1 Z _ _ _ _ _ _ _ _ h0 n0 _ T3.heap _
        rw [e3]
        exact ⟨(by simp [own_sc1, own_sc2, own_sc3, own_sc4, own_sc5, p1_0, p1_1, p3_0]), N3, rfl⟩
    · have N3 := Fr.app N1 N3q
      obtain ⟨_, _, ⟨T5, L5, j5, i5⟩, -, X5, ⟨Lc5, hQ5, l5, y5, z5⟩, st5⟩ := Jvm.LawKit.callS X3 hx (y := (⟨cS2, "look", "([CI)I"⟩ : MethodName)) hown (mvT hZ (own_at hw 88 rfl)) (mvT hZ (own_at hw 89 rfl)) (mvT hZ (own_at hw 3 rfl)) (mvT hZ (own_at hw 90 rfl)) (by decide) (backOf (W := 0) (rmLk_4 l Z a0 hw [] r0 kC x0 x1 x2 x3 x4 h0 n0 Z0 V_r0) hZ (own_at hw 90 rfl) (own_at hw 3 rfl) (by decide) (by decide)) (g := (mkF m 106 #[rv r0, iv p1, iv 1, iv 2, iv (-1 : Int32)] [(.int 4), (.ref r0)])) rfl (by rw [hml]; rfl) (argsL := [(.ref r0), (.int 4)]) (rest := []) (lenOf pd_15 rfl) rfl (Nat.le_refl _) (hb hby d18_106) (fun _ _ => ⟨rfl, e3, (by decide : 0 + 0 ≤ _), (by decide : 0 + 0 ≤ _)⟩)
      dsimp only [Pt.U, Pt.locs, Pt.cells, Pt.slots] at X5 l5 y5 z5 st5 hQ5
      subst l5 y5 z5
      have k6 : ∀ t, OwnS p e below T3 (mkF m 106 #[rv r0, iv p1, iv 1, iv 2, iv (-1 : Int32)] [(.int 4), (.ref r0)]) t → OwnS p e below T0 (mkF m 46 #[rv r0, iv p1, iv 1, .unset, .unset] []) t := fun t q => by
       refine k4 t ?_
       refine st3 _ ?_
       refine XS.istore X3.here hx rfl (hb hby d18_82) rfl (l' := #[rv r0, iv p1, iv 1, iv 2, iv (-1 : Int32)]) rfl ?_
       refine oIl X3 hx hby d18_84 rfl (oIc X3 hx hby d18_86 ?_)
       refine XS.icmpYes X3.here hx rfl (pc0 := 87) (pc' := 102) rfl (hb hby d18_87) rfl (teq (by decide : (-1 : Int32) = (-1 : Int32))).1 (by decide) (by decide) ?_
       refine oAn X3 hx hby d18_102 rfl rfl (oIn X3 hx hby d18_103 rfl (oIc X3 hx hby d18_104 ?_))
       refine XS.iadd X3.here hx rfl (hb hby d18_105) rfl ?_
       exact q
      rcases hQ5 with ⟨rfl, N5q, e5, p5_0⟩ | ⟨rfl, N5q, e5, p5_0, p5_1⟩ | ⟨rfl, N5q, e5, p5_0, p5_1⟩
      · have N5 := Fr.app N3 N5q
        obtain ⟨fs, hr, hrun, hended, hW, hsame⟩ := X5.leave (v := some (.int 5)) (fun h => by rw [hret] at h; cases h)
        refine ⟨_, _, k6 _ ?_, hrun, hended, _, _, rfl, ?_, ⟨_, rfl⟩, hW, hsame.mono (by decide) (by decide)⟩
        · refine st5 _ ?_
          refine XS.istore X5.here hx rfl (hb hby d18_109) rfl (l' := #[rv r0, iv p1, iv 1, iv 2, iv 5]) rfl ?_
          refine oIl X5 hx hby d18_111 rfl (oIc X5 hx hby d18_113 ?_)
          refine XS.icmpNo X5.here hx rfl (hb hby d18_114) rfl (feq (by decide : ¬ ((5 : Int32) = (-1 : Int32)))).1 ?_
          refine oIl X5 hx hby d18_117 rfl ?_
          refine XS.ifYes X5.here hx rfl (pc0 := 119) (pc' := 126) rfl (hb hby d18_119) rfl ((if0 _ _).trans (flt (by decide : ¬ ((5 : Int32) < (0 : Int32)))).2.1) (by decide) (by decide) ?_
          refine oIl X5 hx hby d18_126 rfl ?_
          exact retI X5 hx hret (hb hby d18_128) hr
        · show Q_sgRf_1 Z _ _ _ _ _ _ _ _ h0 n0 _ T5.heap _
          rw [e5]
          exact ⟨(by simp [own_sc1, own_sc2, own_sc3, own_sc4, own_sc5, p1_0, p1_1, p3_0, p3_1, p5_0]), N5, rfl⟩
      · have N5 := Fr.app N3 N5q
        obtain ⟨_, _, ⟨T7, L7, j7, i7⟩, -, X7, ⟨Lc7, hQ7, l7, y7, z7⟩, st7⟩ := Jvm.LawKit.callS X5 hx (y := (⟨cS2, "look", "([CI)I"⟩ : MethodName)) hown (mvT hZ (own_at hw 88 rfl)) (mvT hZ (own_at hw 89 rfl)) (mvT hZ (own_at hw 3 rfl)) (mvT hZ (own_at hw 90 rfl)) (by decide) (backOf (W := 0) (rmLk_far l Z a0 hw [] r0 (5 : Int32) h0 n0 Z0 (by decide : ¬ ((5 : Int32) < (5 : Int32)))) hZ (own_at hw 90 rfl) (own_at hw 3 rfl) (by decide) (by decide)) (g := (mkF m 133 #[rv r0, iv p1, iv 1, iv 2, iv (-1 : Int32)] [(.int 5), (.ref r0)])) rfl (by rw [hml]; rfl) (argsL := [(.ref r0), (.int 5)]) (rest := []) (lenOf pd_15 rfl) rfl (Nat.le_refl _) (hb hby d18_133) (fun _ _ => ⟨rfl, e5, (by decide : 0 + 0 ≤ _), (by decide : 0 + 0 ≤ _)⟩)
        dsimp only [Pt.U, Pt.locs, Pt.cells, Pt.slots] at X7 l7 y7 z7 st7 hQ7
        subst l7 y7 z7
        obtain ⟨rfl, N7q, e7⟩ := hQ7
        have N7 := Fr.app N5 N7q
        obtain ⟨fs, hr, hrun, hended, hW, hsame⟩ := X7.leave (v := some (.int (-1))) (fun h => by rw [hret] at h; cases h)
        refine ⟨_, _, k6 _ ?_, hrun, hended, _, _, rfl, ?_, ⟨_, rfl⟩, hW, hsame.mono (by decide) (by decide)⟩
        · refine st5 _ ?_
          refine XS.istore X5.here hx rfl (hb hby d18_109) rfl (l' := #[rv r0, iv p1, iv 1, iv 2, iv (-1 : Int32)]) rfl ?_
          refine oIl X5 hx hby d18_111 rfl (oIc X5 hx hby d18_113 ?_)
          refine XS.icmpYes X5.here hx rfl (pc0 := 114) (pc' := 129) rfl (hb hby d18_114) rfl (teq (by decide : (-1 : Int32) = (-1 : Int32))).1 (by decide) (by decide) ?_
          refine oAn X5 hx hby d18_129 rfl rfl (oIn X5 hx hby d18_130 rfl (oIc X5 hx hby d18_131 ?_))
          refine XS.iadd X5.here hx rfl (hb hby d18_132) rfl ?_
          refine st7 _ ?_
          refine XS.istore X7.here hx rfl (hb hby d18_136) rfl (l' := #[rv r0, iv p1, iv 1, iv 2, iv (-2 : Int32)]) rfl ?_
          refine oIl X7 hx hby d18_138 rfl (oIc X7 hx hby d18_140 ?_)
          refine XS.icmpNo X7.here hx rfl (hb hby d18_141) rfl (feq (by decide : ¬ ((-2 : Int32) = (-1 : Int32)))).1 ?_
          refine oIl X7 hx hby d18_144 rfl ?_
          refine XS.ifNo X7.here hx rfl (hb hby d18_146) rfl ((if0 _ _).trans (tlt (by decide : (-2 : Int32) < (0 : Int32))).2.1) ?_
          refine oIc X7 hx hby d18_149 (oGo X7 hx hby 150 155 d18_150 (by decide) (by decide) ?_)
          exact retI X7 hx hret (hb hby d18_155) hr
        · show Q_sgRf_1 Z _ _ _ _ _ _ _ _ h0 n0 _ T7.heap _
          rw [e7]
          exact ⟨(by simp [own_sc1, own_sc2, own_sc3, own_sc4, own_sc5, p1_0, p1_1, p3_0, p3_1, p5_0, p5_1]), N7, rfl⟩
      · have N5 := Fr.app N3 N5q
        obtain ⟨fs, hr, hrun, hended, hW, hsame⟩ := X5.leave (v := some (.int (-1))) (fun h => by rw [hret] at h; cases h)
        refine ⟨_, _, k6 _ ?_, hrun, hended, _, _, rfl, ?_, ⟨_, rfl⟩, hW, hsame.mono (by decide) (by decide)⟩
        · refine st5 _ ?_
          refine XS.istore X5.here hx rfl (hb hby d18_109) rfl (l' := #[rv r0, iv p1, iv 1, iv 2, iv (-2 : Int32)]) rfl ?_
          refine oIl X5 hx hby d18_111 rfl (oIc X5 hx hby d18_113 ?_)
          refine XS.icmpNo X5.here hx rfl (hb hby d18_114) rfl (feq (by decide : ¬ ((-2 : Int32) = (-1 : Int32)))).1 ?_
          refine oIl X5 hx hby d18_117 rfl ?_
          refine XS.ifNo X5.here hx rfl (hb hby d18_119) rfl ((if0 _ _).trans (tlt (by decide : (-2 : Int32) < (0 : Int32))).2.1) ?_
          refine oIc X5 hx hby d18_122 (oGo X5 hx hby 123 128 d18_123 (by decide) (by decide) ?_)
          exact retI X5 hx hret (hb hby d18_128) hr
        · show Q_sgRf_1 Z _ _ _ _ _ _ _ _ h0 n0 _ T5.heap _
          rw [e5]
          exact ⟨(by simp [own_sc1, own_sc2, own_sc3, own_sc4, own_sc5, p1_0, p1_1, p3_0, p3_1, p5_0, p5_1]), N5, rfl⟩
    · have N3 := Fr.app N1 N3q
      obtain ⟨fs, hr, hrun, hended, hW, hsame⟩ := X3.leave (v := some (.int (-1))) (fun h => by rw [hret] at h; cases h)
      refine ⟨_, _, k4 _ ?_, hrun, hended, _, _, rfl, ?_, ⟨_, rfl⟩, hW, hsame.mono (by decide) (by decide)⟩
      · refine st3 _ ?_
        refine XS.istore X3.here hx rfl (hb hby d18_82) rfl (l' := #[rv r0, iv p1, iv 1, iv 2, iv (-2 : Int32)]) rfl ?_
        refine oIl X3 hx hby d18_84 rfl (oIc X3 hx hby d18_86 ?_)
        refine XS.icmpNo X3.here hx rfl (hb hby d18_87) rfl (feq (by decide : ¬ ((-2 : Int32) = (-1 : Int32)))).1 ?_
        refine oIl X3 hx hby d18_90 rfl ?_
        refine XS.ifNo X3.here hx rfl (hb hby d18_92) rfl ((if0 _ _).trans (tlt (by decide : (-2 : Int32) < (0 : Int32))).2.1) ?_
        refine oIc X3 hx hby d18_95 (oGo X3 hx hby 96 101 d18_96 (by decide) (by decide) ?_)
        exact retI X3 hx hret (hb hby d18_101) hr
      · show Q_sgRf_1 Z _ _ _ _ _ _ _ _ h0 n0 _ T3.heap _
        rw [e3]
        exact ⟨(by simp [own_sc1, own_sc2, own_sc3, own_sc4, own_sc5, p1_0, p1_1, p3_0, p3_1]), N3, rfl⟩
  · have N1 := Fr.app N0 N1q
    obtain ⟨fs, hr, hrun, hended, hW, hsame⟩ := X1.leave (v := some (.int (-1))) (fun h => by rw [hret] at h; cases h)
    refine ⟨_, _, k2 _ ?_, hrun, hended, _, _, rfl, ?_, ⟨_, rfl⟩, hW, hsame.mono (by decide) (by decide)⟩
    · refine st1 _ ?_
      refine XS.istore X1.here hx rfl (hb hby d18_55) rfl (l' := #[rv r0, iv p1, iv 1, iv 2, iv (-2 : Int32)]) rfl ?_
      refine oIl X1 hx hby d18_57 rfl (oIc X1 hx hby d18_59 ?_)
      refine XS.icmpNo X1.here hx rfl (hb hby d18_60) rfl (feq (by decide : ¬ ((-2 : Int32) = (-1 : Int32)))).1 ?_
      refine oIl X1 hx hby d18_63 rfl ?_
      refine XS.ifNo X1.here hx rfl (hb hby d18_65) rfl ((if0 _ _).trans (tlt (by decide : (-2 : Int32) < (0 : Int32))).2.1) ?_
      refine oIc X1 hx hby d18_68 (oGo X1 hx hby 69 74 d18_69 (by decide) (by decide) ?_)
      exact retI X1 hx hret (hb hby d18_74) hr
    · show Q_sgRf_1 Z _ _ _ _ _ _ _ _ h0 n0 _ T1.heap _
      rw [e1]
      exact ⟨(by simp [own_sc1, own_sc2, own_sc3, own_sc4, own_sc5, p1_0, p1_1]), N1, rfl⟩
def Q_sgRf_2 (Z : State) (r0 : Addr) (p1 : Int32) (kC : ClassId) (x0 : Int32) (x1 : Int32) (x2 : Int32) (x3 : Int32) (x4 : Int32) (h0 : Heap) (n0 : Nat) (v : Option Value) (h : Heap) (L : List Loc) : Prop := v = some (.int (own_sc3 x0 x1 x2 x3 x4)) ∧ Fr n0 L ∧ h = h0
set_option maxRecDepth 65536 in
set_option maxHeartbeats 40000000 in
theorem sgRf_2 (l : Launch) (Z : State) (a0 : Array Value) (hw : ∀ d ∈ tables_1, d.before a0 Z = true) {p : Program} {e : Env} {s : State} {m : MethodId} {args : Array Value} {below : List Frame} {meth : Method} {c : Code} {T0 : State} {locs : List Loc} (r0 : Addr) (p1 : Int32) (kC : ClassId) (x0 : Int32) (x1 : Int32) (x2 : Int32) (x3 : Int32) (x4 : Int32) (h0 : Heap) (n0 : Nat) (Z0 : n0 ≤ h0.size) (V_r0 : Arv Z h0 r0 kC .char (5 : Int32) [(.int x0), (.int x1), (.int x2), (.int x3), (.int x4)] (.int 0))
    (X0 : Stand p l e ({ frames := 2, cells := 0, slots := 0, locals := 40 } : Room) s m args below meth c T0 locs 0 0) (hx : p.tables.exec = Jvm.exec) (hZ : Z.Warmed39 s.vm) (hby : c.code = method_6_code) (hml : c.maxLocals = 5) (hown : s.vm.findClass cS2 = some m.cls) (hret : meth.sig.returnType = some .int) (hlk : meth.locks = false) (e0 : T0.heap = h0) (N0 : Fr n0 locs) :
    ∃ s₂ o, Steps p.tables e below (T0.setTop (mkF m 46 #[rv r0, iv p1, iv 2, .unset, .unset] [])) s₂ ∧ s₂.status = .running ∧ Ended s₂ below o ∧ ∃ v L, o = .returned v ∧ Q_sgRf_2 Z r0 p1 kC x0 x1 x2 x3 x4 h0 n0 v s₂.heap L ∧ FrameEnd s o s₂ L ({ frames := 2, cells := 0, slots := 0, locals := 40 } : Room).cells ({ frames := 2, cells := 0, slots := 0, locals := 40 } : Room).slots := by
  have k0 : ∀ t, OwnS p e below T0 (mkF m 46 #[rv r0, iv p1, iv 2, .unset, .unset] []) t → OwnS p e below T0 (mkF m 46 #[rv r0, iv p1, iv 2, .unset, .unset] []) t := fun _ q => q
  obtain ⟨_, _, ⟨T1, L1, j1, i1⟩, -, X1, ⟨Lc1, hQ1, l1, y1, z1⟩, st1⟩ := Jvm.LawKit.callS X0 hx (y := (⟨cS2, "look", "([CI)I"⟩ : MethodName)) hown (mvT hZ (own_at hw 88 rfl)) (mvT hZ (own_at hw 89 rfl)) (mvT hZ (own_at hw 3 rfl)) (mvT hZ (own_at hw 90 rfl)) (by decide) (backOf (W := 0) (rmLk_3 l Z a0 hw [] r0 kC x0 x1 x2 x3 x4 h0 n0 Z0 V_r0) hZ (own_at hw 90 rfl) (own_at hw 3 rfl) (by decide) (by decide)) (g := (mkF m 52 #[rv r0, iv p1, iv 2, iv 3, .unset] [(.int 3), (.ref r0)])) rfl (by rw [hml]; rfl) (argsL := [(.ref r0), (.int 3)]) (rest := []) (lenOf pd_15 rfl) rfl (Nat.le_refl _) (hb hby d18_52) (fun _ _ => ⟨rfl, e0, (by decide : 0 + 0 ≤ _), (by decide : 0 + 0 ≤ _)⟩)
  dsimp only [Pt.U, Pt.locs, Pt.cells, Pt.slots] at X1 l1 y1 z1 st1 hQ1
  subst l1 y1 z1
  have k2 : ∀ t, OwnS p e below T0 (mkF m 52 #[rv r0, iv p1, iv 2, iv 3, .unset] [(.int 3), (.ref r0)]) t → OwnS p e below T0 (mkF m 46 #[rv r0, iv p1, iv 2, .unset, .unset] []) t := fun t q => by
   refine k0 t ?_
   show OwnS p e below T0 (mkF m 46 #[rv r0, iv p1, iv 2, .unset, .unset] []) _
   refine oIn X0 hx hby d18_46 rfl (oIc X0 hx hby d18_47 ?_)
   refine XS.iadd X0.here hx rfl (hb hby d18_48) rfl ?_
   refine XS.istoreN X0.here hx rfl (hb hby d18_49) rfl (l' := #[rv r0, iv p1, iv 2, iv 3, .unset]) rfl ?_
   refine oAn X0 hx hby d18_50 rfl rfl (oIn X0 hx hby d18_51 rfl ?_)
   exact q
  rcases hQ1 with ⟨rfl, N1q, e1, p1_0⟩ | ⟨rfl, N1q, e1, p1_0, p1_1⟩ | ⟨rfl, N1q, e1, p1_0, p1_1⟩
  · have N1 := Fr.app N0 N1q
    obtain ⟨fs, hr, hrun, hended, hW, hsame⟩ := X1.leave (v := some (.int 4)) (fun h => by rw [hret] at h; cases h)
    refine ⟨_, _, k2 _ ?_, hrun, hended, _, _, rfl, ?_, ⟨_, rfl⟩, hW, hsame.mono (by decide) (by decide)⟩
    · refine st1 _ ?_
      refine XS.istore X1.here hx rfl (hb hby d18_55) rfl (l' := #[rv r0, iv p1, iv 2, iv 3, iv 4]) rfl ?_
      refine oIl X1 hx hby d18_57 rfl (oIc X1 hx hby d18_59 ?_)
      refine XS.icmpNo X1.here hx rfl (hb hby d18_60) rfl (feq (by decide : ¬ ((4 : Int32) = (-1 : Int32)))).1 ?_
      refine oIl X1 hx hby d18_63 rfl ?_
      refine XS.ifYes X1.here hx rfl (pc0 := 65) (pc' := 72) rfl (hb hby d18_65) rfl ((if0 _ _).trans (flt (by decide : ¬ ((4 : Int32) < (0 : Int32)))).2.1) (by decide) (by decide) ?_
      refine oIl X1 hx hby d18_72 rfl ?_
      exact retI X1 hx hret (hb hby d18_74) hr
    · show Q_sgRf_2 Z _ _ _ _ _ _ _ _ h0 n0 _ T1.heap _
      rw [e1]
      exact ⟨(by simp [own_sc1, own_sc2, own_sc3, own_sc4, own_sc5, p1_0]), N1, rfl⟩
  · have N1 := Fr.app N0 N1q
    obtain ⟨_, _, ⟨T3, L3, j3, i3⟩, -, X3, ⟨Lc3, hQ3, l3, y3, z3⟩, st3⟩ := Jvm.LawKit.callS X1 hx (y := (⟨cS2, "look", "([CI)I"⟩ : MethodName)) hown (mvT hZ (own_at hw 88 rfl)) (mvT hZ (own_at hw 89 rfl)) (mvT hZ (own_at hw 3 rfl)) (mvT hZ (own_at hw 90 rfl)) (by decide) (backOf (W := 0) (rmLk_4 l Z a0 hw [] r0 kC x0 x1 x2 x3 x4 h0 n0 Z0 V_r0) hZ (own_at hw 90 rfl) (own_at hw 3 rfl) (by decide) (by decide)) (g := (mkF m 79 #[rv r0, iv p1, iv 2, iv 3, iv (-1 : Int32)] [(.int 4), (.ref r0)])) rfl (by rw [hml]; rfl) (argsL := [(.ref r0), (.int 4)]) (rest := []) (lenOf pd_15 rfl) rfl (Nat.le_refl _) (hb hby d18_79) (fun _ _ => ⟨rfl, e1, (by decide : 0 + 0 ≤ _), (by decide : 0 + 0 ≤ _)⟩)
    dsimp only [Pt.U, Pt.locs, Pt.cells, Pt.slots] at X3 l3 y3 z3 st3 hQ3
    subst l3 y3 z3
    have k4 : ∀ t, OwnS p e below T1 (mkF m 79 #[rv r0, iv p1, iv 2, iv 3, iv (-1 : Int32)] [(.int 4), (.ref r0)]) t → OwnS p e below T0 (mkF m 46 #[rv r0, iv p1, iv 2, .unset, .unset] []) t := fun t q => by
     refine k2 t ?_
     refine st1 _ ?_
     refine XS.istore X1.here hx rfl (hb hby d18_55) rfl (l' := #[rv r0, iv p1, iv 2, iv 3, iv (-1 : Int32)]) rfl ?_
     refine oIl X1 hx hby d18_57 rfl (oIc X1 hx hby d18_59 ?_)
     refine XS.icmpYes X1.here hx rfl (pc0 := 60) (pc' := 75) rfl (hb hby d18_60) rfl (teq (by decide : (-1 : Int32) = (-1 : Int32))).1 (by decide) (by decide) ?_
     refine oAn X1 hx hby d18_75 rfl rfl (oIn X1 hx hby d18_76 rfl (oIc X1 hx hby d18_77 ?_))
     refine XS.iadd X1.here hx rfl (hb hby d18_78) rfl ?_
     exact q
    rcases hQ3 with ⟨rfl, N3q, e3, p3_0⟩ | ⟨rfl, N3q, e3, p3_0, p3_1⟩ | ⟨rfl, N3q, e3, p3_0, p3_1⟩
    · have N3 := Fr.app N1 N3q
      obtain ⟨fs, hr, hrun, hended, hW, hsame⟩ := X3.leave (v := some (.int 5)) (fun h => by rw [hret] at h; cases h)
      refine ⟨_, _, k4 _ ?_, hrun, hended, _, _, rfl, ?_, ⟨_, rfl⟩, hW, hsame.mono (by decide) (by decide)⟩
      · refine st3 _ ?_
        refine XS.istore X3.here hx rfl (hb hby d18_82) rfl (l' := #[rv r0, iv p1, iv 2, iv 3, iv 5]) rfl ?_
        refine oIl X3 hx hby d18_84 rfl (oIc X3 hx hby d18_86 ?_)
        refine XS.icmpNo X3.here hx rfl (hb hby d18_87) rfl (feq (by decide : ¬ ((5 : Int32) = (-1 : Int32)))).1 ?_
        refine oIl X3 hx hby d18_90 rfl ?_
        refine XS.ifYes X3.here hx rfl (pc0 := 92) (pc' := 99) rfl (hb hby d18_92) rfl ((if0 _ _).trans (flt (by decide : ¬ ((5 : Int32) < (0 : Int32)))).2.1) (by decide) (by decide) ?_
        refine oIl X3 hx hby d18_99 rfl ?_
        exact retI X3 hx hret (hb hby d18_101) hr
      · show Q_sgRf_2 Z _ _ _ _ _ _ _ _ h0 n0 _ T3.heap _
        rw [e3]
        exact ⟨(by simp [own_sc1, own_sc2, own_sc3, own_sc4, own_sc5, p1_0, p1_1, p3_0]), N3, rfl⟩
    · have N3 := Fr.app N1 N3q
      obtain ⟨_, _, ⟨T5, L5, j5, i5⟩, -, X5, ⟨Lc5, hQ5, l5, y5, z5⟩, st5⟩ := Jvm.LawKit.callS X3 hx (y := (⟨cS2, "look", "([CI)I"⟩ : MethodName)) hown (mvT hZ (own_at hw 88 rfl)) (mvT hZ (own_at hw 89 rfl)) (mvT hZ (own_at hw 3 rfl)) (mvT hZ (own_at hw 90 rfl)) (by decide) (backOf (W := 0) (rmLk_far l Z a0 hw [] r0 (5 : Int32) h0 n0 Z0 (by decide : ¬ ((5 : Int32) < (5 : Int32)))) hZ (own_at hw 90 rfl) (own_at hw 3 rfl) (by decide) (by decide)) (g := (mkF m 106 #[rv r0, iv p1, iv 2, iv 3, iv (-1 : Int32)] [(.int 5), (.ref r0)])) rfl (by rw [hml]; rfl) (argsL := [(.ref r0), (.int 5)]) (rest := []) (lenOf pd_15 rfl) rfl (Nat.le_refl _) (hb hby d18_106) (fun _ _ => ⟨rfl, e3, (by decide : 0 + 0 ≤ _), (by decide : 0 + 0 ≤ _)⟩)
      dsimp only [Pt.U, Pt.locs, Pt.cells, Pt.slots] at X5 l5 y5 z5 st5 hQ5
      subst l5 y5 z5
      obtain ⟨rfl, N5q, e5⟩ := hQ5
      have N5 := Fr.app N3 N5q
      obtain ⟨fs, hr, hrun, hended, hW, hsame⟩ := X5.leave (v := some (.int (-1))) (fun h => by rw [hret] at h; cases h)
      refine ⟨_, _, k4 _ ?_, hrun, hended, _, _, rfl, ?_, ⟨_, rfl⟩, hW, hsame.mono (by decide) (by decide)⟩
      · refine st3 _ ?_
        refine XS.istore X3.here hx rfl (hb hby d18_82) rfl (l' := #[rv r0, iv p1, iv 2, iv 3, iv (-1 : Int32)]) rfl ?_
        refine oIl X3 hx hby d18_84 rfl (oIc X3 hx hby d18_86 ?_)
        refine XS.icmpYes X3.here hx rfl (pc0 := 87) (pc' := 102) rfl (hb hby d18_87) rfl (teq (by decide : (-1 : Int32) = (-1 : Int32))).1 (by decide) (by decide) ?_
        refine oAn X3 hx hby d18_102 rfl rfl (oIn X3 hx hby d18_103 rfl (oIc X3 hx hby d18_104 ?_))
        refine XS.iadd X3.here hx rfl (hb hby d18_105) rfl ?_
        refine st5 _ ?_
        refine XS.istore X5.here hx rfl (hb hby d18_109) rfl (l' := #[rv r0, iv p1, iv 2, iv 3, iv (-2 : Int32)]) rfl ?_
        refine oIl X5 hx hby d18_111 rfl (oIc X5 hx hby d18_113 ?_)
        refine XS.icmpNo X5.here hx rfl (hb hby d18_114) rfl (feq (by decide : ¬ ((-2 : Int32) = (-1 : Int32)))).1 ?_
        refine oIl X5 hx hby d18_117 rfl ?_
        refine XS.ifNo X5.here hx rfl (hb hby d18_119) rfl ((if0 _ _).trans (tlt (by decide : (-2 : Int32) < (0 : Int32))).2.1) ?_
        refine oIc X5 hx hby d18_122 (oGo X5 hx hby 123 128 d18_123 (by decide) (by decide) ?_)
        exact retI X5 hx hret (hb hby d18_128) hr
      · show Q_sgRf_2 Z _ _ _ _ _ _ _ _ h0 n0 _ T5.heap _
        rw [e5]
        exact ⟨(by simp [own_sc1, own_sc2, own_sc3, own_sc4, own_sc5, p1_0, p1_1, p3_0, p3_1]), N5, rfl⟩
    · have N3 := Fr.app N1 N3q
      obtain ⟨fs, hr, hrun, hended, hW, hsame⟩ := X3.leave (v := some (.int (-1))) (fun h => by rw [hret] at h; cases h)
      refine ⟨_, _, k4 _ ?_, hrun, hended, _, _, rfl, ?_, ⟨_, rfl⟩, hW, hsame.mono (by decide) (by decide)⟩
      · refine st3 _ ?_
        refine XS.istore X3.here hx rfl (hb hby d18_82) rfl (l' := #[rv r0, iv p1, iv 2, iv 3, iv (-2 : Int32)]) rfl ?_
        refine oIl X3 hx hby d18_84 rfl (oIc X3 hx hby d18_86 ?_)
        refine XS.icmpNo X3.here hx rfl (hb hby d18_87) rfl (feq (by decide : ¬ ((-2 : Int32) = (-1 : Int32)))).1 ?_
        refine oIl X3 hx hby d18_90 rfl ?_
        refine XS.ifNo X3.here hx rfl (hb hby d18_92) rfl ((if0 _ _).trans (tlt (by decide : (-2 : Int32) < (0 : Int32))).2.1) ?_
        refine oIc X3 hx hby d18_95 (oGo X3 hx hby 96 101 d18_96 (by decide) (by decide) ?_)
        exact retI X3 hx hret (hb hby d18_101) hr
      · show Q_sgRf_2 Z _ _ _ _ _ _ _ _ h0 n0 _ T3.heap _
        rw [e3]
        exact ⟨(by simp [own_sc1, own_sc2, own_sc3, own_sc4, own_sc5, p1_0, p1_1, p3_0, p3_1]), N3, rfl⟩
  · have N1 := Fr.app N0 N1q
    obtain ⟨fs, hr, hrun, hended, hW, hsame⟩ := X1.leave (v := some (.int (-1))) (fun h => by rw [hret] at h; cases h)
    refine ⟨_, _, k2 _ ?_, hrun, hended, _, _, rfl, ?_, ⟨_, rfl⟩, hW, hsame.mono (by decide) (by decide)⟩
    · refine st1 _ ?_
      refine XS.istore X1.here hx rfl (hb hby d18_55) rfl (l' := #[rv r0, iv p1, iv 2, iv 3, iv (-2 : Int32)]) rfl ?_
      refine oIl X1 hx hby d18_57 rfl (oIc X1 hx hby d18_59 ?_)
      refine XS.icmpNo X1.here hx rfl (hb hby d18_60) rfl (feq (by decide : ¬ ((-2 : Int32) = (-1 : Int32)))).1 ?_
      refine oIl X1 hx hby d18_63 rfl ?_
      refine XS.ifNo X1.here hx rfl (hb hby d18_65) rfl ((if0 _ _).trans (tlt (by decide : (-2 : Int32) < (0 : Int32))).2.1) ?_
      refine oIc X1 hx hby d18_68 (oGo X1 hx hby 69 74 d18_69 (by decide) (by decide) ?_)
      exact retI X1 hx hret (hb hby d18_74) hr
    · show Q_sgRf_2 Z _ _ _ _ _ _ _ _ h0 n0 _ T1.heap _
      rw [e1]
      exact ⟨(by simp [own_sc1, own_sc2, own_sc3, own_sc4, own_sc5, p1_0, p1_1]), N1, rfl⟩
def Q_sgRf_3 (Z : State) (r0 : Addr) (p1 : Int32) (kC : ClassId) (x0 : Int32) (x1 : Int32) (x2 : Int32) (x3 : Int32) (x4 : Int32) (h0 : Heap) (n0 : Nat) (v : Option Value) (h : Heap) (L : List Loc) : Prop := v = some (.int (own_sc4 x0 x1 x2 x3 x4)) ∧ Fr n0 L ∧ h = h0
set_option maxRecDepth 65536 in
set_option maxHeartbeats 40000000 in
theorem sgRf_3 (l : Launch) (Z : State) (a0 : Array Value) (hw : ∀ d ∈ tables_1, d.before a0 Z = true) {p : Program} {e : Env} {s : State} {m : MethodId} {args : Array Value} {below : List Frame} {meth : Method} {c : Code} {T0 : State} {locs : List Loc} (r0 : Addr) (p1 : Int32) (kC : ClassId) (x0 : Int32) (x1 : Int32) (x2 : Int32) (x3 : Int32) (x4 : Int32) (h0 : Heap) (n0 : Nat) (Z0 : n0 ≤ h0.size) (V_r0 : Arv Z h0 r0 kC .char (5 : Int32) [(.int x0), (.int x1), (.int x2), (.int x3), (.int x4)] (.int 0))
    (X0 : Stand p l e ({ frames := 2, cells := 0, slots := 0, locals := 40 } : Room) s m args below meth c T0 locs 0 0) (hx : p.tables.exec = Jvm.exec) (hZ : Z.Warmed39 s.vm) (hby : c.code = method_6_code) (hml : c.maxLocals = 5) (hown : s.vm.findClass cS2 = some m.cls) (hret : meth.sig.returnType = some .int) (hlk : meth.locks = false) (e0 : T0.heap = h0) (N0 : Fr n0 locs) :
    ∃ s₂ o, Steps p.tables e below (T0.setTop (mkF m 46 #[rv r0, iv p1, iv 3, .unset, .unset] [])) s₂ ∧ s₂.status = .running ∧ Ended s₂ below o ∧ ∃ v L, o = .returned v ∧ Q_sgRf_3 Z r0 p1 kC x0 x1 x2 x3 x4 h0 n0 v s₂.heap L ∧ FrameEnd s o s₂ L ({ frames := 2, cells := 0, slots := 0, locals := 40 } : Room).cells ({ frames := 2, cells := 0, slots := 0, locals := 40 } : Room).slots := by
  have k0 : ∀ t, OwnS p e below T0 (mkF m 46 #[rv r0, iv p1, iv 3, .unset, .unset] []) t → OwnS p e below T0 (mkF m 46 #[rv r0, iv p1, iv 3, .unset, .unset] []) t := fun _ q => q
  obtain ⟨_, _, ⟨T1, L1, j1, i1⟩, -, X1, ⟨Lc1, hQ1, l1, y1, z1⟩, st1⟩ := Jvm.LawKit.callS X0 hx (y := (⟨cS2, "look", "([CI)I"⟩ : MethodName)) hown (mvT hZ (own_at hw 88 rfl)) (mvT hZ (own_at hw 89 rfl)) (mvT hZ (own_at hw 3 rfl)) (mvT hZ (own_at hw 90 rfl)) (by decide) (backOf (W := 0) (rmLk_4 l Z a0 hw [] r0 kC x0 x1 x2 x3 x4 h0 n0 Z0 V_r0) hZ (own_at hw 90 rfl) (own_at hw 3 rfl) (by decide) (by decide)) (g := (mkF m 52 #[rv r0, iv p1, iv 3, iv 4, .unset] [(.int 4), (.ref r0)])) rfl (by rw [hml]; rfl) (argsL := [(.ref r0), (.int 4)]) (rest := []) (lenOf pd_15 rfl) rfl (Nat.le_refl _) (hb hby d18_52) (fun _ _ => ⟨rfl, e0, (by decide : 0 + 0 ≤ _), (by decide : 0 + 0 ≤ _)⟩)
  dsimp only [Pt.U, Pt.locs, Pt.cells, Pt.slots] at X1 l1 y1 z1 st1 hQ1
  subst l1 y1 z1
  have k2 : ∀ t, OwnS p e below T0 (mkF m 52 #[rv r0, iv p1, iv 3, iv 4, .unset] [(.int 4), (.ref r0)]) t → OwnS p e below T0 (mkF m 46 #[rv r0, iv p1, iv 3, .unset, .unset] []) t := fun t q => by
   refine k0 t ?_
   show OwnS p e below T0 (mkF m 46 #[rv r0, iv p1, iv 3, .unset, .unset] []) _
   refine oIn X0 hx hby d18_46 rfl (oIc X0 hx hby d18_47 ?_)
   refine XS.iadd X0.here hx rfl (hb hby d18_48) rfl ?_
   refine XS.istoreN X0.here hx rfl (hb hby d18_49) rfl (l' := #[rv r0, iv p1, iv 3, iv 4, .unset]) rfl ?_
   refine oAn X0 hx hby d18_50 rfl rfl (oIn X0 hx hby d18_51 rfl ?_)
   exact q
  rcases hQ1 with ⟨rfl, N1q, e1, p1_0⟩ | ⟨rfl, N1q, e1, p1_0, p1_1⟩ | ⟨rfl, N1q, e1, p1_0, p1_1⟩
  · have N1 := Fr.app N0 N1q
    obtain ⟨fs, hr, hrun, hended, hW, hsame⟩ := X1.leave (v := some (.int 5)) (fun h => by rw [hret] at h; cases h)
    refine ⟨_, _, k2 _ ?_, hrun, hended, _, _, rfl, ?_, ⟨_, rfl⟩, hW, hsame.mono (by decide) (by decide)⟩
    · refine st1 _ ?_
      refine XS.istore X1.here hx rfl (hb hby d18_55) rfl (l' := #[rv r0, iv p1, iv 3, iv 4, iv 5]) rfl ?_
      refine oIl X1 hx hby d18_57 rfl (oIc X1 hx hby d18_59 ?_)
      refine XS.icmpNo X1.here hx rfl (hb hby d18_60) rfl (feq (by decide : ¬ ((5 : Int32) = (-1 : Int32)))).1 ?_
      refine oIl X1 hx hby d18_63 rfl ?_
      refine XS.ifYes X1.here hx rfl (pc0 := 65) (pc' := 72) rfl (hb hby d18_65) rfl ((if0 _ _).trans (flt (by decide : ¬ ((5 : Int32) < (0 : Int32)))).2.1) (by decide) (by decide) ?_
      refine oIl X1 hx hby d18_72 rfl ?_
      exact retI X1 hx hret (hb hby d18_74) hr
    · show Q_sgRf_3 Z _ _ _ _ _ _ _ _ h0 n0 _ T1.heap _
      rw [e1]
      exact ⟨(by simp [own_sc1, own_sc2, own_sc3, own_sc4, own_sc5, p1_0]), N1, rfl⟩
  · have N1 := Fr.app N0 N1q
    obtain ⟨_, _, ⟨T3, L3, j3, i3⟩, -, X3, ⟨Lc3, hQ3, l3, y3, z3⟩, st3⟩ := Jvm.LawKit.callS X1 hx (y := (⟨cS2, "look", "([CI)I"⟩ : MethodName)) hown (mvT hZ (own_at hw 88 rfl)) (mvT hZ (own_at hw 89 rfl)) (mvT hZ (own_at hw 3 rfl)) (mvT hZ (own_at hw 90 rfl)) (by decide) (backOf (W := 0) (rmLk_far l Z a0 hw [] r0 (5 : Int32) h0 n0 Z0 (by decide : ¬ ((5 : Int32) < (5 : Int32)))) hZ (own_at hw 90 rfl) (own_at hw 3 rfl) (by decide) (by decide)) (g := (mkF m 79 #[rv r0, iv p1, iv 3, iv 4, iv (-1 : Int32)] [(.int 5), (.ref r0)])) rfl (by rw [hml]; rfl) (argsL := [(.ref r0), (.int 5)]) (rest := []) (lenOf pd_15 rfl) rfl (Nat.le_refl _) (hb hby d18_79) (fun _ _ => ⟨rfl, e1, (by decide : 0 + 0 ≤ _), (by decide : 0 + 0 ≤ _)⟩)
    dsimp only [Pt.U, Pt.locs, Pt.cells, Pt.slots] at X3 l3 y3 z3 st3 hQ3
    subst l3 y3 z3
    obtain ⟨rfl, N3q, e3⟩ := hQ3
    have N3 := Fr.app N1 N3q
    obtain ⟨fs, hr, hrun, hended, hW, hsame⟩ := X3.leave (v := some (.int (-1))) (fun h => by rw [hret] at h; cases h)
    refine ⟨_, _, k2 _ ?_, hrun, hended, _, _, rfl, ?_, ⟨_, rfl⟩, hW, hsame.mono (by decide) (by decide)⟩
    · refine st1 _ ?_
      refine XS.istore X1.here hx rfl (hb hby d18_55) rfl (l' := #[rv r0, iv p1, iv 3, iv 4, iv (-1 : Int32)]) rfl ?_
      refine oIl X1 hx hby d18_57 rfl (oIc X1 hx hby d18_59 ?_)
      refine XS.icmpYes X1.here hx rfl (pc0 := 60) (pc' := 75) rfl (hb hby d18_60) rfl (teq (by decide : (-1 : Int32) = (-1 : Int32))).1 (by decide) (by decide) ?_
      refine oAn X1 hx hby d18_75 rfl rfl (oIn X1 hx hby d18_76 rfl (oIc X1 hx hby d18_77 ?_))
      refine XS.iadd X1.here hx rfl (hb hby d18_78) rfl ?_
      refine st3 _ ?_
      refine XS.istore X3.here hx rfl (hb hby d18_82) rfl (l' := #[rv r0, iv p1, iv 3, iv 4, iv (-2 : Int32)]) rfl ?_
      refine oIl X3 hx hby d18_84 rfl (oIc X3 hx hby d18_86 ?_)
      refine XS.icmpNo X3.here hx rfl (hb hby d18_87) rfl (feq (by decide : ¬ ((-2 : Int32) = (-1 : Int32)))).1 ?_
      refine oIl X3 hx hby d18_90 rfl ?_
      refine XS.ifNo X3.here hx rfl (hb hby d18_92) rfl ((if0 _ _).trans (tlt (by decide : (-2 : Int32) < (0 : Int32))).2.1) ?_
      refine oIc X3 hx hby d18_95 (oGo X3 hx hby 96 101 d18_96 (by decide) (by decide) ?_)
      exact retI X3 hx hret (hb hby d18_101) hr
    · show Q_sgRf_3 Z _ _ _ _ _ _ _ _ h0 n0 _ T3.heap _
      rw [e3]
      exact ⟨(by simp [own_sc1, own_sc2, own_sc3, own_sc4, own_sc5, p1_0, p1_1]), N3, rfl⟩
  · have N1 := Fr.app N0 N1q
    obtain ⟨fs, hr, hrun, hended, hW, hsame⟩ := X1.leave (v := some (.int (-1))) (fun h => by rw [hret] at h; cases h)
    refine ⟨_, _, k2 _ ?_, hrun, hended, _, _, rfl, ?_, ⟨_, rfl⟩, hW, hsame.mono (by decide) (by decide)⟩
    · refine st1 _ ?_
      refine XS.istore X1.here hx rfl (hb hby d18_55) rfl (l' := #[rv r0, iv p1, iv 3, iv 4, iv (-2 : Int32)]) rfl ?_
      refine oIl X1 hx hby d18_57 rfl (oIc X1 hx hby d18_59 ?_)
      refine XS.icmpNo X1.here hx rfl (hb hby d18_60) rfl (feq (by decide : ¬ ((-2 : Int32) = (-1 : Int32)))).1 ?_
      refine oIl X1 hx hby d18_63 rfl ?_
      refine XS.ifNo X1.here hx rfl (hb hby d18_65) rfl ((if0 _ _).trans (tlt (by decide : (-2 : Int32) < (0 : Int32))).2.1) ?_
      refine oIc X1 hx hby d18_68 (oGo X1 hx hby 69 74 d18_69 (by decide) (by decide) ?_)
      exact retI X1 hx hret (hb hby d18_74) hr
    · show Q_sgRf_3 Z _ _ _ _ _ _ _ _ h0 n0 _ T1.heap _
      rw [e1]
      exact ⟨(by simp [own_sc1, own_sc2, own_sc3, own_sc4, own_sc5, p1_0, p1_1]), N1, rfl⟩
def Q_sgRf_4 (Z : State) (r0 : Addr) (p1 : Int32) (kC : ClassId) (x0 : Int32) (x1 : Int32) (x2 : Int32) (x3 : Int32) (x4 : Int32) (h0 : Heap) (n0 : Nat) (v : Option Value) (h : Heap) (L : List Loc) : Prop := v = some (.int (own_sc5 x0 x1 x2 x3 x4)) ∧ Fr n0 L ∧ h = h0
set_option maxRecDepth 65536 in
set_option maxHeartbeats 40000000 in
theorem sgRf_4 (l : Launch) (Z : State) (a0 : Array Value) (hw : ∀ d ∈ tables_1, d.before a0 Z = true) {p : Program} {e : Env} {s : State} {m : MethodId} {args : Array Value} {below : List Frame} {meth : Method} {c : Code} {T0 : State} {locs : List Loc} (r0 : Addr) (p1 : Int32) (kC : ClassId) (x0 : Int32) (x1 : Int32) (x2 : Int32) (x3 : Int32) (x4 : Int32) (h0 : Heap) (n0 : Nat) (Z0 : n0 ≤ h0.size) (V_r0 : Arv Z h0 r0 kC .char (5 : Int32) [(.int x0), (.int x1), (.int x2), (.int x3), (.int x4)] (.int 0))
    (X0 : Stand p l e ({ frames := 2, cells := 0, slots := 0, locals := 40 } : Room) s m args below meth c T0 locs 0 0) (hx : p.tables.exec = Jvm.exec) (hZ : Z.Warmed39 s.vm) (hby : c.code = method_6_code) (hml : c.maxLocals = 5) (hown : s.vm.findClass cS2 = some m.cls) (hret : meth.sig.returnType = some .int) (hlk : meth.locks = false) (e0 : T0.heap = h0) (N0 : Fr n0 locs) :
    ∃ s₂ o, Steps p.tables e below (T0.setTop (mkF m 46 #[rv r0, iv p1, iv 4, .unset, .unset] [])) s₂ ∧ s₂.status = .running ∧ Ended s₂ below o ∧ ∃ v L, o = .returned v ∧ Q_sgRf_4 Z r0 p1 kC x0 x1 x2 x3 x4 h0 n0 v s₂.heap L ∧ FrameEnd s o s₂ L ({ frames := 2, cells := 0, slots := 0, locals := 40 } : Room).cells ({ frames := 2, cells := 0, slots := 0, locals := 40 } : Room).slots := by
  have k0 : ∀ t, OwnS p e below T0 (mkF m 46 #[rv r0, iv p1, iv 4, .unset, .unset] []) t → OwnS p e below T0 (mkF m 46 #[rv r0, iv p1, iv 4, .unset, .unset] []) t := fun _ q => q
  obtain ⟨_, _, ⟨T1, L1, j1, i1⟩, -, X1, ⟨Lc1, hQ1, l1, y1, z1⟩, st1⟩ := Jvm.LawKit.callS X0 hx (y := (⟨cS2, "look", "([CI)I"⟩ : MethodName)) hown (mvT hZ (own_at hw 88 rfl)) (mvT hZ (own_at hw 89 rfl)) (mvT hZ (own_at hw 3 rfl)) (mvT hZ (own_at hw 90 rfl)) (by decide) (backOf (W := 0) (rmLk_far l Z a0 hw [] r0 (5 : Int32) h0 n0 Z0 (by decide : ¬ ((5 : Int32) < (5 : Int32)))) hZ (own_at hw 90 rfl) (own_at hw 3 rfl) (by decide) (by decide)) (g := (mkF m 52 #[rv r0, iv p1, iv 4, iv 5, .unset] [(.int 5), (.ref r0)])) rfl (by rw [hml]; rfl) (argsL := [(.ref r0), (.int 5)]) (rest := []) (lenOf pd_15 rfl) rfl (Nat.le_refl _) (hb hby d18_52) (fun _ _ => ⟨rfl, e0, (by decide : 0 + 0 ≤ _), (by decide : 0 + 0 ≤ _)⟩)
  dsimp only [Pt.U, Pt.locs, Pt.cells, Pt.slots] at X1 l1 y1 z1 st1 hQ1
  subst l1 y1 z1
  obtain ⟨rfl, N1q, e1⟩ := hQ1
  have N1 := Fr.app N0 N1q
  obtain ⟨fs, hr, hrun, hended, hW, hsame⟩ := X1.leave (v := some (.int (-1))) (fun h => by rw [hret] at h; cases h)
  refine ⟨_, _, k0 _ ?_, hrun, hended, _, _, rfl, ?_, ⟨_, rfl⟩, hW, hsame.mono (by decide) (by decide)⟩
  · show OwnS p e below T0 (mkF m 46 #[rv r0, iv p1, iv 4, .unset, .unset] []) _
    refine oIn X0 hx hby d18_46 rfl (oIc X0 hx hby d18_47 ?_)
    refine XS.iadd X0.here hx rfl (hb hby d18_48) rfl ?_
    refine XS.istoreN X0.here hx rfl (hb hby d18_49) rfl (l' := #[rv r0, iv p1, iv 4, iv 5, .unset]) rfl ?_
    refine oAn X0 hx hby d18_50 rfl rfl (oIn X0 hx hby d18_51 rfl ?_)
    refine st1 _ ?_
    refine XS.istore X1.here hx rfl (hb hby d18_55) rfl (l' := #[rv r0, iv p1, iv 4, iv 5, iv (-2 : Int32)]) rfl ?_
    refine oIl X1 hx hby d18_57 rfl (oIc X1 hx hby d18_59 ?_)
    refine XS.icmpNo X1.here hx rfl (hb hby d18_60) rfl (feq (by decide : ¬ ((-2 : Int32) = (-1 : Int32)))).1 ?_
    refine oIl X1 hx hby d18_63 rfl ?_
    refine XS.ifNo X1.here hx rfl (hb hby d18_65) rfl ((if0 _ _).trans (tlt (by decide : (-2 : Int32) < (0 : Int32))).2.1) ?_
    refine oIc X1 hx hby d18_68 (oGo X1 hx hby 69 74 d18_69 (by decide) (by decide) ?_)
    exact retI X1 hx hret (hb hby d18_74) hr
  · show Q_sgRf_4 Z _ _ _ _ _ _ _ _ h0 n0 _ T1.heap _
    rw [e1]
    exact ⟨(by simp [own_sc1, own_sc2, own_sc3, own_sc4, own_sc5]), N1, rfl⟩
theorem d18_0 : decode method_6_code 0 = .ok (.iload_n 1, 1) := by decide +kernel
theorem d18_1 : decode method_6_code 1 = .ok (.istore_n 2, 1) := by decide +kernel
theorem d18_2 : decode method_6_code 2 = .ok (.iload_n 1, 1) := by decide +kernel
theorem d18_3 : decode method_6_code 3 = .ok (.iconst 2, 1) := by decide +kernel
theorem d18_4 : decode method_6_code 4 = .ok (.iadd, 1) := by decide +kernel
theorem d18_5 : decode method_6_code 5 = .ok (.iconst 5, 1) := by decide +kernel
theorem d18_6 : decode method_6_code 6 = .ok (.if_icmp .gt 25, 3) := by decide +kernel
theorem d18_9 : decode method_6_code 9 = .ok (.aload_n 0, 1) := by decide +kernel
theorem d18_10 : decode method_6_code 10 = .ok (.iload_n 1, 1) := by decide +kernel
theorem d18_11 : decode method_6_code 11 = .ok (.caload, 1) := by decide +kernel
theorem d18_12 : decode method_6_code 12 = .ok (.bipush 87, 2) := by decide +kernel
theorem d18_14 : decode method_6_code 14 = .ok (.if_icmp .ne 17, 3) := by decide +kernel
theorem d18_17 : decode method_6_code 17 = .ok (.aload_n 0, 1) := by decide +kernel
theorem d18_18 : decode method_6_code 18 = .ok (.iload_n 1, 1) := by decide +kernel
theorem d18_19 : decode method_6_code 19 = .ok (.iconst 1, 1) := by decide +kernel
theorem d18_20 : decode method_6_code 20 = .ok (.iadd, 1) := by decide +kernel
theorem d18_21 : decode method_6_code 21 = .ok (.caload, 1) := by decide +kernel
theorem d18_22 : decode method_6_code 22 = .ok (.bipush 47, 2) := by decide +kernel
theorem d18_24 : decode method_6_code 24 = .ok (.if_icmp .ne 7, 3) := by decide +kernel
theorem d18_27 : decode method_6_code 27 = .ok (.iload_n 1, 1) := by decide +kernel
theorem d18_28 : decode method_6_code 28 = .ok (.iconst 2, 1) := by decide +kernel
theorem d18_29 : decode method_6_code 29 = .ok (.iadd, 1) := by decide +kernel
theorem d18_30 : decode method_6_code 30 = .ok (.istore_n 2, 1) := by decide +kernel
theorem d18_31 : decode method_6_code 31 = .ok (.iload_n 2, 1) := by decide +kernel
theorem d18_32 : decode method_6_code 32 = .ok (.iconst 5, 1) := by decide +kernel
theorem d18_33 : decode method_6_code 33 = .ok (.if_icmp .ge 11, 3) := by decide +kernel
theorem d18_36 : decode method_6_code 36 = .ok (.aload_n 0, 1) := by decide +kernel
theorem d18_37 : decode method_6_code 37 = .ok (.iload_n 2, 1) := by decide +kernel
theorem d18_38 : decode method_6_code 38 = .ok (.caload, 1) := by decide +kernel
theorem d18_39 : decode method_6_code 39 = .ok (.bipush 34, 2) := by decide +kernel
theorem d18_41 : decode method_6_code 41 = .ok (.if_icmp .eq 5, 3) := by decide +kernel
theorem d18_44 : decode method_6_code 44 = .ok (.iconst (-1), 1) := by decide +kernel
theorem d18_45 : decode method_6_code 45 = .ok (.ireturn, 1) := by decide +kernel
theorem ef_18 (m : MethodId) (x0 : Addr) (x1 : Int32) : entryFrame m #[(.ref x0), (.int x1)] 5 = mkF m 0 #[.val (.ref x0), .val (.int x1), .unset, .unset, .unset] [] := by first | (simp [entryFrame, mkF, argsToLocals, Value.category]; done) | rfl
def Q_Rf_0 (Z : State) (r0 : Addr) (kC : ClassId) (x0 : Int32) (x1 : Int32) (x2 : Int32) (x3 : Int32) (x4 : Int32) (h0 : Heap) (n0 : Nat) (v : Option Value) (h : Heap) (L : List Loc) : Prop := v = some (.int (own_e0 x0 x1 x2 x3 x4)) ∧ Fr n0 L ∧ h = h0
set_option maxRecDepth 65536 in
set_option maxHeartbeats 40000000 in
theorem rmRf_0 (l : Launch) (Z : State) (a0 : Array Value) (hw : ∀ d ∈ tables_1, d.before a0 Z = true) (ws : List Jvm.Cond) (r0 : Addr) (kC : ClassId) (x0 : Int32) (x1 : Int32) (x2 : Int32) (x3 : Int32) (x4 : Int32) (h0 : Heap) (n0 : Nat) (Z0 : n0 ≤ h0.size) (V_r0 : Arv Z h0 r0 kC .char (5 : Int32) [(.int x0), (.int x1), (.int x2), (.int x3), (.int x4)] (.int 0)) :
    MetFree l (⟨cS2, "ref", "([CI)I"⟩ : MethodName) (head1 (Jvm.Cond.code (⟨cS2, "ref", "([CI)I"⟩ : MethodName) method_6_code 5 (some .int) :: ws) ({ frames := 2, cells := 0, slots := 0, locals := 40 } : Room)) (fun a U => a = #[(.ref r0), (.int 0)] ∧ Z.Warmed39 U.vm ∧ U.heap = h0) (fun _ _ _ _ _ => True) (fun _ U o U' => ∃ v L, o = .returned v ∧ Q_Rf_0 Z r0 kC x0 x1 x2 x3 x4 h0 n0 v U'.heap L ∧ FrameEnd U o U' L 0 0) := by
  refine MetFree.of_bodySF (plainFor_of_name pn_com_example_strict_lock_strictlock_EntityTagsEndPinLaw) hisR ?_
  intro p e s m args below meth c s₁ Bd hml0 hP hK
  obtain ⟨rfl, hZ, hh⟩ := hP
  have hx := Bd.exec
  have hby := Bd.bytes
  have hml : c.maxLocals = 5 := hml0
  have hown : s.vm.findClass cS2 = some m.cls := findClass_of_methodNamed Bd.named
  have hnm := (name_of_methodNamed Bd.named Bd.method).1
  have X0 : Stand p l e ({ frames := 2, cells := 0, slots := 0, locals := 40 } : Room) s m #[(.ref r0), (.int 0)] below meth c s₁ [] 0 0 := Stand.of_body Bd
  have e0 : s₁.heap = h0 := by rw [← hh, Bd.state]; rfl
  have N0 := Fr.nil n0
  have k0 : ∀ t, OwnS p e below s₁ (mkF m 0 #[rv r0, iv 0, .unset, .unset, .unset] []) t → OwnS p e below s₁ (entryFrame m #[(.ref r0), (.int 0)] 5) t := fun t k => castTop (ef_18 m r0 (0 : Int32)) k
  obtain ⟨cl_z1, Ar_z1, q_z1, S_z1, N_z1, H_z1, G_z1⟩ := id V_r0
  have hin2 : ¬ ((0 : Int32) < 0 ∨ cl_z1.slots.size ≤ ((0 : Int32)).toNatClampNeg) := inb_of S_z1 ⟨by decide, by decide⟩
  have k4 : ∀ t, OwnS p e below s₁ (mkF m 14 #[rv r0, iv 0, iv 0, .unset, .unset] [(.int 87), (.int x0)]) t → OwnS p e below s₁ (entryFrame m #[(.ref r0), (.int 0)] 5) t := fun t q => by
   refine k0 t ?_
   show OwnS p e below s₁ (mkF m 0 #[rv r0, iv 0, .unset, .unset, .unset] []) _
   refine oIn X0 hx hby d18_0 rfl ?_
   refine XS.istoreN X0.here hx rfl (hb hby d18_1) rfl (l' := #[rv r0, iv 0, iv 0, .unset, .unset]) rfl ?_
   refine oIn X0 hx hby d18_2 rfl (oIc X0 hx hby d18_3 ?_)
   refine XS.iadd X0.here hx rfl (hb hby d18_4) rfl ?_
   refine oIc X0 hx hby d18_5 ?_
   refine XS.icmpNo X0.here hx rfl (hb hby d18_6) rfl (flt (by decide : ¬ ((5 : Int32) < (2 : Int32)))).2.2.1 ?_
   refine oAn X0 hx hby d18_9 rfl rfl (oIn X0 hx hby d18_10 rfl ?_)
   refine X0.caload hx (j := (0 : Int32)) (v := (.int x0)) (by rw [e0]; exact Ar_z1.1) (State.isArrayOf_alike hZ.alike Ar_z1.2.1) Ar_z1.2.2 hin2 (Has.at H_z1 hin2 rfl) (g := (mkF m 11 #[rv r0, iv 0, iv 0, .unset, .unset] [(.int 0), (.ref r0)])) rfl rfl (hb hby d18_11) _ ?_
   refine oBp X0 hx hby d18_12 ?_
   exact q
  by_cases hc14_3 : x0 = (87 : Int32)
  · have hin5 : ¬ ((1 : Int32) < 0 ∨ cl_z1.slots.size ≤ ((1 : Int32)).toNatClampNeg) := inb_of S_z1 ⟨by decide, by decide⟩
    have k7 : ∀ t, OwnS p e below s₁ (mkF m 24 #[rv r0, iv 0, iv 0, .unset, .unset] [(.int 47), (.int x1)]) t → OwnS p e below s₁ (entryFrame m #[(.ref r0), (.int 0)] 5) t := fun t q => by
     refine k4 t ?_
     refine XS.icmpNo X0.here hx rfl (hb hby d18_14) rfl (teq hc14_3).2 ?_
     refine oAn X0 hx hby d18_17 rfl rfl (oIn X0 hx hby d18_18 rfl (oIc X0 hx hby d18_19 ?_))
     refine XS.iadd X0.here hx rfl (hb hby d18_20) rfl ?_
     refine X0.caload hx (j := (1 : Int32)) (v := (.int x1)) (by rw [e0]; exact Ar_z1.1) (State.isArrayOf_alike hZ.alike Ar_z1.2.1) Ar_z1.2.2 hin5 (Has.at H_z1 hin5 rfl) (g := (mkF m 21 #[rv r0, iv 0, iv 0, .unset, .unset] [(.int 1), (.ref r0)])) rfl rfl (hb hby d18_21) _ ?_
     refine oBp X0 hx hby d18_22 ?_
     exact q
    by_cases hc24_6 : x1 = (47 : Int32)
    · have hin8 : ¬ ((2 : Int32) < 0 ∨ cl_z1.slots.size ≤ ((2 : Int32)).toNatClampNeg) := inb_of S_z1 ⟨by decide, by decide⟩
      have k10 : ∀ t, OwnS p e below s₁ (mkF m 41 #[rv r0, iv 0, iv 2, .unset, .unset] [(.int 34), (.int x2)]) t → OwnS p e below s₁ (entryFrame m #[(.ref r0), (.int 0)] 5) t := fun t q => by
       refine k7 t ?_
       refine XS.icmpNo X0.here hx rfl (hb hby d18_24) rfl (teq hc24_6).2 ?_
       refine oIn X0 hx hby d18_27 rfl (oIc X0 hx hby d18_28 ?_)
       refine XS.iadd X0.here hx rfl (hb hby d18_29) rfl ?_
       refine XS.istoreN X0.here hx rfl (hb hby d18_30) rfl (l' := #[rv r0, iv 0, iv 2, .unset, .unset]) rfl ?_
       refine oIn X0 hx hby d18_31 rfl (oIc X0 hx hby d18_32 ?_)
       refine XS.icmpNo X0.here hx rfl (hb hby d18_33) rfl (tlt (by decide : (2 : Int32) < (5 : Int32))).2.1 ?_
       refine oAn X0 hx hby d18_36 rfl rfl (oIn X0 hx hby d18_37 rfl ?_)
       refine X0.caload hx (j := (2 : Int32)) (v := (.int x2)) (by rw [e0]; exact Ar_z1.1) (State.isArrayOf_alike hZ.alike Ar_z1.2.1) Ar_z1.2.2 hin8 (Has.at H_z1 hin8 rfl) (g := (mkF m 38 #[rv r0, iv 0, iv 2, .unset, .unset] [(.int 2), (.ref r0)])) rfl rfl (hb hby d18_38) _ ?_
       refine oBp X0 hx hby d18_39 ?_
       exact q
      by_cases hc41_9 : x2 = (34 : Int32)
      · have k11 : ∀ t, OwnS p e below s₁ (mkF m 46 #[rv r0, iv 0, iv 2, .unset, .unset] []) t → OwnS p e below s₁ (entryFrame m #[(.ref r0), (.int 0)] 5) t := fun t q => by
         refine k10 t ?_
         refine XS.icmpYes X0.here hx rfl (pc0 := 41) (pc' := 46) rfl (hb hby d18_41) rfl (teq hc41_9).1 (by decide) (by decide) ?_
         exact q
        obtain ⟨s12, o12, ja12, jb12, jc12, v12, L12, rfl, ⟨hv12, jN12, jh12⟩, jF12⟩ := sgRf_2 l Z a0 hw r0 (0 : Int32) kC x0 x1 x2 x3 x4 h0 n0 Z0 V_r0 X0 hx hZ hby hml hown Bd.returns Bd.notSynchronized e0 N0 
        exact ⟨s12, _, k11 _ ja12, jb12, jc12, v12, L12, rfl, ⟨hv12.trans (by simp [own_e0, own_sc1, own_sc2, own_sc3, own_sc4, own_sc5, own_q0, own_q1, own_q2, own_q3, own_q4, own_q5, hc14_3, hc24_6, hc41_9]), jN12, jh12⟩, jF12⟩
      · obtain ⟨fs, hr, hrun, hended, hW, hsame⟩ := X0.leave (v := some (.int (-1))) (fun h => by rw [Bd.returns] at h; cases h)
        refine ⟨_, _, k10 _ ?_, hrun, hended, _, _, rfl, ?_, ⟨_, rfl⟩, hW, hsame.mono (by decide) (by decide)⟩
        · refine XS.icmpNo X0.here hx rfl (hb hby d18_41) rfl (feq hc41_9).1 ?_
          refine oIc X0 hx hby d18_44 ?_
          exact retI X0 hx Bd.returns (hb hby d18_45) hr
        · show Q_Rf_0 Z _ _ _ _ _ _ _ h0 n0 _ s₁.heap _
          rw [e0]
          exact ⟨(by simp [own_e0, own_sc1, own_sc2, own_sc3, own_sc4, own_sc5, own_q0, own_q1, own_q2, own_q3, own_q4, own_q5, hc14_3, hc24_6, hc41_9]), N0, rfl⟩
    · have hin13 : ¬ ((0 : Int32) < 0 ∨ cl_z1.slots.size ≤ ((0 : Int32)).toNatClampNeg) := inb_of S_z1 ⟨by decide, by decide⟩
      obtain ⟨fs, hr, hrun, hended, hW, hsame⟩ := X0.leave (v := some (.int (-1))) (fun h => by rw [Bd.returns] at h; cases h)
      refine ⟨_, _, k7 _ ?_, hrun, hended, _, _, rfl, ?_, ⟨_, rfl⟩, hW, hsame.mono (by decide) (by decide)⟩
      · refine XS.icmpYes X0.here hx rfl (pc0 := 24) (pc' := 31) rfl (hb hby d18_24) rfl (feq hc24_6).2 (by decide) (by decide) ?_
        refine oIn X0 hx hby d18_31 rfl (oIc X0 hx hby d18_32 ?_)
        refine XS.icmpNo X0.here hx rfl (hb hby d18_33) rfl (tlt (by decide : (0 : Int32) < (5 : Int32))).2.1 ?_
        refine oAn X0 hx hby d18_36 rfl rfl (oIn X0 hx hby d18_37 rfl ?_)
        refine X0.caload hx (j := (0 : Int32)) (v := (.int x0)) (by rw [e0]; exact Ar_z1.1) (State.isArrayOf_alike hZ.alike Ar_z1.2.1) Ar_z1.2.2 hin13 (Has.at H_z1 hin13 rfl) (g := (mkF m 38 #[rv r0, iv 0, iv 0, .unset, .unset] [(.int 0), (.ref r0)])) rfl rfl (hb hby d18_38) _ ?_
        refine oBp X0 hx hby d18_39 ?_
        refine XS.icmpNo X0.here hx rfl (hb hby d18_41) rfl (feq (by rw [hc14_3]; decide)).1 ?_
        refine oIc X0 hx hby d18_44 ?_
        exact retI X0 hx Bd.returns (hb hby d18_45) hr
      · show Q_Rf_0 Z _ _ _ _ _ _ _ h0 n0 _ s₁.heap _
        rw [e0]
        exact ⟨(by simp [own_e0, own_sc1, own_sc2, own_sc3, own_sc4, own_sc5, own_q0, own_q1, own_q2, own_q3, own_q4, own_q5, hc14_3, hc24_6]), N0, rfl⟩
  · have hin14 : ¬ ((0 : Int32) < 0 ∨ cl_z1.slots.size ≤ ((0 : Int32)).toNatClampNeg) := inb_of S_z1 ⟨by decide, by decide⟩
    have k16 : ∀ t, OwnS p e below s₁ (mkF m 41 #[rv r0, iv 0, iv 0, .unset, .unset] [(.int 34), (.int x0)]) t → OwnS p e below s₁ (entryFrame m #[(.ref r0), (.int 0)] 5) t := fun t q => by
     refine k4 t ?_
     refine XS.icmpYes X0.here hx rfl (pc0 := 14) (pc' := 31) rfl (hb hby d18_14) rfl (feq hc14_3).2 (by decide) (by decide) ?_
     refine oIn X0 hx hby d18_31 rfl (oIc X0 hx hby d18_32 ?_)
     refine XS.icmpNo X0.here hx rfl (hb hby d18_33) rfl (tlt (by decide : (0 : Int32) < (5 : Int32))).2.1 ?_
     refine oAn X0 hx hby d18_36 rfl rfl (oIn X0 hx hby d18_37 rfl ?_)
     refine X0.caload hx (j := (0 : Int32)) (v := (.int x0)) (by rw [e0]; exact Ar_z1.1) (State.isArrayOf_alike hZ.alike Ar_z1.2.1) Ar_z1.2.2 hin14 (Has.at H_z1 hin14 rfl) (g := (mkF m 38 #[rv r0, iv 0, iv 0, .unset, .unset] [(.int 0), (.ref r0)])) rfl rfl (hb hby d18_38) _ ?_
     refine oBp X0 hx hby d18_39 ?_
     exact q
    by_cases hc41_15 : x0 = (34 : Int32)
    · have k17 : ∀ t, OwnS p e below s₁ (mkF m 46 #[rv r0, iv 0, iv 0, .unset, .unset] []) t → OwnS p e below s₁ (entryFrame m #[(.ref r0), (.int 0)] 5) t := fun t q => by
       refine k16 t ?_
       refine XS.icmpYes X0.here hx rfl (pc0 := 41) (pc' := 46) rfl (hb hby d18_41) rfl (teq hc41_15).1 (by decide) (by decide) ?_
       exact q
      obtain ⟨s18, o18, ja18, jb18, jc18, v18, L18, rfl, ⟨hv18, jN18, jh18⟩, jF18⟩ := sgRf_0 l Z a0 hw r0 (0 : Int32) kC x0 x1 x2 x3 x4 h0 n0 Z0 V_r0 X0 hx hZ hby hml hown Bd.returns Bd.notSynchronized e0 N0 
      exact ⟨s18, _, k17 _ ja18, jb18, jc18, v18, L18, rfl, ⟨hv18.trans (by simp [own_e0, own_sc1, own_sc2, own_sc3, own_sc4, own_sc5, own_q0, own_q1, own_q2, own_q3, own_q4, own_q5, hc14_3, hc41_15]), jN18, jh18⟩, jF18⟩
    · obtain ⟨fs, hr, hrun, hended, hW, hsame⟩ := X0.leave (v := some (.int (-1))) (fun h => by rw [Bd.returns] at h; cases h)
      refine ⟨_, _, k16 _ ?_, hrun, hended, _, _, rfl, ?_, ⟨_, rfl⟩, hW, hsame.mono (by decide) (by decide)⟩
      · refine XS.icmpNo X0.here hx rfl (hb hby d18_41) rfl (feq hc41_15).1 ?_
        refine oIc X0 hx hby d18_44 ?_
        exact retI X0 hx Bd.returns (hb hby d18_45) hr
      · show Q_Rf_0 Z _ _ _ _ _ _ _ h0 n0 _ s₁.heap _
        rw [e0]
        exact ⟨(by simp [own_e0, own_sc1, own_sc2, own_sc3, own_sc4, own_sc5, own_q0, own_q1, own_q2, own_q3, own_q4, own_q5, hc14_3, hc41_15]), N0, rfl⟩
def Q_Rf_1 (Z : State) (r0 : Addr) (kC : ClassId) (x0 : Int32) (x1 : Int32) (x2 : Int32) (x3 : Int32) (x4 : Int32) (h0 : Heap) (n0 : Nat) (v : Option Value) (h : Heap) (L : List Loc) : Prop := v = some (.int (own_e1 x0 x1 x2 x3 x4)) ∧ Fr n0 L ∧ h = h0
set_option maxRecDepth 65536 in
set_option maxHeartbeats 40000000 in
theorem rmRf_1 (l : Launch) (Z : State) (a0 : Array Value) (hw : ∀ d ∈ tables_1, d.before a0 Z = true) (ws : List Jvm.Cond) (r0 : Addr) (kC : ClassId) (x0 : Int32) (x1 : Int32) (x2 : Int32) (x3 : Int32) (x4 : Int32) (h0 : Heap) (n0 : Nat) (Z0 : n0 ≤ h0.size) (V_r0 : Arv Z h0 r0 kC .char (5 : Int32) [(.int x0), (.int x1), (.int x2), (.int x3), (.int x4)] (.int 0)) :
    MetFree l (⟨cS2, "ref", "([CI)I"⟩ : MethodName) (head1 (Jvm.Cond.code (⟨cS2, "ref", "([CI)I"⟩ : MethodName) method_6_code 5 (some .int) :: ws) ({ frames := 2, cells := 0, slots := 0, locals := 40 } : Room)) (fun a U => a = #[(.ref r0), (.int 1)] ∧ Z.Warmed39 U.vm ∧ U.heap = h0) (fun _ _ _ _ _ => True) (fun _ U o U' => ∃ v L, o = .returned v ∧ Q_Rf_1 Z r0 kC x0 x1 x2 x3 x4 h0 n0 v U'.heap L ∧ FrameEnd U o U' L 0 0) := by
  refine MetFree.of_bodySF (plainFor_of_name pn_com_example_strict_lock_strictlock_EntityTagsEndPinLaw) hisR ?_
  intro p e s m args below meth c s₁ Bd hml0 hP hK
  obtain ⟨rfl, hZ, hh⟩ := hP
  have hx := Bd.exec
  have hby := Bd.bytes
  have hml : c.maxLocals = 5 := hml0
  have hown : s.vm.findClass cS2 = some m.cls := findClass_of_methodNamed Bd.named
  have hnm := (name_of_methodNamed Bd.named Bd.method).1
  have X0 : Stand p l e ({ frames := 2, cells := 0, slots := 0, locals := 40 } : Room) s m #[(.ref r0), (.int 1)] below meth c s₁ [] 0 0 := Stand.of_body Bd
  have e0 : s₁.heap = h0 := by rw [← hh, Bd.state]; rfl
  have N0 := Fr.nil n0
  have k0 : ∀ t, OwnS p e below s₁ (mkF m 0 #[rv r0, iv 1, .unset, .unset, .unset] []) t → OwnS p e below s₁ (entryFrame m #[(.ref r0), (.int 1)] 5) t := fun t k => castTop (ef_18 m r0 (1 : Int32)) k
  obtain ⟨cl_z1, Ar_z1, q_z1, S_z1, N_z1, H_z1, G_z1⟩ := id V_r0
  have hin2 : ¬ ((1 : Int32) < 0 ∨ cl_z1.slots.size ≤ ((1 : Int32)).toNatClampNeg) := inb_of S_z1 ⟨by decide, by decide⟩
  have k4 : ∀ t, OwnS p e below s₁ (mkF m 14 #[rv r0, iv 1, iv 1, .unset, .unset] [(.int 87), (.int x1)]) t → OwnS p e below s₁ (entryFrame m #[(.ref r0), (.int 1)] 5) t := fun t q => by
   refine k0 t ?_
   show OwnS p e below s₁ (mkF m 0 #[rv r0, iv 1, .unset, .unset, .unset] []) _
   refine oIn X0 hx hby d18_0 rfl ?_
   refine XS.istoreN X0.here hx rfl (hb hby d18_1) rfl (l' := #[rv r0, iv 1, iv 1, .unset, .unset]) rfl ?_
   refine oIn X0 hx hby d18_2 rfl (oIc X0 hx hby d18_3 ?_)
   refine XS.iadd X0.here hx rfl (hb hby d18_4) rfl ?_
   refine oIc X0 hx hby d18_5 ?_
   refine XS.icmpNo X0.here hx rfl (hb hby d18_6) rfl (flt (by decide : ¬ ((5 : Int32) < (3 : Int32)))).2.2.1 ?_
   refine oAn X0 hx hby d18_9 rfl rfl (oIn X0 hx hby d18_10 rfl ?_)
   refine X0.caload hx (j := (1 : Int32)) (v := (.int x1)) (by rw [e0]; exact Ar_z1.1) (State.isArrayOf_alike hZ.alike Ar_z1.2.1) Ar_z1.2.2 hin2 (Has.at H_z1 hin2 rfl) (g := (mkF m 11 #[rv r0, iv 1, iv 1, .unset, .unset] [(.int 1), (.ref r0)])) rfl rfl (hb hby d18_11) _ ?_
   refine oBp X0 hx hby d18_12 ?_
   exact q
  by_cases hc14_3 : x1 = (87 : Int32)
  · have hin5 : ¬ ((2 : Int32) < 0 ∨ cl_z1.slots.size ≤ ((2 : Int32)).toNatClampNeg) := inb_of S_z1 ⟨by decide, by decide⟩
    have k7 : ∀ t, OwnS p e below s₁ (mkF m 24 #[rv r0, iv 1, iv 1, .unset, .unset] [(.int 47), (.int x2)]) t → OwnS p e below s₁ (entryFrame m #[(.ref r0), (.int 1)] 5) t := fun t q => by
     refine k4 t ?_
     refine XS.icmpNo X0.here hx rfl (hb hby d18_14) rfl (teq hc14_3).2 ?_
     refine oAn X0 hx hby d18_17 rfl rfl (oIn X0 hx hby d18_18 rfl (oIc X0 hx hby d18_19 ?_))
     refine XS.iadd X0.here hx rfl (hb hby d18_20) rfl ?_
     refine X0.caload hx (j := (2 : Int32)) (v := (.int x2)) (by rw [e0]; exact Ar_z1.1) (State.isArrayOf_alike hZ.alike Ar_z1.2.1) Ar_z1.2.2 hin5 (Has.at H_z1 hin5 rfl) (g := (mkF m 21 #[rv r0, iv 1, iv 1, .unset, .unset] [(.int 2), (.ref r0)])) rfl rfl (hb hby d18_21) _ ?_
     refine oBp X0 hx hby d18_22 ?_
     exact q
    by_cases hc24_6 : x2 = (47 : Int32)
    · have hin8 : ¬ ((3 : Int32) < 0 ∨ cl_z1.slots.size ≤ ((3 : Int32)).toNatClampNeg) := inb_of S_z1 ⟨by decide, by decide⟩
      have k10 : ∀ t, OwnS p e below s₁ (mkF m 41 #[rv r0, iv 1, iv 3, .unset, .unset] [(.int 34), (.int x3)]) t → OwnS p e below s₁ (entryFrame m #[(.ref r0), (.int 1)] 5) t := fun t q => by
       refine k7 t ?_
       refine XS.icmpNo X0.here hx rfl (hb hby d18_24) rfl (teq hc24_6).2 ?_
       refine oIn X0 hx hby d18_27 rfl (oIc X0 hx hby d18_28 ?_)
       refine XS.iadd X0.here hx rfl (hb hby d18_29) rfl ?_
       refine XS.istoreN X0.here hx rfl (hb hby d18_30) rfl (l' := #[rv r0, iv 1, iv 3, .unset, .unset]) rfl ?_
       refine oIn X0 hx hby d18_31 rfl (oIc X0 hx hby d18_32 ?_)
       refine XS.icmpNo X0.here hx rfl (hb hby d18_33) rfl (tlt (by decide : (3 : Int32) < (5 : Int32))).2.1 ?_
       refine oAn X0 hx hby d18_36 rfl rfl (oIn X0 hx hby d18_37 rfl ?_)
       refine X0.caload hx (j := (3 : Int32)) (v := (.int x3)) (by rw [e0]; exact Ar_z1.1) (State.isArrayOf_alike hZ.alike Ar_z1.2.1) Ar_z1.2.2 hin8 (Has.at H_z1 hin8 rfl) (g := (mkF m 38 #[rv r0, iv 1, iv 3, .unset, .unset] [(.int 3), (.ref r0)])) rfl rfl (hb hby d18_38) _ ?_
       refine oBp X0 hx hby d18_39 ?_
       exact q
      by_cases hc41_9 : x3 = (34 : Int32)
      · have k11 : ∀ t, OwnS p e below s₁ (mkF m 46 #[rv r0, iv 1, iv 3, .unset, .unset] []) t → OwnS p e below s₁ (entryFrame m #[(.ref r0), (.int 1)] 5) t := fun t q => by
         refine k10 t ?_
         refine XS.icmpYes X0.here hx rfl (pc0 := 41) (pc' := 46) rfl (hb hby d18_41) rfl (teq hc41_9).1 (by decide) (by decide) ?_
         exact q
        obtain ⟨s12, o12, ja12, jb12, jc12, v12, L12, rfl, ⟨hv12, jN12, jh12⟩, jF12⟩ := sgRf_3 l Z a0 hw r0 (1 : Int32) kC x0 x1 x2 x3 x4 h0 n0 Z0 V_r0 X0 hx hZ hby hml hown Bd.returns Bd.notSynchronized e0 N0 
        exact ⟨s12, _, k11 _ ja12, jb12, jc12, v12, L12, rfl, ⟨hv12.trans (by simp [own_e1, own_sc1, own_sc2, own_sc3, own_sc4, own_sc5, own_q0, own_q1, own_q2, own_q3, own_q4, own_q5, hc14_3, hc24_6, hc41_9]), jN12, jh12⟩, jF12⟩
      · obtain ⟨fs, hr, hrun, hended, hW, hsame⟩ := X0.leave (v := some (.int (-1))) (fun h => by rw [Bd.returns] at h; cases h)
        refine ⟨_, _, k10 _ ?_, hrun, hended, _, _, rfl, ?_, ⟨_, rfl⟩, hW, hsame.mono (by decide) (by decide)⟩
        · refine XS.icmpNo X0.here hx rfl (hb hby d18_41) rfl (feq hc41_9).1 ?_
          refine oIc X0 hx hby d18_44 ?_
          exact retI X0 hx Bd.returns (hb hby d18_45) hr
        · show Q_Rf_1 Z _ _ _ _ _ _ _ h0 n0 _ s₁.heap _
          rw [e0]
          exact ⟨(by simp [own_e1, own_sc1, own_sc2, own_sc3, own_sc4, own_sc5, own_q0, own_q1, own_q2, own_q3, own_q4, own_q5, hc14_3, hc24_6, hc41_9]), N0, rfl⟩
    · have hin13 : ¬ ((1 : Int32) < 0 ∨ cl_z1.slots.size ≤ ((1 : Int32)).toNatClampNeg) := inb_of S_z1 ⟨by decide, by decide⟩
      obtain ⟨fs, hr, hrun, hended, hW, hsame⟩ := X0.leave (v := some (.int (-1))) (fun h => by rw [Bd.returns] at h; cases h)
      refine ⟨_, _, k7 _ ?_, hrun, hended, _, _, rfl, ?_, ⟨_, rfl⟩, hW, hsame.mono (by decide) (by decide)⟩
      · refine XS.icmpYes X0.here hx rfl (pc0 := 24) (pc' := 31) rfl (hb hby d18_24) rfl (feq hc24_6).2 (by decide) (by decide) ?_
        refine oIn X0 hx hby d18_31 rfl (oIc X0 hx hby d18_32 ?_)
        refine XS.icmpNo X0.here hx rfl (hb hby d18_33) rfl (tlt (by decide : (1 : Int32) < (5 : Int32))).2.1 ?_
        refine oAn X0 hx hby d18_36 rfl rfl (oIn X0 hx hby d18_37 rfl ?_)
        refine X0.caload hx (j := (1 : Int32)) (v := (.int x1)) (by rw [e0]; exact Ar_z1.1) (State.isArrayOf_alike hZ.alike Ar_z1.2.1) Ar_z1.2.2 hin13 (Has.at H_z1 hin13 rfl) (g := (mkF m 38 #[rv r0, iv 1, iv 1, .unset, .unset] [(.int 1), (.ref r0)])) rfl rfl (hb hby d18_38) _ ?_
        refine oBp X0 hx hby d18_39 ?_
        refine XS.icmpNo X0.here hx rfl (hb hby d18_41) rfl (feq (by rw [hc14_3]; decide)).1 ?_
        refine oIc X0 hx hby d18_44 ?_
        exact retI X0 hx Bd.returns (hb hby d18_45) hr
      · show Q_Rf_1 Z _ _ _ _ _ _ _ h0 n0 _ s₁.heap _
        rw [e0]
        exact ⟨(by simp [own_e1, own_sc1, own_sc2, own_sc3, own_sc4, own_sc5, own_q0, own_q1, own_q2, own_q3, own_q4, own_q5, hc14_3, hc24_6]), N0, rfl⟩
  · have hin14 : ¬ ((1 : Int32) < 0 ∨ cl_z1.slots.size ≤ ((1 : Int32)).toNatClampNeg) := inb_of S_z1 ⟨by decide, by decide⟩
    have k16 : ∀ t, OwnS p e below s₁ (mkF m 41 #[rv r0, iv 1, iv 1, .unset, .unset] [(.int 34), (.int x1)]) t → OwnS p e below s₁ (entryFrame m #[(.ref r0), (.int 1)] 5) t := fun t q => by
     refine k4 t ?_
     refine XS.icmpYes X0.here hx rfl (pc0 := 14) (pc' := 31) rfl (hb hby d18_14) rfl (feq hc14_3).2 (by decide) (by decide) ?_
     refine oIn X0 hx hby d18_31 rfl (oIc X0 hx hby d18_32 ?_)
     refine XS.icmpNo X0.here hx rfl (hb hby d18_33) rfl (tlt (by decide : (1 : Int32) < (5 : Int32))).2.1 ?_
     refine oAn X0 hx hby d18_36 rfl rfl (oIn X0 hx hby d18_37 rfl ?_)
     refine X0.caload hx (j := (1 : Int32)) (v := (.int x1)) (by rw [e0]; exact Ar_z1.1) (State.isArrayOf_alike hZ.alike Ar_z1.2.1) Ar_z1.2.2 hin14 (Has.at H_z1 hin14 rfl) (g := (mkF m 38 #[rv r0, iv 1, iv 1, .unset, .unset] [(.int 1), (.ref r0)])) rfl rfl (hb hby d18_38) _ ?_
     refine oBp X0 hx hby d18_39 ?_
     exact q
    by_cases hc41_15 : x1 = (34 : Int32)
    · have k17 : ∀ t, OwnS p e below s₁ (mkF m 46 #[rv r0, iv 1, iv 1, .unset, .unset] []) t → OwnS p e below s₁ (entryFrame m #[(.ref r0), (.int 1)] 5) t := fun t q => by
       refine k16 t ?_
       refine XS.icmpYes X0.here hx rfl (pc0 := 41) (pc' := 46) rfl (hb hby d18_41) rfl (teq hc41_15).1 (by decide) (by decide) ?_
       exact q
      obtain ⟨s18, o18, ja18, jb18, jc18, v18, L18, rfl, ⟨hv18, jN18, jh18⟩, jF18⟩ := sgRf_1 l Z a0 hw r0 (1 : Int32) kC x0 x1 x2 x3 x4 h0 n0 Z0 V_r0 X0 hx hZ hby hml hown Bd.returns Bd.notSynchronized e0 N0 
      exact ⟨s18, _, k17 _ ja18, jb18, jc18, v18, L18, rfl, ⟨hv18.trans (by simp [own_e1, own_sc1, own_sc2, own_sc3, own_sc4, own_sc5, own_q0, own_q1, own_q2, own_q3, own_q4, own_q5, hc14_3, hc41_15]), jN18, jh18⟩, jF18⟩
    · obtain ⟨fs, hr, hrun, hended, hW, hsame⟩ := X0.leave (v := some (.int (-1))) (fun h => by rw [Bd.returns] at h; cases h)
      refine ⟨_, _, k16 _ ?_, hrun, hended, _, _, rfl, ?_, ⟨_, rfl⟩, hW, hsame.mono (by decide) (by decide)⟩
      · refine XS.icmpNo X0.here hx rfl (hb hby d18_41) rfl (feq hc41_15).1 ?_
        refine oIc X0 hx hby d18_44 ?_
        exact retI X0 hx Bd.returns (hb hby d18_45) hr
      · show Q_Rf_1 Z _ _ _ _ _ _ _ h0 n0 _ s₁.heap _
        rw [e0]
        exact ⟨(by simp [own_e1, own_sc1, own_sc2, own_sc3, own_sc4, own_sc5, own_q0, own_q1, own_q2, own_q3, own_q4, own_q5, hc14_3, hc41_15]), N0, rfl⟩
def Q_Rf_2 (Z : State) (r0 : Addr) (kC : ClassId) (x0 : Int32) (x1 : Int32) (x2 : Int32) (x3 : Int32) (x4 : Int32) (h0 : Heap) (n0 : Nat) (v : Option Value) (h : Heap) (L : List Loc) : Prop := v = some (.int (own_e2 x0 x1 x2 x3 x4)) ∧ Fr n0 L ∧ h = h0
set_option maxRecDepth 65536 in
set_option maxHeartbeats 40000000 in
theorem rmRf_2 (l : Launch) (Z : State) (a0 : Array Value) (hw : ∀ d ∈ tables_1, d.before a0 Z = true) (ws : List Jvm.Cond) (r0 : Addr) (kC : ClassId) (x0 : Int32) (x1 : Int32) (x2 : Int32) (x3 : Int32) (x4 : Int32) (h0 : Heap) (n0 : Nat) (Z0 : n0 ≤ h0.size) (V_r0 : Arv Z h0 r0 kC .char (5 : Int32) [(.int x0), (.int x1), (.int x2), (.int x3), (.int x4)] (.int 0)) :
    MetFree l (⟨cS2, "ref", "([CI)I"⟩ : MethodName) (head1 (Jvm.Cond.code (⟨cS2, "ref", "([CI)I"⟩ : MethodName) method_6_code 5 (some .int) :: ws) ({ frames := 2, cells := 0, slots := 0, locals := 40 } : Room)) (fun a U => a = #[(.ref r0), (.int 2)] ∧ Z.Warmed39 U.vm ∧ U.heap = h0) (fun _ _ _ _ _ => True) (fun _ U o U' => ∃ v L, o = .returned v ∧ Q_Rf_2 Z r0 kC x0 x1 x2 x3 x4 h0 n0 v U'.heap L ∧ FrameEnd U o U' L 0 0) := by
  refine MetFree.of_bodySF (plainFor_of_name pn_com_example_strict_lock_strictlock_EntityTagsEndPinLaw) hisR ?_
  intro p e s m args below meth c s₁ Bd hml0 hP hK
  obtain ⟨rfl, hZ, hh⟩ := hP
  have hx := Bd.exec
  have hby := Bd.bytes
  have hml : c.maxLocals = 5 := hml0
  have hown : s.vm.findClass cS2 = some m.cls := findClass_of_methodNamed Bd.named
  have hnm := (name_of_methodNamed Bd.named Bd.method).1
  have X0 : Stand p l e ({ frames := 2, cells := 0, slots := 0, locals := 40 } : Room) s m #[(.ref r0), (.int 2)] below meth c s₁ [] 0 0 := Stand.of_body Bd
  have e0 : s₁.heap = h0 := by rw [← hh, Bd.state]; rfl
  have N0 := Fr.nil n0
  have k0 : ∀ t, OwnS p e below s₁ (mkF m 0 #[rv r0, iv 2, .unset, .unset, .unset] []) t → OwnS p e below s₁ (entryFrame m #[(.ref r0), (.int 2)] 5) t := fun t k => castTop (ef_18 m r0 (2 : Int32)) k
  obtain ⟨cl_z1, Ar_z1, q_z1, S_z1, N_z1, H_z1, G_z1⟩ := id V_r0
  have hin2 : ¬ ((2 : Int32) < 0 ∨ cl_z1.slots.size ≤ ((2 : Int32)).toNatClampNeg) := inb_of S_z1 ⟨by decide, by decide⟩
  have k4 : ∀ t, OwnS p e below s₁ (mkF m 14 #[rv r0, iv 2, iv 2, .unset, .unset] [(.int 87), (.int x2)]) t → OwnS p e below s₁ (entryFrame m #[(.ref r0), (.int 2)] 5) t := fun t q => by
   refine k0 t ?_
   show OwnS p e below s₁ (mkF m 0 #[rv r0, iv 2, .unset, .unset, .unset] []) _
   refine oIn X0 hx hby d18_0 rfl ?_
   refine XS.istoreN X0.here hx rfl (hb hby d18_1) rfl (l' := #[rv r0, iv 2, iv 2, .unset, .unset]) rfl ?_
   refine oIn X0 hx hby d18_2 rfl (oIc X0 hx hby d18_3 ?_)
   refine XS.iadd X0.here hx rfl (hb hby d18_4) rfl ?_
   refine oIc X0 hx hby d18_5 ?_
   refine XS.icmpNo X0.here hx rfl (hb hby d18_6) rfl (flt (by decide : ¬ ((5 : Int32) < (4 : Int32)))).2.2.1 ?_
   refine oAn X0 hx hby d18_9 rfl rfl (oIn X0 hx hby d18_10 rfl ?_)
   refine X0.caload hx (j := (2 : Int32)) (v := (.int x2)) (by rw [e0]; exact Ar_z1.1) (State.isArrayOf_alike hZ.alike Ar_z1.2.1) Ar_z1.2.2 hin2 (Has.at H_z1 hin2 rfl) (g := (mkF m 11 #[rv r0, iv 2, iv 2, .unset, .unset] [(.int 2), (.ref r0)])) rfl rfl (hb hby d18_11) _ ?_
   refine oBp X0 hx hby d18_12 ?_
   exact q
  by_cases hc14_3 : x2 = (87 : Int32)
  · have hin5 : ¬ ((3 : Int32) < 0 ∨ cl_z1.slots.size ≤ ((3 : Int32)).toNatClampNeg) := inb_of S_z1 ⟨by decide, by decide⟩
    have k7 : ∀ t, OwnS p e below s₁ (mkF m 24 #[rv r0, iv 2, iv 2, .unset, .unset] [(.int 47), (.int x3)]) t → OwnS p e below s₁ (entryFrame m #[(.ref r0), (.int 2)] 5) t := fun t q => by
     refine k4 t ?_
     refine XS.icmpNo X0.here hx rfl (hb hby d18_14) rfl (teq hc14_3).2 ?_
     refine oAn X0 hx hby d18_17 rfl rfl (oIn X0 hx hby d18_18 rfl (oIc X0 hx hby d18_19 ?_))
     refine XS.iadd X0.here hx rfl (hb hby d18_20) rfl ?_
     refine X0.caload hx (j := (3 : Int32)) (v := (.int x3)) (by rw [e0]; exact Ar_z1.1) (State.isArrayOf_alike hZ.alike Ar_z1.2.1) Ar_z1.2.2 hin5 (Has.at H_z1 hin5 rfl) (g := (mkF m 21 #[rv r0, iv 2, iv 2, .unset, .unset] [(.int 3), (.ref r0)])) rfl rfl (hb hby d18_21) _ ?_
     refine oBp X0 hx hby d18_22 ?_
     exact q
    by_cases hc24_6 : x3 = (47 : Int32)
    · have hin8 : ¬ ((4 : Int32) < 0 ∨ cl_z1.slots.size ≤ ((4 : Int32)).toNatClampNeg) := inb_of S_z1 ⟨by decide, by decide⟩
      have k10 : ∀ t, OwnS p e below s₁ (mkF m 41 #[rv r0, iv 2, iv 4, .unset, .unset] [(.int 34), (.int x4)]) t → OwnS p e below s₁ (entryFrame m #[(.ref r0), (.int 2)] 5) t := fun t q => by
       refine k7 t ?_
       refine XS.icmpNo X0.here hx rfl (hb hby d18_24) rfl (teq hc24_6).2 ?_
       refine oIn X0 hx hby d18_27 rfl (oIc X0 hx hby d18_28 ?_)
       refine XS.iadd X0.here hx rfl (hb hby d18_29) rfl ?_
       refine XS.istoreN X0.here hx rfl (hb hby d18_30) rfl (l' := #[rv r0, iv 2, iv 4, .unset, .unset]) rfl ?_
       refine oIn X0 hx hby d18_31 rfl (oIc X0 hx hby d18_32 ?_)
       refine XS.icmpNo X0.here hx rfl (hb hby d18_33) rfl (tlt (by decide : (4 : Int32) < (5 : Int32))).2.1 ?_
       refine oAn X0 hx hby d18_36 rfl rfl (oIn X0 hx hby d18_37 rfl ?_)
       refine X0.caload hx (j := (4 : Int32)) (v := (.int x4)) (by rw [e0]; exact Ar_z1.1) (State.isArrayOf_alike hZ.alike Ar_z1.2.1) Ar_z1.2.2 hin8 (Has.at H_z1 hin8 rfl) (g := (mkF m 38 #[rv r0, iv 2, iv 4, .unset, .unset] [(.int 4), (.ref r0)])) rfl rfl (hb hby d18_38) _ ?_
       refine oBp X0 hx hby d18_39 ?_
       exact q
      by_cases hc41_9 : x4 = (34 : Int32)
      · have k11 : ∀ t, OwnS p e below s₁ (mkF m 46 #[rv r0, iv 2, iv 4, .unset, .unset] []) t → OwnS p e below s₁ (entryFrame m #[(.ref r0), (.int 2)] 5) t := fun t q => by
         refine k10 t ?_
         refine XS.icmpYes X0.here hx rfl (pc0 := 41) (pc' := 46) rfl (hb hby d18_41) rfl (teq hc41_9).1 (by decide) (by decide) ?_
         exact q
        obtain ⟨s12, o12, ja12, jb12, jc12, v12, L12, rfl, ⟨hv12, jN12, jh12⟩, jF12⟩ := sgRf_4 l Z a0 hw r0 (2 : Int32) kC x0 x1 x2 x3 x4 h0 n0 Z0 V_r0 X0 hx hZ hby hml hown Bd.returns Bd.notSynchronized e0 N0 
        exact ⟨s12, _, k11 _ ja12, jb12, jc12, v12, L12, rfl, ⟨hv12.trans (by simp [own_e2, own_sc1, own_sc2, own_sc3, own_sc4, own_sc5, own_q0, own_q1, own_q2, own_q3, own_q4, own_q5, hc14_3, hc24_6, hc41_9]), jN12, jh12⟩, jF12⟩
      · obtain ⟨fs, hr, hrun, hended, hW, hsame⟩ := X0.leave (v := some (.int (-1))) (fun h => by rw [Bd.returns] at h; cases h)
        refine ⟨_, _, k10 _ ?_, hrun, hended, _, _, rfl, ?_, ⟨_, rfl⟩, hW, hsame.mono (by decide) (by decide)⟩
        · refine XS.icmpNo X0.here hx rfl (hb hby d18_41) rfl (feq hc41_9).1 ?_
          refine oIc X0 hx hby d18_44 ?_
          exact retI X0 hx Bd.returns (hb hby d18_45) hr
        · show Q_Rf_2 Z _ _ _ _ _ _ _ h0 n0 _ s₁.heap _
          rw [e0]
          exact ⟨(by simp [own_e2, own_sc1, own_sc2, own_sc3, own_sc4, own_sc5, own_q0, own_q1, own_q2, own_q3, own_q4, own_q5, hc14_3, hc24_6, hc41_9]), N0, rfl⟩
    · have hin13 : ¬ ((2 : Int32) < 0 ∨ cl_z1.slots.size ≤ ((2 : Int32)).toNatClampNeg) := inb_of S_z1 ⟨by decide, by decide⟩
      obtain ⟨fs, hr, hrun, hended, hW, hsame⟩ := X0.leave (v := some (.int (-1))) (fun h => by rw [Bd.returns] at h; cases h)
      refine ⟨_, _, k7 _ ?_, hrun, hended, _, _, rfl, ?_, ⟨_, rfl⟩, hW, hsame.mono (by decide) (by decide)⟩
      · refine XS.icmpYes X0.here hx rfl (pc0 := 24) (pc' := 31) rfl (hb hby d18_24) rfl (feq hc24_6).2 (by decide) (by decide) ?_
        refine oIn X0 hx hby d18_31 rfl (oIc X0 hx hby d18_32 ?_)
        refine XS.icmpNo X0.here hx rfl (hb hby d18_33) rfl (tlt (by decide : (2 : Int32) < (5 : Int32))).2.1 ?_
        refine oAn X0 hx hby d18_36 rfl rfl (oIn X0 hx hby d18_37 rfl ?_)
        refine X0.caload hx (j := (2 : Int32)) (v := (.int x2)) (by rw [e0]; exact Ar_z1.1) (State.isArrayOf_alike hZ.alike Ar_z1.2.1) Ar_z1.2.2 hin13 (Has.at H_z1 hin13 rfl) (g := (mkF m 38 #[rv r0, iv 2, iv 2, .unset, .unset] [(.int 2), (.ref r0)])) rfl rfl (hb hby d18_38) _ ?_
        refine oBp X0 hx hby d18_39 ?_
        refine XS.icmpNo X0.here hx rfl (hb hby d18_41) rfl (feq (by rw [hc14_3]; decide)).1 ?_
        refine oIc X0 hx hby d18_44 ?_
        exact retI X0 hx Bd.returns (hb hby d18_45) hr
      · show Q_Rf_2 Z _ _ _ _ _ _ _ h0 n0 _ s₁.heap _
        rw [e0]
        exact ⟨(by simp [own_e2, own_sc1, own_sc2, own_sc3, own_sc4, own_sc5, own_q0, own_q1, own_q2, own_q3, own_q4, own_q5, hc14_3, hc24_6]), N0, rfl⟩
  · have hin14 : ¬ ((2 : Int32) < 0 ∨ cl_z1.slots.size ≤ ((2 : Int32)).toNatClampNeg) := inb_of S_z1 ⟨by decide, by decide⟩
    have k16 : ∀ t, OwnS p e below s₁ (mkF m 41 #[rv r0, iv 2, iv 2, .unset, .unset] [(.int 34), (.int x2)]) t → OwnS p e below s₁ (entryFrame m #[(.ref r0), (.int 2)] 5) t := fun t q => by
     refine k4 t ?_
     refine XS.icmpYes X0.here hx rfl (pc0 := 14) (pc' := 31) rfl (hb hby d18_14) rfl (feq hc14_3).2 (by decide) (by decide) ?_
     refine oIn X0 hx hby d18_31 rfl (oIc X0 hx hby d18_32 ?_)
     refine XS.icmpNo X0.here hx rfl (hb hby d18_33) rfl (tlt (by decide : (2 : Int32) < (5 : Int32))).2.1 ?_
     refine oAn X0 hx hby d18_36 rfl rfl (oIn X0 hx hby d18_37 rfl ?_)
     refine X0.caload hx (j := (2 : Int32)) (v := (.int x2)) (by rw [e0]; exact Ar_z1.1) (State.isArrayOf_alike hZ.alike Ar_z1.2.1) Ar_z1.2.2 hin14 (Has.at H_z1 hin14 rfl) (g := (mkF m 38 #[rv r0, iv 2, iv 2, .unset, .unset] [(.int 2), (.ref r0)])) rfl rfl (hb hby d18_38) _ ?_
     refine oBp X0 hx hby d18_39 ?_
     exact q
    by_cases hc41_15 : x2 = (34 : Int32)
    · have k17 : ∀ t, OwnS p e below s₁ (mkF m 46 #[rv r0, iv 2, iv 2, .unset, .unset] []) t → OwnS p e below s₁ (entryFrame m #[(.ref r0), (.int 2)] 5) t := fun t q => by
       refine k16 t ?_
       refine XS.icmpYes X0.here hx rfl (pc0 := 41) (pc' := 46) rfl (hb hby d18_41) rfl (teq hc41_15).1 (by decide) (by decide) ?_
       exact q
      obtain ⟨s18, o18, ja18, jb18, jc18, v18, L18, rfl, ⟨hv18, jN18, jh18⟩, jF18⟩ := sgRf_2 l Z a0 hw r0 (2 : Int32) kC x0 x1 x2 x3 x4 h0 n0 Z0 V_r0 X0 hx hZ hby hml hown Bd.returns Bd.notSynchronized e0 N0 
      exact ⟨s18, _, k17 _ ja18, jb18, jc18, v18, L18, rfl, ⟨hv18.trans (by simp [own_e2, own_sc1, own_sc2, own_sc3, own_sc4, own_sc5, own_q0, own_q1, own_q2, own_q3, own_q4, own_q5, hc14_3, hc41_15]), jN18, jh18⟩, jF18⟩
    · obtain ⟨fs, hr, hrun, hended, hW, hsame⟩ := X0.leave (v := some (.int (-1))) (fun h => by rw [Bd.returns] at h; cases h)
      refine ⟨_, _, k16 _ ?_, hrun, hended, _, _, rfl, ?_, ⟨_, rfl⟩, hW, hsame.mono (by decide) (by decide)⟩
      · refine XS.icmpNo X0.here hx rfl (hb hby d18_41) rfl (feq hc41_15).1 ?_
        refine oIc X0 hx hby d18_44 ?_
        exact retI X0 hx Bd.returns (hb hby d18_45) hr
      · show Q_Rf_2 Z _ _ _ _ _ _ _ h0 n0 _ s₁.heap _
        rw [e0]
        exact ⟨(by simp [own_e2, own_sc1, own_sc2, own_sc3, own_sc4, own_sc5, own_q0, own_q1, own_q2, own_q3, own_q4, own_q5, hc14_3, hc41_15]), N0, rfl⟩
def Q_Rf_3 (Z : State) (r0 : Addr) (kC : ClassId) (x0 : Int32) (x1 : Int32) (x2 : Int32) (x3 : Int32) (x4 : Int32) (h0 : Heap) (n0 : Nat) (v : Option Value) (h : Heap) (L : List Loc) : Prop := v = some (.int (own_e3 x0 x1 x2 x3 x4)) ∧ Fr n0 L ∧ h = h0
set_option maxRecDepth 65536 in
set_option maxHeartbeats 40000000 in
theorem rmRf_3 (l : Launch) (Z : State) (a0 : Array Value) (hw : ∀ d ∈ tables_1, d.before a0 Z = true) (ws : List Jvm.Cond) (r0 : Addr) (kC : ClassId) (x0 : Int32) (x1 : Int32) (x2 : Int32) (x3 : Int32) (x4 : Int32) (h0 : Heap) (n0 : Nat) (Z0 : n0 ≤ h0.size) (V_r0 : Arv Z h0 r0 kC .char (5 : Int32) [(.int x0), (.int x1), (.int x2), (.int x3), (.int x4)] (.int 0)) :
    MetFree l (⟨cS2, "ref", "([CI)I"⟩ : MethodName) (head1 (Jvm.Cond.code (⟨cS2, "ref", "([CI)I"⟩ : MethodName) method_6_code 5 (some .int) :: ws) ({ frames := 2, cells := 0, slots := 0, locals := 40 } : Room)) (fun a U => a = #[(.ref r0), (.int 3)] ∧ Z.Warmed39 U.vm ∧ U.heap = h0) (fun _ _ _ _ _ => True) (fun _ U o U' => ∃ v L, o = .returned v ∧ Q_Rf_3 Z r0 kC x0 x1 x2 x3 x4 h0 n0 v U'.heap L ∧ FrameEnd U o U' L 0 0) := by
  refine MetFree.of_bodySF (plainFor_of_name pn_com_example_strict_lock_strictlock_EntityTagsEndPinLaw) hisR ?_
  intro p e s m args below meth c s₁ Bd hml0 hP hK
  obtain ⟨rfl, hZ, hh⟩ := hP
  have hx := Bd.exec
  have hby := Bd.bytes
  have hml : c.maxLocals = 5 := hml0
  have hown : s.vm.findClass cS2 = some m.cls := findClass_of_methodNamed Bd.named
  have hnm := (name_of_methodNamed Bd.named Bd.method).1
  have X0 : Stand p l e ({ frames := 2, cells := 0, slots := 0, locals := 40 } : Room) s m #[(.ref r0), (.int 3)] below meth c s₁ [] 0 0 := Stand.of_body Bd
  have e0 : s₁.heap = h0 := by rw [← hh, Bd.state]; rfl
  have N0 := Fr.nil n0
  have k0 : ∀ t, OwnS p e below s₁ (mkF m 0 #[rv r0, iv 3, .unset, .unset, .unset] []) t → OwnS p e below s₁ (entryFrame m #[(.ref r0), (.int 3)] 5) t := fun t k => castTop (ef_18 m r0 (3 : Int32)) k
  obtain ⟨cl_z1, Ar_z1, q_z1, S_z1, N_z1, H_z1, G_z1⟩ := id V_r0
  have hin2 : ¬ ((3 : Int32) < 0 ∨ cl_z1.slots.size ≤ ((3 : Int32)).toNatClampNeg) := inb_of S_z1 ⟨by decide, by decide⟩
  have k4 : ∀ t, OwnS p e below s₁ (mkF m 14 #[rv r0, iv 3, iv 3, .unset, .unset] [(.int 87), (.int x3)]) t → OwnS p e below s₁ (entryFrame m #[(.ref r0), (.int 3)] 5) t := fun t q => by
   refine k0 t ?_
   show OwnS p e below s₁ (mkF m 0 #[rv r0, iv 3, .unset, .unset, .unset] []) _
   refine oIn X0 hx hby d18_0 rfl ?_
   refine XS.istoreN X0.here hx rfl (hb hby d18_1) rfl (l' := #[rv r0, iv 3, iv 3, .unset, .unset]) rfl ?_
   refine oIn X0 hx hby d18_2 rfl (oIc X0 hx hby d18_3 ?_)
   refine XS.iadd X0.here hx rfl (hb hby d18_4) rfl ?_
   refine oIc X0 hx hby d18_5 ?_
   refine XS.icmpNo X0.here hx rfl (hb hby d18_6) rfl (flt (by decide : ¬ ((5 : Int32) < (5 : Int32)))).2.2.1 ?_
   refine oAn X0 hx hby d18_9 rfl rfl (oIn X0 hx hby d18_10 rfl ?_)
   refine X0.caload hx (j := (3 : Int32)) (v := (.int x3)) (by rw [e0]; exact Ar_z1.1) (State.isArrayOf_alike hZ.alike Ar_z1.2.1) Ar_z1.2.2 hin2 (Has.at H_z1 hin2 rfl) (g := (mkF m 11 #[rv r0, iv 3, iv 3, .unset, .unset] [(.int 3), (.ref r0)])) rfl rfl (hb hby d18_11) _ ?_
   refine oBp X0 hx hby d18_12 ?_
   exact q
  by_cases hc14_3 : x3 = (87 : Int32)
  · have hin5 : ¬ ((4 : Int32) < 0 ∨ cl_z1.slots.size ≤ ((4 : Int32)).toNatClampNeg) := inb_of S_z1 ⟨by decide, by decide⟩
    have k7 : ∀ t, OwnS p e below s₁ (mkF m 24 #[rv r0, iv 3, iv 3, .unset, .unset] [(.int 47), (.int x4)]) t → OwnS p e below s₁ (entryFrame m #[(.ref r0), (.int 3)] 5) t := fun t q => by
     refine k4 t ?_
     refine XS.icmpNo X0.here hx rfl (hb hby d18_14) rfl (teq hc14_3).2 ?_
     refine oAn X0 hx hby d18_17 rfl rfl (oIn X0 hx hby d18_18 rfl (oIc X0 hx hby d18_19 ?_))
     refine XS.iadd X0.here hx rfl (hb hby d18_20) rfl ?_
     refine X0.caload hx (j := (4 : Int32)) (v := (.int x4)) (by rw [e0]; exact Ar_z1.1) (State.isArrayOf_alike hZ.alike Ar_z1.2.1) Ar_z1.2.2 hin5 (Has.at H_z1 hin5 rfl) (g := (mkF m 21 #[rv r0, iv 3, iv 3, .unset, .unset] [(.int 4), (.ref r0)])) rfl rfl (hb hby d18_21) _ ?_
     refine oBp X0 hx hby d18_22 ?_
     exact q
    by_cases hc24_6 : x4 = (47 : Int32)
    · obtain ⟨fs, hr, hrun, hended, hW, hsame⟩ := X0.leave (v := some (.int (-1))) (fun h => by rw [Bd.returns] at h; cases h)
      refine ⟨_, _, k7 _ ?_, hrun, hended, _, _, rfl, ?_, ⟨_, rfl⟩, hW, hsame.mono (by decide) (by decide)⟩
      · refine XS.icmpNo X0.here hx rfl (hb hby d18_24) rfl (teq hc24_6).2 ?_
        refine oIn X0 hx hby d18_27 rfl (oIc X0 hx hby d18_28 ?_)
        refine XS.iadd X0.here hx rfl (hb hby d18_29) rfl ?_
        refine XS.istoreN X0.here hx rfl (hb hby d18_30) rfl (l' := #[rv r0, iv 3, iv 5, .unset, .unset]) rfl ?_
        refine oIn X0 hx hby d18_31 rfl (oIc X0 hx hby d18_32 ?_)
        refine XS.icmpYes X0.here hx rfl (pc0 := 33) (pc' := 44) rfl (hb hby d18_33) rfl (flt (by decide : ¬ ((5 : Int32) < (5 : Int32)))).2.1 (by decide) (by decide) ?_
        refine oIc X0 hx hby d18_44 ?_
        exact retI X0 hx Bd.returns (hb hby d18_45) hr
      · show Q_Rf_3 Z _ _ _ _ _ _ _ h0 n0 _ s₁.heap _
        rw [e0]
        exact ⟨(by simp [own_e3, own_sc1, own_sc2, own_sc3, own_sc4, own_sc5, own_q0, own_q1, own_q2, own_q3, own_q4, own_q5, hc14_3, hc24_6]), N0, rfl⟩
    · have hin8 : ¬ ((3 : Int32) < 0 ∨ cl_z1.slots.size ≤ ((3 : Int32)).toNatClampNeg) := inb_of S_z1 ⟨by decide, by decide⟩
      obtain ⟨fs, hr, hrun, hended, hW, hsame⟩ := X0.leave (v := some (.int (-1))) (fun h => by rw [Bd.returns] at h; cases h)
      refine ⟨_, _, k7 _ ?_, hrun, hended, _, _, rfl, ?_, ⟨_, rfl⟩, hW, hsame.mono (by decide) (by decide)⟩
      · refine XS.icmpYes X0.here hx rfl (pc0 := 24) (pc' := 31) rfl (hb hby d18_24) rfl (feq hc24_6).2 (by decide) (by decide) ?_
        refine oIn X0 hx hby d18_31 rfl (oIc X0 hx hby d18_32 ?_)
        refine XS.icmpNo X0.here hx rfl (hb hby d18_33) rfl (tlt (by decide : (3 : Int32) < (5 : Int32))).2.1 ?_
        refine oAn X0 hx hby d18_36 rfl rfl (oIn X0 hx hby d18_37 rfl ?_)
        refine X0.caload hx (j := (3 : Int32)) (v := (.int x3)) (by rw [e0]; exact Ar_z1.1) (State.isArrayOf_alike hZ.alike Ar_z1.2.1) Ar_z1.2.2 hin8 (Has.at H_z1 hin8 rfl) (g := (mkF m 38 #[rv r0, iv 3, iv 3, .unset, .unset] [(.int 3), (.ref r0)])) rfl rfl (hb hby d18_38) _ ?_
        refine oBp X0 hx hby d18_39 ?_
        refine XS.icmpNo X0.here hx rfl (hb hby d18_41) rfl (feq (by rw [hc14_3]; decide)).1 ?_
        refine oIc X0 hx hby d18_44 ?_
        exact retI X0 hx Bd.returns (hb hby d18_45) hr
      · show Q_Rf_3 Z _ _ _ _ _ _ _ h0 n0 _ s₁.heap _
        rw [e0]
        exact ⟨(by simp [own_e3, own_sc1, own_sc2, own_sc3, own_sc4, own_sc5, own_q0, own_q1, own_q2, own_q3, own_q4, own_q5, hc14_3, hc24_6]), N0, rfl⟩
  · have hin9 : ¬ ((3 : Int32) < 0 ∨ cl_z1.slots.size ≤ ((3 : Int32)).toNatClampNeg) := inb_of S_z1 ⟨by decide, by decide⟩
    have k11 : ∀ t, OwnS p e below s₁ (mkF m 41 #[rv r0, iv 3, iv 3, .unset, .unset] [(.int 34), (.int x3)]) t → OwnS p e below s₁ (entryFrame m #[(.ref r0), (.int 3)] 5) t := fun t q => by
     refine k4 t ?_
     refine XS.icmpYes X0.here hx rfl (pc0 := 14) (pc' := 31) rfl (hb hby d18_14) rfl (feq hc14_3).2 (by decide) (by decide) ?_
     refine oIn X0 hx hby d18_31 rfl (oIc X0 hx hby d18_32 ?_)
     refine XS.icmpNo X0.here hx rfl (hb hby d18_33) rfl (tlt (by decide : (3 : Int32) < (5 : Int32))).2.1 ?_
     refine oAn X0 hx hby d18_36 rfl rfl (oIn X0 hx hby d18_37 rfl ?_)
     refine X0.caload hx (j := (3 : Int32)) (v := (.int x3)) (by rw [e0]; exact Ar_z1.1) (State.isArrayOf_alike hZ.alike Ar_z1.2.1) Ar_z1.2.2 hin9 (Has.at H_z1 hin9 rfl) (g := (mkF m 38 #[rv r0, iv 3, iv 3, .unset, .unset] [(.int 3), (.ref r0)])) rfl rfl (hb hby d18_38) _ ?_
     refine oBp X0 hx hby d18_39 ?_
     exact q
    by_cases hc41_10 : x3 = (34 : Int32)
    · have k12 : ∀ t, OwnS p e below s₁ (mkF m 46 #[rv r0, iv 3, iv 3, .unset, .unset] []) t → OwnS p e below s₁ (entryFrame m #[(.ref r0), (.int 3)] 5) t := fun t q => by
       refine k11 t ?_
       refine XS.icmpYes X0.here hx rfl (pc0 := 41) (pc' := 46) rfl (hb hby d18_41) rfl (teq hc41_10).1 (by decide) (by decide) ?_
       exact q
      obtain ⟨s13, o13, ja13, jb13, jc13, v13, L13, rfl, ⟨hv13, jN13, jh13⟩, jF13⟩ := sgRf_3 l Z a0 hw r0 (3 : Int32) kC x0 x1 x2 x3 x4 h0 n0 Z0 V_r0 X0 hx hZ hby hml hown Bd.returns Bd.notSynchronized e0 N0 
      exact ⟨s13, _, k12 _ ja13, jb13, jc13, v13, L13, rfl, ⟨hv13.trans (by simp [own_e3, own_sc1, own_sc2, own_sc3, own_sc4, own_sc5, own_q0, own_q1, own_q2, own_q3, own_q4, own_q5, hc14_3, hc41_10]), jN13, jh13⟩, jF13⟩
    · obtain ⟨fs, hr, hrun, hended, hW, hsame⟩ := X0.leave (v := some (.int (-1))) (fun h => by rw [Bd.returns] at h; cases h)
      refine ⟨_, _, k11 _ ?_, hrun, hended, _, _, rfl, ?_, ⟨_, rfl⟩, hW, hsame.mono (by decide) (by decide)⟩
      · refine XS.icmpNo X0.here hx rfl (hb hby d18_41) rfl (feq hc41_10).1 ?_
        refine oIc X0 hx hby d18_44 ?_
        exact retI X0 hx Bd.returns (hb hby d18_45) hr
      · show Q_Rf_3 Z _ _ _ _ _ _ _ h0 n0 _ s₁.heap _
        rw [e0]
        exact ⟨(by simp [own_e3, own_sc1, own_sc2, own_sc3, own_sc4, own_sc5, own_q0, own_q1, own_q2, own_q3, own_q4, own_q5, hc14_3, hc41_10]), N0, rfl⟩
def Q_Rf_4 (Z : State) (r0 : Addr) (kC : ClassId) (x0 : Int32) (x1 : Int32) (x2 : Int32) (x3 : Int32) (x4 : Int32) (h0 : Heap) (n0 : Nat) (v : Option Value) (h : Heap) (L : List Loc) : Prop := v = some (.int (own_e4 x0 x1 x2 x3 x4)) ∧ Fr n0 L ∧ h = h0
set_option maxRecDepth 65536 in
set_option maxHeartbeats 40000000 in
theorem rmRf_4 (l : Launch) (Z : State) (a0 : Array Value) (hw : ∀ d ∈ tables_1, d.before a0 Z = true) (ws : List Jvm.Cond) (r0 : Addr) (kC : ClassId) (x0 : Int32) (x1 : Int32) (x2 : Int32) (x3 : Int32) (x4 : Int32) (h0 : Heap) (n0 : Nat) (Z0 : n0 ≤ h0.size) (V_r0 : Arv Z h0 r0 kC .char (5 : Int32) [(.int x0), (.int x1), (.int x2), (.int x3), (.int x4)] (.int 0)) :
    MetFree l (⟨cS2, "ref", "([CI)I"⟩ : MethodName) (head1 (Jvm.Cond.code (⟨cS2, "ref", "([CI)I"⟩ : MethodName) method_6_code 5 (some .int) :: ws) ({ frames := 2, cells := 0, slots := 0, locals := 40 } : Room)) (fun a U => a = #[(.ref r0), (.int 4)] ∧ Z.Warmed39 U.vm ∧ U.heap = h0) (fun _ _ _ _ _ => True) (fun _ U o U' => ∃ v L, o = .returned v ∧ Q_Rf_4 Z r0 kC x0 x1 x2 x3 x4 h0 n0 v U'.heap L ∧ FrameEnd U o U' L 0 0) := by
  refine MetFree.of_bodySF (plainFor_of_name pn_com_example_strict_lock_strictlock_EntityTagsEndPinLaw) hisR ?_
  intro p e s m args below meth c s₁ Bd hml0 hP hK
  obtain ⟨rfl, hZ, hh⟩ := hP
  have hx := Bd.exec
  have hby := Bd.bytes
  have hml : c.maxLocals = 5 := hml0
  have hown : s.vm.findClass cS2 = some m.cls := findClass_of_methodNamed Bd.named
  have hnm := (name_of_methodNamed Bd.named Bd.method).1
  have X0 : Stand p l e ({ frames := 2, cells := 0, slots := 0, locals := 40 } : Room) s m #[(.ref r0), (.int 4)] below meth c s₁ [] 0 0 := Stand.of_body Bd
  have e0 : s₁.heap = h0 := by rw [← hh, Bd.state]; rfl
  have N0 := Fr.nil n0
  have k0 : ∀ t, OwnS p e below s₁ (mkF m 0 #[rv r0, iv 4, .unset, .unset, .unset] []) t → OwnS p e below s₁ (entryFrame m #[(.ref r0), (.int 4)] 5) t := fun t k => castTop (ef_18 m r0 (4 : Int32)) k
  obtain ⟨cl_z1, Ar_z1, q_z1, S_z1, N_z1, H_z1, G_z1⟩ := id V_r0
  have hin2 : ¬ ((4 : Int32) < 0 ∨ cl_z1.slots.size ≤ ((4 : Int32)).toNatClampNeg) := inb_of S_z1 ⟨by decide, by decide⟩
  have k4 : ∀ t, OwnS p e below s₁ (mkF m 41 #[rv r0, iv 4, iv 4, .unset, .unset] [(.int 34), (.int x4)]) t → OwnS p e below s₁ (entryFrame m #[(.ref r0), (.int 4)] 5) t := fun t q => by
   refine k0 t ?_
   show OwnS p e below s₁ (mkF m 0 #[rv r0, iv 4, .unset, .unset, .unset] []) _
   refine oIn X0 hx hby d18_0 rfl ?_
   refine XS.istoreN X0.here hx rfl (hb hby d18_1) rfl (l' := #[rv r0, iv 4, iv 4, .unset, .unset]) rfl ?_
   refine oIn X0 hx hby d18_2 rfl (oIc X0 hx hby d18_3 ?_)
   refine XS.iadd X0.here hx rfl (hb hby d18_4) rfl ?_
   refine oIc X0 hx hby d18_5 ?_
   refine XS.icmpYes X0.here hx rfl (pc0 := 6) (pc' := 31) rfl (hb hby d18_6) rfl (tlt (by decide : (5 : Int32) < (6 : Int32))).2.2.1 (by decide) (by decide) ?_
   refine oIn X0 hx hby d18_31 rfl (oIc X0 hx hby d18_32 ?_)
   refine XS.icmpNo X0.here hx rfl (hb hby d18_33) rfl (tlt (by decide : (4 : Int32) < (5 : Int32))).2.1 ?_
   refine oAn X0 hx hby d18_36 rfl rfl (oIn X0 hx hby d18_37 rfl ?_)
   refine X0.caload hx (j := (4 : Int32)) (v := (.int x4)) (by rw [e0]; exact Ar_z1.1) (State.isArrayOf_alike hZ.alike Ar_z1.2.1) Ar_z1.2.2 hin2 (Has.at H_z1 hin2 rfl) (g := (mkF m 38 #[rv r0, iv 4, iv 4, .unset, .unset] [(.int 4), (.ref r0)])) rfl rfl (hb hby d18_38) _ ?_
   refine oBp X0 hx hby d18_39 ?_
   exact q
  by_cases hc41_3 : x4 = (34 : Int32)
  · have k5 : ∀ t, OwnS p e below s₁ (mkF m 46 #[rv r0, iv 4, iv 4, .unset, .unset] []) t → OwnS p e below s₁ (entryFrame m #[(.ref r0), (.int 4)] 5) t := fun t q => by
     refine k4 t ?_
     refine XS.icmpYes X0.here hx rfl (pc0 := 41) (pc' := 46) rfl (hb hby d18_41) rfl (teq hc41_3).1 (by decide) (by decide) ?_
     exact q
    obtain ⟨s6, o6, ja6, jb6, jc6, v6, L6, rfl, ⟨hv6, jN6, jh6⟩, jF6⟩ := sgRf_4 l Z a0 hw r0 (4 : Int32) kC x0 x1 x2 x3 x4 h0 n0 Z0 V_r0 X0 hx hZ hby hml hown Bd.returns Bd.notSynchronized e0 N0 
    exact ⟨s6, _, k5 _ ja6, jb6, jc6, v6, L6, rfl, ⟨hv6.trans (by simp [own_e4, own_sc1, own_sc2, own_sc3, own_sc4, own_sc5, own_q0, own_q1, own_q2, own_q3, own_q4, own_q5, hc41_3]), jN6, jh6⟩, jF6⟩
  · obtain ⟨fs, hr, hrun, hended, hW, hsame⟩ := X0.leave (v := some (.int (-1))) (fun h => by rw [Bd.returns] at h; cases h)
    refine ⟨_, _, k4 _ ?_, hrun, hended, _, _, rfl, ?_, ⟨_, rfl⟩, hW, hsame.mono (by decide) (by decide)⟩
    · refine XS.icmpNo X0.here hx rfl (hb hby d18_41) rfl (feq hc41_3).1 ?_
      refine oIc X0 hx hby d18_44 ?_
      exact retI X0 hx Bd.returns (hb hby d18_45) hr
    · show Q_Rf_4 Z _ _ _ _ _ _ _ h0 n0 _ s₁.heap _
      rw [e0]
      exact ⟨(by simp [own_e4, own_sc1, own_sc2, own_sc3, own_sc4, own_sc5, own_q0, own_q1, own_q2, own_q3, own_q4, own_q5, hc41_3]), N0, rfl⟩
def Q_Rf_5 (Z : State) (r0 : Addr) (kC : ClassId) (x0 : Int32) (x1 : Int32) (x2 : Int32) (x3 : Int32) (x4 : Int32) (h0 : Heap) (n0 : Nat) (v : Option Value) (h : Heap) (L : List Loc) : Prop := v = some (.int (own_e5 x0 x1 x2 x3 x4)) ∧ Fr n0 L ∧ h = h0
set_option maxRecDepth 65536 in
set_option maxHeartbeats 40000000 in
theorem rmRf_5 (l : Launch) (Z : State) (a0 : Array Value) (hw : ∀ d ∈ tables_1, d.before a0 Z = true) (ws : List Jvm.Cond) (r0 : Addr) (kC : ClassId) (x0 : Int32) (x1 : Int32) (x2 : Int32) (x3 : Int32) (x4 : Int32) (h0 : Heap) (n0 : Nat) (Z0 : n0 ≤ h0.size) (V_r0 : Arv Z h0 r0 kC .char (5 : Int32) [(.int x0), (.int x1), (.int x2), (.int x3), (.int x4)] (.int 0)) :
    MetFree l (⟨cS2, "ref", "([CI)I"⟩ : MethodName) (head1 (Jvm.Cond.code (⟨cS2, "ref", "([CI)I"⟩ : MethodName) method_6_code 5 (some .int) :: ws) ({ frames := 2, cells := 0, slots := 0, locals := 40 } : Room)) (fun a U => a = #[(.ref r0), (.int 5)] ∧ Z.Warmed39 U.vm ∧ U.heap = h0) (fun _ _ _ _ _ => True) (fun _ U o U' => ∃ v L, o = .returned v ∧ Q_Rf_5 Z r0 kC x0 x1 x2 x3 x4 h0 n0 v U'.heap L ∧ FrameEnd U o U' L 0 0) := by
  refine MetFree.of_bodySF (plainFor_of_name pn_com_example_strict_lock_strictlock_EntityTagsEndPinLaw) hisR ?_
  intro p e s m args below meth c s₁ Bd hml0 hP hK
  obtain ⟨rfl, hZ, hh⟩ := hP
  have hx := Bd.exec
  have hby := Bd.bytes
  have hml : c.maxLocals = 5 := hml0
  have hown : s.vm.findClass cS2 = some m.cls := findClass_of_methodNamed Bd.named
  have hnm := (name_of_methodNamed Bd.named Bd.method).1
  have X0 : Stand p l e ({ frames := 2, cells := 0, slots := 0, locals := 40 } : Room) s m #[(.ref r0), (.int 5)] below meth c s₁ [] 0 0 := Stand.of_body Bd
  have e0 : s₁.heap = h0 := by rw [← hh, Bd.state]; rfl
  have N0 := Fr.nil n0
  have k0 : ∀ t, OwnS p e below s₁ (mkF m 0 #[rv r0, iv 5, .unset, .unset, .unset] []) t → OwnS p e below s₁ (entryFrame m #[(.ref r0), (.int 5)] 5) t := fun t k => castTop (ef_18 m r0 (5 : Int32)) k
  obtain ⟨fs, hr, hrun, hended, hW, hsame⟩ := X0.leave (v := some (.int (-1))) (fun h => by rw [Bd.returns] at h; cases h)
  refine ⟨_, _, k0 _ ?_, hrun, hended, _, _, rfl, ?_, ⟨_, rfl⟩, hW, hsame.mono (by decide) (by decide)⟩
  · show OwnS p e below s₁ (mkF m 0 #[rv r0, iv 5, .unset, .unset, .unset] []) _
    refine oIn X0 hx hby d18_0 rfl ?_
    refine XS.istoreN X0.here hx rfl (hb hby d18_1) rfl (l' := #[rv r0, iv 5, iv 5, .unset, .unset]) rfl ?_
    refine oIn X0 hx hby d18_2 rfl (oIc X0 hx hby d18_3 ?_)
    refine XS.iadd X0.here hx rfl (hb hby d18_4) rfl ?_
    refine oIc X0 hx hby d18_5 ?_
    refine XS.icmpYes X0.here hx rfl (pc0 := 6) (pc' := 31) rfl (hb hby d18_6) rfl (tlt (by decide : (5 : Int32) < (7 : Int32))).2.2.1 (by decide) (by decide) ?_
    refine oIn X0 hx hby d18_31 rfl (oIc X0 hx hby d18_32 ?_)
    refine XS.icmpYes X0.here hx rfl (pc0 := 33) (pc' := 44) rfl (hb hby d18_33) rfl (flt (by decide : ¬ ((5 : Int32) < (5 : Int32)))).2.1 (by decide) (by decide) ?_
    refine oIc X0 hx hby d18_44 ?_
    exact retI X0 hx Bd.returns (hb hby d18_45) hr
  · show Q_Rf_5 Z _ _ _ _ _ _ _ h0 n0 _ s₁.heap _
    rw [e0]
    exact ⟨(by simp [own_e5, own_sc1, own_sc2, own_sc3, own_sc4, own_sc5, own_q0, own_q1, own_q2, own_q3, own_q4, own_q5]), N0, rfl⟩
def Q_LenL (Z : State) (r0 : Addr) (w_CS : Int32) (va : Addr) (kA : ClassId) (vs : List Value) (h0 : Heap) (n0 : Nat) (v : Option Value) (h : Heap) (L : List Loc) : Prop := v = some (.int 2) ∧ Fr n0 L ∧ h = h0
set_option maxRecDepth 65536 in
set_option maxHeartbeats 40000000 in
theorem rmLenL (l : Launch) (Z : State) (a0 : Array Value) (hw : ∀ d ∈ tables_1, d.before a0 Z = true) (ws : List Jvm.Cond) (r0 : Addr) (w_CS : Int32) (va : Addr) (kA : ClassId) (vs : List Value) (h0 : Heap) (n0 : Nat) (Z0 : n0 ≤ h0.size) (S_CS : Sta Z h0 cS0 cS13 "Z" (.int w_CS)) (hcs : ¬ (w_CS = (0 : Int32))) (E_r0 : Exa Z h0 r0 cS0) (F_coder_r0 : Fld Z h0 r0 cS0 "coder" "B" (.int 0)) (F_value_r0 : Fld Z h0 r0 cS0 "value" "[B" (.ref va)) (V_va : Arv Z h0 va kA .byte (2 : Int32) vs (.int 0)) :
    MetFree l (⟨cS0, "length", "()I"⟩ : MethodName) (head1 (Jvm.Cond.code (⟨cS0, "length", "()I"⟩ : MethodName) jdk_42_method_54_code 1 (some .int) :: ws) ({ frames := 1, cells := 0, slots := 0, locals := 13 } : Room)) (fun a U => a = #[(.ref r0)] ∧ Z.Warmed39 U.vm ∧ U.heap = h0) (fun _ _ _ _ _ => True) (fun _ U o U' => ∃ v L, o = .returned v ∧ Q_LenL Z r0 w_CS va kA vs h0 n0 v U'.heap L ∧ FrameEnd U o U' L 0 0) := by
  refine MetFree.of_bodySF (plainFor_of_name pn_java_lang_String) hisR ?_
  intro p e s m args below meth c s₁ Bd hml0 hP hK
  obtain ⟨rfl, hZ, hh⟩ := hP
  have hx := Bd.exec
  have hby := Bd.bytes
  have hml : c.maxLocals = 1 := hml0
  have hown : s.vm.findClass cS0 = some m.cls := findClass_of_methodNamed Bd.named
  have hnm := (name_of_methodNamed Bd.named Bd.method).1
  have X0 : Stand p l e ({ frames := 1, cells := 0, slots := 0, locals := 13 } : Room) s m #[(.ref r0)] below meth c s₁ [] 0 0 := Stand.of_body Bd
  have e0 : s₁.heap = h0 := by rw [← hh, Bd.state]; rfl
  have N0 := Fr.nil n0
  have k0 : ∀ t, OwnS p e below s₁ (mkF m 0 #[rv r0] []) t → OwnS p e below s₁ (entryFrame m #[(.ref r0)] 1) t := fun t k => castTop (ef_10 m r0) k
  obtain ⟨T1, X1, e1, st1⟩ := getF X0 hx hZ hown (host := "") (Or.inl (own_at hw 33 rfl)) Via.refl e0 F_value_r0 (g := (mkF m 1 #[rv r0] [(.ref r0)])) rfl rfl (hb hby d10_1)
  obtain ⟨cl_z2, Ar_z2, q_z2, S_z2, N_z2, H_z2, G_z2⟩ := id V_va
  obtain ⟨cq3, kq3, q3a, q3b, q3c⟩ := isOf hZ e1 E_r0
  obtain ⟨_, _, ⟨T3, L3, j3, i3⟩, -, X3, ⟨Lc3, hQ3, l3, y3, z3⟩, st3⟩ := X1.virtualBack hx (y := (⟨cS0, "coder", "()B"⟩ : MethodName)) (z := (⟨cS0, "coder", "()B"⟩ : MethodName)) hown (mvT hZ (own_at hw 52 rfl)) (mvT hZ (own_at hw 53 rfl)) (notFace_of_selects (args := #[]) (mvT hZ (own_at hw 55 rfl))) (mvT hZ (own_at hw 55 rfl)) (mvT hZ (own_at hw 54 rfl)) (by decide) (backOf (W := 1) (rmCo0 l Z a0 hw [] r0 w_CS h0 n0 Z0 S_CS hcs F_coder_r0) hZ (own_at hw 56 rfl) (own_at hw 8 rfl) (by decide) (by decide)) q3a q3c (g := (mkF m 6 #[rv r0] [(.ref r0), (.int 2)])) rfl (by rw [hml]; rfl) (Steps.refl _) (argsL := []) (rest := [(.int 2)]) (lenOf pd_9 rfl) rfl (Nat.le_refl _) (hb hby d10_6) (fun _ _ => ⟨rfl, e1, (by decide : 0 + 0 ≤ _), (by decide : 0 + 0 ≤ _)⟩)
  dsimp only [Pt.U, Pt.locs, Pt.cells, Pt.slots] at X3 l3 y3 z3 st3 hQ3
  subst l3 y3 z3
  obtain ⟨rfl, N3q, e3⟩ := hQ3
  have N3 := Fr.app N0 N3q
  obtain ⟨fs, hr, hrun, hended, hW, hsame⟩ := X3.leave (v := some (.int 2)) (fun h => by rw [Bd.returns] at h; cases h)
  refine ⟨_, _, k0 _ ?_, hrun, hended, _, _, rfl, ?_, ⟨_, rfl⟩, hW, hsame.mono (by decide) (by decide)⟩
  · show OwnS p e below s₁ (mkF m 0 #[rv r0] []) _
    refine oAn X0 hx hby d10_0 rfl rfl ?_
    refine st1 _ ?_
    refine X1.arraylength hx (by rw [e1]; exact Ar_z2.1) (State.isArrayOf_alike hZ.alike Ar_z2.2.1) (g := (mkF m 4 #[rv r0] [(.ref va)])) rfl rfl (hb hby d10_4) _ ?_
    rw [len_of S_z2 N_z2]
    refine oAn X1 hx hby d10_5 rfl rfl ?_
    refine st3.trans ?_
    refine XS.ishr X3.here hx rfl (hb hby d10_9) rfl ?_
    exact retI X3 hx Bd.returns (hb hby d10_10) hr
  · show Q_LenL Z _ _ _ _ _ h0 n0 _ T3.heap _
    rw [e3]
    exact ⟨rfl, N3, rfl⟩
theorem d12_0 : decode jdk_48_method_14_code 0 = .ok (.iconst 0, 1) := by decide +kernel
theorem d12_1 : decode jdk_48_method_14_code 1 = .ok (.istore 5, 2) := by decide +kernel
theorem d12_3 : decode jdk_48_method_14_code 3 = .ok (.iload 4, 2) := by decide +kernel
theorem d12_5 : decode jdk_48_method_14_code 5 = .ok (.bipush 7, 2) := by decide +kernel
theorem d12_7 : decode jdk_48_method_14_code 7 = .ok (.if_icmp .le 63, 3) := by decide +kernel
theorem d12_70 : decode jdk_48_method_14_code 70 = .ok (.iload 5, 2) := by decide +kernel
theorem d12_72 : decode jdk_48_method_14_code 72 = .ok (.iload 4, 2) := by decide +kernel
theorem d12_74 : decode jdk_48_method_14_code 74 = .ok (.if_icmp .ge 27, 3) := by decide +kernel
theorem d12_77 : decode jdk_48_method_14_code 77 = .ok (.aload_n 0, 1) := by decide +kernel
theorem d12_78 : decode jdk_48_method_14_code 78 = .ok (.iload_n 1, 1) := by decide +kernel
theorem d12_79 : decode jdk_48_method_14_code 79 = .ok (.iload 5, 2) := by decide +kernel
theorem d12_81 : decode jdk_48_method_14_code 81 = .ok (.iadd, 1) := by decide +kernel
theorem d12_82 : decode jdk_48_method_14_code 82 = .ok (.baload, 1) := by decide +kernel
theorem d12_83 : decode jdk_48_method_14_code 83 = .ok (.aload_n 2, 1) := by decide +kernel
theorem d12_84 : decode jdk_48_method_14_code 84 = .ok (.iload_n 3, 1) := by decide +kernel
theorem d12_85 : decode jdk_48_method_14_code 85 = .ok (.iload 5, 2) := by decide +kernel
theorem d12_87 : decode jdk_48_method_14_code 87 = .ok (.iadd, 1) := by decide +kernel
theorem d12_88 : decode jdk_48_method_14_code 88 = .ok (.baload, 1) := by decide +kernel
theorem d12_89 : decode jdk_48_method_14_code 89 = .ok (.if_icmp .eq 6, 3) := by decide +kernel
theorem d12_92 : decode jdk_48_method_14_code 92 = .ok (.iload 5, 2) := by decide +kernel
theorem d12_94 : decode jdk_48_method_14_code 94 = .ok (.ireturn, 1) := by decide +kernel
theorem d12_95 : decode jdk_48_method_14_code 95 = .ok (.iinc 5 1, 3) := by decide +kernel
theorem d12_98 : decode jdk_48_method_14_code 98 = .ok (.goto (-28), 3) := by decide +kernel
theorem d12_101 : decode jdk_48_method_14_code 101 = .ok (.iconst (-1), 1) := by decide +kernel
theorem d12_102 : decode jdk_48_method_14_code 102 = .ok (.ireturn, 1) := by decide +kernel
theorem pn_jdk_internal_util_ArraysSupport : plainName cS11 = true := by first | (simp [plainName, overriddenIn]; done) | decide +kernel
theorem ef_12 (m : MethodId) (x0 : Addr) (x1 : Int32) (x2 : Addr) (x3 : Int32) (x4 : Int32) : entryFrame m #[(.ref x0), (.int x1), (.ref x2), (.int x3), (.int x4)] 8 = mkF m 0 #[.val (.ref x0), .val (.int x1), .val (.ref x2), .val (.int x3), .val (.int x4), .unset, .unset, .unset] [] := by first | (simp [entryFrame, mkF, argsToLocals, Value.category]; done) | rfl
def Q_MM_0 (Z : State) (r0 : Addr) (r2 : Addr) (kA : ClassId) (kW : ClassId) (b0 : Int32) (b1 : Int32) (b2 : Int32) (b3 : Int32) (b4 : Int32) (h0 : Heap) (n0 : Nat) (v : Option Value) (h : Heap) (L : List Loc) : Prop := (v = some (.int (-1)) ∧ Fr n0 L ∧ h = h0 ∧ b0 = (87 : Int32) ∧ b1 = (47 : Int32)) ∨ (v = some (.int 1) ∧ Fr n0 L ∧ h = h0 ∧ b0 = (87 : Int32) ∧ ¬ (b1 = (47 : Int32))) ∨ (v = some (.int 0) ∧ Fr n0 L ∧ h = h0 ∧ ¬ (b0 = (87 : Int32)))
set_option maxRecDepth 65536 in
set_option maxHeartbeats 40000000 in
theorem rmMM_0 (l : Launch) (Z : State) (a0 : Array Value) (hw : ∀ d ∈ tables_1, d.before a0 Z = true) (ws : List Jvm.Cond) (r0 : Addr) (r2 : Addr) (kA : ClassId) (kW : ClassId) (b0 : Int32) (b1 : Int32) (b2 : Int32) (b3 : Int32) (b4 : Int32) (h0 : Heap) (n0 : Nat) (Z0 : n0 ≤ h0.size) (V_r0 : Arv Z h0 r0 kA .byte (5 : Int32) [(.int b0), (.int b1), (.int b2), (.int b3), (.int b4)] (.int 0)) (V_r2 : Arv Z h0 r2 kW .byte (2 : Int32) [(.int 87), (.int 47)] (.int 0)) :
    MetFree l (⟨cS11, "mismatch", "([BI[BII)I"⟩ : MethodName) (head1 (Jvm.Cond.code (⟨cS11, "mismatch", "([BI[BII)I"⟩ : MethodName) jdk_48_method_14_code 8 (some .int) :: ws) ({ frames := 0, cells := 0, slots := 0, locals := 0 } : Room)) (fun a U => a = #[(.ref r0), (.int 0), (.ref r2), (.int 0), (.int 2)] ∧ Z.Warmed39 U.vm ∧ U.heap = h0) (fun _ _ _ _ _ => True) (fun _ U o U' => ∃ v L, o = .returned v ∧ Q_MM_0 Z r0 r2 kA kW b0 b1 b2 b3 b4 h0 n0 v U'.heap L ∧ FrameEnd U o U' L 0 0) := by
  refine MetFree.of_bodySF (plainFor_of_name pn_jdk_internal_util_ArraysSupport) hisR ?_
  intro p e s m args below meth c s₁ Bd hml0 hP hK
  obtain ⟨rfl, hZ, hh⟩ := hP
  have hx := Bd.exec
  have hby := Bd.bytes
  have hml : c.maxLocals = 8 := hml0
  have hown : s.vm.findClass cS11 = some m.cls := findClass_of_methodNamed Bd.named
  have hnm := (name_of_methodNamed Bd.named Bd.method).1
  have X0 : Stand p l e ({ frames := 0, cells := 0, slots := 0, locals := 0 } : Room) s m #[(.ref r0), (.int 0), (.ref r2), (.int 0), (.int 2)] below meth c s₁ [] 0 0 := Stand.of_body Bd
  have e0 : s₁.heap = h0 := by rw [← hh, Bd.state]; rfl
  have N0 := Fr.nil n0
  have k0 : ∀ t, OwnS p e below s₁ (mkF m 0 #[rv r0, iv 0, rv r2, iv 0, iv 2, .unset, .unset, .unset] []) t → OwnS p e below s₁ (entryFrame m #[(.ref r0), (.int 0), (.ref r2), (.int 0), (.int 2)] 8) t := fun t k => castTop (ef_12 m r0 (0 : Int32) r2 (0 : Int32) (2 : Int32)) k
  obtain ⟨cl_z1, Ar_z1, q_z1, S_z1, N_z1, H_z1, G_z1⟩ := id V_r0
  have hin2 : ¬ ((0 : Int32) < 0 ∨ cl_z1.slots.size ≤ ((0 : Int32)).toNatClampNeg) := inb_of S_z1 ⟨by decide, by decide⟩
  obtain ⟨cl_z3, Ar_z3, q_z3, S_z3, N_z3, H_z3, G_z3⟩ := id V_r2
  have hin4 : ¬ ((0 : Int32) < 0 ∨ cl_z3.slots.size ≤ ((0 : Int32)).toNatClampNeg) := inb_of S_z3 ⟨by decide, by decide⟩
  have k6 : ∀ t, OwnS p e below s₁ (mkF m 89 #[rv r0, iv 0, rv r2, iv 0, iv 2, iv 0, .unset, .unset] [(.int 87), (.int b0)]) t → OwnS p e below s₁ (entryFrame m #[(.ref r0), (.int 0), (.ref r2), (.int 0), (.int 2)] 8) t := fun t q => by
   refine k0 t ?_
   show OwnS p e below s₁ (mkF m 0 #[rv r0, iv 0, rv r2, iv 0, iv 2, .unset, .unset, .unset] []) _
   refine oIc X0 hx hby d12_0 ?_
   refine XS.istore X0.here hx rfl (hb hby d12_1) rfl (l' := #[rv r0, iv 0, rv r2, iv 0, iv 2, iv 0, .unset, .unset]) rfl ?_
   refine oIl X0 hx hby d12_3 rfl (oBp X0 hx hby d12_5 ?_)
   refine XS.icmpYes X0.here hx rfl (pc0 := 7) (pc' := 70) rfl (hb hby d12_7) rfl (flt (by decide : ¬ ((7 : Int32) < (2 : Int32)))).2.2.2 (by decide) (by decide) ?_
   refine oIl X0 hx hby d12_70 rfl (oIl X0 hx hby d12_72 rfl ?_)
   refine XS.icmpNo X0.here hx rfl (hb hby d12_74) rfl (tlt (by decide : (0 : Int32) < (2 : Int32))).2.1 ?_
   refine oAn X0 hx hby d12_77 rfl rfl (oIn X0 hx hby d12_78 rfl (oIl X0 hx hby d12_79 rfl ?_))
   refine XS.iadd X0.here hx rfl (hb hby d12_81) rfl ?_
   refine X0.baloadBytes hx (j := (0 : Int32)) (v := (.int b0)) (by rw [e0]; exact Ar_z1.1) (State.isArrayOf_alike hZ.alike Ar_z1.2.1) Ar_z1.2.2 hin2 (Has.at H_z1 hin2 rfl) (g := (mkF m 82 #[rv r0, iv 0, rv r2, iv 0, iv 2, iv 0, .unset, .unset] [(.int 0), (.ref r0)])) rfl rfl (hb hby d12_82) _ ?_
   refine oAn X0 hx hby d12_83 rfl rfl (oIn X0 hx hby d12_84 rfl (oIl X0 hx hby d12_85 rfl ?_))
   refine XS.iadd X0.here hx rfl (hb hby d12_87) rfl ?_
   refine X0.baloadBytes hx (j := (0 : Int32)) (v := (.int 87)) (by rw [e0]; exact Ar_z3.1) (State.isArrayOf_alike hZ.alike Ar_z3.2.1) Ar_z3.2.2 hin4 (Has.at H_z3 hin4 rfl) (g := (mkF m 88 #[rv r0, iv 0, rv r2, iv 0, iv 2, iv 0, .unset, .unset] [(.int 0), (.ref r2), (.int b0)])) rfl rfl (hb hby d12_88) _ ?_
   exact q
  by_cases hc89_5 : b0 = (87 : Int32)
  · have hin7 : ¬ ((1 : Int32) < 0 ∨ cl_z1.slots.size ≤ ((1 : Int32)).toNatClampNeg) := inb_of S_z1 ⟨by decide, by decide⟩
    have hin8 : ¬ ((1 : Int32) < 0 ∨ cl_z3.slots.size ≤ ((1 : Int32)).toNatClampNeg) := inb_of S_z3 ⟨by decide, by decide⟩
    have k10 : ∀ t, OwnS p e below s₁ (mkF m 89 #[rv r0, iv 0, rv r2, iv 0, iv 2, iv 1, .unset, .unset] [(.int 47), (.int b1)]) t → OwnS p e below s₁ (entryFrame m #[(.ref r0), (.int 0), (.ref r2), (.int 0), (.int 2)] 8) t := fun t q => by
     refine k6 t ?_
     refine XS.icmpYes X0.here hx rfl (pc0 := 89) (pc' := 95) rfl (hb hby d12_89) rfl (teq hc89_5).1 (by decide) (by decide) ?_
     refine XS.iinc X0.here hx rfl (hb hby d12_95) rfl (l' := #[rv r0, iv 0, rv r2, iv 0, iv 2, iv 1, .unset, .unset]) rfl ?_
     refine oGo X0 hx hby 98 70 d12_98 (by decide) (by decide) (oIl X0 hx hby d12_70 rfl (oIl X0 hx hby d12_72 rfl ?_))
     refine XS.icmpNo X0.here hx rfl (hb hby d12_74) rfl (tlt (by decide : (1 : Int32) < (2 : Int32))).2.1 ?_
     refine oAn X0 hx hby d12_77 rfl rfl (oIn X0 hx hby d12_78 rfl (oIl X0 hx hby d12_79 rfl ?_))
     refine XS.iadd X0.here hx rfl (hb hby d12_81) rfl ?_
     refine X0.baloadBytes hx (j := (1 : Int32)) (v := (.int b1)) (by rw [e0]; exact Ar_z1.1) (State.isArrayOf_alike hZ.alike Ar_z1.2.1) Ar_z1.2.2 hin7 (Has.at H_z1 hin7 rfl) (g := (mkF m 82 #[rv r0, iv 0, rv r2, iv 0, iv 2, iv 1, .unset, .unset] [(.int 1), (.ref r0)])) rfl rfl (hb hby d12_82) _ ?_
     refine oAn X0 hx hby d12_83 rfl rfl (oIn X0 hx hby d12_84 rfl (oIl X0 hx hby d12_85 rfl ?_))
     refine XS.iadd X0.here hx rfl (hb hby d12_87) rfl ?_
     refine X0.baloadBytes hx (j := (1 : Int32)) (v := (.int 47)) (by rw [e0]; exact Ar_z3.1) (State.isArrayOf_alike hZ.alike Ar_z3.2.1) Ar_z3.2.2 hin8 (Has.at H_z3 hin8 rfl) (g := (mkF m 88 #[rv r0, iv 0, rv r2, iv 0, iv 2, iv 1, .unset, .unset] [(.int 1), (.ref r2), (.int b1)])) rfl rfl (hb hby d12_88) _ ?_
     exact q
    by_cases hc89_9 : b1 = (47 : Int32)
    · obtain ⟨fs, hr, hrun, hended, hW, hsame⟩ := X0.leave (v := some (.int (-1))) (fun h => by rw [Bd.returns] at h; cases h)
      refine ⟨_, _, k10 _ ?_, hrun, hended, _, _, rfl, ?_, ⟨_, rfl⟩, hW, hsame.mono (by decide) (by decide)⟩
      · refine XS.icmpYes X0.here hx rfl (pc0 := 89) (pc' := 95) rfl (hb hby d12_89) rfl (teq hc89_9).1 (by decide) (by decide) ?_
        refine XS.iinc X0.here hx rfl (hb hby d12_95) rfl (l' := #[rv r0, iv 0, rv r2, iv 0, iv 2, iv 2, .unset, .unset]) rfl ?_
        refine oGo X0 hx hby 98 70 d12_98 (by decide) (by decide) (oIl X0 hx hby d12_70 rfl (oIl X0 hx hby d12_72 rfl ?_))
        refine XS.icmpYes X0.here hx rfl (pc0 := 74) (pc' := 101) rfl (hb hby d12_74) rfl (flt (by decide : ¬ ((2 : Int32) < (2 : Int32)))).2.1 (by decide) (by decide) ?_
        refine oIc X0 hx hby d12_101 ?_
        exact retI X0 hx Bd.returns (hb hby d12_102) hr
      · show Q_MM_0 Z _ _ _ _ _ _ _ _ _ h0 n0 _ s₁.heap _
        rw [e0]
        exact Or.inl (⟨rfl, N0, rfl, hc89_5, hc89_9⟩)
    · obtain ⟨fs, hr, hrun, hended, hW, hsame⟩ := X0.leave (v := some (.int 1)) (fun h => by rw [Bd.returns] at h; cases h)
      refine ⟨_, _, k10 _ ?_, hrun, hended, _, _, rfl, ?_, ⟨_, rfl⟩, hW, hsame.mono (by decide) (by decide)⟩
      · refine XS.icmpNo X0.here hx rfl (hb hby d12_89) rfl (feq hc89_9).1 ?_
        refine oIl X0 hx hby d12_92 rfl ?_
        exact retI X0 hx Bd.returns (hb hby d12_94) hr
      · show Q_MM_0 Z _ _ _ _ _ _ _ _ _ h0 n0 _ s₁.heap _
        rw [e0]
        exact Or.inr (Or.inl (⟨rfl, N0, rfl, hc89_5, hc89_9⟩))
  · obtain ⟨fs, hr, hrun, hended, hW, hsame⟩ := X0.leave (v := some (.int 0)) (fun h => by rw [Bd.returns] at h; cases h)
    refine ⟨_, _, k6 _ ?_, hrun, hended, _, _, rfl, ?_, ⟨_, rfl⟩, hW, hsame.mono (by decide) (by decide)⟩
    · refine XS.icmpNo X0.here hx rfl (hb hby d12_89) rfl (feq hc89_5).1 ?_
      refine oIl X0 hx hby d12_92 rfl ?_
      exact retI X0 hx Bd.returns (hb hby d12_94) hr
    · show Q_MM_0 Z _ _ _ _ _ _ _ _ _ h0 n0 _ s₁.heap _
      rw [e0]
      exact Or.inr (Or.inr ((⟨rfl, N0, rfl, hc89_5⟩)))
theorem pd_16 : parseMethodDescriptor "()I" = some ⟨[], some .int⟩ := by decide +kernel
theorem pd_17 : parseMethodDescriptor "([BI[BII)I" = some ⟨[(.array .byte), .int, (.array .byte), .int, .int], some .int⟩ := by decide +kernel
theorem d9_0 : decode jdk_42_method_75_code 0 = .ok (.iload_n 2, 1) := by decide +kernel
theorem d9_1 : decode jdk_42_method_75_code 1 = .ok (.ifCond .lt 16, 3) := by decide +kernel
theorem d9_4 : decode jdk_42_method_75_code 4 = .ok (.iload_n 2, 1) := by decide +kernel
theorem d9_5 : decode jdk_42_method_75_code 5 = .ok (.aload_n 0, 1) := by decide +kernel
theorem d9_6 : decode jdk_42_method_75_code 6 = .ok (.invokevirtual 505, 3) := by decide +kernel
theorem d9_9 : decode jdk_42_method_75_code 9 = .ok (.aload_n 1, 1) := by decide +kernel
theorem d9_10 : decode jdk_42_method_75_code 10 = .ok (.invokevirtual 505, 3) := by decide +kernel
theorem d9_13 : decode jdk_42_method_75_code 13 = .ok (.isub, 1) := by decide +kernel
theorem d9_14 : decode jdk_42_method_75_code 14 = .ok (.if_icmp .le 5, 3) := by decide +kernel
theorem d9_19 : decode jdk_42_method_75_code 19 = .ok (.aload_n 0, 1) := by decide +kernel
theorem d9_20 : decode jdk_42_method_75_code 20 = .ok (.getfield 9, 3) := by decide +kernel
theorem d9_23 : decode jdk_42_method_75_code 23 = .ok (.astore_n 3, 1) := by decide +kernel
theorem d9_24 : decode jdk_42_method_75_code 24 = .ok (.aload_n 1, 1) := by decide +kernel
theorem d9_25 : decode jdk_42_method_75_code 25 = .ok (.getfield 9, 3) := by decide +kernel
theorem d9_28 : decode jdk_42_method_75_code 28 = .ok (.astore 4, 2) := by decide +kernel
theorem d9_30 : decode jdk_42_method_75_code 30 = .ok (.iconst 0, 1) := by decide +kernel
theorem d9_31 : decode jdk_42_method_75_code 31 = .ok (.istore 5, 2) := by decide +kernel
theorem d9_33 : decode jdk_42_method_75_code 33 = .ok (.aload 4, 2) := by decide +kernel
theorem d9_35 : decode jdk_42_method_75_code 35 = .ok (.arraylength, 1) := by decide +kernel
theorem d9_36 : decode jdk_42_method_75_code 36 = .ok (.istore 6, 2) := by decide +kernel
theorem d9_38 : decode jdk_42_method_75_code 38 = .ok (.aload_n 0, 1) := by decide +kernel
theorem d9_39 : decode jdk_42_method_75_code 39 = .ok (.invokevirtual 335, 3) := by decide +kernel
theorem d9_42 : decode jdk_42_method_75_code 42 = .ok (.istore 7, 2) := by decide +kernel
theorem d9_44 : decode jdk_42_method_75_code 44 = .ok (.iload 7, 2) := by decide +kernel
theorem d9_46 : decode jdk_42_method_75_code 46 = .ok (.aload_n 1, 1) := by decide +kernel
theorem d9_47 : decode jdk_42_method_75_code 47 = .ok (.invokevirtual 335, 3) := by decide +kernel
theorem d9_50 : decode jdk_42_method_75_code 50 = .ok (.if_icmp .ne 32, 3) := by decide +kernel
theorem d9_53 : decode jdk_42_method_75_code 53 = .ok (.iload 7, 2) := by decide +kernel
theorem d9_55 : decode jdk_42_method_75_code 55 = .ok (.iconst 1, 1) := by decide +kernel
theorem d9_56 : decode jdk_42_method_75_code 56 = .ok (.if_icmp .ne 7, 3) := by decide +kernel
theorem d9_63 : decode jdk_42_method_75_code 63 = .ok (.aload_n 3, 1) := by decide +kernel
theorem d9_64 : decode jdk_42_method_75_code 64 = .ok (.iload_n 2, 1) := by decide +kernel
theorem d9_65 : decode jdk_42_method_75_code 65 = .ok (.aload 4, 2) := by decide +kernel
theorem d9_67 : decode jdk_42_method_75_code 67 = .ok (.iconst 0, 1) := by decide +kernel
theorem d9_68 : decode jdk_42_method_75_code 68 = .ok (.iload 6, 2) := by decide +kernel
theorem d9_70 : decode jdk_42_method_75_code 70 = .ok (.invokestatic 607, 3) := by decide +kernel
theorem d9_73 : decode jdk_42_method_75_code 73 = .ok (.ifCond .ge 7, 3) := by decide +kernel
theorem d9_76 : decode jdk_42_method_75_code 76 = .ok (.iconst 1, 1) := by decide +kernel
theorem d9_77 : decode jdk_42_method_75_code 77 = .ok (.goto 4, 3) := by decide +kernel
theorem d9_80 : decode jdk_42_method_75_code 80 = .ok (.iconst 0, 1) := by decide +kernel
theorem d9_81 : decode jdk_42_method_75_code 81 = .ok (.ireturn, 1) := by decide +kernel
theorem d9_82 : decode jdk_42_method_75_code 82 = .ok (.iload 7, 2) := by decide +kernel
theorem d9_84 : decode jdk_42_method_75_code 84 = .ok (.ifCond .ne 5, 3) := by decide +kernel
theorem d9_89 : decode jdk_42_method_75_code 89 = .ok (.iload 5, 2) := by decide +kernel
theorem d9_91 : decode jdk_42_method_75_code 91 = .ok (.iload 6, 2) := by decide +kernel
theorem d9_93 : decode jdk_42_method_75_code 93 = .ok (.if_icmp .ge 28, 3) := by decide +kernel
theorem d9_96 : decode jdk_42_method_75_code 96 = .ok (.aload_n 3, 1) := by decide +kernel
theorem d9_97 : decode jdk_42_method_75_code 97 = .ok (.iload_n 2, 1) := by decide +kernel
theorem d9_98 : decode jdk_42_method_75_code 98 = .ok (.iinc 2 1, 3) := by decide +kernel
theorem d9_101 : decode jdk_42_method_75_code 101 = .ok (.invokestatic 360, 3) := by decide +kernel
theorem d9_104 : decode jdk_42_method_75_code 104 = .ok (.aload 4, 2) := by decide +kernel
theorem d9_106 : decode jdk_42_method_75_code 106 = .ok (.iload 5, 2) := by decide +kernel
theorem d9_108 : decode jdk_42_method_75_code 108 = .ok (.iinc 5 1, 3) := by decide +kernel
theorem d9_111 : decode jdk_42_method_75_code 111 = .ok (.baload, 1) := by decide +kernel
theorem d9_112 : decode jdk_42_method_75_code 112 = .ok (.sipush 255, 3) := by decide +kernel
theorem d9_115 : decode jdk_42_method_75_code 115 = .ok (.iand, 1) := by decide +kernel
theorem d9_116 : decode jdk_42_method_75_code 116 = .ok (.if_icmp .eq (-27), 3) := by decide +kernel
theorem d9_119 : decode jdk_42_method_75_code 119 = .ok (.iconst 0, 1) := by decide +kernel
theorem d9_120 : decode jdk_42_method_75_code 120 = .ok (.ireturn, 1) := by decide +kernel
theorem d9_121 : decode jdk_42_method_75_code 121 = .ok (.iconst 1, 1) := by decide +kernel
theorem d9_122 : decode jdk_42_method_75_code 122 = .ok (.ireturn, 1) := by decide +kernel
theorem ef_9 (m : MethodId) (x0 : Addr) (x1 : Addr) (x2 : Int32) : entryFrame m #[(.ref x0), (.ref x1), (.int x2)] 8 = mkF m 0 #[.val (.ref x0), .val (.ref x1), .val (.int x2), .unset, .unset, .unset, .unset, .unset] [] := by first | (simp [entryFrame, mkF, argsToLocals, Value.category]; done) | rfl
def Q_SW_0 (Z : State) (r0 : Addr) (r1 : Addr) (w_CS : Int32) (wA : Addr) (kW : ClassId) (x0 : Int32) (x1 : Int32) (x2 : Int32) (x3 : Int32) (x4 : Int32) (h0 : Heap) (n0 : Nat) (v : Option Value) (h : Heap) (L : List Loc) : Prop := (v = some (.int 1) ∧ Fr n0 L ∧ h = h0 ∧ x0 = (87 : Int32) ∧ x1 = (47 : Int32)) ∨ (v = some (.int 0) ∧ Fr n0 L ∧ h = h0 ∧ x0 = (87 : Int32) ∧ ¬ (x1 = (47 : Int32))) ∨ (v = some (.int 0) ∧ Fr n0 L ∧ h = h0 ∧ ¬ (x0 = (87 : Int32)))
set_option maxRecDepth 65536 in
set_option maxHeartbeats 40000000 in
theorem rmSW_0 (l : Launch) (Z : State) (a0 : Array Value) (hw : ∀ d ∈ tables_1, d.before a0 Z = true) (ws : List Jvm.Cond) (r0 : Addr) (r1 : Addr) (w_CS : Int32) (wA : Addr) (kW : ClassId) (x0 : Int32) (x1 : Int32) (x2 : Int32) (x3 : Int32) (x4 : Int32) (h0 : Heap) (n0 : Nat) (Z0 : n0 ≤ h0.size) (S_CS : Sta Z h0 cS0 cS13 "Z" (.int w_CS)) (hcs : ¬ (w_CS = (0 : Int32))) (S_AD : Sta Z h0 cS1 cS6 "Z" (.int 1)) (S_HI : Sta Z h0 cS1 cS7 "I" (.int 0)) (S_LO : Sta Z h0 cS1 cS8 "I" (.int 8)) (P_r0 : own_S5 Z h0 r0 x0 x1 x2 x3 x4) (E_r1 : Exa Z h0 r1 cS0) (F_coder_r1 : Fld Z h0 r1 cS0 "coder" "B" (.int 0)) (F_value_r1 : Fld Z h0 r1 cS0 "value" "[B" (.ref wA)) (V_wA : Arv Z h0 wA kW .byte (2 : Int32) [(.int 87), (.int 47)] (.int 0)) (hch_x0 : own_ch x0) (hch_x1 : own_ch x1) (hch_x2 : own_ch x2) (hch_x3 : own_ch x3) (hch_x4 : own_ch x4) (E_r0 : Exa Z h0 r0 cS0) :
    MetFree l (⟨cS0, "startsWith", cS9⟩ : MethodName) (head1 (Jvm.Cond.code (⟨cS0, "startsWith", cS9⟩ : MethodName) jdk_42_method_75_code 8 (some .boolean) :: ws) ({ frames := 2, cells := 0, slots := 0, locals := 27 } : Room)) (fun a U => a = #[(.ref r0), (.ref r1), (.int 0)] ∧ Z.Warmed39 U.vm ∧ U.heap = h0) (fun _ _ _ _ _ => True) (fun _ U o U' => ∃ v L, o = .returned v ∧ Q_SW_0 Z r0 r1 w_CS wA kW x0 x1 x2 x3 x4 h0 n0 v U'.heap L ∧ FrameEnd U o U' L 0 0) := by
  refine MetFree.of_bodySF (plainFor_of_name pn_java_lang_String) hisR ?_
  intro p e s m args below meth c s₁ Bd hml0 hP hK
  obtain ⟨rfl, hZ, hh⟩ := hP
  have hx := Bd.exec
  have hby := Bd.bytes
  have hml : c.maxLocals = 8 := hml0
  have hown : s.vm.findClass cS0 = some m.cls := findClass_of_methodNamed Bd.named
  have hnm := (name_of_methodNamed Bd.named Bd.method).1
  have X0 : Stand p l e ({ frames := 2, cells := 0, slots := 0, locals := 27 } : Room) s m #[(.ref r0), (.ref r1), (.int 0)] below meth c s₁ [] 0 0 := Stand.of_body Bd
  have e0 : s₁.heap = h0 := by rw [← hh, Bd.state]; rfl
  have N0 := Fr.nil n0
  have k0 : ∀ t, OwnS p e below s₁ (mkF m 0 #[rv r0, rv r1, iv 0, .unset, .unset, .unset, .unset, .unset] []) t → OwnS p e below s₁ (entryFrame m #[(.ref r0), (.ref r1), (.int 0)] 8) t := fun t k => castTop (ef_9 m r0 r1 (0 : Int32)) k
  obtain ⟨cq1, kq1, q1a, q1b, q1c⟩ := isOf hZ e0 E_r0
  obtain ⟨_, _, ⟨T1, L1, j1, i1⟩, -, X1, ⟨Lc1, hQ1, l1, y1, z1⟩, st1⟩ := X0.virtualBack hx (y := (⟨cS0, "length", "()I"⟩ : MethodName)) (z := (⟨cS0, "length", "()I"⟩ : MethodName)) hown (mvT hZ (own_at hw 47 rfl)) (mvT hZ (own_at hw 48 rfl)) (notFace_of_selects (args := #[]) (mvT hZ (own_at hw 50 rfl))) (mvT hZ (own_at hw 50 rfl)) (mvT hZ (own_at hw 49 rfl)) (by decide) (backOf (W := 1) (rmLen_5 l Z a0 hw [] r0 w_CS x0 x1 x2 x3 x4 h0 n0 Z0 S_CS hcs P_r0) hZ (own_at hw 51 rfl) (own_at hw 8 rfl) (by decide) (by decide)) q1a q1c (g := (mkF m 6 #[rv r0, rv r1, iv 0, .unset, .unset, .unset, .unset, .unset] [(.ref r0), (.int 0)])) rfl (by rw [hml]; rfl) (Steps.refl _) (argsL := []) (rest := [(.int 0)]) (lenOf pd_16 rfl) rfl (Nat.le_refl _) (hb hby d9_6) (fun _ _ => ⟨rfl, e0, (by decide : 0 + 0 ≤ _), (by decide : 0 + 0 ≤ _)⟩)
  dsimp only [Pt.U, Pt.locs, Pt.cells, Pt.slots] at X1 l1 y1 z1 st1 hQ1
  subst l1 y1 z1
  obtain ⟨rfl, N1q, e1⟩ := hQ1
  have N1 := Fr.app N0 N1q
  obtain ⟨cq2, kq2, q2a, q2b, q2c⟩ := isOf hZ e1 E_r1
  obtain ⟨_, _, ⟨T2, L2, j2, i2⟩, -, X2, ⟨Lc2, hQ2, l2, y2, z2⟩, st2⟩ := X1.virtualBack hx (y := (⟨cS0, "length", "()I"⟩ : MethodName)) (z := (⟨cS0, "length", "()I"⟩ : MethodName)) hown (mvT hZ (own_at hw 47 rfl)) (mvT hZ (own_at hw 48 rfl)) (notFace_of_selects (args := #[]) (mvT hZ (own_at hw 50 rfl))) (mvT hZ (own_at hw 50 rfl)) (mvT hZ (own_at hw 49 rfl)) (by decide) (backOf (W := 2) (rmLenL l Z a0 hw [] r1 w_CS wA kW [(.int 87), (.int 47)] h0 n0 Z0 S_CS hcs E_r1 F_coder_r1 F_value_r1 V_wA) hZ (own_at hw 51 rfl) (own_at hw 8 rfl) (by decide) (by decide)) q2a q2c (g := (mkF m 10 #[rv r0, rv r1, iv 0, .unset, .unset, .unset, .unset, .unset] [(.ref r1), (.int 5), (.int 0)])) rfl (by rw [hml]; rfl) (Steps.refl _) (argsL := []) (rest := [(.int 5), (.int 0)]) (lenOf pd_16 rfl) rfl (Nat.le_refl _) (hb hby d9_10) (fun _ _ => ⟨rfl, e1, (by decide : 0 + 0 ≤ _), (by decide : 0 + 0 ≤ _)⟩)
  dsimp only [Pt.U, Pt.locs, Pt.cells, Pt.slots] at X2 l2 y2 z2 st2 hQ2
  subst l2 y2 z2
  obtain ⟨rfl, N2q, e2⟩ := hQ2
  have N2 := Fr.app N1 N2q
  have k3 : ∀ t, OwnS p e below T2 (mkF m 19 #[rv r0, rv r1, iv 0, .unset, .unset, .unset, .unset, .unset] []) t → OwnS p e below s₁ (entryFrame m #[(.ref r0), (.ref r1), (.int 0)] 8) t := fun t q => by
   refine k0 t ?_
   show OwnS p e below s₁ (mkF m 0 #[rv r0, rv r1, iv 0, .unset, .unset, .unset, .unset, .unset] []) _
   refine oIn X0 hx hby d9_0 rfl ?_
   refine XS.ifNo X0.here hx rfl (hb hby d9_1) rfl ((if0 _ _).trans (flt (by decide : ¬ ((0 : Int32) < (0 : Int32)))).1) ?_
   refine oIn X0 hx hby d9_4 rfl (oAn X0 hx hby d9_5 rfl rfl ?_)
   refine st1.trans ?_
   refine oAn X1 hx hby d9_9 rfl rfl ?_
   refine st2.trans ?_
   refine XS.isub X2.here hx rfl (hb hby d9_13) rfl ?_
   refine XS.icmpYes X2.here hx rfl (pc0 := 14) (pc' := 19) rfl (hb hby d9_14) rfl (flt (by decide : ¬ ((3 : Int32) < (0 : Int32)))).2.2.2 (by decide) (by decide) ?_
   exact q
  rcases id P_r0 with ⟨eS, ⟨sA, kS, fC, fV, vA, hl0, hl1, hl2, hl3, hl4⟩ | ⟨sA, kS, fC, fV, vA⟩⟩
  · skip
    obtain ⟨T4, X4, e4, st4⟩ := getF X2 hx hZ hown (host := "") (Or.inl (own_at hw 33 rfl)) Via.refl e2 fV (g := (mkF m 20 #[rv r0, rv r1, iv 0, .unset, .unset, .unset, .unset, .unset] [(.ref r0)])) rfl rfl (hb hby d9_20)
    obtain ⟨T5, X5, e5, st5⟩ := getF X4 hx hZ hown (host := "") (Or.inl (own_at hw 33 rfl)) Via.refl e4 F_value_r1 (g := (mkF m 25 #[rv r0, rv r1, iv 0, rv sA, .unset, .unset, .unset, .unset] [(.ref r1)])) rfl rfl (hb hby d9_25)
    obtain ⟨cl_z6, Ar_z6, q_z6, S_z6, N_z6, H_z6, G_z6⟩ := id V_wA
    obtain ⟨cq7, kq7, q7a, q7b, q7c⟩ := isOf hZ e5 eS
    obtain ⟨_, _, ⟨T7, L7, j7, i7⟩, -, X7, ⟨Lc7, hQ7, l7, y7, z7⟩, st7⟩ := X5.virtualBack hx (y := (⟨cS0, "coder", "()B"⟩ : MethodName)) (z := (⟨cS0, "coder", "()B"⟩ : MethodName)) hown (mvT hZ (own_at hw 52 rfl)) (mvT hZ (own_at hw 53 rfl)) (notFace_of_selects (args := #[]) (mvT hZ (own_at hw 55 rfl))) (mvT hZ (own_at hw 55 rfl)) (mvT hZ (own_at hw 54 rfl)) (by decide) (backOf (W := 0) (rmCo0 l Z a0 hw [] r0 w_CS h0 n0 Z0 S_CS hcs fC) hZ (own_at hw 56 rfl) (own_at hw 8 rfl) (by decide) (by decide)) q7a q7c (g := (mkF m 39 #[rv r0, rv r1, iv 0, rv sA, rv wA, iv 0, iv 2, .unset] [(.ref r0)])) rfl (by rw [hml]; rfl) (Steps.refl _) (argsL := []) (rest := []) (lenOf pd_9 rfl) rfl (Nat.le_refl _) (hb hby d9_39) (fun _ _ => ⟨rfl, e5, (by decide : 0 + 0 ≤ _), (by decide : 0 + 0 ≤ _)⟩)
    dsimp only [Pt.U, Pt.locs, Pt.cells, Pt.slots] at X7 l7 y7 z7 st7 hQ7
    subst l7 y7 z7
    obtain ⟨rfl, N7q, e7⟩ := hQ7
    have N7 := Fr.app N2 N7q
    obtain ⟨cq8, kq8, q8a, q8b, q8c⟩ := isOf hZ e7 E_r1
    obtain ⟨_, _, ⟨T8, L8, j8, i8⟩, -, X8, ⟨Lc8, hQ8, l8, y8, z8⟩, st8⟩ := X7.virtualBack hx (y := (⟨cS0, "coder", "()B"⟩ : MethodName)) (z := (⟨cS0, "coder", "()B"⟩ : MethodName)) hown (mvT hZ (own_at hw 52 rfl)) (mvT hZ (own_at hw 53 rfl)) (notFace_of_selects (args := #[]) (mvT hZ (own_at hw 55 rfl))) (mvT hZ (own_at hw 55 rfl)) (mvT hZ (own_at hw 54 rfl)) (by decide) (backOf (W := 1) (rmCo0 l Z a0 hw [] r1 w_CS h0 n0 Z0 S_CS hcs F_coder_r1) hZ (own_at hw 56 rfl) (own_at hw 8 rfl) (by decide) (by decide)) q8a q8c (g := (mkF m 47 #[rv r0, rv r1, iv 0, rv sA, rv wA, iv 0, iv 2, iv 0] [(.ref r1), (.int 0)])) rfl (by rw [hml]; rfl) (Steps.refl _) (argsL := []) (rest := [(.int 0)]) (lenOf pd_9 rfl) rfl (Nat.le_refl _) (hb hby d9_47) (fun _ _ => ⟨rfl, e7, (by decide : 0 + 0 ≤ _), (by decide : 0 + 0 ≤ _)⟩)
    dsimp only [Pt.U, Pt.locs, Pt.cells, Pt.slots] at X8 l8 y8 z8 st8 hQ8
    subst l8 y8 z8
    obtain ⟨rfl, N8q, e8⟩ := hQ8
    have N8 := Fr.app N7 N8q
    obtain ⟨_, _, ⟨T9, L9, j9, i9⟩, -, X9, ⟨Lc9, hQ9, l9, y9, z9⟩, st9⟩ := Jvm.LawKit.callS X8 hx (y := (⟨cS11, "mismatch", "([BI[BII)I"⟩ : MethodName)) hown (mvT hZ (own_at hw 57 rfl)) (mvT hZ (own_at hw 58 rfl)) (mvT hZ (own_at hw 59 rfl)) (mvT hZ (own_at hw 60 rfl)) (by decide) (backOf (W := 0) (rmMM_0 l Z a0 hw [] sA wA kS kW ((x0.toInt8.toInt32).toInt8.toInt32) ((x1.toInt8.toInt32).toInt8.toInt32) ((x2.toInt8.toInt32).toInt8.toInt32) ((x3.toInt8.toInt32).toInt8.toInt32) ((x4.toInt8.toInt32).toInt8.toInt32) h0 n0 Z0 vA V_wA) hZ (own_at hw 60 rfl) (own_at hw 59 rfl) (by decide) (by decide)) (g := (mkF m 70 #[rv r0, rv r1, iv 0, rv sA, rv wA, iv 0, iv 2, iv 0] [(.int 2), (.int 0), (.ref wA), (.int 0), (.ref sA)])) rfl (by rw [hml]; rfl) (argsL := [(.ref sA), (.int 0), (.ref wA), (.int 0), (.int 2)]) (rest := []) (lenOf pd_17 rfl) rfl (Nat.le_refl _) (hb hby d9_70) (fun _ _ => ⟨rfl, e8, (by decide : 0 + 0 ≤ _), (by decide : 0 + 0 ≤ _)⟩)
    dsimp only [Pt.U, Pt.locs, Pt.cells, Pt.slots] at X9 l9 y9 z9 st9 hQ9
    subst l9 y9 z9
    have k10 : ∀ t, OwnS p e below T8 (mkF m 70 #[rv r0, rv r1, iv 0, rv sA, rv wA, iv 0, iv 2, iv 0] [(.int 2), (.int 0), (.ref wA), (.int 0), (.ref sA)]) t → OwnS p e below s₁ (entryFrame m #[(.ref r0), (.ref r1), (.int 0)] 8) t := fun t q => by
     refine k3 t ?_
     show OwnS p e below T2 (mkF m 19 #[rv r0, rv r1, iv 0, .unset, .unset, .unset, .unset, .unset] []) _
     refine oAn X2 hx hby d9_19 rfl rfl ?_
     refine st4 _ ?_
     refine XS.astoreN X4.here hx rfl (hb hby d9_23) rfl rfl (l' := #[rv r0, rv r1, iv 0, rv sA, .unset, .unset, .unset, .unset]) rfl ?_
     refine oAn X4 hx hby d9_24 rfl rfl ?_
     refine st5 _ ?_
     refine XS.astore X5.here hx rfl (hb hby d9_28) rfl rfl (l' := #[rv r0, rv r1, iv 0, rv sA, rv wA, .unset, .unset, .unset]) rfl ?_
     refine oIc X5 hx hby d9_30 ?_
     refine XS.istore X5.here hx rfl (hb hby d9_31) rfl (l' := #[rv r0, rv r1, iv 0, rv sA, rv wA, iv 0, .unset, .unset]) rfl ?_
     refine oAl X5 hx hby d9_33 rfl rfl ?_
     refine X5.arraylength hx (by rw [e5]; exact Ar_z6.1) (State.isArrayOf_alike hZ.alike Ar_z6.2.1) (g := (mkF m 35 #[rv r0, rv r1, iv 0, rv sA, rv wA, iv 0, .unset, .unset] [(.ref wA)])) rfl rfl (hb hby d9_35) _ ?_
     rw [len_of S_z6 N_z6]
     refine XS.istore X5.here hx rfl (hb hby d9_36) rfl (l' := #[rv r0, rv r1, iv 0, rv sA, rv wA, iv 0, iv 2, .unset]) rfl ?_
     refine oAn X5 hx hby d9_38 rfl rfl ?_
     refine st7.trans ?_
     refine XS.istore X7.here hx rfl (hb hby d9_42) rfl (l' := #[rv r0, rv r1, iv 0, rv sA, rv wA, iv 0, iv 2, iv 0]) rfl ?_
     refine oIl X7 hx hby d9_44 rfl (oAn X7 hx hby d9_46 rfl rfl ?_)
     refine st8.trans ?_
     refine XS.icmpNo X8.here hx rfl (hb hby d9_50) rfl (teq (by decide : (0 : Int32) = (0 : Int32))).2 ?_
     refine oIl X8 hx hby d9_53 rfl (oIc X8 hx hby d9_55 ?_)
     refine XS.icmpYes X8.here hx rfl (pc0 := 56) (pc' := 63) rfl (hb hby d9_56) rfl (feq (by decide : ¬ ((0 : Int32) = (1 : Int32)))).2 (by decide) (by decide) ?_
     refine oAn X8 hx hby d9_63 rfl rfl (oIn X8 hx hby d9_64 rfl (oAl X8 hx hby d9_65 rfl rfl (oIc X8 hx hby d9_67 (oIl X8 hx hby d9_68 rfl ?_))))
     exact q
    rcases hQ9 with ⟨rfl, N9q, e9, p9_0, p9_1⟩ | ⟨rfl, N9q, e9, p9_0, p9_1⟩ | ⟨rfl, N9q, e9, p9_0⟩
    · have N9 := Fr.app N8 N9q
      obtain ⟨fs, hr, hrun, hended, hW, hsame⟩ := X9.leave (v := some (.int 1)) (fun h => by rw [Bd.returns] at h; cases h)
      refine ⟨_, _, k10 _ ?_, hrun, hended, _, _, rfl, ?_, ⟨_, rfl⟩, hW, hsame.mono (by decide) (by decide)⟩
      · refine st9 _ ?_
        refine XS.ifNo X9.here hx rfl (hb hby d9_73) rfl ((if0 _ _).trans (tlt (by decide : (-1 : Int32) < (0 : Int32))).2.1) ?_
        refine oIc X9 hx hby d9_76 (oGo X9 hx hby 77 81 d9_77 (by decide) (by decide) ?_)
        exact retN X9 hx (t := .boolean) Bd.returns (by simp) (hb hby d9_81) hr
      · show Q_SW_0 Z _ _ _ _ _ _ _ _ _ _ h0 n0 _ T9.heap _
        rw [e9]
        exact Or.inl (⟨rfl, N9, rfl, (own_nbinj hch_x0 hl0 (by decide) (by decide) p9_0), (own_nbinj hch_x1 hl1 (by decide) (by decide) p9_1)⟩)
    · have N9 := Fr.app N8 N9q
      obtain ⟨fs, hr, hrun, hended, hW, hsame⟩ := X9.leave (v := some (.int 0)) (fun h => by rw [Bd.returns] at h; cases h)
      refine ⟨_, _, k10 _ ?_, hrun, hended, _, _, rfl, ?_, ⟨_, rfl⟩, hW, hsame.mono (by decide) (by decide)⟩
      · refine st9 _ ?_
        refine XS.ifYes X9.here hx rfl (pc0 := 73) (pc' := 80) rfl (hb hby d9_73) rfl ((if0 _ _).trans (flt (by decide : ¬ ((1 : Int32) < (0 : Int32)))).2.1) (by decide) (by decide) ?_
        refine oIc X9 hx hby d9_80 ?_
        exact retN X9 hx (t := .boolean) Bd.returns (by simp) (hb hby d9_81) hr
      · show Q_SW_0 Z _ _ _ _ _ _ _ _ _ _ h0 n0 _ T9.heap _
        rw [e9]
        exact Or.inr (Or.inl (⟨rfl, N9, rfl, (own_nbinj hch_x0 hl0 (by decide) (by decide) p9_0), (fun q => p9_1 (by rw [q]; decide))⟩))
    · have N9 := Fr.app N8 N9q
      obtain ⟨fs, hr, hrun, hended, hW, hsame⟩ := X9.leave (v := some (.int 0)) (fun h => by rw [Bd.returns] at h; cases h)
      refine ⟨_, _, k10 _ ?_, hrun, hended, _, _, rfl, ?_, ⟨_, rfl⟩, hW, hsame.mono (by decide) (by decide)⟩
      · refine st9 _ ?_
        refine XS.ifYes X9.here hx rfl (pc0 := 73) (pc' := 80) rfl (hb hby d9_73) rfl ((if0 _ _).trans (flt (by decide : ¬ ((0 : Int32) < (0 : Int32)))).2.1) (by decide) (by decide) ?_
        refine oIc X9 hx hby d9_80 ?_
        exact retN X9 hx (t := .boolean) Bd.returns (by simp) (hb hby d9_81) hr
      · show Q_SW_0 Z _ _ _ _ _ _ _ _ _ _ h0 n0 _ T9.heap _
        rw [e9]
        exact Or.inr (Or.inr ((⟨rfl, N9, rfl, (fun q => p9_0 (by rw [q]; decide))⟩)))
  · skip
    obtain ⟨T11, X11, e11, st11⟩ := getF X2 hx hZ hown (host := "") (Or.inl (own_at hw 33 rfl)) Via.refl e2 fV (g := (mkF m 20 #[rv r0, rv r1, iv 0, .unset, .unset, .unset, .unset, .unset] [(.ref r0)])) rfl rfl (hb hby d9_20)
    obtain ⟨T12, X12, e12, st12⟩ := getF X11 hx hZ hown (host := "") (Or.inl (own_at hw 33 rfl)) Via.refl e11 F_value_r1 (g := (mkF m 25 #[rv r0, rv r1, iv 0, rv sA, .unset, .unset, .unset, .unset] [(.ref r1)])) rfl rfl (hb hby d9_25)
    obtain ⟨cl_z13, Ar_z13, q_z13, S_z13, N_z13, H_z13, G_z13⟩ := id V_wA
    obtain ⟨cq14, kq14, q14a, q14b, q14c⟩ := isOf hZ e12 eS
    obtain ⟨_, _, ⟨T14, L14, j14, i14⟩, -, X14, ⟨Lc14, hQ14, l14, y14, z14⟩, st14⟩ := X12.virtualBack hx (y := (⟨cS0, "coder", "()B"⟩ : MethodName)) (z := (⟨cS0, "coder", "()B"⟩ : MethodName)) hown (mvT hZ (own_at hw 52 rfl)) (mvT hZ (own_at hw 53 rfl)) (notFace_of_selects (args := #[]) (mvT hZ (own_at hw 55 rfl))) (mvT hZ (own_at hw 55 rfl)) (mvT hZ (own_at hw 54 rfl)) (by decide) (backOf (W := 0) (rmCo1 l Z a0 hw [] r0 w_CS h0 n0 Z0 S_CS hcs fC) hZ (own_at hw 56 rfl) (own_at hw 8 rfl) (by decide) (by decide)) q14a q14c (g := (mkF m 39 #[rv r0, rv r1, iv 0, rv sA, rv wA, iv 0, iv 2, .unset] [(.ref r0)])) rfl (by rw [hml]; rfl) (Steps.refl _) (argsL := []) (rest := []) (lenOf pd_9 rfl) rfl (Nat.le_refl _) (hb hby d9_39) (fun _ _ => ⟨rfl, e12, (by decide : 0 + 0 ≤ _), (by decide : 0 + 0 ≤ _)⟩)
    dsimp only [Pt.U, Pt.locs, Pt.cells, Pt.slots] at X14 l14 y14 z14 st14 hQ14
    subst l14 y14 z14
    obtain ⟨rfl, N14q, e14⟩ := hQ14
    have N14 := Fr.app N2 N14q
    obtain ⟨cq15, kq15, q15a, q15b, q15c⟩ := isOf hZ e14 E_r1
    obtain ⟨_, _, ⟨T15, L15, j15, i15⟩, -, X15, ⟨Lc15, hQ15, l15, y15, z15⟩, st15⟩ := X14.virtualBack hx (y := (⟨cS0, "coder", "()B"⟩ : MethodName)) (z := (⟨cS0, "coder", "()B"⟩ : MethodName)) hown (mvT hZ (own_at hw 52 rfl)) (mvT hZ (own_at hw 53 rfl)) (notFace_of_selects (args := #[]) (mvT hZ (own_at hw 55 rfl))) (mvT hZ (own_at hw 55 rfl)) (mvT hZ (own_at hw 54 rfl)) (by decide) (backOf (W := 1) (rmCo0 l Z a0 hw [] r1 w_CS h0 n0 Z0 S_CS hcs F_coder_r1) hZ (own_at hw 56 rfl) (own_at hw 8 rfl) (by decide) (by decide)) q15a q15c (g := (mkF m 47 #[rv r0, rv r1, iv 0, rv sA, rv wA, iv 0, iv 2, iv 1] [(.ref r1), (.int 1)])) rfl (by rw [hml]; rfl) (Steps.refl _) (argsL := []) (rest := [(.int 1)]) (lenOf pd_9 rfl) rfl (Nat.le_refl _) (hb hby d9_47) (fun _ _ => ⟨rfl, e14, (by decide : 0 + 0 ≤ _), (by decide : 0 + 0 ≤ _)⟩)
    dsimp only [Pt.U, Pt.locs, Pt.cells, Pt.slots] at X15 l15 y15 z15 st15 hQ15
    subst l15 y15 z15
    obtain ⟨rfl, N15q, e15⟩ := hQ15
    have N15 := Fr.app N14 N15q
    obtain ⟨_, _, ⟨T16, L16, j16, i16⟩, -, X16, ⟨Lc16, hQ16, l16, y16, z16⟩, st16⟩ := Jvm.LawKit.callS X15 hx (y := (⟨cS1, "getChar", "([BI)C"⟩ : MethodName)) hown (mvT hZ (own_at hw 113 rfl)) (mvT hZ (own_at hw 111 rfl)) (mvT hZ (own_at hw 22 rfl)) (mvT hZ (own_at hw 112 rfl)) (by decide) (backOf (W := 0) (rmGC_5_0 l Z a0 hw [] sA kS x0 x1 x2 x3 x4 h0 n0 Z0 S_AD S_HI S_LO vA hch_x0) hZ (own_at hw 112 rfl) (own_at hw 22 rfl) (by decide) (by decide)) (g := (mkF m 101 #[rv r0, rv r1, iv 1, rv sA, rv wA, iv 0, iv 2, iv 1] [(.int 0), (.ref sA)])) rfl (by rw [hml]; rfl) (argsL := [(.ref sA), (.int 0)]) (rest := []) (lenOf pd_6 rfl) rfl (Nat.le_refl _) (hb hby d9_101) (fun _ _ => ⟨rfl, e15, (by decide : 0 + 0 ≤ _), (by decide : 0 + 0 ≤ _)⟩)
    dsimp only [Pt.U, Pt.locs, Pt.cells, Pt.slots] at X16 l16 y16 z16 st16 hQ16
    subst l16 y16 z16
    obtain ⟨rfl, N16q, e16⟩ := hQ16
    have N16 := Fr.app N15 N16q
    have hin17 : ¬ ((0 : Int32) < 0 ∨ cl_z13.slots.size ≤ ((0 : Int32)).toNatClampNeg) := inb_of S_z13 ⟨by decide, by decide⟩
    have k19 : ∀ t, OwnS p e below T16 (mkF m 116 #[rv r0, rv r1, iv 1, rv sA, rv wA, iv 1, iv 2, iv 1] [(.int 87), (.int x0)]) t → OwnS p e below s₁ (entryFrame m #[(.ref r0), (.ref r1), (.int 0)] 8) t := fun t q => by
     refine k3 t ?_
     show OwnS p e below T2 (mkF m 19 #[rv r0, rv r1, iv 0, .unset, .unset, .unset, .unset, .unset] []) _
     refine oAn X2 hx hby d9_19 rfl rfl ?_
     refine st11 _ ?_
     refine XS.astoreN X11.here hx rfl (hb hby d9_23) rfl rfl (l' := #[rv r0, rv r1, iv 0, rv sA, .unset, .unset, .unset, .unset]) rfl ?_
     refine oAn X11 hx hby d9_24 rfl rfl ?_
     refine st12 _ ?_
     refine XS.astore X12.here hx rfl (hb hby d9_28) rfl rfl (l' := #[rv r0, rv r1, iv 0, rv sA, rv wA, .unset, .unset, .unset]) rfl ?_
     refine oIc X12 hx hby d9_30 ?_
     refine XS.istore X12.here hx rfl (hb hby d9_31) rfl (l' := #[rv r0, rv r1, iv 0, rv sA, rv wA, iv 0, .unset, .unset]) rfl ?_
     refine oAl X12 hx hby d9_33 rfl rfl ?_
     refine X12.arraylength hx (by rw [e12]; exact Ar_z13.1) (State.isArrayOf_alike hZ.alike Ar_z13.2.1) (g := (mkF m 35 #[rv r0, rv r1, iv 0, rv sA, rv wA, iv 0, .unset, .unset] [(.ref wA)])) rfl rfl (hb hby d9_35) _ ?_
     rw [len_of S_z13 N_z13]
     refine XS.istore X12.here hx rfl (hb hby d9_36) rfl (l' := #[rv r0, rv r1, iv 0, rv sA, rv wA, iv 0, iv 2, .unset]) rfl ?_
     refine oAn X12 hx hby d9_38 rfl rfl ?_
     refine st14.trans ?_
     refine XS.istore X14.here hx rfl (hb hby d9_42) rfl (l' := #[rv r0, rv r1, iv 0, rv sA, rv wA, iv 0, iv 2, iv 1]) rfl ?_
     refine oIl X14 hx hby d9_44 rfl (oAn X14 hx hby d9_46 rfl rfl ?_)
     refine st15.trans ?_
     refine XS.icmpYes X15.here hx rfl (pc0 := 50) (pc' := 82) rfl (hb hby d9_50) rfl (feq (by decide : ¬ ((1 : Int32) = (0 : Int32)))).2 (by decide) (by decide) ?_
     refine oIl X15 hx hby d9_82 rfl ?_
     refine XS.ifYes X15.here hx rfl (pc0 := 84) (pc' := 89) rfl (hb hby d9_84) rfl ((if0 _ _).trans (feq (by decide : ¬ ((1 : Int32) = (0 : Int32)))).2) (by decide) (by decide) ?_
     refine oIl X15 hx hby d9_89 rfl (oIl X15 hx hby d9_91 rfl ?_)
     refine XS.icmpNo X15.here hx rfl (hb hby d9_93) rfl (tlt (by decide : (0 : Int32) < (2 : Int32))).2.1 ?_
     refine oAn X15 hx hby d9_96 rfl rfl (oIn X15 hx hby d9_97 rfl ?_)
     refine XS.iinc X15.here hx rfl (hb hby d9_98) rfl (l' := #[rv r0, rv r1, iv 1, rv sA, rv wA, iv 0, iv 2, iv 1]) rfl ?_
     refine st16 _ ?_
     refine oAl X16 hx hby d9_104 rfl rfl (oIl X16 hx hby d9_106 rfl ?_)
     refine XS.iinc X16.here hx rfl (hb hby d9_108) rfl (l' := #[rv r0, rv r1, iv 1, rv sA, rv wA, iv 1, iv 2, iv 1]) rfl ?_
     refine X16.baloadBytes hx (j := (0 : Int32)) (v := (.int 87)) (by rw [e16]; exact Ar_z13.1) (State.isArrayOf_alike hZ.alike Ar_z13.2.1) Ar_z13.2.2 hin17 (Has.at H_z13 hin17 rfl) (g := (mkF m 111 #[rv r0, rv r1, iv 1, rv sA, rv wA, iv 1, iv 2, iv 1] [(.int 0), (.ref wA), (.int x0)])) rfl rfl (hb hby d9_111) _ ?_
     refine XS.sipush X16.here hx rfl (hb hby d9_112) ?_
     refine XS.iand X16.here hx rfl (hb hby d9_115) rfl ?_
     exact q
    by_cases hc116_18 : x0 = (87 : Int32)
    · obtain ⟨_, _, ⟨T20, L20, j20, i20⟩, -, X20, ⟨Lc20, hQ20, l20, y20, z20⟩, st20⟩ := Jvm.LawKit.callS X16 hx (y := (⟨cS1, "getChar", "([BI)C"⟩ : MethodName)) hown (mvT hZ (own_at hw 113 rfl)) (mvT hZ (own_at hw 111 rfl)) (mvT hZ (own_at hw 22 rfl)) (mvT hZ (own_at hw 112 rfl)) (by decide) (backOf (W := 0) (rmGC_5_1 l Z a0 hw [] sA kS x0 x1 x2 x3 x4 h0 n0 Z0 S_AD S_HI S_LO vA hch_x1) hZ (own_at hw 112 rfl) (own_at hw 22 rfl) (by decide) (by decide)) (g := (mkF m 101 #[rv r0, rv r1, iv 2, rv sA, rv wA, iv 1, iv 2, iv 1] [(.int 1), (.ref sA)])) rfl (by rw [hml]; rfl) (argsL := [(.ref sA), (.int 1)]) (rest := []) (lenOf pd_6 rfl) rfl (Nat.le_refl _) (hb hby d9_101) (fun _ _ => ⟨rfl, e16, (by decide : 0 + 0 ≤ _), (by decide : 0 + 0 ≤ _)⟩)
      dsimp only [Pt.U, Pt.locs, Pt.cells, Pt.slots] at X20 l20 y20 z20 st20 hQ20
      subst l20 y20 z20
      obtain ⟨rfl, N20q, e20⟩ := hQ20
      have N20 := Fr.app N16 N20q
      have hin21 : ¬ ((1 : Int32) < 0 ∨ cl_z13.slots.size ≤ ((1 : Int32)).toNatClampNeg) := inb_of S_z13 ⟨by decide, by decide⟩
      have k23 : ∀ t, OwnS p e below T20 (mkF m 116 #[rv r0, rv r1, iv 2, rv sA, rv wA, iv 2, iv 2, iv 1] [(.int 47), (.int x1)]) t → OwnS p e below s₁ (entryFrame m #[(.ref r0), (.ref r1), (.int 0)] 8) t := fun t q => by
       refine k19 t ?_
       refine XS.icmpYes X16.here hx rfl (pc0 := 116) (pc' := 89) rfl (hb hby d9_116) rfl (teq hc116_18).1 (by decide) (by decide) ?_
       refine oIl X16 hx hby d9_89 rfl (oIl X16 hx hby d9_91 rfl ?_)
       refine XS.icmpNo X16.here hx rfl (hb hby d9_93) rfl (tlt (by decide : (1 : Int32) < (2 : Int32))).2.1 ?_
       refine oAn X16 hx hby d9_96 rfl rfl (oIn X16 hx hby d9_97 rfl ?_)
       refine XS.iinc X16.here hx rfl (hb hby d9_98) rfl (l' := #[rv r0, rv r1, iv 2, rv sA, rv wA, iv 1, iv 2, iv 1]) rfl ?_
       refine st20 _ ?_
       refine oAl X20 hx hby d9_104 rfl rfl (oIl X20 hx hby d9_106 rfl ?_)
       refine XS.iinc X20.here hx rfl (hb hby d9_108) rfl (l' := #[rv r0, rv r1, iv 2, rv sA, rv wA, iv 2, iv 2, iv 1]) rfl ?_
       refine X20.baloadBytes hx (j := (1 : Int32)) (v := (.int 47)) (by rw [e20]; exact Ar_z13.1) (State.isArrayOf_alike hZ.alike Ar_z13.2.1) Ar_z13.2.2 hin21 (Has.at H_z13 hin21 rfl) (g := (mkF m 111 #[rv r0, rv r1, iv 2, rv sA, rv wA, iv 2, iv 2, iv 1] [(.int 1), (.ref wA), (.int x1)])) rfl rfl (hb hby d9_111) _ ?_
       refine XS.sipush X20.here hx rfl (hb hby d9_112) ?_
       refine XS.iand X20.here hx rfl (hb hby d9_115) rfl ?_
       exact q
      by_cases hc116_22 : x1 = (47 : Int32)
      · obtain ⟨fs, hr, hrun, hended, hW, hsame⟩ := X20.leave (v := some (.int 1)) (fun h => by rw [Bd.returns] at h; cases h)
        refine ⟨_, _, k23 _ ?_, hrun, hended, _, _, rfl, ?_, ⟨_, rfl⟩, hW, hsame.mono (by decide) (by decide)⟩
        · refine XS.icmpYes X20.here hx rfl (pc0 := 116) (pc' := 89) rfl (hb hby d9_116) rfl (teq hc116_22).1 (by decide) (by decide) ?_
          refine oIl X20 hx hby d9_89 rfl (oIl X20 hx hby d9_91 rfl ?_)
          refine XS.icmpYes X20.here hx rfl (pc0 := 93) (pc' := 121) rfl (hb hby d9_93) rfl (flt (by decide : ¬ ((2 : Int32) < (2 : Int32)))).2.1 (by decide) (by decide) ?_
          refine oIc X20 hx hby d9_121 ?_
          exact retN X20 hx (t := .boolean) Bd.returns (by simp) (hb hby d9_122) hr
        · show Q_SW_0 Z _ _ _ _ _ _ _ _ _ _ h0 n0 _ T20.heap _
          rw [e20]
          exact Or.inl (⟨rfl, N20, rfl, hc116_18, hc116_22⟩)
      · obtain ⟨fs, hr, hrun, hended, hW, hsame⟩ := X20.leave (v := some (.int 0)) (fun h => by rw [Bd.returns] at h; cases h)
        refine ⟨_, _, k23 _ ?_, hrun, hended, _, _, rfl, ?_, ⟨_, rfl⟩, hW, hsame.mono (by decide) (by decide)⟩
        · refine XS.icmpNo X20.here hx rfl (hb hby d9_116) rfl (feq hc116_22).1 ?_
          refine oIc X20 hx hby d9_119 ?_
          exact retN X20 hx (t := .boolean) Bd.returns (by simp) (hb hby d9_120) hr
        · show Q_SW_0 Z _ _ _ _ _ _ _ _ _ _ h0 n0 _ T20.heap _
          rw [e20]
          exact Or.inr (Or.inl (⟨rfl, N20, rfl, hc116_18, hc116_22⟩))
    · obtain ⟨fs, hr, hrun, hended, hW, hsame⟩ := X16.leave (v := some (.int 0)) (fun h => by rw [Bd.returns] at h; cases h)
      refine ⟨_, _, k19 _ ?_, hrun, hended, _, _, rfl, ?_, ⟨_, rfl⟩, hW, hsame.mono (by decide) (by decide)⟩
      · refine XS.icmpNo X16.here hx rfl (hb hby d9_116) rfl (feq hc116_18).1 ?_
        refine oIc X16 hx hby d9_119 ?_
        exact retN X16 hx (t := .boolean) Bd.returns (by simp) (hb hby d9_120) hr
      · show Q_SW_0 Z _ _ _ _ _ _ _ _ _ _ h0 n0 _ T16.heap _
        rw [e16]
        exact Or.inr (Or.inr ((⟨rfl, N16, rfl, hc116_18⟩)))
def Q_MM_1 (Z : State) (r0 : Addr) (r2 : Addr) (kA : ClassId) (kW : ClassId) (b0 : Int32) (b1 : Int32) (b2 : Int32) (b3 : Int32) (b4 : Int32) (h0 : Heap) (n0 : Nat) (v : Option Value) (h : Heap) (L : List Loc) : Prop := (v = some (.int (-1)) ∧ Fr n0 L ∧ h = h0 ∧ b1 = (87 : Int32) ∧ b2 = (47 : Int32)) ∨ (v = some (.int 1) ∧ Fr n0 L ∧ h = h0 ∧ b1 = (87 : Int32) ∧ ¬ (b2 = (47 : Int32))) ∨ (v = some (.int 0) ∧ Fr n0 L ∧ h = h0 ∧ ¬ (b1 = (87 : Int32)))
set_option maxRecDepth 65536 in
set_option maxHeartbeats 40000000 in
theorem rmMM_1 (l : Launch) (Z : State) (a0 : Array Value) (hw : ∀ d ∈ tables_1, d.before a0 Z = true) (ws : List Jvm.Cond) (r0 : Addr) (r2 : Addr) (kA : ClassId) (kW : ClassId) (b0 : Int32) (b1 : Int32) (b2 : Int32) (b3 : Int32) (b4 : Int32) (h0 : Heap) (n0 : Nat) (Z0 : n0 ≤ h0.size) (V_r0 : Arv Z h0 r0 kA .byte (5 : Int32) [(.int b0), (.int b1), (.int b2), (.int b3), (.int b4)] (.int 0)) (V_r2 : Arv Z h0 r2 kW .byte (2 : Int32) [(.int 87), (.int 47)] (.int 0)) :
    MetFree l (⟨cS11, "mismatch", "([BI[BII)I"⟩ : MethodName) (head1 (Jvm.Cond.code (⟨cS11, "mismatch", "([BI[BII)I"⟩ : MethodName) jdk_48_method_14_code 8 (some .int) :: ws) ({ frames := 0, cells := 0, slots := 0, locals := 0 } : Room)) (fun a U => a = #[(.ref r0), (.int 1), (.ref r2), (.int 0), (.int 2)] ∧ Z.Warmed39 U.vm ∧ U.heap = h0) (fun _ _ _ _ _ => True) (fun _ U o U' => ∃ v L, o = .returned v ∧ Q_MM_1 Z r0 r2 kA kW b0 b1 b2 b3 b4 h0 n0 v U'.heap L ∧ FrameEnd U o U' L 0 0) := by
  refine MetFree.of_bodySF (plainFor_of_name pn_jdk_internal_util_ArraysSupport) hisR ?_
  intro p e s m args below meth c s₁ Bd hml0 hP hK
  obtain ⟨rfl, hZ, hh⟩ := hP
  have hx := Bd.exec
  have hby := Bd.bytes
  have hml : c.maxLocals = 8 := hml0
  have hown : s.vm.findClass cS11 = some m.cls := findClass_of_methodNamed Bd.named
  have hnm := (name_of_methodNamed Bd.named Bd.method).1
  have X0 : Stand p l e ({ frames := 0, cells := 0, slots := 0, locals := 0 } : Room) s m #[(.ref r0), (.int 1), (.ref r2), (.int 0), (.int 2)] below meth c s₁ [] 0 0 := Stand.of_body Bd
  have e0 : s₁.heap = h0 := by rw [← hh, Bd.state]; rfl
  have N0 := Fr.nil n0
  have k0 : ∀ t, OwnS p e below s₁ (mkF m 0 #[rv r0, iv 1, rv r2, iv 0, iv 2, .unset, .unset, .unset] []) t → OwnS p e below s₁ (entryFrame m #[(.ref r0), (.int 1), (.ref r2), (.int 0), (.int 2)] 8) t := fun t k => castTop (ef_12 m r0 (1 : Int32) r2 (0 : Int32) (2 : Int32)) k
  obtain ⟨cl_z1, Ar_z1, q_z1, S_z1, N_z1, H_z1, G_z1⟩ := id V_r0
  have hin2 : ¬ ((1 : Int32) < 0 ∨ cl_z1.slots.size ≤ ((1 : Int32)).toNatClampNeg) := inb_of S_z1 ⟨by decide, by decide⟩
  obtain ⟨cl_z3, Ar_z3, q_z3, S_z3, N_z3, H_z3, G_z3⟩ := id V_r2
  have hin4 : ¬ ((0 : Int32) < 0 ∨ cl_z3.slots.size ≤ ((0 : Int32)).toNatClampNeg) := inb_of S_z3 ⟨by decide, by decide⟩
  have k6 : ∀ t, OwnS p e below s₁ (mkF m 89 #[rv r0, iv 1, rv r2, iv 0, iv 2, iv 0, .unset, .unset] [(.int 87), (.int b1)]) t → OwnS p e below s₁ (entryFrame m #[(.ref r0), (.int 1), (.ref r2), (.int 0), (.int 2)] 8) t := fun t q => by
   refine k0 t ?_
   show OwnS p e below s₁ (mkF m 0 #[rv r0, iv 1, rv r2, iv 0, iv 2, .unset, .unset, .unset] []) _
   refine oIc X0 hx hby d12_0 ?_
   refine XS.istore X0.here hx rfl (hb hby d12_1) rfl (l' := #[rv r0, iv 1, rv r2, iv 0, iv 2, iv 0, .unset, .unset]) rfl ?_
   refine oIl X0 hx hby d12_3 rfl (oBp X0 hx hby d12_5 ?_)
   refine XS.icmpYes X0.here hx rfl (pc0 := 7) (pc' := 70) rfl (hb hby d12_7) rfl (flt (by decide : ¬ ((7 : Int32) < (2 : Int32)))).2.2.2 (by decide) (by decide) ?_
   refine oIl X0 hx hby d12_70 rfl (oIl X0 hx hby d12_72 rfl ?_)
   refine XS.icmpNo X0.here hx rfl (hb hby d12_74) rfl (tlt (by decide : (0 : Int32) < (2 : Int32))).2.1 ?_
   refine oAn X0 hx hby d12_77 rfl rfl (oIn X0 hx hby d12_78 rfl (oIl X0 hx hby d12_79 rfl ?_))
   refine XS.iadd X0.here hx rfl (hb hby d12_81) rfl ?_
   refine X0.baloadBytes hx (j := (1 : Int32)) (v := (.int b1)) (by rw [e0]; exact Ar_z1.1) (State.isArrayOf_alike hZ.alike Ar_z1.2.1) Ar_z1.2.2 hin2 (Has.at H_z1 hin2 rfl) (g := (mkF m 82 #[rv r0, iv 1, rv r2, iv 0, iv 2, iv 0, .unset, .unset] [(.int 1), (.ref r0)])) rfl rfl (hb hby d12_82) _ ?_
   refine oAn X0 hx hby d12_83 rfl rfl (oIn X0 hx hby d12_84 rfl (oIl X0 hx hby d12_85 rfl ?_))
   refine XS.iadd X0.here hx rfl (hb hby d12_87) rfl ?_
   refine X0.baloadBytes hx (j := (0 : Int32)) (v := (.int 87)) (by rw [e0]; exact Ar_z3.1) (State.isArrayOf_alike hZ.alike Ar_z3.2.1) Ar_z3.2.2 hin4 (Has.at H_z3 hin4 rfl) (g := (mkF m 88 #[rv r0, iv 1, rv r2, iv 0, iv 2, iv 0, .unset, .unset] [(.int 0), (.ref r2), (.int b1)])) rfl rfl (hb hby d12_88) _ ?_
   exact q
  by_cases hc89_5 : b1 = (87 : Int32)
  · have hin7 : ¬ ((2 : Int32) < 0 ∨ cl_z1.slots.size ≤ ((2 : Int32)).toNatClampNeg) := inb_of S_z1 ⟨by decide, by decide⟩
    have hin8 : ¬ ((1 : Int32) < 0 ∨ cl_z3.slots.size ≤ ((1 : Int32)).toNatClampNeg) := inb_of S_z3 ⟨by decide, by decide⟩
    have k10 : ∀ t, OwnS p e below s₁ (mkF m 89 #[rv r0, iv 1, rv r2, iv 0, iv 2, iv 1, .unset, .unset] [(.int 47), (.int b2)]) t → OwnS p e below s₁ (entryFrame m #[(.ref r0), (.int 1), (.ref r2), (.int 0), (.int 2)] 8) t := fun t q => by
     refine k6 t ?_
     refine XS.icmpYes X0.here hx rfl (pc0 := 89) (pc' := 95) rfl (hb hby d12_89) rfl (teq hc89_5).1 (by decide) (by decide) ?_
     refine XS.iinc X0.here hx rfl (hb hby d12_95) rfl (l' := #[rv r0, iv 1, rv r2, iv 0, iv 2, iv 1, .unset, .unset]) rfl ?_
     refine oGo X0 hx hby 98 70 d12_98 (by decide) (by decide) (oIl X0 hx hby d12_70 rfl (oIl X0 hx hby d12_72 rfl ?_))
     refine XS.icmpNo X0.here hx rfl (hb hby d12_74) rfl (tlt (by decide : (1 : Int32) < (2 : Int32))).2.1 ?_
     refine oAn X0 hx hby d12_77 rfl rfl (oIn X0 hx hby d12_78 rfl (oIl X0 hx hby d12_79 rfl ?_))
     refine XS.iadd X0.here hx rfl (hb hby d12_81) rfl ?_
     refine X0.baloadBytes hx (j := (2 : Int32)) (v := (.int b2)) (by rw [e0]; exact Ar_z1.1) (State.isArrayOf_alike hZ.alike Ar_z1.2.1) Ar_z1.2.2 hin7 (Has.at H_z1 hin7 rfl) (g := (mkF m 82 #[rv r0, iv 1, rv r2, iv 0, iv 2, iv 1, .unset, .unset] [(.int 2), (.ref r0)])) rfl rfl (hb hby d12_82) _ ?_
     refine oAn X0 hx hby d12_83 rfl rfl (oIn X0 hx hby d12_84 rfl (oIl X0 hx hby d12_85 rfl ?_))
     refine XS.iadd X0.here hx rfl (hb hby d12_87) rfl ?_
     refine X0.baloadBytes hx (j := (1 : Int32)) (v := (.int 47)) (by rw [e0]; exact Ar_z3.1) (State.isArrayOf_alike hZ.alike Ar_z3.2.1) Ar_z3.2.2 hin8 (Has.at H_z3 hin8 rfl) (g := (mkF m 88 #[rv r0, iv 1, rv r2, iv 0, iv 2, iv 1, .unset, .unset] [(.int 1), (.ref r2), (.int b2)])) rfl rfl (hb hby d12_88) _ ?_
     exact q
    by_cases hc89_9 : b2 = (47 : Int32)
    · obtain ⟨fs, hr, hrun, hended, hW, hsame⟩ := X0.leave (v := some (.int (-1))) (fun h => by rw [Bd.returns] at h; cases h)
      refine ⟨_, _, k10 _ ?_, hrun, hended, _, _, rfl, ?_, ⟨_, rfl⟩, hW, hsame.mono (by decide) (by decide)⟩
      · refine XS.icmpYes X0.here hx rfl (pc0 := 89) (pc' := 95) rfl (hb hby d12_89) rfl (teq hc89_9).1 (by decide) (by decide) ?_
        refine XS.iinc X0.here hx rfl (hb hby d12_95) rfl (l' := #[rv r0, iv 1, rv r2, iv 0, iv 2, iv 2, .unset, .unset]) rfl ?_
        refine oGo X0 hx hby 98 70 d12_98 (by decide) (by decide) (oIl X0 hx hby d12_70 rfl (oIl X0 hx hby d12_72 rfl ?_))
        refine XS.icmpYes X0.here hx rfl (pc0 := 74) (pc' := 101) rfl (hb hby d12_74) rfl (flt (by decide : ¬ ((2 : Int32) < (2 : Int32)))).2.1 (by decide) (by decide) ?_
        refine oIc X0 hx hby d12_101 ?_
        exact retI X0 hx Bd.returns (hb hby d12_102) hr
      · show Q_MM_1 Z _ _ _ _ _ _ _ _ _ h0 n0 _ s₁.heap _
        rw [e0]
        exact Or.inl (⟨rfl, N0, rfl, hc89_5, hc89_9⟩)
    · obtain ⟨fs, hr, hrun, hended, hW, hsame⟩ := X0.leave (v := some (.int 1)) (fun h => by rw [Bd.returns] at h; cases h)
      refine ⟨_, _, k10 _ ?_, hrun, hended, _, _, rfl, ?_, ⟨_, rfl⟩, hW, hsame.mono (by decide) (by decide)⟩
      · refine XS.icmpNo X0.here hx rfl (hb hby d12_89) rfl (feq hc89_9).1 ?_
        refine oIl X0 hx hby d12_92 rfl ?_
        exact retI X0 hx Bd.returns (hb hby d12_94) hr
      · show Q_MM_1 Z _ _ _ _ _ _ _ _ _ h0 n0 _ s₁.heap _
        rw [e0]
        exact Or.inr (Or.inl (⟨rfl, N0, rfl, hc89_5, hc89_9⟩))
  · obtain ⟨fs, hr, hrun, hended, hW, hsame⟩ := X0.leave (v := some (.int 0)) (fun h => by rw [Bd.returns] at h; cases h)
    refine ⟨_, _, k6 _ ?_, hrun, hended, _, _, rfl, ?_, ⟨_, rfl⟩, hW, hsame.mono (by decide) (by decide)⟩
    · refine XS.icmpNo X0.here hx rfl (hb hby d12_89) rfl (feq hc89_5).1 ?_
      refine oIl X0 hx hby d12_92 rfl ?_
      exact retI X0 hx Bd.returns (hb hby d12_94) hr
    · show Q_MM_1 Z _ _ _ _ _ _ _ _ _ h0 n0 _ s₁.heap _
      rw [e0]
      exact Or.inr (Or.inr ((⟨rfl, N0, rfl, hc89_5⟩)))
def Q_SW_1 (Z : State) (r0 : Addr) (r1 : Addr) (w_CS : Int32) (wA : Addr) (kW : ClassId) (x0 : Int32) (x1 : Int32) (x2 : Int32) (x3 : Int32) (x4 : Int32) (h0 : Heap) (n0 : Nat) (v : Option Value) (h : Heap) (L : List Loc) : Prop := (v = some (.int 1) ∧ Fr n0 L ∧ h = h0 ∧ x1 = (87 : Int32) ∧ x2 = (47 : Int32)) ∨ (v = some (.int 0) ∧ Fr n0 L ∧ h = h0 ∧ x1 = (87 : Int32) ∧ ¬ (x2 = (47 : Int32))) ∨ (v = some (.int 0) ∧ Fr n0 L ∧ h = h0 ∧ ¬ (x1 = (87 : Int32)))
set_option maxRecDepth 65536 in
set_option maxHeartbeats 40000000 in
theorem rmSW_1 (l : Launch) (Z : State) (a0 : Array Value) (hw : ∀ d ∈ tables_1, d.before a0 Z = true) (ws : List Jvm.Cond) (r0 : Addr) (r1 : Addr) (w_CS : Int32) (wA : Addr) (kW : ClassId) (x0 : Int32) (x1 : Int32) (x2 : Int32) (x3 : Int32) (x4 : Int32) (h0 : Heap) (n0 : Nat) (Z0 : n0 ≤ h0.size) (S_CS : Sta Z h0 cS0 cS13 "Z" (.int w_CS)) (hcs : ¬ (w_CS = (0 : Int32))) (S_AD : Sta Z h0 cS1 cS6 "Z" (.int 1)) (S_HI : Sta Z h0 cS1 cS7 "I" (.int 0)) (S_LO : Sta Z h0 cS1 cS8 "I" (.int 8)) (P_r0 : own_S5 Z h0 r0 x0 x1 x2 x3 x4) (E_r1 : Exa Z h0 r1 cS0) (F_coder_r1 : Fld Z h0 r1 cS0 "coder" "B" (.int 0)) (F_value_r1 : Fld Z h0 r1 cS0 "value" "[B" (.ref wA)) (V_wA : Arv Z h0 wA kW .byte (2 : Int32) [(.int 87), (.int 47)] (.int 0)) (hch_x0 : own_ch x0) (hch_x1 : own_ch x1) (hch_x2 : own_ch x2) (hch_x3 : own_ch x3) (hch_x4 : own_ch x4) (E_r0 : Exa Z h0 r0 cS0) :
    MetFree l (⟨cS0, "startsWith", cS9⟩ : MethodName) (head1 (Jvm.Cond.code (⟨cS0, "startsWith", cS9⟩ : MethodName) jdk_42_method_75_code 8 (some .boolean) :: ws) ({ frames := 2, cells := 0, slots := 0, locals := 27 } : Room)) (fun a U => a = #[(.ref r0), (.ref r1), (.int 1)] ∧ Z.Warmed39 U.vm ∧ U.heap = h0) (fun _ _ _ _ _ => True) (fun _ U o U' => ∃ v L, o = .returned v ∧ Q_SW_1 Z r0 r1 w_CS wA kW x0 x1 x2 x3 x4 h0 n0 v U'.heap L ∧ FrameEnd U o U' L 0 0) := by
  refine MetFree.of_bodySF (plainFor_of_name pn_java_lang_String) hisR ?_
  intro p e s m args below meth c s₁ Bd hml0 hP hK
  obtain ⟨rfl, hZ, hh⟩ := hP
  have hx := Bd.exec
  have hby := Bd.bytes
  have hml : c.maxLocals = 8 := hml0
  have hown : s.vm.findClass cS0 = some m.cls := findClass_of_methodNamed Bd.named
  have hnm := (name_of_methodNamed Bd.named Bd.method).1
  have X0 : Stand p l e ({ frames := 2, cells := 0, slots := 0, locals := 27 } : Room) s m #[(.ref r0), (.ref r1), (.int 1)] below meth c s₁ [] 0 0 := Stand.of_body Bd
  have e0 : s₁.heap = h0 := by rw [← hh, Bd.state]; rfl
  have N0 := Fr.nil n0
  have k0 : ∀ t, OwnS p e below s₁ (mkF m 0 #[rv r0, rv r1, iv 1, .unset, .unset, .unset, .unset, .unset] []) t → OwnS p e below s₁ (entryFrame m #[(.ref r0), (.ref r1), (.int 1)] 8) t := fun t k => castTop (ef_9 m r0 r1 (1 : Int32)) k
  obtain ⟨cq1, kq1, q1a, q1b, q1c⟩ := isOf hZ e0 E_r0
  obtain ⟨_, _, ⟨T1, L1, j1, i1⟩, -, X1, ⟨Lc1, hQ1, l1, y1, z1⟩, st1⟩ := X0.virtualBack hx (y := (⟨cS0, "length", "()I"⟩ : MethodName)) (z := (⟨cS0, "length", "()I"⟩ : MethodName)) hown (mvT hZ (own_at hw 47 rfl)) (mvT hZ (own_at hw 48 rfl)) (notFace_of_selects (args := #[]) (mvT hZ (own_at hw 50 rfl))) (mvT hZ (own_at hw 50 rfl)) (mvT hZ (own_at hw 49 rfl)) (by decide) (backOf (W := 1) (rmLen_5 l Z a0 hw [] r0 w_CS x0 x1 x2 x3 x4 h0 n0 Z0 S_CS hcs P_r0) hZ (own_at hw 51 rfl) (own_at hw 8 rfl) (by decide) (by decide)) q1a q1c (g := (mkF m 6 #[rv r0, rv r1, iv 1, .unset, .unset, .unset, .unset, .unset] [(.ref r0), (.int 1)])) rfl (by rw [hml]; rfl) (Steps.refl _) (argsL := []) (rest := [(.int 1)]) (lenOf pd_16 rfl) rfl (Nat.le_refl _) (hb hby d9_6) (fun _ _ => ⟨rfl, e0, (by decide : 0 + 0 ≤ _), (by decide : 0 + 0 ≤ _)⟩)
  dsimp only [Pt.U, Pt.locs, Pt.cells, Pt.slots] at X1 l1 y1 z1 st1 hQ1
  subst l1 y1 z1
  obtain ⟨rfl, N1q, e1⟩ := hQ1
  have N1 := Fr.app N0 N1q
  obtain ⟨cq2, kq2, q2a, q2b, q2c⟩ := isOf hZ e1 E_r1
  obtain ⟨_, _, ⟨T2, L2, j2, i2⟩, -, X2, ⟨Lc2, hQ2, l2, y2, z2⟩, st2⟩ := X1.virtualBack hx (y := (⟨cS0, "length", "()I"⟩ : MethodName)) (z := (⟨cS0, "length", "()I"⟩ : MethodName)) hown (mvT hZ (own_at hw 47 rfl)) (mvT hZ (own_at hw 48 rfl)) (notFace_of_selects (args := #[]) (mvT hZ (own_at hw 50 rfl))) (mvT hZ (own_at hw 50 rfl)) (mvT hZ (own_at hw 49 rfl)) (by decide) (backOf (W := 2) (rmLenL l Z a0 hw [] r1 w_CS wA kW [(.int 87), (.int 47)] h0 n0 Z0 S_CS hcs E_r1 F_coder_r1 F_value_r1 V_wA) hZ (own_at hw 51 rfl) (own_at hw 8 rfl) (by decide) (by decide)) q2a q2c (g := (mkF m 10 #[rv r0, rv r1, iv 1, .unset, .unset, .unset, .unset, .unset] [(.ref r1), (.int 5), (.int 1)])) rfl (by rw [hml]; rfl) (Steps.refl _) (argsL := []) (rest := [(.int 5), (.int 1)]) (lenOf pd_16 rfl) rfl (Nat.le_refl _) (hb hby d9_10) (fun _ _ => ⟨rfl, e1, (by decide : 0 + 0 ≤ _), (by decide : 0 + 0 ≤ _)⟩)
  dsimp only [Pt.U, Pt.locs, Pt.cells, Pt.slots] at X2 l2 y2 z2 st2 hQ2
  subst l2 y2 z2
  obtain ⟨rfl, N2q, e2⟩ := hQ2
  have N2 := Fr.app N1 N2q
  have k3 : ∀ t, OwnS p e below T2 (mkF m 19 #[rv r0, rv r1, iv 1, .unset, .unset, .unset, .unset, .unset] []) t → OwnS p e below s₁ (entryFrame m #[(.ref r0), (.ref r1), (.int 1)] 8) t := fun t q => by
   refine k0 t ?_
   show OwnS p e below s₁ (mkF m 0 #[rv r0, rv r1, iv 1, .unset, .unset, .unset, .unset, .unset] []) _
   refine oIn X0 hx hby d9_0 rfl ?_
   refine XS.ifNo X0.here hx rfl (hb hby d9_1) rfl ((if0 _ _).trans (flt (by decide : ¬ ((1 : Int32) < (0 : Int32)))).1) ?_
   refine oIn X0 hx hby d9_4 rfl (oAn X0 hx hby d9_5 rfl rfl ?_)
   refine st1.trans ?_
   refine oAn X1 hx hby d9_9 rfl rfl ?_
   refine st2.trans ?_
   refine XS.isub X2.here hx rfl (hb hby d9_13) rfl ?_
   refine XS.icmpYes X2.here hx rfl (pc0 := 14) (pc' := 19) rfl (hb hby d9_14) rfl (flt (by decide : ¬ ((3 : Int32) < (1 : Int32)))).2.2.2 (by decide) (by decide) ?_
   exact q
  rcases id P_r0 with ⟨eS, ⟨sA, kS, fC, fV, vA, hl0, hl1, hl2, hl3, hl4⟩ | ⟨sA, kS, fC, fV, vA⟩⟩
  · skip
    obtain ⟨T4, X4, e4, st4⟩ := getF X2 hx hZ hown (host := "") (Or.inl (own_at hw 33 rfl)) Via.refl e2 fV (g := (mkF m 20 #[rv r0, rv r1, iv 1, .unset, .unset, .unset, .unset, .unset] [(.ref r0)])) rfl rfl (hb hby d9_20)
    obtain ⟨T5, X5, e5, st5⟩ := getF X4 hx hZ hown (host := "") (Or.inl (own_at hw 33 rfl)) Via.refl e4 F_value_r1 (g := (mkF m 25 #[rv r0, rv r1, iv 1, rv sA, .unset, .unset, .unset, .unset] [(.ref r1)])) rfl rfl (hb hby d9_25)
    obtain ⟨cl_z6, Ar_z6, q_z6, S_z6, N_z6, H_z6, G_z6⟩ := id V_wA
    obtain ⟨cq7, kq7, q7a, q7b, q7c⟩ := isOf hZ e5 eS
    obtain ⟨_, _, ⟨T7, L7, j7, i7⟩, -, X7, ⟨Lc7, hQ7, l7, y7, z7⟩, st7⟩ := X5.virtualBack hx (y := (⟨cS0, "coder", "()B"⟩ : MethodName)) (z := (⟨cS0, "coder", "()B"⟩ : MethodName)) hown (mvT hZ (own_at hw 52 rfl)) (mvT hZ (own_at hw 53 rfl)) (notFace_of_selects (args := #[]) (mvT hZ (own_at hw 55 rfl))) (mvT hZ (own_at hw 55 rfl)) (mvT hZ (own_at hw 54 rfl)) (by decide) (backOf (W := 0) (rmCo0 l Z a0 hw [] r0 w_CS h0 n0 Z0 S_CS hcs fC) hZ (own_at hw 56 rfl) (own_at hw 8 rfl) (by decide) (by decide)) q7a q7c (g := (mkF m 39 #[rv r0, rv r1, iv 1, rv sA, rv wA, iv 0, iv 2, .unset] [(.ref r0)])) rfl (by rw [hml]; rfl) (Steps.refl _) (argsL := []) (rest := []) (lenOf pd_9 rfl) rfl (Nat.le_refl _) (hb hby d9_39) (fun _ _ => ⟨rfl, e5, (by decide : 0 + 0 ≤ _), (by decide : 0 + 0 ≤ _)⟩)
    dsimp only [Pt.U, Pt.locs, Pt.cells, Pt.slots] at X7 l7 y7 z7 st7 hQ7
    subst l7 y7 z7
    obtain ⟨rfl, N7q, e7⟩ := hQ7
    have N7 := Fr.app N2 N7q
    obtain ⟨cq8, kq8, q8a, q8b, q8c⟩ := isOf hZ e7 E_r1
    obtain ⟨_, _, ⟨T8, L8, j8, i8⟩, -, X8, ⟨Lc8, hQ8, l8, y8, z8⟩, st8⟩ := X7.virtualBack hx (y := (⟨cS0, "coder", "()B"⟩ : MethodName)) (z := (⟨cS0, "coder", "()B"⟩ : MethodName)) hown (mvT hZ (own_at hw 52 rfl)) (mvT hZ (own_at hw 53 rfl)) (notFace_of_selects (args := #[]) (mvT hZ (own_at hw 55 rfl))) (mvT hZ (own_at hw 55 rfl)) (mvT hZ (own_at hw 54 rfl)) (by decide) (backOf (W := 1) (rmCo0 l Z a0 hw [] r1 w_CS h0 n0 Z0 S_CS hcs F_coder_r1) hZ (own_at hw 56 rfl) (own_at hw 8 rfl) (by decide) (by decide)) q8a q8c (g := (mkF m 47 #[rv r0, rv r1, iv 1, rv sA, rv wA, iv 0, iv 2, iv 0] [(.ref r1), (.int 0)])) rfl (by rw [hml]; rfl) (Steps.refl _) (argsL := []) (rest := [(.int 0)]) (lenOf pd_9 rfl) rfl (Nat.le_refl _) (hb hby d9_47) (fun _ _ => ⟨rfl, e7, (by decide : 0 + 0 ≤ _), (by decide : 0 + 0 ≤ _)⟩)
    dsimp only [Pt.U, Pt.locs, Pt.cells, Pt.slots] at X8 l8 y8 z8 st8 hQ8
    subst l8 y8 z8
    obtain ⟨rfl, N8q, e8⟩ := hQ8
    have N8 := Fr.app N7 N8q
    obtain ⟨_, _, ⟨T9, L9, j9, i9⟩, -, X9, ⟨Lc9, hQ9, l9, y9, z9⟩, st9⟩ := Jvm.LawKit.callS X8 hx (y := (⟨cS11, "mismatch", "([BI[BII)I"⟩ : MethodName)) hown (mvT hZ (own_at hw 57 rfl)) (mvT hZ (own_at hw 58 rfl)) (mvT hZ (own_at hw 59 rfl)) (mvT hZ (own_at hw 60 rfl)) (by decide) (backOf (W := 0) (rmMM_1 l Z a0 hw [] sA wA kS kW ((x0.toInt8.toInt32).toInt8.toInt32) ((x1.toInt8.toInt32).toInt8.toInt32) ((x2.toInt8.toInt32).toInt8.toInt32) ((x3.toInt8.toInt32).toInt8.toInt32) ((x4.toInt8.toInt32).toInt8.toInt32) h0 n0 Z0 vA V_wA) hZ (own_at hw 60 rfl) (own_at hw 59 rfl) (by decide) (by decide)) (g := (mkF m 70 #[rv r0, rv r1, iv 1, rv sA, rv wA, iv 0, iv 2, iv 0] [(.int 2), (.int 0), (.ref wA), (.int 1), (.ref sA)])) rfl (by rw [hml]; rfl) (argsL := [(.ref sA), (.int 1), (.ref wA), (.int 0), (.int 2)]) (rest := []) (lenOf pd_17 rfl) rfl (Nat.le_refl _) (hb hby d9_70) (fun _ _ => ⟨rfl, e8, (by decide : 0 + 0 ≤ _), (by decide : 0 + 0 ≤ _)⟩)
    dsimp only [Pt.U, Pt.locs, Pt.cells, Pt.slots] at X9 l9 y9 z9 st9 hQ9
    subst l9 y9 z9
    have k10 : ∀ t, OwnS p e below T8 (mkF m 70 #[rv r0, rv r1, iv 1, rv sA, rv wA, iv 0, iv 2, iv 0] [(.int 2), (.int 0), (.ref wA), (.int 1), (.ref sA)]) t → OwnS p e below s₁ (entryFrame m #[(.ref r0), (.ref r1), (.int 1)] 8) t := fun t q => by
     refine k3 t ?_
     show OwnS p e below T2 (mkF m 19 #[rv r0, rv r1, iv 1, .unset, .unset, .unset, .unset, .unset] []) _
     refine oAn X2 hx hby d9_19 rfl rfl ?_
     refine st4 _ ?_
     refine XS.astoreN X4.here hx rfl (hb hby d9_23) rfl rfl (l' := #[rv r0, rv r1, iv 1, rv sA, .unset, .unset, .unset, .unset]) rfl ?_
     refine oAn X4 hx hby d9_24 rfl rfl ?_
     refine st5 _ ?_
     refine XS.astore X5.here hx rfl (hb hby d9_28) rfl rfl (l' := #[rv r0, rv r1, iv 1, rv sA, rv wA, .unset, .unset, .unset]) rfl ?_
     refine oIc X5 hx hby d9_30 ?_
     refine XS.istore X5.here hx rfl (hb hby d9_31) rfl (l' := #[rv r0, rv r1, iv 1, rv sA, rv wA, iv 0, .unset, .unset]) rfl ?_
     refine oAl X5 hx hby d9_33 rfl rfl ?_
     refine X5.arraylength hx (by rw [e5]; exact Ar_z6.1) (State.isArrayOf_alike hZ.alike Ar_z6.2.1) (g := (mkF m 35 #[rv r0, rv r1, iv 1, rv sA, rv wA, iv 0, .unset, .unset] [(.ref wA)])) rfl rfl (hb hby d9_35) _ ?_
     rw [len_of S_z6 N_z6]
     refine XS.istore X5.here hx rfl (hb hby d9_36) rfl (l' := #[rv r0, rv r1, iv 1, rv sA, rv wA, iv 0, iv 2, .unset]) rfl ?_
     refine oAn X5 hx hby d9_38 rfl rfl ?_
     refine st7.trans ?_
     refine XS.istore X7.here hx rfl (hb hby d9_42) rfl (l' := #[rv r0, rv r1, iv 1, rv sA, rv wA, iv 0, iv 2, iv 0]) rfl ?_
     refine oIl X7 hx hby d9_44 rfl (oAn X7 hx hby d9_46 rfl rfl ?_)
     refine st8.trans ?_
     refine XS.icmpNo X8.here hx rfl (hb hby d9_50) rfl (teq (by decide : (0 : Int32) = (0 : Int32))).2 ?_
     refine oIl X8 hx hby d9_53 rfl (oIc X8 hx hby d9_55 ?_)
     refine XS.icmpYes X8.here hx rfl (pc0 := 56) (pc' := 63) rfl (hb hby d9_56) rfl (feq (by decide : ¬ ((0 : Int32) = (1 : Int32)))).2 (by decide) (by decide) ?_
     refine oAn X8 hx hby d9_63 rfl rfl (oIn X8 hx hby d9_64 rfl (oAl X8 hx hby d9_65 rfl rfl (oIc X8 hx hby d9_67 (oIl X8 hx hby d9_68 rfl ?_))))
     exact q
    rcases hQ9 with ⟨rfl, N9q, e9, p9_0, p9_1⟩ | ⟨rfl, N9q, e9, p9_0, p9_1⟩ | ⟨rfl, N9q, e9, p9_0⟩
    · have N9 := Fr.app N8 N9q
      obtain ⟨fs, hr, hrun, hended, hW, hsame⟩ := X9.leave (v := some (.int 1)) (fun h => by rw [Bd.returns] at h; cases h)
      refine ⟨_, _, k10 _ ?_, hrun, hended, _, _, rfl, ?_, ⟨_, rfl⟩, hW, hsame.mono (by decide) (by decide)⟩
      · refine st9 _ ?_
        refine XS.ifNo X9.here hx rfl (hb hby d9_73) rfl ((if0 _ _).trans (tlt (by decide : (-1 : Int32) < (0 : Int32))).2.1) ?_
        refine oIc X9 hx hby d9_76 (oGo X9 hx hby 77 81 d9_77 (by decide) (by decide) ?_)
        exact retN X9 hx (t := .boolean) Bd.returns (by simp) (hb hby d9_81) hr
      · show Q_SW_1 Z _ _ _ _ _ _ _ _ _ _ h0 n0 _ T9.heap _
        rw [e9]
        exact Or.inl (⟨rfl, N9, rfl, (own_nbinj hch_x1 hl1 (by decide) (by decide) p9_0), (own_nbinj hch_x2 hl2 (by decide) (by decide) p9_1)⟩)
    · have N9 := Fr.app N8 N9q
      obtain ⟨fs, hr, hrun, hended, hW, hsame⟩ := X9.leave (v := some (.int 0)) (fun h => by rw [Bd.returns] at h; cases h)
      refine ⟨_, _, k10 _ ?_, hrun, hended, _, _, rfl, ?_, ⟨_, rfl⟩, hW, hsame.mono (by decide) (by decide)⟩
      · refine st9 _ ?_
        refine XS.ifYes X9.here hx rfl (pc0 := 73) (pc' := 80) rfl (hb hby d9_73) rfl ((if0 _ _).trans (flt (by decide : ¬ ((1 : Int32) < (0 : Int32)))).2.1) (by decide) (by decide) ?_
        refine oIc X9 hx hby d9_80 ?_
        exact retN X9 hx (t := .boolean) Bd.returns (by simp) (hb hby d9_81) hr
      · show Q_SW_1 Z _ _ _ _ _ _ _ _ _ _ h0 n0 _ T9.heap _
        rw [e9]
        exact Or.inr (Or.inl (⟨rfl, N9, rfl, (own_nbinj hch_x1 hl1 (by decide) (by decide) p9_0), (fun q => p9_1 (by rw [q]; decide))⟩))
    · have N9 := Fr.app N8 N9q
      obtain ⟨fs, hr, hrun, hended, hW, hsame⟩ := X9.leave (v := some (.int 0)) (fun h => by rw [Bd.returns] at h; cases h)
      refine ⟨_, _, k10 _ ?_, hrun, hended, _, _, rfl, ?_, ⟨_, rfl⟩, hW, hsame.mono (by decide) (by decide)⟩
      · refine st9 _ ?_
        refine XS.ifYes X9.here hx rfl (pc0 := 73) (pc' := 80) rfl (hb hby d9_73) rfl ((if0 _ _).trans (flt (by decide : ¬ ((0 : Int32) < (0 : Int32)))).2.1) (by decide) (by decide) ?_
        refine oIc X9 hx hby d9_80 ?_
        exact retN X9 hx (t := .boolean) Bd.returns (by simp) (hb hby d9_81) hr
      · show Q_SW_1 Z _ _ _ _ _ _ _ _ _ _ h0 n0 _ T9.heap _
        rw [e9]
        exact Or.inr (Or.inr ((⟨rfl, N9, rfl, (fun q => p9_0 (by rw [q]; decide))⟩)))
  · skip
    obtain ⟨T11, X11, e11, st11⟩ := getF X2 hx hZ hown (host := "") (Or.inl (own_at hw 33 rfl)) Via.refl e2 fV (g := (mkF m 20 #[rv r0, rv r1, iv 1, .unset, .unset, .unset, .unset, .unset] [(.ref r0)])) rfl rfl (hb hby d9_20)
    obtain ⟨T12, X12, e12, st12⟩ := getF X11 hx hZ hown (host := "") (Or.inl (own_at hw 33 rfl)) Via.refl e11 F_value_r1 (g := (mkF m 25 #[rv r0, rv r1, iv 1, rv sA, .unset, .unset, .unset, .unset] [(.ref r1)])) rfl rfl (hb hby d9_25)
    obtain ⟨cl_z13, Ar_z13, q_z13, S_z13, N_z13, H_z13, G_z13⟩ := id V_wA
    obtain ⟨cq14, kq14, q14a, q14b, q14c⟩ := isOf hZ e12 eS
    obtain ⟨_, _, ⟨T14, L14, j14, i14⟩, -, X14, ⟨Lc14, hQ14, l14, y14, z14⟩, st14⟩ := X12.virtualBack hx (y := (⟨cS0, "coder", "()B"⟩ : MethodName)) (z := (⟨cS0, "coder", "()B"⟩ : MethodName)) hown (mvT hZ (own_at hw 52 rfl)) (mvT hZ (own_at hw 53 rfl)) (notFace_of_selects (args := #[]) (mvT hZ (own_at hw 55 rfl))) (mvT hZ (own_at hw 55 rfl)) (mvT hZ (own_at hw 54 rfl)) (by decide) (backOf (W := 0) (rmCo1 l Z a0 hw [] r0 w_CS h0 n0 Z0 S_CS hcs fC) hZ (own_at hw 56 rfl) (own_at hw 8 rfl) (by decide) (by decide)) q14a q14c (g := (mkF m 39 #[rv r0, rv r1, iv 1, rv sA, rv wA, iv 0, iv 2, .unset] [(.ref r0)])) rfl (by rw [hml]; rfl) (Steps.refl _) (argsL := []) (rest := []) (lenOf pd_9 rfl) rfl (Nat.le_refl _) (hb hby d9_39) (fun _ _ => ⟨rfl, e12, (by decide : 0 + 0 ≤ _), (by decide : 0 + 0 ≤ _)⟩)
    dsimp only [Pt.U, Pt.locs, Pt.cells, Pt.slots] at X14 l14 y14 z14 st14 hQ14
    subst l14 y14 z14
    obtain ⟨rfl, N14q, e14⟩ := hQ14
    have N14 := Fr.app N2 N14q
    obtain ⟨cq15, kq15, q15a, q15b, q15c⟩ := isOf hZ e14 E_r1
    obtain ⟨_, _, ⟨T15, L15, j15, i15⟩, -, X15, ⟨Lc15, hQ15, l15, y15, z15⟩, st15⟩ := X14.virtualBack hx (y := (⟨cS0, "coder", "()B"⟩ : MethodName)) (z := (⟨cS0, "coder", "()B"⟩ : MethodName)) hown (mvT hZ (own_at hw 52 rfl)) (mvT hZ (own_at hw 53 rfl)) (notFace_of_selects (args := #[]) (mvT hZ (own_at hw 55 rfl))) (mvT hZ (own_at hw 55 rfl)) (mvT hZ (own_at hw 54 rfl)) (by decide) (backOf (W := 1) (rmCo0 l Z a0 hw [] r1 w_CS h0 n0 Z0 S_CS hcs F_coder_r1) hZ (own_at hw 56 rfl) (own_at hw 8 rfl) (by decide) (by decide)) q15a q15c (g := (mkF m 47 #[rv r0, rv r1, iv 1, rv sA, rv wA, iv 0, iv 2, iv 1] [(.ref r1), (.int 1)])) rfl (by rw [hml]; rfl) (Steps.refl _) (argsL := []) (rest := [(.int 1)]) (lenOf pd_9 rfl) rfl (Nat.le_refl _) (hb hby d9_47) (fun _ _ => ⟨rfl, e14, (by decide : 0 + 0 ≤ _), (by decide : 0 + 0 ≤ _)⟩)
    dsimp only [Pt.U, Pt.locs, Pt.cells, Pt.slots] at X15 l15 y15 z15 st15 hQ15
    subst l15 y15 z15
    obtain ⟨rfl, N15q, e15⟩ := hQ15
    have N15 := Fr.app N14 N15q
    obtain ⟨_, _, ⟨T16, L16, j16, i16⟩, -, X16, ⟨Lc16, hQ16, l16, y16, z16⟩, st16⟩ := Jvm.LawKit.callS X15 hx (y := (⟨cS1, "getChar", "([BI)C"⟩ : MethodName)) hown (mvT hZ (own_at hw 113 rfl)) (mvT hZ (own_at hw 111 rfl)) (mvT hZ (own_at hw 22 rfl)) (mvT hZ (own_at hw 112 rfl)) (by decide) (backOf (W := 0) (rmGC_5_1 l Z a0 hw [] sA kS x0 x1 x2 x3 x4 h0 n0 Z0 S_AD S_HI S_LO vA hch_x1) hZ (own_at hw 112 rfl) (own_at hw 22 rfl) (by decide) (by decide)) (g := (mkF m 101 #[rv r0, rv r1, iv 2, rv sA, rv wA, iv 0, iv 2, iv 1] [(.int 1), (.ref sA)])) rfl (by rw [hml]; rfl) (argsL := [(.ref sA), (.int 1)]) (rest := []) (lenOf pd_6 rfl) rfl (Nat.le_refl _) (hb hby d9_101) (fun _ _ => ⟨rfl, e15, (by decide : 0 + 0 ≤ _), (by decide : 0 + 0 ≤ _)⟩)
    dsimp only [Pt.U, Pt.locs, Pt.cells, Pt.slots] at X16 l16 y16 z16 st16 hQ16
    subst l16 y16 z16
    obtain ⟨rfl, N16q, e16⟩ := hQ16
    have N16 := Fr.app N15 N16q
    have hin17 : ¬ ((0 : Int32) < 0 ∨ cl_z13.slots.size ≤ ((0 : Int32)).toNatClampNeg) := inb_of S_z13 ⟨by decide, by decide⟩
    have k19 : ∀ t, OwnS p e below T16 (mkF m 116 #[rv r0, rv r1, iv 2, rv sA, rv wA, iv 1, iv 2, iv 1] [(.int 87), (.int x1)]) t → OwnS p e below s₁ (entryFrame m #[(.ref r0), (.ref r1), (.int 1)] 8) t := fun t q => by
     refine k3 t ?_
     show OwnS p e below T2 (mkF m 19 #[rv r0, rv r1, iv 1, .unset, .unset, .unset, .unset, .unset] []) _
     refine oAn X2 hx hby d9_19 rfl rfl ?_
     refine st11 _ ?_
     refine XS.astoreN X11.here hx rfl (hb hby d9_23) rfl rfl (l' := #[rv r0, rv r1, iv 1, rv sA, .unset, .unset, .unset, .unset]) rfl ?_
     refine oAn X11 hx hby d9_24 rfl rfl ?_
     refine st12 _ ?_
     refine XS.astore X12.here hx rfl (hb hby d9_28) rfl rfl (l' := #[rv r0, rv r1, iv 1, rv sA, rv wA, .unset, .unset, .unset]) rfl ?_
     refine oIc X12 hx hby d9_30 ?_
     refine XS.istore X12.here hx rfl (hb hby d9_31) rfl (l' := #[rv r0, rv r1, iv 1, rv sA, rv wA, iv 0, .unset, .unset]) rfl ?_
     refine oAl X12 hx hby d9_33 rfl rfl ?_
     refine X12.arraylength hx (by rw [e12]; exact Ar_z13.1) (State.isArrayOf_alike hZ.alike Ar_z13.2.1) (g := (mkF m 35 #[rv r0, rv r1, iv 1, rv sA, rv wA, iv 0, .unset, .unset] [(.ref wA)])) rfl rfl (hb hby d9_35) _ ?_
     rw [len_of S_z13 N_z13]
     refine XS.istore X12.here hx rfl (hb hby d9_36) rfl (l' := #[rv r0, rv r1, iv 1, rv sA, rv wA, iv 0, iv 2, .unset]) rfl ?_
     refine oAn X12 hx hby d9_38 rfl rfl ?_
     refine st14.trans ?_
     refine XS.istore X14.here hx rfl (hb hby d9_42) rfl (l' := #[rv r0, rv r1, iv 1, rv sA, rv wA, iv 0, iv 2, iv 1]) rfl ?_
     refine oIl X14 hx hby d9_44 rfl (oAn X14 hx hby d9_46 rfl rfl ?_)
     refine st15.trans ?_
     refine XS.icmpYes X15.here hx rfl (pc0 := 50) (pc' := 82) rfl (hb hby d9_50) rfl (feq (by decide : ¬ ((1 : Int32) = (0 : Int32)))).2 (by decide) (by decide) ?_
     refine oIl X15 hx hby d9_82 rfl ?_
     refine XS.ifYes X15.here hx rfl (pc0 := 84) (pc' := 89) rfl (hb hby d9_84) rfl ((if0 _ _).trans (feq (by decide : ¬ ((1 : Int32) = (0 : Int32)))).2) (by decide) (by decide) ?_
     refine oIl X15 hx hby d9_89 rfl (oIl X15 hx hby d9_91 rfl ?_)
     refine XS.icmpNo X15.here hx rfl (hb hby d9_93) rfl (tlt (by decide : (0 : Int32) < (2 : Int32))).2.1 ?_
     refine oAn X15 hx hby d9_96 rfl rfl (oIn X15 hx hby d9_97 rfl ?_)
     refine XS.iinc X15.here hx rfl (hb hby d9_98) rfl (l' := #[rv r0, rv r1, iv 2, rv sA, rv wA, iv 0, iv 2, iv 1]) rfl ?_
     refine st16 _ ?_
     refine oAl X16 hx hby d9_104 rfl rfl (oIl X16 hx hby d9_106 rfl ?_)
     refine XS.iinc X16.here hx rfl (hb hby d9_108) rfl (l' := #[rv r0, rv r1, iv 2, rv sA, rv wA, iv 1, iv 2, iv 1]) rfl ?_
     refine X16.baloadBytes hx (j := (0 : Int32)) (v := (.int 87)) (by rw [e16]; exact Ar_z13.1) (State.isArrayOf_alike hZ.alike Ar_z13.2.1) Ar_z13.2.2 hin17 (Has.at H_z13 hin17 rfl) (g := (mkF m 111 #[rv r0, rv r1, iv 2, rv sA, rv wA, iv 1, iv 2, iv 1] [(.int 0), (.ref wA), (.int x1)])) rfl rfl (hb hby d9_111) _ ?_
     refine XS.sipush X16.here hx rfl (hb hby d9_112) ?_
     refine XS.iand X16.here hx rfl (hb hby d9_115) rfl ?_
     exact q
    by_cases hc116_18 : x1 = (87 : Int32)
    · obtain ⟨_, _, ⟨T20, L20, j20, i20⟩, -, X20, ⟨Lc20, hQ20, l20, y20, z20⟩, st20⟩ := Jvm.LawKit.callS X16 hx (y := (⟨cS1, "getChar", "([BI)C"⟩ : MethodName)) hown (mvT hZ (own_at hw 113 rfl)) (mvT hZ (own_at hw 111 rfl)) (mvT hZ (own_at hw 22 rfl)) (mvT hZ (own_at hw 112 rfl)) (by decide) (backOf (W := 0) (rmGC_5_2 l Z a0 hw [] sA kS x0 x1 x2 x3 x4 h0 n0 Z0 S_AD S_HI S_LO vA hch_x2) hZ (own_at hw 112 rfl) (own_at hw 22 rfl) (by decide) (by decide)) (g := (mkF m 101 #[rv r0, rv r1, iv 3, rv sA, rv wA, iv 1, iv 2, iv 1] [(.int 2), (.ref sA)])) rfl (by rw [hml]; rfl) (argsL := [(.ref sA), (.int 2)]) (rest := []) (lenOf pd_6 rfl) rfl (Nat.le_refl _) (hb hby d9_101) (fun _ _ => ⟨rfl, e16, (by decide : 0 + 0 ≤ _), (by decide : 0 + 0 ≤ _)⟩)
      dsimp only [Pt.U, Pt.locs, Pt.cells, Pt.slots] at X20 l20 y20 z20 st20 hQ20
      subst l20 y20 z20
      obtain ⟨rfl, N20q, e20⟩ := hQ20
      have N20 := Fr.app N16 N20q
      have hin21 : ¬ ((1 : Int32) < 0 ∨ cl_z13.slots.size ≤ ((1 : Int32)).toNatClampNeg) := inb_of S_z13 ⟨by decide, by decide⟩
      have k23 : ∀ t, OwnS p e below T20 (mkF m 116 #[rv r0, rv r1, iv 3, rv sA, rv wA, iv 2, iv 2, iv 1] [(.int 47), (.int x2)]) t → OwnS p e below s₁ (entryFrame m #[(.ref r0), (.ref r1), (.int 1)] 8) t := fun t q => by
       refine k19 t ?_
       refine XS.icmpYes X16.here hx rfl (pc0 := 116) (pc' := 89) rfl (hb hby d9_116) rfl (teq hc116_18).1 (by decide) (by decide) ?_
       refine oIl X16 hx hby d9_89 rfl (oIl X16 hx hby d9_91 rfl ?_)
       refine XS.icmpNo X16.here hx rfl (hb hby d9_93) rfl (tlt (by decide : (1 : Int32) < (2 : Int32))).2.1 ?_
       refine oAn X16 hx hby d9_96 rfl rfl (oIn X16 hx hby d9_97 rfl ?_)
       refine XS.iinc X16.here hx rfl (hb hby d9_98) rfl (l' := #[rv r0, rv r1, iv 3, rv sA, rv wA, iv 1, iv 2, iv 1]) rfl ?_
       refine st20 _ ?_
       refine oAl X20 hx hby d9_104 rfl rfl (oIl X20 hx hby d9_106 rfl ?_)
       refine XS.iinc X20.here hx rfl (hb hby d9_108) rfl (l' := #[rv r0, rv r1, iv 3, rv sA, rv wA, iv 2, iv 2, iv 1]) rfl ?_
       refine X20.baloadBytes hx (j := (1 : Int32)) (v := (.int 47)) (by rw [e20]; exact Ar_z13.1) (State.isArrayOf_alike hZ.alike Ar_z13.2.1) Ar_z13.2.2 hin21 (Has.at H_z13 hin21 rfl) (g := (mkF m 111 #[rv r0, rv r1, iv 3, rv sA, rv wA, iv 2, iv 2, iv 1] [(.int 1), (.ref wA), (.int x2)])) rfl rfl (hb hby d9_111) _ ?_
       refine XS.sipush X20.here hx rfl (hb hby d9_112) ?_
       refine XS.iand X20.here hx rfl (hb hby d9_115) rfl ?_
       exact q
      by_cases hc116_22 : x2 = (47 : Int32)
      · obtain ⟨fs, hr, hrun, hended, hW, hsame⟩ := X20.leave (v := some (.int 1)) (fun h => by rw [Bd.returns] at h; cases h)
        refine ⟨_, _, k23 _ ?_, hrun, hended, _, _, rfl, ?_, ⟨_, rfl⟩, hW, hsame.mono (by decide) (by decide)⟩
        · refine XS.icmpYes X20.here hx rfl (pc0 := 116) (pc' := 89) rfl (hb hby d9_116) rfl (teq hc116_22).1 (by decide) (by decide) ?_
          refine oIl X20 hx hby d9_89 rfl (oIl X20 hx hby d9_91 rfl ?_)
          refine XS.icmpYes X20.here hx rfl (pc0 := 93) (pc' := 121) rfl (hb hby d9_93) rfl (flt (by decide : ¬ ((2 : Int32) < (2 : Int32)))).2.1 (by decide) (by decide) ?_
          refine oIc X20 hx hby d9_121 ?_
          exact retN X20 hx (t := .boolean) Bd.returns (by simp) (hb hby d9_122) hr
        · show Q_SW_1 Z _ _ _ _ _ _ _ _ _ _ h0 n0 _ T20.heap _
          rw [e20]
          exact Or.inl (⟨rfl, N20, rfl, hc116_18, hc116_22⟩)
      · obtain ⟨fs, hr, hrun, hended, hW, hsame⟩ := X20.leave (v := some (.int 0)) (fun h => by rw [Bd.returns] at h; cases h)
        refine ⟨_, _, k23 _ ?_, hrun, hended, _, _, rfl, ?_, ⟨_, rfl⟩, hW, hsame.mono (by decide) (by decide)⟩
        · refine XS.icmpNo X20.here hx rfl (hb hby d9_116) rfl (feq hc116_22).1 ?_
          refine oIc X20 hx hby d9_119 ?_
          exact retN X20 hx (t := .boolean) Bd.returns (by simp) (hb hby d9_120) hr
        · show Q_SW_1 Z _ _ _ _ _ _ _ _ _ _ h0 n0 _ T20.heap _
          rw [e20]
          exact Or.inr (Or.inl (⟨rfl, N20, rfl, hc116_18, hc116_22⟩))
    · obtain ⟨fs, hr, hrun, hended, hW, hsame⟩ := X16.leave (v := some (.int 0)) (fun h => by rw [Bd.returns] at h; cases h)
      refine ⟨_, _, k19 _ ?_, hrun, hended, _, _, rfl, ?_, ⟨_, rfl⟩, hW, hsame.mono (by decide) (by decide)⟩
      · refine XS.icmpNo X16.here hx rfl (hb hby d9_116) rfl (feq hc116_18).1 ?_
        refine oIc X16 hx hby d9_119 ?_
        exact retN X16 hx (t := .boolean) Bd.returns (by simp) (hb hby d9_120) hr
      · show Q_SW_1 Z _ _ _ _ _ _ _ _ _ _ h0 n0 _ T16.heap _
        rw [e16]
        exact Or.inr (Or.inr ((⟨rfl, N16, rfl, hc116_18⟩)))
def Q_MM_2 (Z : State) (r0 : Addr) (r2 : Addr) (kA : ClassId) (kW : ClassId) (b0 : Int32) (b1 : Int32) (b2 : Int32) (b3 : Int32) (b4 : Int32) (h0 : Heap) (n0 : Nat) (v : Option Value) (h : Heap) (L : List Loc) : Prop := (v = some (.int (-1)) ∧ Fr n0 L ∧ h = h0 ∧ b2 = (87 : Int32) ∧ b3 = (47 : Int32)) ∨ (v = some (.int 1) ∧ Fr n0 L ∧ h = h0 ∧ b2 = (87 : Int32) ∧ ¬ (b3 = (47 : Int32))) ∨ (v = some (.int 0) ∧ Fr n0 L ∧ h = h0 ∧ ¬ (b2 = (87 : Int32)))
set_option maxRecDepth 65536 in
set_option maxHeartbeats 40000000 in
theorem rmMM_2 (l : Launch) (Z : State) (a0 : Array Value) (hw : ∀ d ∈ tables_1, d.before a0 Z = true) (ws : List Jvm.Cond) (r0 : Addr) (r2 : Addr) (kA : ClassId) (kW : ClassId) (b0 : Int32) (b1 : Int32) (b2 : Int32) (b3 : Int32) (b4 : Int32) (h0 : Heap) (n0 : Nat) (Z0 : n0 ≤ h0.size) (V_r0 : Arv Z h0 r0 kA .byte (5 : Int32) [(.int b0), (.int b1), (.int b2), (.int b3), (.int b4)] (.int 0)) (V_r2 : Arv Z h0 r2 kW .byte (2 : Int32) [(.int 87), (.int 47)] (.int 0)) :
    MetFree l (⟨cS11, "mismatch", "([BI[BII)I"⟩ : MethodName) (head1 (Jvm.Cond.code (⟨cS11, "mismatch", "([BI[BII)I"⟩ : MethodName) jdk_48_method_14_code 8 (some .int) :: ws) ({ frames := 0, cells := 0, slots := 0, locals := 0 } : Room)) (fun a U => a = #[(.ref r0), (.int 2), (.ref r2), (.int 0), (.int 2)] ∧ Z.Warmed39 U.vm ∧ U.heap = h0) (fun _ _ _ _ _ => True) (fun _ U o U' => ∃ v L, o = .returned v ∧ Q_MM_2 Z r0 r2 kA kW b0 b1 b2 b3 b4 h0 n0 v U'.heap L ∧ FrameEnd U o U' L 0 0) := by
  refine MetFree.of_bodySF (plainFor_of_name pn_jdk_internal_util_ArraysSupport) hisR ?_
  intro p e s m args below meth c s₁ Bd hml0 hP hK
  obtain ⟨rfl, hZ, hh⟩ := hP
  have hx := Bd.exec
  have hby := Bd.bytes
  have hml : c.maxLocals = 8 := hml0
  have hown : s.vm.findClass cS11 = some m.cls := findClass_of_methodNamed Bd.named
  have hnm := (name_of_methodNamed Bd.named Bd.method).1
  have X0 : Stand p l e ({ frames := 0, cells := 0, slots := 0, locals := 0 } : Room) s m #[(.ref r0), (.int 2), (.ref r2), (.int 0), (.int 2)] below meth c s₁ [] 0 0 := Stand.of_body Bd
  have e0 : s₁.heap = h0 := by rw [← hh, Bd.state]; rfl
  have N0 := Fr.nil n0
  have k0 : ∀ t, OwnS p e below s₁ (mkF m 0 #[rv r0, iv 2, rv r2, iv 0, iv 2, .unset, .unset, .unset] []) t → OwnS p e below s₁ (entryFrame m #[(.ref r0), (.int 2), (.ref r2), (.int 0), (.int 2)] 8) t := fun t k => castTop (ef_12 m r0 (2 : Int32) r2 (0 : Int32) (2 : Int32)) k
  obtain ⟨cl_z1, Ar_z1, q_z1, S_z1, N_z1, H_z1, G_z1⟩ := id V_r0
  have hin2 : ¬ ((2 : Int32) < 0 ∨ cl_z1.slots.size ≤ ((2 : Int32)).toNatClampNeg) := inb_of S_z1 ⟨by decide, by decide⟩
  obtain ⟨cl_z3, Ar_z3, q_z3, S_z3, N_z3, H_z3, G_z3⟩ := id V_r2
  have hin4 : ¬ ((0 : Int32) < 0 ∨ cl_z3.slots.size ≤ ((0 : Int32)).toNatClampNeg) := inb_of S_z3 ⟨by decide, by decide⟩
  have k6 : ∀ t, OwnS p e below s₁ (mkF m 89 #[rv r0, iv 2, rv r2, iv 0, iv 2, iv 0, .unset, .unset] [(.int 87), (.int b2)]) t → OwnS p e below s₁ (entryFrame m #[(.ref r0), (.int 2), (.ref r2), (.int 0), (.int 2)] 8) t := fun t q => by
   refine k0 t ?_
   show OwnS p e below s₁ (mkF m 0 #[rv r0, iv 2, rv r2, iv 0, iv 2, .unset, .unset, .unset] []) _
   refine oIc X0 hx hby d12_0 ?_
   refine XS.istore X0.here hx rfl (hb hby d12_1) rfl (l' := #[rv r0, iv 2, rv r2, iv 0, iv 2, iv 0, .unset, .unset]) rfl ?_
   refine oIl X0 hx hby d12_3 rfl (oBp X0 hx hby d12_5 ?_)
   refine XS.icmpYes X0.here hx rfl (pc0 := 7) (pc' := 70) rfl (hb hby d12_7) rfl (flt (by decide : ¬ ((7 : Int32) < (2 : Int32)))).2.2.2 (by decide) (by decide) ?_
   refine oIl X0 hx hby d12_70 rfl (oIl X0 hx hby d12_72 rfl ?_)
   refine XS.icmpNo X0.here hx rfl (hb hby d12_74) rfl (tlt (by decide : (0 : Int32) < (2 : Int32))).2.1 ?_
   refine oAn X0 hx hby d12_77 rfl rfl (oIn X0 hx hby d12_78 rfl (oIl X0 hx hby d12_79 rfl ?_))
   refine XS.iadd X0.here hx rfl (hb hby d12_81) rfl ?_
   refine X0.baloadBytes hx (j := (2 : Int32)) (v := (.int b2)) (by rw [e0]; exact Ar_z1.1) (State.isArrayOf_alike hZ.alike Ar_z1.2.1) Ar_z1.2.2 hin2 (Has.at H_z1 hin2 rfl) (g := (mkF m 82 #[rv r0, iv 2, rv r2, iv 0, iv 2, iv 0, .unset, .unset] [(.int 2), (.ref r0)])) rfl rfl (hb hby d12_82) _ ?_
   refine oAn X0 hx hby d12_83 rfl rfl (oIn X0 hx hby d12_84 rfl (oIl X0 hx hby d12_85 rfl ?_))
   refine XS.iadd X0.here hx rfl (hb hby d12_87) rfl ?_
   refine X0.baloadBytes hx (j := (0 : Int32)) (v := (.int 87)) (by rw [e0]; exact Ar_z3.1) (State.isArrayOf_alike hZ.alike Ar_z3.2.1) Ar_z3.2.2 hin4 (Has.at H_z3 hin4 rfl) (g := (mkF m 88 #[rv r0, iv 2, rv r2, iv 0, iv 2, iv 0, .unset, .unset] [(.int 0), (.ref r2), (.int b2)])) rfl rfl (hb hby d12_88) _ ?_
   exact q
  by_cases hc89_5 : b2 = (87 : Int32)
  · have hin7 : ¬ ((3 : Int32) < 0 ∨ cl_z1.slots.size ≤ ((3 : Int32)).toNatClampNeg) := inb_of S_z1 ⟨by decide, by decide⟩
    have hin8 : ¬ ((1 : Int32) < 0 ∨ cl_z3.slots.size ≤ ((1 : Int32)).toNatClampNeg) := inb_of S_z3 ⟨by decide, by decide⟩
    have k10 : ∀ t, OwnS p e below s₁ (mkF m 89 #[rv r0, iv 2, rv r2, iv 0, iv 2, iv 1, .unset, .unset] [(.int 47), (.int b3)]) t → OwnS p e below s₁ (entryFrame m #[(.ref r0), (.int 2), (.ref r2), (.int 0), (.int 2)] 8) t := fun t q => by
     refine k6 t ?_
     refine XS.icmpYes X0.here hx rfl (pc0 := 89) (pc' := 95) rfl (hb hby d12_89) rfl (teq hc89_5).1 (by decide) (by decide) ?_
     refine XS.iinc X0.here hx rfl (hb hby d12_95) rfl (l' := #[rv r0, iv 2, rv r2, iv 0, iv 2, iv 1, .unset, .unset]) rfl ?_
     refine oGo X0 hx hby 98 70 d12_98 (by decide) (by decide) (oIl X0 hx hby d12_70 rfl (oIl X0 hx hby d12_72 rfl ?_))
     refine XS.icmpNo X0.here hx rfl (hb hby d12_74) rfl (tlt (by decide : (1 : Int32) < (2 : Int32))).2.1 ?_
     refine oAn X0 hx hby d12_77 rfl rfl (oIn X0 hx hby d12_78 rfl (oIl X0 hx hby d12_79 rfl ?_))
     refine XS.iadd X0.here hx rfl (hb hby d12_81) rfl ?_
     refine X0.baloadBytes hx (j := (3 : Int32)) (v := (.int b3)) (by rw [e0]; exact Ar_z1.1) (State.isArrayOf_alike hZ.alike Ar_z1.2.1) Ar_z1.2.2 hin7 (Has.at H_z1 hin7 rfl) (g := (mkF m 82 #[rv r0, iv 2, rv r2, iv 0, iv 2, iv 1, .unset, .unset] [(.int 3), (.ref r0)])) rfl rfl (hb hby d12_82) _ ?_
     refine oAn X0 hx hby d12_83 rfl rfl (oIn X0 hx hby d12_84 rfl (oIl X0 hx hby d12_85 rfl ?_))
     refine XS.iadd X0.here hx rfl (hb hby d12_87) rfl ?_
     refine X0.baloadBytes hx (j := (1 : Int32)) (v := (.int 47)) (by rw [e0]; exact Ar_z3.1) (State.isArrayOf_alike hZ.alike Ar_z3.2.1) Ar_z3.2.2 hin8 (Has.at H_z3 hin8 rfl) (g := (mkF m 88 #[rv r0, iv 2, rv r2, iv 0, iv 2, iv 1, .unset, .unset] [(.int 1), (.ref r2), (.int b3)])) rfl rfl (hb hby d12_88) _ ?_
     exact q
    by_cases hc89_9 : b3 = (47 : Int32)
    · obtain ⟨fs, hr, hrun, hended, hW, hsame⟩ := X0.leave (v := some (.int (-1))) (fun h => by rw [Bd.returns] at h; cases h)
      refine ⟨_, _, k10 _ ?_, hrun, hended, _, _, rfl, ?_, ⟨_, rfl⟩, hW, hsame.mono (by decide) (by decide)⟩
      · refine XS.icmpYes X0.here hx rfl (pc0 := 89) (pc' := 95) rfl (hb hby d12_89) rfl (teq hc89_9).1 (by decide) (by decide) ?_
        refine XS.iinc X0.here hx rfl (hb hby d12_95) rfl (l' := #[rv r0, iv 2, rv r2, iv 0, iv 2, iv 2, .unset, .unset]) rfl ?_
        refine oGo X0 hx hby 98 70 d12_98 (by decide) (by decide) (oIl X0 hx hby d12_70 rfl (oIl X0 hx hby d12_72 rfl ?_))
        refine XS.icmpYes X0.here hx rfl (pc0 := 74) (pc' := 101) rfl (hb hby d12_74) rfl (flt (by decide : ¬ ((2 : Int32) < (2 : Int32)))).2.1 (by decide) (by decide) ?_
        refine oIc X0 hx hby d12_101 ?_
        exact retI X0 hx Bd.returns (hb hby d12_102) hr
      · show Q_MM_2 Z _ _ _ _ _ _ _ _ _ h0 n0 _ s₁.heap _
        rw [e0]
        exact Or.inl (⟨rfl, N0, rfl, hc89_5, hc89_9⟩)
    · obtain ⟨fs, hr, hrun, hended, hW, hsame⟩ := X0.leave (v := some (.int 1)) (fun h => by rw [Bd.returns] at h; cases h)
      refine ⟨_, _, k10 _ ?_, hrun, hended, _, _, rfl, ?_, ⟨_, rfl⟩, hW, hsame.mono (by decide) (by decide)⟩
      · refine XS.icmpNo X0.here hx rfl (hb hby d12_89) rfl (feq hc89_9).1 ?_
        refine oIl X0 hx hby d12_92 rfl ?_
        exact retI X0 hx Bd.returns (hb hby d12_94) hr
      · show Q_MM_2 Z _ _ _ _ _ _ _ _ _ h0 n0 _ s₁.heap _
        rw [e0]
        exact Or.inr (Or.inl (⟨rfl, N0, rfl, hc89_5, hc89_9⟩))
  · obtain ⟨fs, hr, hrun, hended, hW, hsame⟩ := X0.leave (v := some (.int 0)) (fun h => by rw [Bd.returns] at h; cases h)
    refine ⟨_, _, k6 _ ?_, hrun, hended, _, _, rfl, ?_, ⟨_, rfl⟩, hW, hsame.mono (by decide) (by decide)⟩
    · refine XS.icmpNo X0.here hx rfl (hb hby d12_89) rfl (feq hc89_5).1 ?_
      refine oIl X0 hx hby d12_92 rfl ?_
      exact retI X0 hx Bd.returns (hb hby d12_94) hr
    · show Q_MM_2 Z _ _ _ _ _ _ _ _ _ h0 n0 _ s₁.heap _
      rw [e0]
      exact Or.inr (Or.inr ((⟨rfl, N0, rfl, hc89_5⟩)))
def Q_SW_2 (Z : State) (r0 : Addr) (r1 : Addr) (w_CS : Int32) (wA : Addr) (kW : ClassId) (x0 : Int32) (x1 : Int32) (x2 : Int32) (x3 : Int32) (x4 : Int32) (h0 : Heap) (n0 : Nat) (v : Option Value) (h : Heap) (L : List Loc) : Prop := (v = some (.int 1) ∧ Fr n0 L ∧ h = h0 ∧ x2 = (87 : Int32) ∧ x3 = (47 : Int32)) ∨ (v = some (.int 0) ∧ Fr n0 L ∧ h = h0 ∧ x2 = (87 : Int32) ∧ ¬ (x3 = (47 : Int32))) ∨ (v = some (.int 0) ∧ Fr n0 L ∧ h = h0 ∧ ¬ (x2 = (87 : Int32)))
set_option maxRecDepth 65536 in
set_option maxHeartbeats 40000000 in
theorem rmSW_2 (l : Launch) (Z : State) (a0 : Array Value) (hw : ∀ d ∈ tables_1, d.before a0 Z = true) (ws : List Jvm.Cond) (r0 : Addr) (r1 : Addr) (w_CS : Int32) (wA : Addr) (kW : ClassId) (x0 : Int32) (x1 : Int32) (x2 : Int32) (x3 : Int32) (x4 : Int32) (h0 : Heap) (n0 : Nat) (Z0 : n0 ≤ h0.size) (S_CS : Sta Z h0 cS0 cS13 "Z" (.int w_CS)) (hcs : ¬ (w_CS = (0 : Int32))) (S_AD : Sta Z h0 cS1 cS6 "Z" (.int 1)) (S_HI : Sta Z h0 cS1 cS7 "I" (.int 0)) (S_LO : Sta Z h0 cS1 cS8 "I" (.int 8)) (P_r0 : own_S5 Z h0 r0 x0 x1 x2 x3 x4) (E_r1 : Exa Z h0 r1 cS0) (F_coder_r1 : Fld Z h0 r1 cS0 "coder" "B" (.int 0)) (F_value_r1 : Fld Z h0 r1 cS0 "value" "[B" (.ref wA)) (V_wA : Arv Z h0 wA kW .byte (2 : Int32) [(.int 87), (.int 47)] (.int 0)) (hch_x0 : own_ch x0) (hch_x1 : own_ch x1) (hch_x2 : own_ch x2) (hch_x3 : own_ch x3) (hch_x4 : own_ch x4) (E_r0 : Exa Z h0 r0 cS0) :
    MetFree l (⟨cS0, "startsWith", cS9⟩ : MethodName) (head1 (Jvm.Cond.code (⟨cS0, "startsWith", cS9⟩ : MethodName) jdk_42_method_75_code 8 (some .boolean) :: ws) ({ frames := 2, cells := 0, slots := 0, locals := 27 } : Room)) (fun a U => a = #[(.ref r0), (.ref r1), (.int 2)] ∧ Z.Warmed39 U.vm ∧ U.heap = h0) (fun _ _ _ _ _ => True) (fun _ U o U' => ∃ v L, o = .returned v ∧ Q_SW_2 Z r0 r1 w_CS wA kW x0 x1 x2 x3 x4 h0 n0 v U'.heap L ∧ FrameEnd U o U' L 0 0) := by
  refine MetFree.of_bodySF (plainFor_of_name pn_java_lang_String) hisR ?_
  intro p e s m args below meth c s₁ Bd hml0 hP hK
  obtain ⟨rfl, hZ, hh⟩ := hP
  have hx := Bd.exec
  have hby := Bd.bytes
  have hml : c.maxLocals = 8 := hml0
  have hown : s.vm.findClass cS0 = some m.cls := findClass_of_methodNamed Bd.named
  have hnm := (name_of_methodNamed Bd.named Bd.method).1
  have X0 : Stand p l e ({ frames := 2, cells := 0, slots := 0, locals := 27 } : Room) s m #[(.ref r0), (.ref r1), (.int 2)] below meth c s₁ [] 0 0 := Stand.of_body Bd
  have e0 : s₁.heap = h0 := by rw [← hh, Bd.state]; rfl
  have N0 := Fr.nil n0
  have k0 : ∀ t, OwnS p e below s₁ (mkF m 0 #[rv r0, rv r1, iv 2, .unset, .unset, .unset, .unset, .unset] []) t → OwnS p e below s₁ (entryFrame m #[(.ref r0), (.ref r1), (.int 2)] 8) t := fun t k => castTop (ef_9 m r0 r1 (2 : Int32)) k
  obtain ⟨cq1, kq1, q1a, q1b, q1c⟩ := isOf hZ e0 E_r0
  obtain ⟨_, _, ⟨T1, L1, j1, i1⟩, -, X1, ⟨Lc1, hQ1, l1, y1, z1⟩, st1⟩ := X0.virtualBack hx (y := (⟨cS0, "length", "()I"⟩ : MethodName)) (z := (⟨cS0, "length", "()I"⟩ : MethodName)) hown (mvT hZ (own_at hw 47 rfl)) (mvT hZ (own_at hw 48 rfl)) (notFace_of_selects (args := #[]) (mvT hZ (own_at hw 50 rfl))) (mvT hZ (own_at hw 50 rfl)) (mvT hZ (own_at hw 49 rfl)) (by decide) (backOf (W := 1) (rmLen_5 l Z a0 hw [] r0 w_CS x0 x1 x2 x3 x4 h0 n0 Z0 S_CS hcs P_r0) hZ (own_at hw 51 rfl) (own_at hw 8 rfl) (by decide) (by decide)) q1a q1c (g := (mkF m 6 #[rv r0, rv r1, iv 2, .unset, .unset, .unset, .unset, .unset] [(.ref r0), (.int 2)])) rfl (by rw [hml]; rfl) (Steps.refl _) (argsL := []) (rest := [(.int 2)]) (lenOf pd_16 rfl) rfl (Nat.le_refl _) (hb hby d9_6) (fun _ _ => ⟨rfl, e0, (by decide : 0 + 0 ≤ _), (by decide : 0 + 0 ≤ _)⟩)
  dsimp only [Pt.U, Pt.locs, Pt.cells, Pt.slots] at X1 l1 y1 z1 st1 hQ1
  subst l1 y1 z1
  obtain ⟨rfl, N1q, e1⟩ := hQ1
  have N1 := Fr.app N0 N1q
  obtain ⟨cq2, kq2, q2a, q2b, q2c⟩ := isOf hZ e1 E_r1
  obtain ⟨_, _, ⟨T2, L2, j2, i2⟩, -, X2, ⟨Lc2, hQ2, l2, y2, z2⟩, st2⟩ := X1.virtualBack hx (y := (⟨cS0, "length", "()I"⟩ : MethodName)) (z := (⟨cS0, "length", "()I"⟩ : MethodName)) hown (mvT hZ (own_at hw 47 rfl)) (mvT hZ (own_at hw 48 rfl)) (notFace_of_selects (args := #[]) (mvT hZ (own_at hw 50 rfl))) (mvT hZ (own_at hw 50 rfl)) (mvT hZ (own_at hw 49 rfl)) (by decide) (backOf (W := 2) (rmLenL l Z a0 hw [] r1 w_CS wA kW [(.int 87), (.int 47)] h0 n0 Z0 S_CS hcs E_r1 F_coder_r1 F_value_r1 V_wA) hZ (own_at hw 51 rfl) (own_at hw 8 rfl) (by decide) (by decide)) q2a q2c (g := (mkF m 10 #[rv r0, rv r1, iv 2, .unset, .unset, .unset, .unset, .unset] [(.ref r1), (.int 5), (.int 2)])) rfl (by rw [hml]; rfl) (Steps.refl _) (argsL := []) (rest := [(.int 5), (.int 2)]) (lenOf pd_16 rfl) rfl (Nat.le_refl _) (hb hby d9_10) (fun _ _ => ⟨rfl, e1, (by decide : 0 + 0 ≤ _), (by decide : 0 + 0 ≤ _)⟩)
  dsimp only [Pt.U, Pt.locs, Pt.cells, Pt.slots] at X2 l2 y2 z2 st2 hQ2
  subst l2 y2 z2
  obtain ⟨rfl, N2q, e2⟩ := hQ2
  have N2 := Fr.app N1 N2q
  have k3 : ∀ t, OwnS p e below T2 (mkF m 19 #[rv r0, rv r1, iv 2, .unset, .unset, .unset, .unset, .unset] []) t → OwnS p e below s₁ (entryFrame m #[(.ref r0), (.ref r1), (.int 2)] 8) t := fun t q => by
   refine k0 t ?_
   show OwnS p e below s₁ (mkF m 0 #[rv r0, rv r1, iv 2, .unset, .unset, .unset, .unset, .unset] []) _
   refine oIn X0 hx hby d9_0 rfl ?_
   refine XS.ifNo X0.here hx rfl (hb hby d9_1) rfl ((if0 _ _).trans (flt (by decide : ¬ ((2 : Int32) < (0 : Int32)))).1) ?_
   refine oIn X0 hx hby d9_4 rfl (oAn X0 hx hby d9_5 rfl rfl ?_)
   refine st1.trans ?_
   refine oAn X1 hx hby d9_9 rfl rfl ?_
   refine st2.trans ?_
   refine XS.isub X2.here hx rfl (hb hby d9_13) rfl ?_
   refine XS.icmpYes X2.here hx rfl (pc0 := 14) (pc' := 19) rfl (hb hby d9_14) rfl (flt (by decide : ¬ ((3 : Int32) < (2 : Int32)))).2.2.2 (by decide) (by decide) ?_
   exact q
  rcases id P_r0 with ⟨eS, ⟨sA, kS, fC, fV, vA, hl0, hl1, hl2, hl3, hl4⟩ | ⟨sA, kS, fC, fV, vA⟩⟩
  · skip
    obtain ⟨T4, X4, e4, st4⟩ := getF X2 hx hZ hown (host := "") (Or.inl (own_at hw 33 rfl)) Via.refl e2 fV (g := (mkF m 20 #[rv r0, rv r1, iv 2, .unset, .unset, .unset, .unset, .unset] [(.ref r0)])) rfl rfl (hb hby d9_20)
    obtain ⟨T5, X5, e5, st5⟩ := getF X4 hx hZ hown (host := "") (Or.inl (own_at hw 33 rfl)) Via.refl e4 F_value_r1 (g := (mkF m 25 #[rv r0, rv r1, iv 2, rv sA, .unset, .unset, .unset, .unset] [(.ref r1)])) rfl rfl (hb hby d9_25)
    obtain ⟨cl_z6, Ar_z6, q_z6, S_z6, N_z6, H_z6, G_z6⟩ := id V_wA
    obtain ⟨cq7, kq7, q7a, q7b, q7c⟩ := isOf hZ e5 eS
    obtain ⟨_, _, ⟨T7, L7, j7, i7⟩, -, X7, ⟨Lc7, hQ7, l7, y7, z7⟩, st7⟩ := X5.virtualBack hx (y := (⟨cS0, "coder", "()B"⟩ : MethodName)) (z := (⟨cS0, "coder", "()B"⟩ : MethodName)) hown (mvT hZ (own_at hw 52 rfl)) (mvT hZ (own_at hw 53 rfl)) (notFace_of_selects (args := #[]) (mvT hZ (own_at hw 55 rfl))) (mvT hZ (own_at hw 55 rfl)) (mvT hZ (own_at hw 54 rfl)) (by decide) (backOf (W := 0) (rmCo0 l Z a0 hw [] r0 w_CS h0 n0 Z0 S_CS hcs fC) hZ (own_at hw 56 rfl) (own_at hw 8 rfl) (by decide) (by decide)) q7a q7c (g := (mkF m 39 #[rv r0, rv r1, iv 2, rv sA, rv wA, iv 0, iv 2, .unset] [(.ref r0)])) rfl (by rw [hml]; rfl) (Steps.refl _) (argsL := []) (rest := []) (lenOf pd_9 rfl) rfl (Nat.le_refl _) (hb hby d9_39) (fun _ _ => ⟨rfl, e5, (by decide : 0 + 0 ≤ _), (by decide : 0 + 0 ≤ _)⟩)
    dsimp only [Pt.U, Pt.locs, Pt.cells, Pt.slots] at X7 l7 y7 z7 st7 hQ7
    subst l7 y7 z7
    obtain ⟨rfl, N7q, e7⟩ := hQ7
    have N7 := Fr.app N2 N7q
    obtain ⟨cq8, kq8, q8a, q8b, q8c⟩ := isOf hZ e7 E_r1
    obtain ⟨_, _, ⟨T8, L8, j8, i8⟩, -, X8, ⟨Lc8, hQ8, l8, y8, z8⟩, st8⟩ := X7.virtualBack hx (y := (⟨cS0, "coder", "()B"⟩ : MethodName)) (z := (⟨cS0, "coder", "()B"⟩ : MethodName)) hown (mvT hZ (own_at hw 52 rfl)) (mvT hZ (own_at hw 53 rfl)) (notFace_of_selects (args := #[]) (mvT hZ (own_at hw 55 rfl))) (mvT hZ (own_at hw 55 rfl)) (mvT hZ (own_at hw 54 rfl)) (by decide) (backOf (W := 1) (rmCo0 l Z a0 hw [] r1 w_CS h0 n0 Z0 S_CS hcs F_coder_r1) hZ (own_at hw 56 rfl) (own_at hw 8 rfl) (by decide) (by decide)) q8a q8c (g := (mkF m 47 #[rv r0, rv r1, iv 2, rv sA, rv wA, iv 0, iv 2, iv 0] [(.ref r1), (.int 0)])) rfl (by rw [hml]; rfl) (Steps.refl _) (argsL := []) (rest := [(.int 0)]) (lenOf pd_9 rfl) rfl (Nat.le_refl _) (hb hby d9_47) (fun _ _ => ⟨rfl, e7, (by decide : 0 + 0 ≤ _), (by decide : 0 + 0 ≤ _)⟩)
    dsimp only [Pt.U, Pt.locs, Pt.cells, Pt.slots] at X8 l8 y8 z8 st8 hQ8
    subst l8 y8 z8
    obtain ⟨rfl, N8q, e8⟩ := hQ8
    have N8 := Fr.app N7 N8q
    obtain ⟨_, _, ⟨T9, L9, j9, i9⟩, -, X9, ⟨Lc9, hQ9, l9, y9, z9⟩, st9⟩ := Jvm.LawKit.callS X8 hx (y := (⟨cS11, "mismatch", "([BI[BII)I"⟩ : MethodName)) hown (mvT hZ (own_at hw 57 rfl)) (mvT hZ (own_at hw 58 rfl)) (mvT hZ (own_at hw 59 rfl)) (mvT hZ (own_at hw 60 rfl)) (by decide) (backOf (W := 0) (rmMM_2 l Z a0 hw [] sA wA kS kW ((x0.toInt8.toInt32).toInt8.toInt32) ((x1.toInt8.toInt32).toInt8.toInt32) ((x2.toInt8.toInt32).toInt8.toInt32) ((x3.toInt8.toInt32).toInt8.toInt32) ((x4.toInt8.toInt32).toInt8.toInt32) h0 n0 Z0 vA V_wA) hZ (own_at hw 60 rfl) (own_at hw 59 rfl) (by decide) (by decide)) (g := (mkF m 70 #[rv r0, rv r1, iv 2, rv sA, rv wA, iv 0, iv 2, iv 0] [(.int 2), (.int 0), (.ref wA), (.int 2), (.ref sA)])) rfl (by rw [hml]; rfl) (argsL := [(.ref sA), (.int 2), (.ref wA), (.int 0), (.int 2)]) (rest := []) (lenOf pd_17 rfl) rfl (Nat.le_refl _) (hb hby d9_70) (fun _ _ => ⟨rfl, e8, (by decide : 0 + 0 ≤ _), (by decide : 0 + 0 ≤ _)⟩)
    dsimp only [Pt.U, Pt.locs, Pt.cells, Pt.slots] at X9 l9 y9 z9 st9 hQ9
    subst l9 y9 z9
    have k10 : ∀ t, OwnS p e below T8 (mkF m 70 #[rv r0, rv r1, iv 2, rv sA, rv wA, iv 0, iv 2, iv 0] [(.int 2), (.int 0), (.ref wA), (.int 2), (.ref sA)]) t → OwnS p e below s₁ (entryFrame m #[(.ref r0), (.ref r1), (.int 2)] 8) t := fun t q => by
     refine k3 t ?_
     show OwnS p e below T2 (mkF m 19 #[rv r0, rv r1, iv 2, .unset, .unset, .unset, .unset, .unset] []) _
     refine oAn X2 hx hby d9_19 rfl rfl ?_
     refine st4 _ ?_
     refine XS.astoreN X4.here hx rfl (hb hby d9_23) rfl rfl (l' := #[rv r0, rv r1, iv 2, rv sA, .unset, .unset, .unset, .unset]) rfl ?_
     refine oAn X4 hx hby d9_24 rfl rfl ?_
     refine st5 _ ?_
     refine XS.astore X5.here hx rfl (hb hby d9_28) rfl rfl (l' := #[rv r0, rv r1, iv 2, rv sA, rv wA, .unset, .unset, .unset]) rfl ?_
     refine oIc X5 hx hby d9_30 ?_
     refine XS.istore X5.here hx rfl (hb hby d9_31) rfl (l' := #[rv r0, rv r1, iv 2, rv sA, rv wA, iv 0, .unset, .unset]) rfl ?_
     refine oAl X5 hx hby d9_33 rfl rfl ?_
     refine X5.arraylength hx (by rw [e5]; exact Ar_z6.1) (State.isArrayOf_alike hZ.alike Ar_z6.2.1) (g := (mkF m 35 #[rv r0, rv r1, iv 2, rv sA, rv wA, iv 0, .unset, .unset] [(.ref wA)])) rfl rfl (hb hby d9_35) _ ?_
     rw [len_of S_z6 N_z6]
     refine XS.istore X5.here hx rfl (hb hby d9_36) rfl (l' := #[rv r0, rv r1, iv 2, rv sA, rv wA, iv 0, iv 2, .unset]) rfl ?_
     refine oAn X5 hx hby d9_38 rfl rfl ?_
     refine st7.trans ?_
     refine XS.istore X7.here hx rfl (hb hby d9_42) rfl (l' := #[rv r0, rv r1, iv 2, rv sA, rv wA, iv 0, iv 2, iv 0]) rfl ?_
     refine oIl X7 hx hby d9_44 rfl (oAn X7 hx hby d9_46 rfl rfl ?_)
     refine st8.trans ?_
     refine XS.icmpNo X8.here hx rfl (hb hby d9_50) rfl (teq (by decide : (0 : Int32) = (0 : Int32))).2 ?_
     refine oIl X8 hx hby d9_53 rfl (oIc X8 hx hby d9_55 ?_)
     refine XS.icmpYes X8.here hx rfl (pc0 := 56) (pc' := 63) rfl (hb hby d9_56) rfl (feq (by decide : ¬ ((0 : Int32) = (1 : Int32)))).2 (by decide) (by decide) ?_
     refine oAn X8 hx hby d9_63 rfl rfl (oIn X8 hx hby d9_64 rfl (oAl X8 hx hby d9_65 rfl rfl (oIc X8 hx hby d9_67 (oIl X8 hx hby d9_68 rfl ?_))))
     exact q
    rcases hQ9 with ⟨rfl, N9q, e9, p9_0, p9_1⟩ | ⟨rfl, N9q, e9, p9_0, p9_1⟩ | ⟨rfl, N9q, e9, p9_0⟩
    · have N9 := Fr.app N8 N9q
      obtain ⟨fs, hr, hrun, hended, hW, hsame⟩ := X9.leave (v := some (.int 1)) (fun h => by rw [Bd.returns] at h; cases h)
      refine ⟨_, _, k10 _ ?_, hrun, hended, _, _, rfl, ?_, ⟨_, rfl⟩, hW, hsame.mono (by decide) (by decide)⟩
      · refine st9 _ ?_
        refine XS.ifNo X9.here hx rfl (hb hby d9_73) rfl ((if0 _ _).trans (tlt (by decide : (-1 : Int32) < (0 : Int32))).2.1) ?_
        refine oIc X9 hx hby d9_76 (oGo X9 hx hby 77 81 d9_77 (by decide) (by decide) ?_)
        exact retN X9 hx (t := .boolean) Bd.returns (by simp) (hb hby d9_81) hr
      · show Q_SW_2 Z _ _ _ _ _ _ _ _ _ _ h0 n0 _ T9.heap _
        rw [e9]
        exact Or.inl (⟨rfl, N9, rfl, (own_nbinj hch_x2 hl2 (by decide) (by decide) p9_0), (own_nbinj hch_x3 hl3 (by decide) (by decide) p9_1)⟩)
    · have N9 := Fr.app N8 N9q
      obtain ⟨fs, hr, hrun, hended, hW, hsame⟩ := X9.leave (v := some (.int 0)) (fun h => by rw [Bd.returns] at h; cases h)
      refine ⟨_, _, k10 _ ?_, hrun, hended, _, _, rfl, ?_, ⟨_, rfl⟩, hW, hsame.mono (by decide) (by decide)⟩
      · refine st9 _ ?_
        refine XS.ifYes X9.here hx rfl (pc0 := 73) (pc' := 80) rfl (hb hby d9_73) rfl ((if0 _ _).trans (flt (by decide : ¬ ((1 : Int32) < (0 : Int32)))).2.1) (by decide) (by decide) ?_
        refine oIc X9 hx hby d9_80 ?_
        exact retN X9 hx (t := .boolean) Bd.returns (by simp) (hb hby d9_81) hr
      · show Q_SW_2 Z _ _ _ _ _ _ _ _ _ _ h0 n0 _ T9.heap _
        rw [e9]
        exact Or.inr (Or.inl (⟨rfl, N9, rfl, (own_nbinj hch_x2 hl2 (by decide) (by decide) p9_0), (fun q => p9_1 (by rw [q]; decide))⟩))
    · have N9 := Fr.app N8 N9q
      obtain ⟨fs, hr, hrun, hended, hW, hsame⟩ := X9.leave (v := some (.int 0)) (fun h => by rw [Bd.returns] at h; cases h)
      refine ⟨_, _, k10 _ ?_, hrun, hended, _, _, rfl, ?_, ⟨_, rfl⟩, hW, hsame.mono (by decide) (by decide)⟩
      · refine st9 _ ?_
        refine XS.ifYes X9.here hx rfl (pc0 := 73) (pc' := 80) rfl (hb hby d9_73) rfl ((if0 _ _).trans (flt (by decide : ¬ ((0 : Int32) < (0 : Int32)))).2.1) (by decide) (by decide) ?_
        refine oIc X9 hx hby d9_80 ?_
        exact retN X9 hx (t := .boolean) Bd.returns (by simp) (hb hby d9_81) hr
      · show Q_SW_2 Z _ _ _ _ _ _ _ _ _ _ h0 n0 _ T9.heap _
        rw [e9]
        exact Or.inr (Or.inr ((⟨rfl, N9, rfl, (fun q => p9_0 (by rw [q]; decide))⟩)))
  · skip
    obtain ⟨T11, X11, e11, st11⟩ := getF X2 hx hZ hown (host := "") (Or.inl (own_at hw 33 rfl)) Via.refl e2 fV (g := (mkF m 20 #[rv r0, rv r1, iv 2, .unset, .unset, .unset, .unset, .unset] [(.ref r0)])) rfl rfl (hb hby d9_20)
    obtain ⟨T12, X12, e12, st12⟩ := getF X11 hx hZ hown (host := "") (Or.inl (own_at hw 33 rfl)) Via.refl e11 F_value_r1 (g := (mkF m 25 #[rv r0, rv r1, iv 2, rv sA, .unset, .unset, .unset, .unset] [(.ref r1)])) rfl rfl (hb hby d9_25)
    obtain ⟨cl_z13, Ar_z13, q_z13, S_z13, N_z13, H_z13, G_z13⟩ := id V_wA
    obtain ⟨cq14, kq14, q14a, q14b, q14c⟩ := isOf hZ e12 eS
    obtain ⟨_, _, ⟨T14, L14, j14, i14⟩, -, X14, ⟨Lc14, hQ14, l14, y14, z14⟩, st14⟩ := X12.virtualBack hx (y := (⟨cS0, "coder", "()B"⟩ : MethodName)) (z := (⟨cS0, "coder", "()B"⟩ : MethodName)) hown (mvT hZ (own_at hw 52 rfl)) (mvT hZ (own_at hw 53 rfl)) (notFace_of_selects (args := #[]) (mvT hZ (own_at hw 55 rfl))) (mvT hZ (own_at hw 55 rfl)) (mvT hZ (own_at hw 54 rfl)) (by decide) (backOf (W := 0) (rmCo1 l Z a0 hw [] r0 w_CS h0 n0 Z0 S_CS hcs fC) hZ (own_at hw 56 rfl) (own_at hw 8 rfl) (by decide) (by decide)) q14a q14c (g := (mkF m 39 #[rv r0, rv r1, iv 2, rv sA, rv wA, iv 0, iv 2, .unset] [(.ref r0)])) rfl (by rw [hml]; rfl) (Steps.refl _) (argsL := []) (rest := []) (lenOf pd_9 rfl) rfl (Nat.le_refl _) (hb hby d9_39) (fun _ _ => ⟨rfl, e12, (by decide : 0 + 0 ≤ _), (by decide : 0 + 0 ≤ _)⟩)
    dsimp only [Pt.U, Pt.locs, Pt.cells, Pt.slots] at X14 l14 y14 z14 st14 hQ14
    subst l14 y14 z14
    obtain ⟨rfl, N14q, e14⟩ := hQ14
    have N14 := Fr.app N2 N14q
    obtain ⟨cq15, kq15, q15a, q15b, q15c⟩ := isOf hZ e14 E_r1
    obtain ⟨_, _, ⟨T15, L15, j15, i15⟩, -, X15, ⟨Lc15, hQ15, l15, y15, z15⟩, st15⟩ := X14.virtualBack hx (y := (⟨cS0, "coder", "()B"⟩ : MethodName)) (z := (⟨cS0, "coder", "()B"⟩ : MethodName)) hown (mvT hZ (own_at hw 52 rfl)) (mvT hZ (own_at hw 53 rfl)) (notFace_of_selects (args := #[]) (mvT hZ (own_at hw 55 rfl))) (mvT hZ (own_at hw 55 rfl)) (mvT hZ (own_at hw 54 rfl)) (by decide) (backOf (W := 1) (rmCo0 l Z a0 hw [] r1 w_CS h0 n0 Z0 S_CS hcs F_coder_r1) hZ (own_at hw 56 rfl) (own_at hw 8 rfl) (by decide) (by decide)) q15a q15c (g := (mkF m 47 #[rv r0, rv r1, iv 2, rv sA, rv wA, iv 0, iv 2, iv 1] [(.ref r1), (.int 1)])) rfl (by rw [hml]; rfl) (Steps.refl _) (argsL := []) (rest := [(.int 1)]) (lenOf pd_9 rfl) rfl (Nat.le_refl _) (hb hby d9_47) (fun _ _ => ⟨rfl, e14, (by decide : 0 + 0 ≤ _), (by decide : 0 + 0 ≤ _)⟩)
    dsimp only [Pt.U, Pt.locs, Pt.cells, Pt.slots] at X15 l15 y15 z15 st15 hQ15
    subst l15 y15 z15
    obtain ⟨rfl, N15q, e15⟩ := hQ15
    have N15 := Fr.app N14 N15q
    obtain ⟨_, _, ⟨T16, L16, j16, i16⟩, -, X16, ⟨Lc16, hQ16, l16, y16, z16⟩, st16⟩ := Jvm.LawKit.callS X15 hx (y := (⟨cS1, "getChar", "([BI)C"⟩ : MethodName)) hown (mvT hZ (own_at hw 113 rfl)) (mvT hZ (own_at hw 111 rfl)) (mvT hZ (own_at hw 22 rfl)) (mvT hZ (own_at hw 112 rfl)) (by decide) (backOf (W := 0) (rmGC_5_2 l Z a0 hw [] sA kS x0 x1 x2 x3 x4 h0 n0 Z0 S_AD S_HI S_LO vA hch_x2) hZ (own_at hw 112 rfl) (own_at hw 22 rfl) (by decide) (by decide)) (g := (mkF m 101 #[rv r0, rv r1, iv 3, rv sA, rv wA, iv 0, iv 2, iv 1] [(.int 2), (.ref sA)])) rfl (by rw [hml]; rfl) (argsL := [(.ref sA), (.int 2)]) (rest := []) (lenOf pd_6 rfl) rfl (Nat.le_refl _) (hb hby d9_101) (fun _ _ => ⟨rfl, e15, (by decide : 0 + 0 ≤ _), (by decide : 0 + 0 ≤ _)⟩)
    dsimp only [Pt.U, Pt.locs, Pt.cells, Pt.slots] at X16 l16 y16 z16 st16 hQ16
    subst l16 y16 z16
    obtain ⟨rfl, N16q, e16⟩ := hQ16
    have N16 := Fr.app N15 N16q
    have hin17 : ¬ ((0 : Int32) < 0 ∨ cl_z13.slots.size ≤ ((0 : Int32)).toNatClampNeg) := inb_of S_z13 ⟨by decide, by decide⟩
    have k19 : ∀ t, OwnS p e below T16 (mkF m 116 #[rv r0, rv r1, iv 3, rv sA, rv wA, iv 1, iv 2, iv 1] [(.int 87), (.int x2)]) t → OwnS p e below s₁ (entryFrame m #[(.ref r0), (.ref r1), (.int 2)] 8) t := fun t q => by
     refine k3 t ?_
     show OwnS p e below T2 (mkF m 19 #[rv r0, rv r1, iv 2, .unset, .unset, .unset, .unset, .unset] []) _
     refine oAn X2 hx hby d9_19 rfl rfl ?_
     refine st11 _ ?_
     refine XS.astoreN X11.here hx rfl (hb hby d9_23) rfl rfl (l' := #[rv r0, rv r1, iv 2, rv sA, .unset, .unset, .unset, .unset]) rfl ?_
     refine oAn X11 hx hby d9_24 rfl rfl ?_
     refine st12 _ ?_
     refine XS.astore X12.here hx rfl (hb hby d9_28) rfl rfl (l' := #[rv r0, rv r1, iv 2, rv sA, rv wA, .unset, .unset, .unset]) rfl ?_
     refine oIc X12 hx hby d9_30 ?_
     refine XS.istore X12.here hx rfl (hb hby d9_31) rfl (l' := #[rv r0, rv r1, iv 2, rv sA, rv wA, iv 0, .unset, .unset]) rfl ?_
     refine oAl X12 hx hby d9_33 rfl rfl ?_
     refine X12.arraylength hx (by rw [e12]; exact Ar_z13.1) (State.isArrayOf_alike hZ.alike Ar_z13.2.1) (g := (mkF m 35 #[rv r0, rv r1, iv 2, rv sA, rv wA, iv 0, .unset, .unset] [(.ref wA)])) rfl rfl (hb hby d9_35) _ ?_
     rw [len_of S_z13 N_z13]
     refine XS.istore X12.here hx rfl (hb hby d9_36) rfl (l' := #[rv r0, rv r1, iv 2, rv sA, rv wA, iv 0, iv 2, .unset]) rfl ?_
     refine oAn X12 hx hby d9_38 rfl rfl ?_
     refine st14.trans ?_
     refine XS.istore X14.here hx rfl (hb hby d9_42) rfl (l' := #[rv r0, rv r1, iv 2, rv sA, rv wA, iv 0, iv 2, iv 1]) rfl ?_
     refine oIl X14 hx hby d9_44 rfl (oAn X14 hx hby d9_46 rfl rfl ?_)
     refine st15.trans ?_
     refine XS.icmpYes X15.here hx rfl (pc0 := 50) (pc' := 82) rfl (hb hby d9_50) rfl (feq (by decide : ¬ ((1 : Int32) = (0 : Int32)))).2 (by decide) (by decide) ?_
     refine oIl X15 hx hby d9_82 rfl ?_
     refine XS.ifYes X15.here hx rfl (pc0 := 84) (pc' := 89) rfl (hb hby d9_84) rfl ((if0 _ _).trans (feq (by decide : ¬ ((1 : Int32) = (0 : Int32)))).2) (by decide) (by decide) ?_
     refine oIl X15 hx hby d9_89 rfl (oIl X15 hx hby d9_91 rfl ?_)
     refine XS.icmpNo X15.here hx rfl (hb hby d9_93) rfl (tlt (by decide : (0 : Int32) < (2 : Int32))).2.1 ?_
     refine oAn X15 hx hby d9_96 rfl rfl (oIn X15 hx hby d9_97 rfl ?_)
     refine XS.iinc X15.here hx rfl (hb hby d9_98) rfl (l' := #[rv r0, rv r1, iv 3, rv sA, rv wA, iv 0, iv 2, iv 1]) rfl ?_
     refine st16 _ ?_
     refine oAl X16 hx hby d9_104 rfl rfl (oIl X16 hx hby d9_106 rfl ?_)
     refine XS.iinc X16.here hx rfl (hb hby d9_108) rfl (l' := #[rv r0, rv r1, iv 3, rv sA, rv wA, iv 1, iv 2, iv 1]) rfl ?_
     refine X16.baloadBytes hx (j := (0 : Int32)) (v := (.int 87)) (by rw [e16]; exact Ar_z13.1) (State.isArrayOf_alike hZ.alike Ar_z13.2.1) Ar_z13.2.2 hin17 (Has.at H_z13 hin17 rfl) (g := (mkF m 111 #[rv r0, rv r1, iv 3, rv sA, rv wA, iv 1, iv 2, iv 1] [(.int 0), (.ref wA), (.int x2)])) rfl rfl (hb hby d9_111) _ ?_
     refine XS.sipush X16.here hx rfl (hb hby d9_112) ?_
     refine XS.iand X16.here hx rfl (hb hby d9_115) rfl ?_
     exact q
    by_cases hc116_18 : x2 = (87 : Int32)
    · obtain ⟨_, _, ⟨T20, L20, j20, i20⟩, -, X20, ⟨Lc20, hQ20, l20, y20, z20⟩, st20⟩ := Jvm.LawKit.callS X16 hx (y := (⟨cS1, "getChar", "([BI)C"⟩ : MethodName)) hown (mvT hZ (own_at hw 113 rfl)) (mvT hZ (own_at hw 111 rfl)) (mvT hZ (own_at hw 22 rfl)) (mvT hZ (own_at hw 112 rfl)) (by decide) (backOf (W := 0) (rmGC_5_3 l Z a0 hw [] sA kS x0 x1 x2 x3 x4 h0 n0 Z0 S_AD S_HI S_LO vA hch_x3) hZ (own_at hw 112 rfl) (own_at hw 22 rfl) (by decide) (by decide)) (g := (mkF m 101 #[rv r0, rv r1, iv 4, rv sA, rv wA, iv 1, iv 2, iv 1] [(.int 3), (.ref sA)])) rfl (by rw [hml]; rfl) (argsL := [(.ref sA), (.int 3)]) (rest := []) (lenOf pd_6 rfl) rfl (Nat.le_refl _) (hb hby d9_101) (fun _ _ => ⟨rfl, e16, (by decide : 0 + 0 ≤ _), (by decide : 0 + 0 ≤ _)⟩)
      dsimp only [Pt.U, Pt.locs, Pt.cells, Pt.slots] at X20 l20 y20 z20 st20 hQ20
      subst l20 y20 z20
      obtain ⟨rfl, N20q, e20⟩ := hQ20
      have N20 := Fr.app N16 N20q
      have hin21 : ¬ ((1 : Int32) < 0 ∨ cl_z13.slots.size ≤ ((1 : Int32)).toNatClampNeg) := inb_of S_z13 ⟨by decide, by decide⟩
      have k23 : ∀ t, OwnS p e below T20 (mkF m 116 #[rv r0, rv r1, iv 4, rv sA, rv wA, iv 2, iv 2, iv 1] [(.int 47), (.int x3)]) t → OwnS p e below s₁ (entryFrame m #[(.ref r0), (.ref r1), (.int 2)] 8) t := fun t q => by
       refine k19 t ?_
       refine XS.icmpYes X16.here hx rfl (pc0 := 116) (pc' := 89) rfl (hb hby d9_116) rfl (teq hc116_18).1 (by decide) (by decide) ?_
       refine oIl X16 hx hby d9_89 rfl (oIl X16 hx hby d9_91 rfl ?_)
       refine XS.icmpNo X16.here hx rfl (hb hby d9_93) rfl (tlt (by decide : (1 : Int32) < (2 : Int32))).2.1 ?_
       refine oAn X16 hx hby d9_96 rfl rfl (oIn X16 hx hby d9_97 rfl ?_)
       refine XS.iinc X16.here hx rfl (hb hby d9_98) rfl (l' := #[rv r0, rv r1, iv 4, rv sA, rv wA, iv 1, iv 2, iv 1]) rfl ?_
       refine st20 _ ?_
       refine oAl X20 hx hby d9_104 rfl rfl (oIl X20 hx hby d9_106 rfl ?_)
       refine XS.iinc X20.here hx rfl (hb hby d9_108) rfl (l' := #[rv r0, rv r1, iv 4, rv sA, rv wA, iv 2, iv 2, iv 1]) rfl ?_
       refine X20.baloadBytes hx (j := (1 : Int32)) (v := (.int 47)) (by rw [e20]; exact Ar_z13.1) (State.isArrayOf_alike hZ.alike Ar_z13.2.1) Ar_z13.2.2 hin21 (Has.at H_z13 hin21 rfl) (g := (mkF m 111 #[rv r0, rv r1, iv 4, rv sA, rv wA, iv 2, iv 2, iv 1] [(.int 1), (.ref wA), (.int x3)])) rfl rfl (hb hby d9_111) _ ?_
       refine XS.sipush X20.here hx rfl (hb hby d9_112) ?_
       refine XS.iand X20.here hx rfl (hb hby d9_115) rfl ?_
       exact q
      by_cases hc116_22 : x3 = (47 : Int32)
      · obtain ⟨fs, hr, hrun, hended, hW, hsame⟩ := X20.leave (v := some (.int 1)) (fun h => by rw [Bd.returns] at h; cases h)
        refine ⟨_, _, k23 _ ?_, hrun, hended, _, _, rfl, ?_, ⟨_, rfl⟩, hW, hsame.mono (by decide) (by decide)⟩
        · refine XS.icmpYes X20.here hx rfl (pc0 := 116) (pc' := 89) rfl (hb hby d9_116) rfl (teq hc116_22).1 (by decide) (by decide) ?_
          refine oIl X20 hx hby d9_89 rfl (oIl X20 hx hby d9_91 rfl ?_)
          refine XS.icmpYes X20.here hx rfl (pc0 := 93) (pc' := 121) rfl (hb hby d9_93) rfl (flt (by decide : ¬ ((2 : Int32) < (2 : Int32)))).2.1 (by decide) (by decide) ?_
          refine oIc X20 hx hby d9_121 ?_
          exact retN X20 hx (t := .boolean) Bd.returns (by simp) (hb hby d9_122) hr
        · show Q_SW_2 Z _ _ _ _ _ _ _ _ _ _ h0 n0 _ T20.heap _
          rw [e20]
          exact Or.inl (⟨rfl, N20, rfl, hc116_18, hc116_22⟩)
      · obtain ⟨fs, hr, hrun, hended, hW, hsame⟩ := X20.leave (v := some (.int 0)) (fun h => by rw [Bd.returns] at h; cases h)
        refine ⟨_, _, k23 _ ?_, hrun, hended, _, _, rfl, ?_, ⟨_, rfl⟩, hW, hsame.mono (by decide) (by decide)⟩
        · refine XS.icmpNo X20.here hx rfl (hb hby d9_116) rfl (feq hc116_22).1 ?_
          refine oIc X20 hx hby d9_119 ?_
          exact retN X20 hx (t := .boolean) Bd.returns (by simp) (hb hby d9_120) hr
        · show Q_SW_2 Z _ _ _ _ _ _ _ _ _ _ h0 n0 _ T20.heap _
          rw [e20]
          exact Or.inr (Or.inl (⟨rfl, N20, rfl, hc116_18, hc116_22⟩))
    · obtain ⟨fs, hr, hrun, hended, hW, hsame⟩ := X16.leave (v := some (.int 0)) (fun h => by rw [Bd.returns] at h; cases h)
      refine ⟨_, _, k19 _ ?_, hrun, hended, _, _, rfl, ?_, ⟨_, rfl⟩, hW, hsame.mono (by decide) (by decide)⟩
      · refine XS.icmpNo X16.here hx rfl (hb hby d9_116) rfl (feq hc116_18).1 ?_
        refine oIc X16 hx hby d9_119 ?_
        exact retN X16 hx (t := .boolean) Bd.returns (by simp) (hb hby d9_120) hr
      · show Q_SW_2 Z _ _ _ _ _ _ _ _ _ _ h0 n0 _ T16.heap _
        rw [e16]
        exact Or.inr (Or.inr ((⟨rfl, N16, rfl, hc116_18⟩)))
def Q_MM_3 (Z : State) (r0 : Addr) (r2 : Addr) (kA : ClassId) (kW : ClassId) (b0 : Int32) (b1 : Int32) (b2 : Int32) (b3 : Int32) (b4 : Int32) (h0 : Heap) (n0 : Nat) (v : Option Value) (h : Heap) (L : List Loc) : Prop := (v = some (.int (-1)) ∧ Fr n0 L ∧ h = h0 ∧ b3 = (87 : Int32) ∧ b4 = (47 : Int32)) ∨ (v = some (.int 1) ∧ Fr n0 L ∧ h = h0 ∧ b3 = (87 : Int32) ∧ ¬ (b4 = (47 : Int32))) ∨ (v = some (.int 0) ∧ Fr n0 L ∧ h = h0 ∧ ¬ (b3 = (87 : Int32)))
set_option maxRecDepth 65536 in
set_option maxHeartbeats 40000000 in
theorem rmMM_3 (l : Launch) (Z : State) (a0 : Array Value) (hw : ∀ d ∈ tables_1, d.before a0 Z = true) (ws : List Jvm.Cond) (r0 : Addr) (r2 : Addr) (kA : ClassId) (kW : ClassId) (b0 : Int32) (b1 : Int32) (b2 : Int32) (b3 : Int32) (b4 : Int32) (h0 : Heap) (n0 : Nat) (Z0 : n0 ≤ h0.size) (V_r0 : Arv Z h0 r0 kA .byte (5 : Int32) [(.int b0), (.int b1), (.int b2), (.int b3), (.int b4)] (.int 0)) (V_r2 : Arv Z h0 r2 kW .byte (2 : Int32) [(.int 87), (.int 47)] (.int 0)) :
    MetFree l (⟨cS11, "mismatch", "([BI[BII)I"⟩ : MethodName) (head1 (Jvm.Cond.code (⟨cS11, "mismatch", "([BI[BII)I"⟩ : MethodName) jdk_48_method_14_code 8 (some .int) :: ws) ({ frames := 0, cells := 0, slots := 0, locals := 0 } : Room)) (fun a U => a = #[(.ref r0), (.int 3), (.ref r2), (.int 0), (.int 2)] ∧ Z.Warmed39 U.vm ∧ U.heap = h0) (fun _ _ _ _ _ => True) (fun _ U o U' => ∃ v L, o = .returned v ∧ Q_MM_3 Z r0 r2 kA kW b0 b1 b2 b3 b4 h0 n0 v U'.heap L ∧ FrameEnd U o U' L 0 0) := by
  refine MetFree.of_bodySF (plainFor_of_name pn_jdk_internal_util_ArraysSupport) hisR ?_
  intro p e s m args below meth c s₁ Bd hml0 hP hK
  obtain ⟨rfl, hZ, hh⟩ := hP
  have hx := Bd.exec
  have hby := Bd.bytes
  have hml : c.maxLocals = 8 := hml0
  have hown : s.vm.findClass cS11 = some m.cls := findClass_of_methodNamed Bd.named
  have hnm := (name_of_methodNamed Bd.named Bd.method).1
  have X0 : Stand p l e ({ frames := 0, cells := 0, slots := 0, locals := 0 } : Room) s m #[(.ref r0), (.int 3), (.ref r2), (.int 0), (.int 2)] below meth c s₁ [] 0 0 := Stand.of_body Bd
  have e0 : s₁.heap = h0 := by rw [← hh, Bd.state]; rfl
  have N0 := Fr.nil n0
  have k0 : ∀ t, OwnS p e below s₁ (mkF m 0 #[rv r0, iv 3, rv r2, iv 0, iv 2, .unset, .unset, .unset] []) t → OwnS p e below s₁ (entryFrame m #[(.ref r0), (.int 3), (.ref r2), (.int 0), (.int 2)] 8) t := fun t k => castTop (ef_12 m r0 (3 : Int32) r2 (0 : Int32) (2 : Int32)) k
  obtain ⟨cl_z1, Ar_z1, q_z1, S_z1, N_z1, H_z1, G_z1⟩ := id V_r0
  have hin2 : ¬ ((3 : Int32) < 0 ∨ cl_z1.slots.size ≤ ((3 : Int32)).toNatClampNeg) := inb_of S_z1 ⟨by decide, by decide⟩
  obtain ⟨cl_z3, Ar_z3, q_z3, S_z3, N_z3, H_z3, G_z3⟩ := id V_r2
  have hin4 : ¬ ((0 : Int32) < 0 ∨ cl_z3.slots.size ≤ ((0 : Int32)).toNatClampNeg) := inb_of S_z3 ⟨by decide, by decide⟩
  have k6 : ∀ t, OwnS p e below s₁ (mkF m 89 #[rv r0, iv 3, rv r2, iv 0, iv 2, iv 0, .unset, .unset] [(.int 87), (.int b3)]) t → OwnS p e below s₁ (entryFrame m #[(.ref r0), (.int 3), (.ref r2), (.int 0), (.int 2)] 8) t := fun t q => by
   refine k0 t ?_
   show OwnS p e below s₁ (mkF m 0 #[rv r0, iv 3, rv r2, iv 0, iv 2, .unset, .unset, .unset] []) _
   refine oIc X0 hx hby d12_0 ?_
   refine XS.istore X0.here hx rfl (hb hby d12_1) rfl (l' := #[rv r0, iv 3, rv r2, iv 0, iv 2, iv 0, .unset, .unset]) rfl ?_
   refine oIl X0 hx hby d12_3 rfl (oBp X0 hx hby d12_5 ?_)
   refine XS.icmpYes X0.here hx rfl (pc0 := 7) (pc' := 70) rfl (hb hby d12_7) rfl (flt (by decide : ¬ ((7 : Int32) < (2 : Int32)))).2.2.2 (by decide) (by decide) ?_
   refine oIl X0 hx hby d12_70 rfl (oIl X0 hx hby d12_72 rfl ?_)
   refine XS.icmpNo X0.here hx rfl (hb hby d12_74) rfl (tlt (by decide : (0 : Int32) < (2 : Int32))).2.1 ?_
   refine oAn X0 hx hby d12_77 rfl rfl (oIn X0 hx hby d12_78 rfl (oIl X0 hx hby d12_79 rfl ?_))
   refine XS.iadd X0.here hx rfl (hb hby d12_81) rfl ?_
   refine X0.baloadBytes hx (j := (3 : Int32)) (v := (.int b3)) (by rw [e0]; exact Ar_z1.1) (State.isArrayOf_alike hZ.alike Ar_z1.2.1) Ar_z1.2.2 hin2 (Has.at H_z1 hin2 rfl) (g := (mkF m 82 #[rv r0, iv 3, rv r2, iv 0, iv 2, iv 0, .unset, .unset] [(.int 3), (.ref r0)])) rfl rfl (hb hby d12_82) _ ?_
   refine oAn X0 hx hby d12_83 rfl rfl (oIn X0 hx hby d12_84 rfl (oIl X0 hx hby d12_85 rfl ?_))
   refine XS.iadd X0.here hx rfl (hb hby d12_87) rfl ?_
   refine X0.baloadBytes hx (j := (0 : Int32)) (v := (.int 87)) (by rw [e0]; exact Ar_z3.1) (State.isArrayOf_alike hZ.alike Ar_z3.2.1) Ar_z3.2.2 hin4 (Has.at H_z3 hin4 rfl) (g := (mkF m 88 #[rv r0, iv 3, rv r2, iv 0, iv 2, iv 0, .unset, .unset] [(.int 0), (.ref r2), (.int b3)])) rfl rfl (hb hby d12_88) _ ?_
   exact q
  by_cases hc89_5 : b3 = (87 : Int32)
  · have hin7 : ¬ ((4 : Int32) < 0 ∨ cl_z1.slots.size ≤ ((4 : Int32)).toNatClampNeg) := inb_of S_z1 ⟨by decide, by decide⟩
    have hin8 : ¬ ((1 : Int32) < 0 ∨ cl_z3.slots.size ≤ ((1 : Int32)).toNatClampNeg) := inb_of S_z3 ⟨by decide, by decide⟩
    have k10 : ∀ t, OwnS p e below s₁ (mkF m 89 #[rv r0, iv 3, rv r2, iv 0, iv 2, iv 1, .unset, .unset] [(.int 47), (.int b4)]) t → OwnS p e below s₁ (entryFrame m #[(.ref r0), (.int 3), (.ref r2), (.int 0), (.int 2)] 8) t := fun t q => by
     refine k6 t ?_
     refine XS.icmpYes X0.here hx rfl (pc0 := 89) (pc' := 95) rfl (hb hby d12_89) rfl (teq hc89_5).1 (by decide) (by decide) ?_
     refine XS.iinc X0.here hx rfl (hb hby d12_95) rfl (l' := #[rv r0, iv 3, rv r2, iv 0, iv 2, iv 1, .unset, .unset]) rfl ?_
     refine oGo X0 hx hby 98 70 d12_98 (by decide) (by decide) (oIl X0 hx hby d12_70 rfl (oIl X0 hx hby d12_72 rfl ?_))
     refine XS.icmpNo X0.here hx rfl (hb hby d12_74) rfl (tlt (by decide : (1 : Int32) < (2 : Int32))).2.1 ?_
     refine oAn X0 hx hby d12_77 rfl rfl (oIn X0 hx hby d12_78 rfl (oIl X0 hx hby d12_79 rfl ?_))
     refine XS.iadd X0.here hx rfl (hb hby d12_81) rfl ?_
     refine X0.baloadBytes hx (j := (4 : Int32)) (v := (.int b4)) (by rw [e0]; exact Ar_z1.1) (State.isArrayOf_alike hZ.alike Ar_z1.2.1) Ar_z1.2.2 hin7 (Has.at H_z1 hin7 rfl) (g := (mkF m 82 #[rv r0, iv 3, rv r2, iv 0, iv 2, iv 1, .unset, .unset] [(.int 4), (.ref r0)])) rfl rfl (hb hby d12_82) _ ?_
     refine oAn X0 hx hby d12_83 rfl rfl (oIn X0 hx hby d12_84 rfl (oIl X0 hx hby d12_85 rfl ?_))
     refine XS.iadd X0.here hx rfl (hb hby d12_87) rfl ?_
     refine X0.baloadBytes hx (j := (1 : Int32)) (v := (.int 47)) (by rw [e0]; exact Ar_z3.1) (State.isArrayOf_alike hZ.alike Ar_z3.2.1) Ar_z3.2.2 hin8 (Has.at H_z3 hin8 rfl) (g := (mkF m 88 #[rv r0, iv 3, rv r2, iv 0, iv 2, iv 1, .unset, .unset] [(.int 1), (.ref r2), (.int b4)])) rfl rfl (hb hby d12_88) _ ?_
     exact q
    by_cases hc89_9 : b4 = (47 : Int32)
    · obtain ⟨fs, hr, hrun, hended, hW, hsame⟩ := X0.leave (v := some (.int (-1))) (fun h => by rw [Bd.returns] at h; cases h)
      refine ⟨_, _, k10 _ ?_, hrun, hended, _, _, rfl, ?_, ⟨_, rfl⟩, hW, hsame.mono (by decide) (by decide)⟩
      · refine XS.icmpYes X0.here hx rfl (pc0 := 89) (pc' := 95) rfl (hb hby d12_89) rfl (teq hc89_9).1 (by decide) (by decide) ?_
        refine XS.iinc X0.here hx rfl (hb hby d12_95) rfl (l' := #[rv r0, iv 3, rv r2, iv 0, iv 2, iv 2, .unset, .unset]) rfl ?_
        refine oGo X0 hx hby 98 70 d12_98 (by decide) (by decide) (oIl X0 hx hby d12_70 rfl (oIl X0 hx hby d12_72 rfl ?_))
        refine XS.icmpYes X0.here hx rfl (pc0 := 74) (pc' := 101) rfl (hb hby d12_74) rfl (flt (by decide : ¬ ((2 : Int32) < (2 : Int32)))).2.1 (by decide) (by decide) ?_
        refine oIc X0 hx hby d12_101 ?_
        exact retI X0 hx Bd.returns (hb hby d12_102) hr
      · show Q_MM_3 Z _ _ _ _ _ _ _ _ _ h0 n0 _ s₁.heap _
        rw [e0]
        exact Or.inl (⟨rfl, N0, rfl, hc89_5, hc89_9⟩)
    · obtain ⟨fs, hr, hrun, hended, hW, hsame⟩ := X0.leave (v := some (.int 1)) (fun h => by rw [Bd.returns] at h; cases h)
      refine ⟨_, _, k10 _ ?_, hrun, hended, _, _, rfl, ?_, ⟨_, rfl⟩, hW, hsame.mono (by decide) (by decide)⟩
      · refine XS.icmpNo X0.here hx rfl (hb hby d12_89) rfl (feq hc89_9).1 ?_
        refine oIl X0 hx hby d12_92 rfl ?_
        exact retI X0 hx Bd.returns (hb hby d12_94) hr
      · show Q_MM_3 Z _ _ _ _ _ _ _ _ _ h0 n0 _ s₁.heap _
        rw [e0]
        exact Or.inr (Or.inl (⟨rfl, N0, rfl, hc89_5, hc89_9⟩))
  · obtain ⟨fs, hr, hrun, hended, hW, hsame⟩ := X0.leave (v := some (.int 0)) (fun h => by rw [Bd.returns] at h; cases h)
    refine ⟨_, _, k6 _ ?_, hrun, hended, _, _, rfl, ?_, ⟨_, rfl⟩, hW, hsame.mono (by decide) (by decide)⟩
    · refine XS.icmpNo X0.here hx rfl (hb hby d12_89) rfl (feq hc89_5).1 ?_
      refine oIl X0 hx hby d12_92 rfl ?_
      exact retI X0 hx Bd.returns (hb hby d12_94) hr
    · show Q_MM_3 Z _ _ _ _ _ _ _ _ _ h0 n0 _ s₁.heap _
      rw [e0]
      exact Or.inr (Or.inr ((⟨rfl, N0, rfl, hc89_5⟩)))
def Q_SW_3 (Z : State) (r0 : Addr) (r1 : Addr) (w_CS : Int32) (wA : Addr) (kW : ClassId) (x0 : Int32) (x1 : Int32) (x2 : Int32) (x3 : Int32) (x4 : Int32) (h0 : Heap) (n0 : Nat) (v : Option Value) (h : Heap) (L : List Loc) : Prop := (v = some (.int 1) ∧ Fr n0 L ∧ h = h0 ∧ x3 = (87 : Int32) ∧ x4 = (47 : Int32)) ∨ (v = some (.int 0) ∧ Fr n0 L ∧ h = h0 ∧ x3 = (87 : Int32) ∧ ¬ (x4 = (47 : Int32))) ∨ (v = some (.int 0) ∧ Fr n0 L ∧ h = h0 ∧ ¬ (x3 = (87 : Int32)))
set_option maxRecDepth 65536 in
set_option maxHeartbeats 40000000 in
theorem rmSW_3 (l : Launch) (Z : State) (a0 : Array Value) (hw : ∀ d ∈ tables_1, d.before a0 Z = true) (ws : List Jvm.Cond) (r0 : Addr) (r1 : Addr) (w_CS : Int32) (wA : Addr) (kW : ClassId) (x0 : Int32) (x1 : Int32) (x2 : Int32) (x3 : Int32) (x4 : Int32) (h0 : Heap) (n0 : Nat) (Z0 : n0 ≤ h0.size) (S_CS : Sta Z h0 cS0 cS13 "Z" (.int w_CS)) (hcs : ¬ (w_CS = (0 : Int32))) (S_AD : Sta Z h0 cS1 cS6 "Z" (.int 1)) (S_HI : Sta Z h0 cS1 cS7 "I" (.int 0)) (S_LO : Sta Z h0 cS1 cS8 "I" (.int 8)) (P_r0 : own_S5 Z h0 r0 x0 x1 x2 x3 x4) (E_r1 : Exa Z h0 r1 cS0) (F_coder_r1 : Fld Z h0 r1 cS0 "coder" "B" (.int 0)) (F_value_r1 : Fld Z h0 r1 cS0 "value" "[B" (.ref wA)) (V_wA : Arv Z h0 wA kW .byte (2 : Int32) [(.int 87), (.int 47)] (.int 0)) (hch_x0 : own_ch x0) (hch_x1 : own_ch x1) (hch_x2 : own_ch x2) (hch_x3 : own_ch x3) (hch_x4 : own_ch x4) (E_r0 : Exa Z h0 r0 cS0) :
    MetFree l (⟨cS0, "startsWith", cS9⟩ : MethodName) (head1 (Jvm.Cond.code (⟨cS0, "startsWith", cS9⟩ : MethodName) jdk_42_method_75_code 8 (some .boolean) :: ws) ({ frames := 2, cells := 0, slots := 0, locals := 27 } : Room)) (fun a U => a = #[(.ref r0), (.ref r1), (.int 3)] ∧ Z.Warmed39 U.vm ∧ U.heap = h0) (fun _ _ _ _ _ => True) (fun _ U o U' => ∃ v L, o = .returned v ∧ Q_SW_3 Z r0 r1 w_CS wA kW x0 x1 x2 x3 x4 h0 n0 v U'.heap L ∧ FrameEnd U o U' L 0 0) := by
  refine MetFree.of_bodySF (plainFor_of_name pn_java_lang_String) hisR ?_
  intro p e s m args below meth c s₁ Bd hml0 hP hK
  obtain ⟨rfl, hZ, hh⟩ := hP
  have hx := Bd.exec
  have hby := Bd.bytes
  have hml : c.maxLocals = 8 := hml0
  have hown : s.vm.findClass cS0 = some m.cls := findClass_of_methodNamed Bd.named
  have hnm := (name_of_methodNamed Bd.named Bd.method).1
  have X0 : Stand p l e ({ frames := 2, cells := 0, slots := 0, locals := 27 } : Room) s m #[(.ref r0), (.ref r1), (.int 3)] below meth c s₁ [] 0 0 := Stand.of_body Bd
  have e0 : s₁.heap = h0 := by rw [← hh, Bd.state]; rfl
  have N0 := Fr.nil n0
  have k0 : ∀ t, OwnS p e below s₁ (mkF m 0 #[rv r0, rv r1, iv 3, .unset, .unset, .unset, .unset, .unset] []) t → OwnS p e below s₁ (entryFrame m #[(.ref r0), (.ref r1), (.int 3)] 8) t := fun t k => castTop (ef_9 m r0 r1 (3 : Int32)) k
  obtain ⟨cq1, kq1, q1a, q1b, q1c⟩ := isOf hZ e0 E_r0
  obtain ⟨_, _, ⟨T1, L1, j1, i1⟩, -, X1, ⟨Lc1, hQ1, l1, y1, z1⟩, st1⟩ := X0.virtualBack hx (y := (⟨cS0, "length", "()I"⟩ : MethodName)) (z := (⟨cS0, "length", "()I"⟩ : MethodName)) hown (mvT hZ (own_at hw 47 rfl)) (mvT hZ (own_at hw 48 rfl)) (notFace_of_selects (args := #[]) (mvT hZ (own_at hw 50 rfl))) (mvT hZ (own_at hw 50 rfl)) (mvT hZ (own_at hw 49 rfl)) (by decide) (backOf (W := 1) (rmLen_5 l Z a0 hw [] r0 w_CS x0 x1 x2 x3 x4 h0 n0 Z0 S_CS hcs P_r0) hZ (own_at hw 51 rfl) (own_at hw 8 rfl) (by decide) (by decide)) q1a q1c (g := (mkF m 6 #[rv r0, rv r1, iv 3, .unset, .unset, .unset, .unset, .unset] [(.ref r0), (.int 3)])) rfl (by rw [hml]; rfl) (Steps.refl _) (argsL := []) (rest := [(.int 3)]) (lenOf pd_16 rfl) rfl (Nat.le_refl _) (hb hby d9_6) (fun _ _ => ⟨rfl, e0, (by decide : 0 + 0 ≤ _), (by decide : 0 + 0 ≤ _)⟩)
  dsimp only [Pt.U, Pt.locs, Pt.cells, Pt.slots] at X1 l1 y1 z1 st1 hQ1
  subst l1 y1 z1
  obtain ⟨rfl, N1q, e1⟩ := hQ1
  have N1 := Fr.app N0 N1q
  obtain ⟨cq2, kq2, q2a, q2b, q2c⟩ := isOf hZ e1 E_r1
  obtain ⟨_, _, ⟨T2, L2, j2, i2⟩, -, X2, ⟨Lc2, hQ2, l2, y2, z2⟩, st2⟩ := X1.virtualBack hx (y := (⟨cS0, "length", "()I"⟩ : MethodName)) (z := (⟨cS0, "length", "()I"⟩ : MethodName)) hown (mvT hZ (own_at hw 47 rfl)) (mvT hZ (own_at hw 48 rfl)) (notFace_of_selects (args := #[]) (mvT hZ (own_at hw 50 rfl))) (mvT hZ (own_at hw 50 rfl)) (mvT hZ (own_at hw 49 rfl)) (by decide) (backOf (W := 2) (rmLenL l Z a0 hw [] r1 w_CS wA kW [(.int 87), (.int 47)] h0 n0 Z0 S_CS hcs E_r1 F_coder_r1 F_value_r1 V_wA) hZ (own_at hw 51 rfl) (own_at hw 8 rfl) (by decide) (by decide)) q2a q2c (g := (mkF m 10 #[rv r0, rv r1, iv 3, .unset, .unset, .unset, .unset, .unset] [(.ref r1), (.int 5), (.int 3)])) rfl (by rw [hml]; rfl) (Steps.refl _) (argsL := []) (rest := [(.int 5), (.int 3)]) (lenOf pd_16 rfl) rfl (Nat.le_refl _) (hb hby d9_10) (fun _ _ => ⟨rfl, e1, (by decide : 0 + 0 ≤ _), (by decide : 0 + 0 ≤ _)⟩)
  dsimp only [Pt.U, Pt.locs, Pt.cells, Pt.slots] at X2 l2 y2 z2 st2 hQ2
  subst l2 y2 z2
  obtain ⟨rfl, N2q, e2⟩ := hQ2
  have N2 := Fr.app N1 N2q
  have k3 : ∀ t, OwnS p e below T2 (mkF m 19 #[rv r0, rv r1, iv 3, .unset, .unset, .unset, .unset, .unset] []) t → OwnS p e below s₁ (entryFrame m #[(.ref r0), (.ref r1), (.int 3)] 8) t := fun t q => by
   refine k0 t ?_
   show OwnS p e below s₁ (mkF m 0 #[rv r0, rv r1, iv 3, .unset, .unset, .unset, .unset, .unset] []) _
   refine oIn X0 hx hby d9_0 rfl ?_
   refine XS.ifNo X0.here hx rfl (hb hby d9_1) rfl ((if0 _ _).trans (flt (by decide : ¬ ((3 : Int32) < (0 : Int32)))).1) ?_
   refine oIn X0 hx hby d9_4 rfl (oAn X0 hx hby d9_5 rfl rfl ?_)
   refine st1.trans ?_
   refine oAn X1 hx hby d9_9 rfl rfl ?_
   refine st2.trans ?_
   refine XS.isub X2.here hx rfl (hb hby d9_13) rfl ?_
   refine XS.icmpYes X2.here hx rfl (pc0 := 14) (pc' := 19) rfl (hb hby d9_14) rfl (flt (by decide : ¬ ((3 : Int32) < (3 : Int32)))).2.2.2 (by decide) (by decide) ?_
   exact q
  rcases id P_r0 with ⟨eS, ⟨sA, kS, fC, fV, vA, hl0, hl1, hl2, hl3, hl4⟩ | ⟨sA, kS, fC, fV, vA⟩⟩
  · skip
    obtain ⟨T4, X4, e4, st4⟩ := getF X2 hx hZ hown (host := "") (Or.inl (own_at hw 33 rfl)) Via.refl e2 fV (g := (mkF m 20 #[rv r0, rv r1, iv 3, .unset, .unset, .unset, .unset, .unset] [(.ref r0)])) rfl rfl (hb hby d9_20)
    obtain ⟨T5, X5, e5, st5⟩ := getF X4 hx hZ hown (host := "") (Or.inl (own_at hw 33 rfl)) Via.refl e4 F_value_r1 (g := (mkF m 25 #[rv r0, rv r1, iv 3, rv sA, .unset, .unset, .unset, .unset] [(.ref r1)])) rfl rfl (hb hby d9_25)
    obtain ⟨cl_z6, Ar_z6, q_z6, S_z6, N_z6, H_z6, G_z6⟩ := id V_wA
    obtain ⟨cq7, kq7, q7a, q7b, q7c⟩ := isOf hZ e5 eS
    obtain ⟨_, _, ⟨T7, L7, j7, i7⟩, -, X7, ⟨Lc7, hQ7, l7, y7, z7⟩, st7⟩ := X5.virtualBack hx (y := (⟨cS0, "coder", "()B"⟩ : MethodName)) (z := (⟨cS0, "coder", "()B"⟩ : MethodName)) hown (mvT hZ (own_at hw 52 rfl)) (mvT hZ (own_at hw 53 rfl)) (notFace_of_selects (args := #[]) (mvT hZ (own_at hw 55 rfl))) (mvT hZ (own_at hw 55 rfl)) (mvT hZ (own_at hw 54 rfl)) (by decide) (backOf (W := 0) (rmCo0 l Z a0 hw [] r0 w_CS h0 n0 Z0 S_CS hcs fC) hZ (own_at hw 56 rfl) (own_at hw 8 rfl) (by decide) (by decide)) q7a q7c (g := (mkF m 39 #[rv r0, rv r1, iv 3, rv sA, rv wA, iv 0, iv 2, .unset] [(.ref r0)])) rfl (by rw [hml]; rfl) (Steps.refl _) (argsL := []) (rest := []) (lenOf pd_9 rfl) rfl (Nat.le_refl _) (hb hby d9_39) (fun _ _ => ⟨rfl, e5, (by decide : 0 + 0 ≤ _), (by decide : 0 + 0 ≤ _)⟩)
    dsimp only [Pt.U, Pt.locs, Pt.cells, Pt.slots] at X7 l7 y7 z7 st7 hQ7
    subst l7 y7 z7
    obtain ⟨rfl, N7q, e7⟩ := hQ7
    have N7 := Fr.app N2 N7q
    obtain ⟨cq8, kq8, q8a, q8b, q8c⟩ := isOf hZ e7 E_r1
    obtain ⟨_, _, ⟨T8, L8, j8, i8⟩, -, X8, ⟨Lc8, hQ8, l8, y8, z8⟩, st8⟩ := X7.virtualBack hx (y := (⟨cS0, "coder", "()B"⟩ : MethodName)) (z := (⟨cS0, "coder", "()B"⟩ : MethodName)) hown (mvT hZ (own_at hw 52 rfl)) (mvT hZ (own_at hw 53 rfl)) (notFace_of_selects (args := #[]) (mvT hZ (own_at hw 55 rfl))) (mvT hZ (own_at hw 55 rfl)) (mvT hZ (own_at hw 54 rfl)) (by decide) (backOf (W := 1) (rmCo0 l Z a0 hw [] r1 w_CS h0 n0 Z0 S_CS hcs F_coder_r1) hZ (own_at hw 56 rfl) (own_at hw 8 rfl) (by decide) (by decide)) q8a q8c (g := (mkF m 47 #[rv r0, rv r1, iv 3, rv sA, rv wA, iv 0, iv 2, iv 0] [(.ref r1), (.int 0)])) rfl (by rw [hml]; rfl) (Steps.refl _) (argsL := []) (rest := [(.int 0)]) (lenOf pd_9 rfl) rfl (Nat.le_refl _) (hb hby d9_47) (fun _ _ => ⟨rfl, e7, (by decide : 0 + 0 ≤ _), (by decide : 0 + 0 ≤ _)⟩)
    dsimp only [Pt.U, Pt.locs, Pt.cells, Pt.slots] at X8 l8 y8 z8 st8 hQ8
    subst l8 y8 z8
    obtain ⟨rfl, N8q, e8⟩ := hQ8
    have N8 := Fr.app N7 N8q
    obtain ⟨_, _, ⟨T9, L9, j9, i9⟩, -, X9, ⟨Lc9, hQ9, l9, y9, z9⟩, st9⟩ := Jvm.LawKit.callS X8 hx (y := (⟨cS11, "mismatch", "([BI[BII)I"⟩ : MethodName)) hown (mvT hZ (own_at hw 57 rfl)) (mvT hZ (own_at hw 58 rfl)) (mvT hZ (own_at hw 59 rfl)) (mvT hZ (own_at hw 60 rfl)) (by decide) (backOf (W := 0) (rmMM_3 l Z a0 hw [] sA wA kS kW ((x0.toInt8.toInt32).toInt8.toInt32) ((x1.toInt8.toInt32).toInt8.toInt32) ((x2.toInt8.toInt32).toInt8.toInt32) ((x3.toInt8.toInt32).toInt8.toInt32) ((x4.toInt8.toInt32).toInt8.toInt32) h0 n0 Z0 vA V_wA) hZ (own_at hw 60 rfl) (own_at hw 59 rfl) (by decide) (by decide)) (g := (mkF m 70 #[rv r0, rv r1, iv 3, rv sA, rv wA, iv 0, iv 2, iv 0] [(.int 2), (.int 0), (.ref wA), (.int 3), (.ref sA)])) rfl (by rw [hml]; rfl) (argsL := [(.ref sA), (.int 3), (.ref wA), (.int 0), (.int 2)]) (rest := []) (lenOf pd_17 rfl) rfl (Nat.le_refl _) (hb hby d9_70) (fun _ _ => ⟨rfl, e8, (by decide : 0 + 0 ≤ _), (by decide : 0 + 0 ≤ _)⟩)
    dsimp only [Pt.U, Pt.locs, Pt.cells, Pt.slots] at X9 l9 y9 z9 st9 hQ9
    subst l9 y9 z9
    have k10 : ∀ t, OwnS p e below T8 (mkF m 70 #[rv r0, rv r1, iv 3, rv sA, rv wA, iv 0, iv 2, iv 0] [(.int 2), (.int 0), (.ref wA), (.int 3), (.ref sA)]) t → OwnS p e below s₁ (entryFrame m #[(.ref r0), (.ref r1), (.int 3)] 8) t := fun t q => by
     refine k3 t ?_
     show OwnS p e below T2 (mkF m 19 #[rv r0, rv r1, iv 3, .unset, .unset, .unset, .unset, .unset] []) _
     refine oAn X2 hx hby d9_19 rfl rfl ?_
     refine st4 _ ?_
     refine XS.astoreN X4.here hx rfl (hb hby d9_23) rfl rfl (l' := #[rv r0, rv r1, iv 3, rv sA, .unset, .unset, .unset, .unset]) rfl ?_
     refine oAn X4 hx hby d9_24 rfl rfl ?_
     refine st5 _ ?_
     refine XS.astore X5.here hx rfl (hb hby d9_28) rfl rfl (l' := #[rv r0, rv r1, iv 3, rv sA, rv wA, .unset, .unset, .unset]) rfl ?_
     refine oIc X5 hx hby d9_30 ?_
     refine XS.istore X5.here hx rfl (hb hby d9_31) rfl (l' := #[rv r0, rv r1, iv 3, rv sA, rv wA, iv 0, .unset, .unset]) rfl ?_
     refine oAl X5 hx hby d9_33 rfl rfl ?_
     refine X5.arraylength hx (by rw [e5]; exact Ar_z6.1) (State.isArrayOf_alike hZ.alike Ar_z6.2.1) (g := (mkF m 35 #[rv r0, rv r1, iv 3, rv sA, rv wA, iv 0, .unset, .unset] [(.ref wA)])) rfl rfl (hb hby d9_35) _ ?_
     rw [len_of S_z6 N_z6]
     refine XS.istore X5.here hx rfl (hb hby d9_36) rfl (l' := #[rv r0, rv r1, iv 3, rv sA, rv wA, iv 0, iv 2, .unset]) rfl ?_
     refine oAn X5 hx hby d9_38 rfl rfl ?_
     refine st7.trans ?_
     refine XS.istore X7.here hx rfl (hb hby d9_42) rfl (l' := #[rv r0, rv r1, iv 3, rv sA, rv wA, iv 0, iv 2, iv 0]) rfl ?_
     refine oIl X7 hx hby d9_44 rfl (oAn X7 hx hby d9_46 rfl rfl ?_)
     refine st8.trans ?_
     refine XS.icmpNo X8.here hx rfl (hb hby d9_50) rfl (teq (by decide : (0 : Int32) = (0 : Int32))).2 ?_
     refine oIl X8 hx hby d9_53 rfl (oIc X8 hx hby d9_55 ?_)
     refine XS.icmpYes X8.here hx rfl (pc0 := 56) (pc' := 63) rfl (hb hby d9_56) rfl (feq (by decide : ¬ ((0 : Int32) = (1 : Int32)))).2 (by decide) (by decide) ?_
     refine oAn X8 hx hby d9_63 rfl rfl (oIn X8 hx hby d9_64 rfl (oAl X8 hx hby d9_65 rfl rfl (oIc X8 hx hby d9_67 (oIl X8 hx hby d9_68 rfl ?_))))
     exact q
    rcases hQ9 with ⟨rfl, N9q, e9, p9_0, p9_1⟩ | ⟨rfl, N9q, e9, p9_0, p9_1⟩ | ⟨rfl, N9q, e9, p9_0⟩
    · have N9 := Fr.app N8 N9q
      obtain ⟨fs, hr, hrun, hended, hW, hsame⟩ := X9.leave (v := some (.int 1)) (fun h => by rw [Bd.returns] at h; cases h)
      refine ⟨_, _, k10 _ ?_, hrun, hended, _, _, rfl, ?_, ⟨_, rfl⟩, hW, hsame.mono (by decide) (by decide)⟩
      · refine st9 _ ?_
        refine XS.ifNo X9.here hx rfl (hb hby d9_73) rfl ((if0 _ _).trans (tlt (by decide : (-1 : Int32) < (0 : Int32))).2.1) ?_
        refine oIc X9 hx hby d9_76 (oGo X9 hx hby 77 81 d9_77 (by decide) (by decide) ?_)
        exact retN X9 hx (t := .boolean) Bd.returns (by simp) (hb hby d9_81) hr
      · show Q_SW_3 Z _ _ _ _ _ _ _ _ _ _ h0 n0 _ T9.heap _
        rw [e9]
        exact Or.inl (⟨rfl, N9, rfl, (own_nbinj hch_x3 hl3 (by decide) (by decide) p9_0), (own_nbinj hch_x4 hl4 (by decide) (by decide) p9_1)⟩)
    · have N9 := Fr.app N8 N9q
      obtain ⟨fs, hr, hrun, hended, hW, hsame⟩ := X9.leave (v := some (.int 0)) (fun h => by rw [Bd.returns] at h; cases h)
      refine ⟨_, _, k10 _ ?_, hrun, hended, _, _, rfl, ?_, ⟨_, rfl⟩, hW, hsame.mono (by decide) (by decide)⟩
      · refine st9 _ ?_
        refine XS.ifYes X9.here hx rfl (pc0 := 73) (pc' := 80) rfl (hb hby d9_73) rfl ((if0 _ _).trans (flt (by decide : ¬ ((1 : Int32) < (0 : Int32)))).2.1) (by decide) (by decide) ?_
        refine oIc X9 hx hby d9_80 ?_
        exact retN X9 hx (t := .boolean) Bd.returns (by simp) (hb hby d9_81) hr
      · show Q_SW_3 Z _ _ _ _ _ _ _ _ _ _ h0 n0 _ T9.heap _
        rw [e9]
        exact Or.inr (Or.inl (⟨rfl, N9, rfl, (own_nbinj hch_x3 hl3 (by decide) (by decide) p9_0), (fun q => p9_1 (by rw [q]; decide))⟩))
    · have N9 := Fr.app N8 N9q
      obtain ⟨fs, hr, hrun, hended, hW, hsame⟩ := X9.leave (v := some (.int 0)) (fun h => by rw [Bd.returns] at h; cases h)
      refine ⟨_, _, k10 _ ?_, hrun, hended, _, _, rfl, ?_, ⟨_, rfl⟩, hW, hsame.mono (by decide) (by decide)⟩
      · refine st9 _ ?_
        refine XS.ifYes X9.here hx rfl (pc0 := 73) (pc' := 80) rfl (hb hby d9_73) rfl ((if0 _ _).trans (flt (by decide : ¬ ((0 : Int32) < (0 : Int32)))).2.1) (by decide) (by decide) ?_
        refine oIc X9 hx hby d9_80 ?_
        exact retN X9 hx (t := .boolean) Bd.returns (by simp) (hb hby d9_81) hr
      · show Q_SW_3 Z _ _ _ _ _ _ _ _ _ _ h0 n0 _ T9.heap _
        rw [e9]
        exact Or.inr (Or.inr ((⟨rfl, N9, rfl, (fun q => p9_0 (by rw [q]; decide))⟩)))
  · skip
    obtain ⟨T11, X11, e11, st11⟩ := getF X2 hx hZ hown (host := "") (Or.inl (own_at hw 33 rfl)) Via.refl e2 fV (g := (mkF m 20 #[rv r0, rv r1, iv 3, .unset, .unset, .unset, .unset, .unset] [(.ref r0)])) rfl rfl (hb hby d9_20)
    obtain ⟨T12, X12, e12, st12⟩ := getF X11 hx hZ hown (host := "") (Or.inl (own_at hw 33 rfl)) Via.refl e11 F_value_r1 (g := (mkF m 25 #[rv r0, rv r1, iv 3, rv sA, .unset, .unset, .unset, .unset] [(.ref r1)])) rfl rfl (hb hby d9_25)
    obtain ⟨cl_z13, Ar_z13, q_z13, S_z13, N_z13, H_z13, G_z13⟩ := id V_wA
    obtain ⟨cq14, kq14, q14a, q14b, q14c⟩ := isOf hZ e12 eS
    obtain ⟨_, _, ⟨T14, L14, j14, i14⟩, -, X14, ⟨Lc14, hQ14, l14, y14, z14⟩, st14⟩ := X12.virtualBack hx (y := (⟨cS0, "coder", "()B"⟩ : MethodName)) (z := (⟨cS0, "coder", "()B"⟩ : MethodName)) hown (mvT hZ (own_at hw 52 rfl)) (mvT hZ (own_at hw 53 rfl)) (notFace_of_selects (args := #[]) (mvT hZ (own_at hw 55 rfl))) (mvT hZ (own_at hw 55 rfl)) (mvT hZ (own_at hw 54 rfl)) (by decide) (backOf (W := 0) (rmCo1 l Z a0 hw [] r0 w_CS h0 n0 Z0 S_CS hcs fC) hZ (own_at hw 56 rfl) (own_at hw 8 rfl) (by decide) (by decide)) q14a q14c (g := (mkF m 39 #[rv r0, rv r1, iv 3, rv sA, rv wA, iv 0, iv 2, .unset] [(.ref r0)])) rfl (by rw [hml]; rfl) (Steps.refl _) (argsL := []) (rest := []) (lenOf pd_9 rfl) rfl (Nat.le_refl _) (hb hby d9_39) (fun _ _ => ⟨rfl, e12, (by decide : 0 + 0 ≤ _), (by decide : 0 + 0 ≤ _)⟩)
    dsimp only [Pt.U, Pt.locs, Pt.cells, Pt.slots] at X14 l14 y14 z14 st14 hQ14
    subst l14 y14 z14
    obtain ⟨rfl, N14q, e14⟩ := hQ14
    have N14 := Fr.app N2 N14q
    obtain ⟨cq15, kq15, q15a, q15b, q15c⟩ := isOf hZ e14 E_r1
    obtain ⟨_, _, ⟨T15, L15, j15, i15⟩, -, X15, ⟨Lc15, hQ15, l15, y15, z15⟩, st15⟩ := X14.virtualBack hx (y := (⟨cS0, "coder", "()B"⟩ : MethodName)) (z := (⟨cS0, "coder", "()B"⟩ : MethodName)) hown (mvT hZ (own_at hw 52 rfl)) (mvT hZ (own_at hw 53 rfl)) (notFace_of_selects (args := #[]) (mvT hZ (own_at hw 55 rfl))) (mvT hZ (own_at hw 55 rfl)) (mvT hZ (own_at hw 54 rfl)) (by decide) (backOf (W := 1) (rmCo0 l Z a0 hw [] r1 w_CS h0 n0 Z0 S_CS hcs F_coder_r1) hZ (own_at hw 56 rfl) (own_at hw 8 rfl) (by decide) (by decide)) q15a q15c (g := (mkF m 47 #[rv r0, rv r1, iv 3, rv sA, rv wA, iv 0, iv 2, iv 1] [(.ref r1), (.int 1)])) rfl (by rw [hml]; rfl) (Steps.refl _) (argsL := []) (rest := [(.int 1)]) (lenOf pd_9 rfl) rfl (Nat.le_refl _) (hb hby d9_47) (fun _ _ => ⟨rfl, e14, (by decide : 0 + 0 ≤ _), (by decide : 0 + 0 ≤ _)⟩)
    dsimp only [Pt.U, Pt.locs, Pt.cells, Pt.slots] at X15 l15 y15 z15 st15 hQ15
    subst l15 y15 z15
    obtain ⟨rfl, N15q, e15⟩ := hQ15
    have N15 := Fr.app N14 N15q
    obtain ⟨_, _, ⟨T16, L16, j16, i16⟩, -, X16, ⟨Lc16, hQ16, l16, y16, z16⟩, st16⟩ := Jvm.LawKit.callS X15 hx (y := (⟨cS1, "getChar", "([BI)C"⟩ : MethodName)) hown (mvT hZ (own_at hw 113 rfl)) (mvT hZ (own_at hw 111 rfl)) (mvT hZ (own_at hw 22 rfl)) (mvT hZ (own_at hw 112 rfl)) (by decide) (backOf (W := 0) (rmGC_5_3 l Z a0 hw [] sA kS x0 x1 x2 x3 x4 h0 n0 Z0 S_AD S_HI S_LO vA hch_x3) hZ (own_at hw 112 rfl) (own_at hw 22 rfl) (by decide) (by decide)) (g := (mkF m 101 #[rv r0, rv r1, iv 4, rv sA, rv wA, iv 0, iv 2, iv 1] [(.int 3), (.ref sA)])) rfl (by rw [hml]; rfl) (argsL := [(.ref sA), (.int 3)]) (rest := []) (lenOf pd_6 rfl) rfl (Nat.le_refl _) (hb hby d9_101) (fun _ _ => ⟨rfl, e15, (by decide : 0 + 0 ≤ _), (by decide : 0 + 0 ≤ _)⟩)
    dsimp only [Pt.U, Pt.locs, Pt.cells, Pt.slots] at X16 l16 y16 z16 st16 hQ16
    subst l16 y16 z16
    obtain ⟨rfl, N16q, e16⟩ := hQ16
    have N16 := Fr.app N15 N16q
    have hin17 : ¬ ((0 : Int32) < 0 ∨ cl_z13.slots.size ≤ ((0 : Int32)).toNatClampNeg) := inb_of S_z13 ⟨by decide, by decide⟩
    have k19 : ∀ t, OwnS p e below T16 (mkF m 116 #[rv r0, rv r1, iv 4, rv sA, rv wA, iv 1, iv 2, iv 1] [(.int 87), (.int x3)]) t → OwnS p e below s₁ (entryFrame m #[(.ref r0), (.ref r1), (.int 3)] 8) t := fun t q => by
     refine k3 t ?_
     show OwnS p e below T2 (mkF m 19 #[rv r0, rv r1, iv 3, .unset, .unset, .unset, .unset, .unset] []) _
     refine oAn X2 hx hby d9_19 rfl rfl ?_
     refine st11 _ ?_
     refine XS.astoreN X11.here hx rfl (hb hby d9_23) rfl rfl (l' := #[rv r0, rv r1, iv 3, rv sA, .unset, .unset, .unset, .unset]) rfl ?_
     refine oAn X11 hx hby d9_24 rfl rfl ?_
     refine st12 _ ?_
     refine XS.astore X12.here hx rfl (hb hby d9_28) rfl rfl (l' := #[rv r0, rv r1, iv 3, rv sA, rv wA, .unset, .unset, .unset]) rfl ?_
     refine oIc X12 hx hby d9_30 ?_
     refine XS.istore X12.here hx rfl (hb hby d9_31) rfl (l' := #[rv r0, rv r1, iv 3, rv sA, rv wA, iv 0, .unset, .unset]) rfl ?_
     refine oAl X12 hx hby d9_33 rfl rfl ?_
     refine X12.arraylength hx (by rw [e12]; exact Ar_z13.1) (State.isArrayOf_alike hZ.alike Ar_z13.2.1) (g := (mkF m 35 #[rv r0, rv r1, iv 3, rv sA, rv wA, iv 0, .unset, .unset] [(.ref wA)])) rfl rfl (hb hby d9_35) _ ?_
     rw [len_of S_z13 N_z13]
     refine XS.istore X12.here hx rfl (hb hby d9_36) rfl (l' := #[rv r0, rv r1, iv 3, rv sA, rv wA, iv 0, iv 2, .unset]) rfl ?_
     refine oAn X12 hx hby d9_38 rfl rfl ?_
     refine st14.trans ?_
     refine XS.istore X14.here hx rfl (hb hby d9_42) rfl (l' := #[rv r0, rv r1, iv 3, rv sA, rv wA, iv 0, iv 2, iv 1]) rfl ?_
     refine oIl X14 hx hby d9_44 rfl (oAn X14 hx hby d9_46 rfl rfl ?_)
     refine st15.trans ?_
     refine XS.icmpYes X15.here hx rfl (pc0 := 50) (pc' := 82) rfl (hb hby d9_50) rfl (feq (by decide : ¬ ((1 : Int32) = (0 : Int32)))).2 (by decide) (by decide) ?_
     refine oIl X15 hx hby d9_82 rfl ?_
     refine XS.ifYes X15.here hx rfl (pc0 := 84) (pc' := 89) rfl (hb hby d9_84) rfl ((if0 _ _).trans (feq (by decide : ¬ ((1 : Int32) = (0 : Int32)))).2) (by decide) (by decide) ?_
     refine oIl X15 hx hby d9_89 rfl (oIl X15 hx hby d9_91 rfl ?_)
     refine XS.icmpNo X15.here hx rfl (hb hby d9_93) rfl (tlt (by decide : (0 : Int32) < (2 : Int32))).2.1 ?_
     refine oAn X15 hx hby d9_96 rfl rfl (oIn X15 hx hby d9_97 rfl ?_)
     refine XS.iinc X15.here hx rfl (hb hby d9_98) rfl (l' := #[rv r0, rv r1, iv 4, rv sA, rv wA, iv 0, iv 2, iv 1]) rfl ?_
     refine st16 _ ?_
     refine oAl X16 hx hby d9_104 rfl rfl (oIl X16 hx hby d9_106 rfl ?_)
     refine XS.iinc X16.here hx rfl (hb hby d9_108) rfl (l' := #[rv r0, rv r1, iv 4, rv sA, rv wA, iv 1, iv 2, iv 1]) rfl ?_
     refine X16.baloadBytes hx (j := (0 : Int32)) (v := (.int 87)) (by rw [e16]; exact Ar_z13.1) (State.isArrayOf_alike hZ.alike Ar_z13.2.1) Ar_z13.2.2 hin17 (Has.at H_z13 hin17 rfl) (g := (mkF m 111 #[rv r0, rv r1, iv 4, rv sA, rv wA, iv 1, iv 2, iv 1] [(.int 0), (.ref wA), (.int x3)])) rfl rfl (hb hby d9_111) _ ?_
     refine XS.sipush X16.here hx rfl (hb hby d9_112) ?_
     refine XS.iand X16.here hx rfl (hb hby d9_115) rfl ?_
     exact q
    by_cases hc116_18 : x3 = (87 : Int32)
    · obtain ⟨_, _, ⟨T20, L20, j20, i20⟩, -, X20, ⟨Lc20, hQ20, l20, y20, z20⟩, st20⟩ := Jvm.LawKit.callS X16 hx (y := (⟨cS1, "getChar", "([BI)C"⟩ : MethodName)) hown (mvT hZ (own_at hw 113 rfl)) (mvT hZ (own_at hw 111 rfl)) (mvT hZ (own_at hw 22 rfl)) (mvT hZ (own_at hw 112 rfl)) (by decide) (backOf (W := 0) (rmGC_5_4 l Z a0 hw [] sA kS x0 x1 x2 x3 x4 h0 n0 Z0 S_AD S_HI S_LO vA hch_x4) hZ (own_at hw 112 rfl) (own_at hw 22 rfl) (by decide) (by decide)) (g := (mkF m 101 #[rv r0, rv r1, iv 5, rv sA, rv wA, iv 1, iv 2, iv 1] [(.int 4), (.ref sA)])) rfl (by rw [hml]; rfl) (argsL := [(.ref sA), (.int 4)]) (rest := []) (lenOf pd_6 rfl) rfl (Nat.le_refl _) (hb hby d9_101) (fun _ _ => ⟨rfl, e16, (by decide : 0 + 0 ≤ _), (by decide : 0 + 0 ≤ _)⟩)
      dsimp only [Pt.U, Pt.locs, Pt.cells, Pt.slots] at X20 l20 y20 z20 st20 hQ20
      subst l20 y20 z20
      obtain ⟨rfl, N20q, e20⟩ := hQ20
      have N20 := Fr.app N16 N20q
      have hin21 : ¬ ((1 : Int32) < 0 ∨ cl_z13.slots.size ≤ ((1 : Int32)).toNatClampNeg) := inb_of S_z13 ⟨by decide, by decide⟩
      have k23 : ∀ t, OwnS p e below T20 (mkF m 116 #[rv r0, rv r1, iv 5, rv sA, rv wA, iv 2, iv 2, iv 1] [(.int 47), (.int x4)]) t → OwnS p e below s₁ (entryFrame m #[(.ref r0), (.ref r1), (.int 3)] 8) t := fun t q => by
       refine k19 t ?_
       refine XS.icmpYes X16.here hx rfl (pc0 := 116) (pc' := 89) rfl (hb hby d9_116) rfl (teq hc116_18).1 (by decide) (by decide) ?_
       refine oIl X16 hx hby d9_89 rfl (oIl X16 hx hby d9_91 rfl ?_)
       refine XS.icmpNo X16.here hx rfl (hb hby d9_93) rfl (tlt (by decide : (1 : Int32) < (2 : Int32))).2.1 ?_
       refine oAn X16 hx hby d9_96 rfl rfl (oIn X16 hx hby d9_97 rfl ?_)
       refine XS.iinc X16.here hx rfl (hb hby d9_98) rfl (l' := #[rv r0, rv r1, iv 5, rv sA, rv wA, iv 1, iv 2, iv 1]) rfl ?_
       refine st20 _ ?_
       refine oAl X20 hx hby d9_104 rfl rfl (oIl X20 hx hby d9_106 rfl ?_)
       refine XS.iinc X20.here hx rfl (hb hby d9_108) rfl (l' := #[rv r0, rv r1, iv 5, rv sA, rv wA, iv 2, iv 2, iv 1]) rfl ?_
       refine X20.baloadBytes hx (j := (1 : Int32)) (v := (.int 47)) (by rw [e20]; exact Ar_z13.1) (State.isArrayOf_alike hZ.alike Ar_z13.2.1) Ar_z13.2.2 hin21 (Has.at H_z13 hin21 rfl) (g := (mkF m 111 #[rv r0, rv r1, iv 5, rv sA, rv wA, iv 2, iv 2, iv 1] [(.int 1), (.ref wA), (.int x4)])) rfl rfl (hb hby d9_111) _ ?_
       refine XS.sipush X20.here hx rfl (hb hby d9_112) ?_
       refine XS.iand X20.here hx rfl (hb hby d9_115) rfl ?_
       exact q
      by_cases hc116_22 : x4 = (47 : Int32)
      · obtain ⟨fs, hr, hrun, hended, hW, hsame⟩ := X20.leave (v := some (.int 1)) (fun h => by rw [Bd.returns] at h; cases h)
        refine ⟨_, _, k23 _ ?_, hrun, hended, _, _, rfl, ?_, ⟨_, rfl⟩, hW, hsame.mono (by decide) (by decide)⟩
        · refine XS.icmpYes X20.here hx rfl (pc0 := 116) (pc' := 89) rfl (hb hby d9_116) rfl (teq hc116_22).1 (by decide) (by decide) ?_
          refine oIl X20 hx hby d9_89 rfl (oIl X20 hx hby d9_91 rfl ?_)
          refine XS.icmpYes X20.here hx rfl (pc0 := 93) (pc' := 121) rfl (hb hby d9_93) rfl (flt (by decide : ¬ ((2 : Int32) < (2 : Int32)))).2.1 (by decide) (by decide) ?_
          refine oIc X20 hx hby d9_121 ?_
          exact retN X20 hx (t := .boolean) Bd.returns (by simp) (hb hby d9_122) hr
        · show Q_SW_3 Z _ _ _ _ _ _ _ _ _ _ h0 n0 _ T20.heap _
          rw [e20]
          exact Or.inl (⟨rfl, N20, rfl, hc116_18, hc116_22⟩)
      · obtain ⟨fs, hr, hrun, hended, hW, hsame⟩ := X20.leave (v := some (.int 0)) (fun h => by rw [Bd.returns] at h; cases h)
        refine ⟨_, _, k23 _ ?_, hrun, hended, _, _, rfl, ?_, ⟨_, rfl⟩, hW, hsame.mono (by decide) (by decide)⟩
        · refine XS.icmpNo X20.here hx rfl (hb hby d9_116) rfl (feq hc116_22).1 ?_
          refine oIc X20 hx hby d9_119 ?_
          exact retN X20 hx (t := .boolean) Bd.returns (by simp) (hb hby d9_120) hr
        · show Q_SW_3 Z _ _ _ _ _ _ _ _ _ _ h0 n0 _ T20.heap _
          rw [e20]
          exact Or.inr (Or.inl (⟨rfl, N20, rfl, hc116_18, hc116_22⟩))
    · obtain ⟨fs, hr, hrun, hended, hW, hsame⟩ := X16.leave (v := some (.int 0)) (fun h => by rw [Bd.returns] at h; cases h)
      refine ⟨_, _, k19 _ ?_, hrun, hended, _, _, rfl, ?_, ⟨_, rfl⟩, hW, hsame.mono (by decide) (by decide)⟩
      · refine XS.icmpNo X16.here hx rfl (hb hby d9_116) rfl (feq hc116_18).1 ?_
        refine oIc X16 hx hby d9_119 ?_
        exact retN X16 hx (t := .boolean) Bd.returns (by simp) (hb hby d9_120) hr
      · show Q_SW_3 Z _ _ _ _ _ _ _ _ _ _ h0 n0 _ T16.heap _
        rw [e16]
        exact Or.inr (Or.inr ((⟨rfl, N16, rfl, hc116_18⟩)))
theorem d9_17 : decode jdk_42_method_75_code 17 = .ok (.iconst 0, 1) := by decide +kernel
theorem d9_18 : decode jdk_42_method_75_code 18 = .ok (.ireturn, 1) := by decide +kernel
def Q_SW_4 (Z : State) (r0 : Addr) (r1 : Addr) (w_CS : Int32) (wA : Addr) (kW : ClassId) (x0 : Int32) (x1 : Int32) (x2 : Int32) (x3 : Int32) (x4 : Int32) (h0 : Heap) (n0 : Nat) (v : Option Value) (h : Heap) (L : List Loc) : Prop := v = some (.int 0) ∧ Fr n0 L ∧ h = h0 ∧ True
set_option maxRecDepth 65536 in
set_option maxHeartbeats 40000000 in
theorem rmSW_4 (l : Launch) (Z : State) (a0 : Array Value) (hw : ∀ d ∈ tables_1, d.before a0 Z = true) (ws : List Jvm.Cond) (r0 : Addr) (r1 : Addr) (w_CS : Int32) (wA : Addr) (kW : ClassId) (x0 : Int32) (x1 : Int32) (x2 : Int32) (x3 : Int32) (x4 : Int32) (h0 : Heap) (n0 : Nat) (Z0 : n0 ≤ h0.size) (S_CS : Sta Z h0 cS0 cS13 "Z" (.int w_CS)) (hcs : ¬ (w_CS = (0 : Int32))) (S_AD : Sta Z h0 cS1 cS6 "Z" (.int 1)) (S_HI : Sta Z h0 cS1 cS7 "I" (.int 0)) (S_LO : Sta Z h0 cS1 cS8 "I" (.int 8)) (P_r0 : own_S5 Z h0 r0 x0 x1 x2 x3 x4) (E_r1 : Exa Z h0 r1 cS0) (F_coder_r1 : Fld Z h0 r1 cS0 "coder" "B" (.int 0)) (F_value_r1 : Fld Z h0 r1 cS0 "value" "[B" (.ref wA)) (V_wA : Arv Z h0 wA kW .byte (2 : Int32) [(.int 87), (.int 47)] (.int 0)) (hch_x0 : own_ch x0) (hch_x1 : own_ch x1) (hch_x2 : own_ch x2) (hch_x3 : own_ch x3) (hch_x4 : own_ch x4) (E_r0 : Exa Z h0 r0 cS0) :
    MetFree l (⟨cS0, "startsWith", cS9⟩ : MethodName) (head1 (Jvm.Cond.code (⟨cS0, "startsWith", cS9⟩ : MethodName) jdk_42_method_75_code 8 (some .boolean) :: ws) ({ frames := 2, cells := 0, slots := 0, locals := 27 } : Room)) (fun a U => a = #[(.ref r0), (.ref r1), (.int 4)] ∧ Z.Warmed39 U.vm ∧ U.heap = h0) (fun _ _ _ _ _ => True) (fun _ U o U' => ∃ v L, o = .returned v ∧ Q_SW_4 Z r0 r1 w_CS wA kW x0 x1 x2 x3 x4 h0 n0 v U'.heap L ∧ FrameEnd U o U' L 0 0) := by
  refine MetFree.of_bodySF (plainFor_of_name pn_java_lang_String) hisR ?_
  intro p e s m args below meth c s₁ Bd hml0 hP hK
  obtain ⟨rfl, hZ, hh⟩ := hP
  have hx := Bd.exec
  have hby := Bd.bytes
  have hml : c.maxLocals = 8 := hml0
  have hown : s.vm.findClass cS0 = some m.cls := findClass_of_methodNamed Bd.named
  have hnm := (name_of_methodNamed Bd.named Bd.method).1
  have X0 : Stand p l e ({ frames := 2, cells := 0, slots := 0, locals := 27 } : Room) s m #[(.ref r0), (.ref r1), (.int 4)] below meth c s₁ [] 0 0 := Stand.of_body Bd
  have e0 : s₁.heap = h0 := by rw [← hh, Bd.state]; rfl
  have N0 := Fr.nil n0
  have k0 : ∀ t, OwnS p e below s₁ (mkF m 0 #[rv r0, rv r1, iv 4, .unset, .unset, .unset, .unset, .unset] []) t → OwnS p e below s₁ (entryFrame m #[(.ref r0), (.ref r1), (.int 4)] 8) t := fun t k => castTop (ef_9 m r0 r1 (4 : Int32)) k
  obtain ⟨cq1, kq1, q1a, q1b, q1c⟩ := isOf hZ e0 E_r0
  obtain ⟨_, _, ⟨T1, L1, j1, i1⟩, -, X1, ⟨Lc1, hQ1, l1, y1, z1⟩, st1⟩ := X0.virtualBack hx (y := (⟨cS0, "length", "()I"⟩ : MethodName)) (z := (⟨cS0, "length", "()I"⟩ : MethodName)) hown (mvT hZ (own_at hw 47 rfl)) (mvT hZ (own_at hw 48 rfl)) (notFace_of_selects (args := #[]) (mvT hZ (own_at hw 50 rfl))) (mvT hZ (own_at hw 50 rfl)) (mvT hZ (own_at hw 49 rfl)) (by decide) (backOf (W := 1) (rmLen_5 l Z a0 hw [] r0 w_CS x0 x1 x2 x3 x4 h0 n0 Z0 S_CS hcs P_r0) hZ (own_at hw 51 rfl) (own_at hw 8 rfl) (by decide) (by decide)) q1a q1c (g := (mkF m 6 #[rv r0, rv r1, iv 4, .unset, .unset, .unset, .unset, .unset] [(.ref r0), (.int 4)])) rfl (by rw [hml]; rfl) (Steps.refl _) (argsL := []) (rest := [(.int 4)]) (lenOf pd_16 rfl) rfl (Nat.le_refl _) (hb hby d9_6) (fun _ _ => ⟨rfl, e0, (by decide : 0 + 0 ≤ _), (by decide : 0 + 0 ≤ _)⟩)
  dsimp only [Pt.U, Pt.locs, Pt.cells, Pt.slots] at X1 l1 y1 z1 st1 hQ1
  subst l1 y1 z1
  obtain ⟨rfl, N1q, e1⟩ := hQ1
  have N1 := Fr.app N0 N1q
  obtain ⟨cq2, kq2, q2a, q2b, q2c⟩ := isOf hZ e1 E_r1
  obtain ⟨_, _, ⟨T2, L2, j2, i2⟩, -, X2, ⟨Lc2, hQ2, l2, y2, z2⟩, st2⟩ := X1.virtualBack hx (y := (⟨cS0, "length", "()I"⟩ : MethodName)) (z := (⟨cS0, "length", "()I"⟩ : MethodName)) hown (mvT hZ (own_at hw 47 rfl)) (mvT hZ (own_at hw 48 rfl)) (notFace_of_selects (args := #[]) (mvT hZ (own_at hw 50 rfl))) (mvT hZ (own_at hw 50 rfl)) (mvT hZ (own_at hw 49 rfl)) (by decide) (backOf (W := 2) (rmLenL l Z a0 hw [] r1 w_CS wA kW [(.int 87), (.int 47)] h0 n0 Z0 S_CS hcs E_r1 F_coder_r1 F_value_r1 V_wA) hZ (own_at hw 51 rfl) (own_at hw 8 rfl) (by decide) (by decide)) q2a q2c (g := (mkF m 10 #[rv r0, rv r1, iv 4, .unset, .unset, .unset, .unset, .unset] [(.ref r1), (.int 5), (.int 4)])) rfl (by rw [hml]; rfl) (Steps.refl _) (argsL := []) (rest := [(.int 5), (.int 4)]) (lenOf pd_16 rfl) rfl (Nat.le_refl _) (hb hby d9_10) (fun _ _ => ⟨rfl, e1, (by decide : 0 + 0 ≤ _), (by decide : 0 + 0 ≤ _)⟩)
  dsimp only [Pt.U, Pt.locs, Pt.cells, Pt.slots] at X2 l2 y2 z2 st2 hQ2
  subst l2 y2 z2
  obtain ⟨rfl, N2q, e2⟩ := hQ2
  have N2 := Fr.app N1 N2q
  obtain ⟨fs, hr, hrun, hended, hW, hsame⟩ := X2.leave (v := some (.int 0)) (fun h => by rw [Bd.returns] at h; cases h)
  refine ⟨_, _, k0 _ ?_, hrun, hended, _, _, rfl, ?_, ⟨_, rfl⟩, hW, hsame.mono (by decide) (by decide)⟩
  · show OwnS p e below s₁ (mkF m 0 #[rv r0, rv r1, iv 4, .unset, .unset, .unset, .unset, .unset] []) _
    refine oIn X0 hx hby d9_0 rfl ?_
    refine XS.ifNo X0.here hx rfl (hb hby d9_1) rfl ((if0 _ _).trans (flt (by decide : ¬ ((4 : Int32) < (0 : Int32)))).1) ?_
    refine oIn X0 hx hby d9_4 rfl (oAn X0 hx hby d9_5 rfl rfl ?_)
    refine st1.trans ?_
    refine oAn X1 hx hby d9_9 rfl rfl ?_
    refine st2.trans ?_
    refine XS.isub X2.here hx rfl (hb hby d9_13) rfl ?_
    refine XS.icmpNo X2.here hx rfl (hb hby d9_14) rfl (tlt (by decide : (3 : Int32) < (4 : Int32))).2.2.2 ?_
    refine oIc X2 hx hby d9_17 ?_
    exact retN X2 hx (t := .boolean) Bd.returns (by simp) (hb hby d9_18) hr
  · show Q_SW_4 Z _ _ _ _ _ _ _ _ _ _ h0 n0 _ T2.heap _
    rw [e2]
    exact ⟨rfl, N2, rfl, trivial⟩
def Q_SW_5 (Z : State) (r0 : Addr) (r1 : Addr) (w_CS : Int32) (wA : Addr) (kW : ClassId) (x0 : Int32) (x1 : Int32) (x2 : Int32) (x3 : Int32) (x4 : Int32) (h0 : Heap) (n0 : Nat) (v : Option Value) (h : Heap) (L : List Loc) : Prop := v = some (.int 0) ∧ Fr n0 L ∧ h = h0 ∧ True
set_option maxRecDepth 65536 in
set_option maxHeartbeats 40000000 in
theorem rmSW_5 (l : Launch) (Z : State) (a0 : Array Value) (hw : ∀ d ∈ tables_1, d.before a0 Z = true) (ws : List Jvm.Cond) (r0 : Addr) (r1 : Addr) (w_CS : Int32) (wA : Addr) (kW : ClassId) (x0 : Int32) (x1 : Int32) (x2 : Int32) (x3 : Int32) (x4 : Int32) (h0 : Heap) (n0 : Nat) (Z0 : n0 ≤ h0.size) (S_CS : Sta Z h0 cS0 cS13 "Z" (.int w_CS)) (hcs : ¬ (w_CS = (0 : Int32))) (S_AD : Sta Z h0 cS1 cS6 "Z" (.int 1)) (S_HI : Sta Z h0 cS1 cS7 "I" (.int 0)) (S_LO : Sta Z h0 cS1 cS8 "I" (.int 8)) (P_r0 : own_S5 Z h0 r0 x0 x1 x2 x3 x4) (E_r1 : Exa Z h0 r1 cS0) (F_coder_r1 : Fld Z h0 r1 cS0 "coder" "B" (.int 0)) (F_value_r1 : Fld Z h0 r1 cS0 "value" "[B" (.ref wA)) (V_wA : Arv Z h0 wA kW .byte (2 : Int32) [(.int 87), (.int 47)] (.int 0)) (hch_x0 : own_ch x0) (hch_x1 : own_ch x1) (hch_x2 : own_ch x2) (hch_x3 : own_ch x3) (hch_x4 : own_ch x4) (E_r0 : Exa Z h0 r0 cS0) :
    MetFree l (⟨cS0, "startsWith", cS9⟩ : MethodName) (head1 (Jvm.Cond.code (⟨cS0, "startsWith", cS9⟩ : MethodName) jdk_42_method_75_code 8 (some .boolean) :: ws) ({ frames := 2, cells := 0, slots := 0, locals := 27 } : Room)) (fun a U => a = #[(.ref r0), (.ref r1), (.int 5)] ∧ Z.Warmed39 U.vm ∧ U.heap = h0) (fun _ _ _ _ _ => True) (fun _ U o U' => ∃ v L, o = .returned v ∧ Q_SW_5 Z r0 r1 w_CS wA kW x0 x1 x2 x3 x4 h0 n0 v U'.heap L ∧ FrameEnd U o U' L 0 0) := by
  refine MetFree.of_bodySF (plainFor_of_name pn_java_lang_String) hisR ?_
  intro p e s m args below meth c s₁ Bd hml0 hP hK
  obtain ⟨rfl, hZ, hh⟩ := hP
  have hx := Bd.exec
  have hby := Bd.bytes
  have hml : c.maxLocals = 8 := hml0
  have hown : s.vm.findClass cS0 = some m.cls := findClass_of_methodNamed Bd.named
  have hnm := (name_of_methodNamed Bd.named Bd.method).1
  have X0 : Stand p l e ({ frames := 2, cells := 0, slots := 0, locals := 27 } : Room) s m #[(.ref r0), (.ref r1), (.int 5)] below meth c s₁ [] 0 0 := Stand.of_body Bd
  have e0 : s₁.heap = h0 := by rw [← hh, Bd.state]; rfl
  have N0 := Fr.nil n0
  have k0 : ∀ t, OwnS p e below s₁ (mkF m 0 #[rv r0, rv r1, iv 5, .unset, .unset, .unset, .unset, .unset] []) t → OwnS p e below s₁ (entryFrame m #[(.ref r0), (.ref r1), (.int 5)] 8) t := fun t k => castTop (ef_9 m r0 r1 (5 : Int32)) k
  obtain ⟨cq1, kq1, q1a, q1b, q1c⟩ := isOf hZ e0 E_r0
  obtain ⟨_, _, ⟨T1, L1, j1, i1⟩, -, X1, ⟨Lc1, hQ1, l1, y1, z1⟩, st1⟩ := X0.virtualBack hx (y := (⟨cS0, "length", "()I"⟩ : MethodName)) (z := (⟨cS0, "length", "()I"⟩ : MethodName)) hown (mvT hZ (own_at hw 47 rfl)) (mvT hZ (own_at hw 48 rfl)) (notFace_of_selects (args := #[]) (mvT hZ (own_at hw 50 rfl))) (mvT hZ (own_at hw 50 rfl)) (mvT hZ (own_at hw 49 rfl)) (by decide) (backOf (W := 1) (rmLen_5 l Z a0 hw [] r0 w_CS x0 x1 x2 x3 x4 h0 n0 Z0 S_CS hcs P_r0) hZ (own_at hw 51 rfl) (own_at hw 8 rfl) (by decide) (by decide)) q1a q1c (g := (mkF m 6 #[rv r0, rv r1, iv 5, .unset, .unset, .unset, .unset, .unset] [(.ref r0), (.int 5)])) rfl (by rw [hml]; rfl) (Steps.refl _) (argsL := []) (rest := [(.int 5)]) (lenOf pd_16 rfl) rfl (Nat.le_refl _) (hb hby d9_6) (fun _ _ => ⟨rfl, e0, (by decide : 0 + 0 ≤ _), (by decide : 0 + 0 ≤ _)⟩)
  dsimp only [Pt.U, Pt.locs, Pt.cells, Pt.slots] at X1 l1 y1 z1 st1 hQ1
  subst l1 y1 z1
  obtain ⟨rfl, N1q, e1⟩ := hQ1
  have N1 := Fr.app N0 N1q
  obtain ⟨cq2, kq2, q2a, q2b, q2c⟩ := isOf hZ e1 E_r1
  obtain ⟨_, _, ⟨T2, L2, j2, i2⟩, -, X2, ⟨Lc2, hQ2, l2, y2, z2⟩, st2⟩ := X1.virtualBack hx (y := (⟨cS0, "length", "()I"⟩ : MethodName)) (z := (⟨cS0, "length", "()I"⟩ : MethodName)) hown (mvT hZ (own_at hw 47 rfl)) (mvT hZ (own_at hw 48 rfl)) (notFace_of_selects (args := #[]) (mvT hZ (own_at hw 50 rfl))) (mvT hZ (own_at hw 50 rfl)) (mvT hZ (own_at hw 49 rfl)) (by decide) (backOf (W := 2) (rmLenL l Z a0 hw [] r1 w_CS wA kW [(.int 87), (.int 47)] h0 n0 Z0 S_CS hcs E_r1 F_coder_r1 F_value_r1 V_wA) hZ (own_at hw 51 rfl) (own_at hw 8 rfl) (by decide) (by decide)) q2a q2c (g := (mkF m 10 #[rv r0, rv r1, iv 5, .unset, .unset, .unset, .unset, .unset] [(.ref r1), (.int 5), (.int 5)])) rfl (by rw [hml]; rfl) (Steps.refl _) (argsL := []) (rest := [(.int 5), (.int 5)]) (lenOf pd_16 rfl) rfl (Nat.le_refl _) (hb hby d9_10) (fun _ _ => ⟨rfl, e1, (by decide : 0 + 0 ≤ _), (by decide : 0 + 0 ≤ _)⟩)
  dsimp only [Pt.U, Pt.locs, Pt.cells, Pt.slots] at X2 l2 y2 z2 st2 hQ2
  subst l2 y2 z2
  obtain ⟨rfl, N2q, e2⟩ := hQ2
  have N2 := Fr.app N1 N2q
  obtain ⟨fs, hr, hrun, hended, hW, hsame⟩ := X2.leave (v := some (.int 0)) (fun h => by rw [Bd.returns] at h; cases h)
  refine ⟨_, _, k0 _ ?_, hrun, hended, _, _, rfl, ?_, ⟨_, rfl⟩, hW, hsame.mono (by decide) (by decide)⟩
  · show OwnS p e below s₁ (mkF m 0 #[rv r0, rv r1, iv 5, .unset, .unset, .unset, .unset, .unset] []) _
    refine oIn X0 hx hby d9_0 rfl ?_
    refine XS.ifNo X0.here hx rfl (hb hby d9_1) rfl ((if0 _ _).trans (flt (by decide : ¬ ((5 : Int32) < (0 : Int32)))).1) ?_
    refine oIn X0 hx hby d9_4 rfl (oAn X0 hx hby d9_5 rfl rfl ?_)
    refine st1.trans ?_
    refine oAn X1 hx hby d9_9 rfl rfl ?_
    refine st2.trans ?_
    refine XS.isub X2.here hx rfl (hb hby d9_13) rfl ?_
    refine XS.icmpNo X2.here hx rfl (hb hby d9_14) rfl (tlt (by decide : (3 : Int32) < (5 : Int32))).2.2.2 ?_
    refine oIc X2 hx hby d9_17 ?_
    exact retN X2 hx (t := .boolean) Bd.returns (by simp) (hb hby d9_18) hr
  · show Q_SW_5 Z _ _ _ _ _ _ _ _ _ _ h0 n0 _ T2.heap _
    rw [e2]
    exact ⟨rfl, N2, rfl, trivial⟩
theorem d8_41 : decode prog_3_method_2_code 41 = .ok (.iload_n 2, 1) := by decide +kernel
theorem d8_42 : decode prog_3_method_2_code 42 = .ok (.aload_n 0, 1) := by decide +kernel
theorem d8_43 : decode prog_3_method_2_code 43 = .ok (.invokevirtual 34, 3) := by decide +kernel
theorem d8_46 : decode prog_3_method_2_code 46 = .ok (.if_icmp .ge 46, 3) := by decide +kernel
theorem d8_92 : decode prog_3_method_2_code 92 = .ok (.iconst (-1), 1) := by decide +kernel
theorem d8_93 : decode prog_3_method_2_code 93 = .ok (.ireturn, 1) := by decide +kernel
theorem pn_com_example_strict_lock_strictlock_EntityTags : plainName cS3 = true := by first | (simp [plainName, overriddenIn]; done) | decide +kernel
def Q_sgEn_5 (Z : State) (r0 : Addr) (p1 : Int32) (sl : Slot) (w_CS : Int32) (w_F : Value) (x0 : Int32) (x1 : Int32) (x2 : Int32) (x3 : Int32) (x4 : Int32) (h0 : Heap) (n0 : Nat) (v : Option Value) (h : Heap) (L : List Loc) : Prop := v = some (.int (own_sc5 x0 x1 x2 x3 x4)) ∧ Fr n0 L ∧ h = h0 ∧ True
set_option maxRecDepth 65536 in
set_option maxHeartbeats 40000000 in
theorem sgEn_5 (l : Launch) (Z : State) (a0 : Array Value) (hw : ∀ d ∈ tables_1, d.before a0 Z = true) {p : Program} {e : Env} {s : State} {m : MethodId} {args : Array Value} {below : List Frame} {meth : Method} {c : Code} {T0 : State} {locs : List Loc} {vm0 : Vm} {kS : Nat} {hs : Heap} (r0 : Addr) (p1 : Int32) (sl : Slot) (w_CS : Int32) (w_F : Value) (x0 : Int32) (x1 : Int32) (x2 : Int32) (x3 : Int32) (x4 : Int32) (h0 : Heap) (n0 : Nat) (Z0 : n0 ≤ h0.size) (S_CS : Sta Z h0 cS0 cS13 "Z" (.int w_CS)) (hcs : ¬ (w_CS = (0 : Int32))) (S_F : Sta Z h0 cS4 cS14 cS5 w_F) (hwF : w_F.isRef = true) (S_AD : Sta Z h0 cS1 cS6 "Z" (.int 1)) (S_HI : Sta Z h0 cS1 cS7 "I" (.int 0)) (S_LO : Sta Z h0 cS1 cS8 "I" (.int 8)) (P_r0 : own_S5 Z h0 r0 x0 x1 x2 x3 x4) (hch_x0 : own_ch x0) (hch_x1 : own_ch x1) (hch_x2 : own_ch x2) (hch_x3 : own_ch x3) (hch_x4 : own_ch x4) (h_sl : One sl) (E_r0 : Exa Z h0 r0 cS0)
    (X0 : Stand p l e ({ frames := 5, cells := 2, slots := 12, locals := 70 } : Room) (s.setVm vm0) m args below meth c T0 locs 2 12) (hx : p.tables.exec = Jvm.exec) (hZ : Z.Warmed39 (s.setVm vm0).vm) (hby : c.code = prog_3_method_2_code) (hml : c.maxLocals = 4) (hown : (s.setVm vm0).vm.findClass cS3 = some m.cls) (hret : meth.sig.returnType = some .int) (hlk : meth.locks = false) (e0 : T0.heap = h0) (N0 : Fr n0 locs) (hS0 : s.Since vm0 kS) (hk0 : kS ≤ h0.size) (H0c : CHv Z own_EL vm0 h0) (R0c : CHr Z own_EL s.vm hs vm0 h0) (hh : s.heap = hs) :
    ∃ s₂ o, Steps p.tables e below (T0.setTop (mkF m 41 #[rv r0, iv p1, iv 5, sl] [])) s₂ ∧ s₂.status = .running ∧ Ended s₂ below o ∧ ∃ v L, o = .returned v ∧ Q_sgEn_5 Z r0 p1 sl w_CS w_F x0 x1 x2 x3 x4 h0 n0 v s₂.heap L ∧ CHr Z own_EL s.vm s.heap s₂.vm s₂.heap ∧ ReturnedEndW s o s₂ L ({ frames := 5, cells := 2, slots := 12, locals := 70 } : Room).cells ({ frames := 5, cells := 2, slots := 12, locals := 70 } : Room).slots := by
  have k0 : ∀ t, OwnS p e below T0 (mkF m 41 #[rv r0, iv p1, iv 5, sl] []) t → OwnS p e below T0 (mkF m 41 #[rv r0, iv p1, iv 5, sl] []) t := fun _ q => q
  obtain ⟨cq1, kq1, q1a, q1b, q1c⟩ := isOf hZ e0 E_r0
  obtain ⟨_, _, ⟨T1, L1, j1, i1⟩, -, X1, ⟨Lc1, hQ1, l1, y1, z1⟩, st1⟩ := X0.virtualBack hx (y := (⟨cS0, "length", "()I"⟩ : MethodName)) (z := (⟨cS0, "length", "()I"⟩ : MethodName)) hown (mvT hZ (own_at hw 61 rfl)) (mvT hZ (own_at hw 48 rfl)) (notFace_of_selects (args := #[]) (mvT hZ (own_at hw 50 rfl))) (mvT hZ (own_at hw 50 rfl)) (mvT hZ (own_at hw 49 rfl)) (by decide) (backOf (W := 1) (rmLen_5 l Z a0 hw [] r0 w_CS x0 x1 x2 x3 x4 h0 n0 Z0 S_CS hcs P_r0) hZ (own_at hw 51 rfl) (own_at hw 8 rfl) (by decide) (by decide)) q1a q1c (g := (mkF m 43 #[rv r0, iv p1, iv 5, sl] [(.ref r0), (.int 5)])) rfl (by rw [hml]; rfl) (Steps.refl _) (argsL := []) (rest := [(.int 5)]) (lenOf pd_16 rfl) rfl (Nat.le_refl _) (hb hby d8_43) (fun _ _ => ⟨rfl, e0, (by decide : 2 + 0 ≤ _), (by decide : 12 + 0 ≤ _)⟩)
  dsimp only [Pt.U, Pt.locs, Pt.cells, Pt.slots] at X1 l1 y1 z1 st1 hQ1
  subst l1 y1 z1
  obtain ⟨rfl, N1q, e1⟩ := hQ1
  have N1 := Fr.app N0 N1q
  obtain ⟨fs, hr, hrun, hended, hRW⟩ := X1.leaveW hS0 (by rw [e1]; exact hk0) (v := some (.int (-1))) (fun h => by rw [hret] at h; cases h)
  have hCE : CHr Z own_EL s.vm s.heap T1.vm T1.heap := by rw [hh, e1]; exact R0c.trans (CHv.at X1 hZ (own_ew hw) H0c)
  refine ⟨_, _, k0 _ ?_, hrun, hended, _, _, rfl, ?_, hCE, hRW.1, hRW.2.1, hRW.2.2.1, hRW.2.2.2.mono (by decide) (by decide)⟩
  · show OwnS p e below T0 (mkF m 41 #[rv r0, iv p1, iv 5, sl] []) _
    refine oIn X0 hx hby d8_41 rfl (oAn X0 hx hby d8_42 rfl rfl ?_)
    refine st1.trans ?_
    refine XS.icmpYes X1.here hx rfl (pc0 := 46) (pc' := 92) rfl (hb hby d8_46) rfl (flt (by decide : ¬ ((5 : Int32) < (5 : Int32)))).2.1 (by decide) (by decide) ?_
    refine oIc X1 hx hby d8_92 ?_
    exact retI X1 hx hret (hb hby d8_93) hr
  · show Q_sgEn_5 Z _ _ _ _ _ _ _ _ _ _ h0 n0 _ T1.heap _
    rw [e1]
    exact ⟨(by simp [own_sc1, own_sc2, own_sc3, own_sc4, own_sc5]), N1, rfl, trivial⟩
theorem pd_18 : parseMethodDescriptor "(I)C" = some ⟨[.int], some .char⟩ := by decide +kernel
theorem d8_49 : decode prog_3_method_2_code 49 = .ok (.aload_n 0, 1) := by decide +kernel
theorem d8_50 : decode prog_3_method_2_code 50 = .ok (.iload_n 2, 1) := by decide +kernel
theorem d8_51 : decode prog_3_method_2_code 51 = .ok (.invokevirtual 38, 3) := by decide +kernel
theorem d8_54 : decode prog_3_method_2_code 54 = .ok (.istore_n 3, 1) := by decide +kernel
theorem d8_55 : decode prog_3_method_2_code 55 = .ok (.iload_n 3, 1) := by decide +kernel
theorem d8_56 : decode prog_3_method_2_code 56 = .ok (.bipush 34, 2) := by decide +kernel
theorem d8_58 : decode prog_3_method_2_code 58 = .ok (.if_icmp .ne 7, 3) := by decide +kernel
theorem d8_61 : decode prog_3_method_2_code 61 = .ok (.iload_n 2, 1) := by decide +kernel
theorem d8_62 : decode prog_3_method_2_code 62 = .ok (.iconst 1, 1) := by decide +kernel
theorem d8_63 : decode prog_3_method_2_code 63 = .ok (.iadd, 1) := by decide +kernel
theorem d8_64 : decode prog_3_method_2_code 64 = .ok (.ireturn, 1) := by decide +kernel
theorem d8_65 : decode prog_3_method_2_code 65 = .ok (.iload_n 3, 1) := by decide +kernel
theorem d8_66 : decode prog_3_method_2_code 66 = .ok (.bipush 33, 2) := by decide +kernel
theorem d8_68 : decode prog_3_method_2_code 68 = .ok (.if_icmp .lt 16, 3) := by decide +kernel
theorem d8_71 : decode prog_3_method_2_code 71 = .ok (.iload_n 3, 1) := by decide +kernel
theorem d8_72 : decode prog_3_method_2_code 72 = .ok (.bipush 127, 2) := by decide +kernel
theorem d8_74 : decode prog_3_method_2_code 74 = .ok (.if_icmp .eq 10, 3) := by decide +kernel
theorem d8_77 : decode prog_3_method_2_code 77 = .ok (.iload_n 3, 1) := by decide +kernel
theorem d8_78 : decode prog_3_method_2_code 78 = .ok (.sipush 255, 3) := by decide +kernel
theorem d8_81 : decode prog_3_method_2_code 81 = .ok (.if_icmp .le 5, 3) := by decide +kernel
theorem d8_84 : decode prog_3_method_2_code 84 = .ok (.iconst (-1), 1) := by decide +kernel
theorem d8_85 : decode prog_3_method_2_code 85 = .ok (.ireturn, 1) := by decide +kernel
theorem d8_86 : decode prog_3_method_2_code 86 = .ok (.iinc 2 1, 3) := by decide +kernel
theorem d8_89 : decode prog_3_method_2_code 89 = .ok (.goto (-48), 3) := by decide +kernel
def Q_sgEn_4 (Z : State) (r0 : Addr) (p1 : Int32) (sl : Slot) (w_CS : Int32) (w_F : Value) (x0 : Int32) (x1 : Int32) (x2 : Int32) (x3 : Int32) (x4 : Int32) (h0 : Heap) (n0 : Nat) (v : Option Value) (h : Heap) (L : List Loc) : Prop := v = some (.int (own_sc4 x0 x1 x2 x3 x4)) ∧ Fr n0 L ∧ h = h0 ∧ True
set_option maxRecDepth 65536 in
set_option maxHeartbeats 40000000 in
theorem sgEn_4 (l : Launch) (Z : State) (a0 : Array Value) (hw : ∀ d ∈ tables_1, d.before a0 Z = true) {p : Program} {e : Env} {s : State} {m : MethodId} {args : Array Value} {below : List Frame} {meth : Method} {c : Code} {T0 : State} {locs : List Loc} {vm0 : Vm} {kS : Nat} {hs : Heap} (r0 : Addr) (p1 : Int32) (sl : Slot) (w_CS : Int32) (w_F : Value) (x0 : Int32) (x1 : Int32) (x2 : Int32) (x3 : Int32) (x4 : Int32) (h0 : Heap) (n0 : Nat) (Z0 : n0 ≤ h0.size) (S_CS : Sta Z h0 cS0 cS13 "Z" (.int w_CS)) (hcs : ¬ (w_CS = (0 : Int32))) (S_F : Sta Z h0 cS4 cS14 cS5 w_F) (hwF : w_F.isRef = true) (S_AD : Sta Z h0 cS1 cS6 "Z" (.int 1)) (S_HI : Sta Z h0 cS1 cS7 "I" (.int 0)) (S_LO : Sta Z h0 cS1 cS8 "I" (.int 8)) (P_r0 : own_S5 Z h0 r0 x0 x1 x2 x3 x4) (hch_x0 : own_ch x0) (hch_x1 : own_ch x1) (hch_x2 : own_ch x2) (hch_x3 : own_ch x3) (hch_x4 : own_ch x4) (h_sl : One sl) (E_r0 : Exa Z h0 r0 cS0)
    (X0 : Stand p l e ({ frames := 5, cells := 2, slots := 12, locals := 70 } : Room) (s.setVm vm0) m args below meth c T0 locs 2 12) (hx : p.tables.exec = Jvm.exec) (hZ : Z.Warmed39 (s.setVm vm0).vm) (hby : c.code = prog_3_method_2_code) (hml : c.maxLocals = 4) (hown : (s.setVm vm0).vm.findClass cS3 = some m.cls) (hret : meth.sig.returnType = some .int) (hlk : meth.locks = false) (e0 : T0.heap = h0) (N0 : Fr n0 locs) (hS0 : s.Since vm0 kS) (hk0 : kS ≤ h0.size) (H0c : CHv Z own_EL vm0 h0) (R0c : CHr Z own_EL s.vm hs vm0 h0) (hh : s.heap = hs) :
    ∃ s₂ o, Steps p.tables e below (T0.setTop (mkF m 41 #[rv r0, iv p1, iv 4, sl] [])) s₂ ∧ s₂.status = .running ∧ Ended s₂ below o ∧ ∃ v L, o = .returned v ∧ Q_sgEn_4 Z r0 p1 sl w_CS w_F x0 x1 x2 x3 x4 h0 n0 v s₂.heap L ∧ CHr Z own_EL s.vm s.heap s₂.vm s₂.heap ∧ ReturnedEndW s o s₂ L ({ frames := 5, cells := 2, slots := 12, locals := 70 } : Room).cells ({ frames := 5, cells := 2, slots := 12, locals := 70 } : Room).slots := by
  have k0 : ∀ t, OwnS p e below T0 (mkF m 41 #[rv r0, iv p1, iv 4, sl] []) t → OwnS p e below T0 (mkF m 41 #[rv r0, iv p1, iv 4, sl] []) t := fun _ q => q
  obtain ⟨cq1, kq1, q1a, q1b, q1c⟩ := isOf hZ e0 E_r0
  obtain ⟨_, _, ⟨T1, L1, j1, i1⟩, -, X1, ⟨Lc1, hQ1, l1, y1, z1⟩, st1⟩ := X0.virtualBack hx (y := (⟨cS0, "length", "()I"⟩ : MethodName)) (z := (⟨cS0, "length", "()I"⟩ : MethodName)) hown (mvT hZ (own_at hw 61 rfl)) (mvT hZ (own_at hw 48 rfl)) (notFace_of_selects (args := #[]) (mvT hZ (own_at hw 50 rfl))) (mvT hZ (own_at hw 50 rfl)) (mvT hZ (own_at hw 49 rfl)) (by decide) (backOf (W := 1) (rmLen_5 l Z a0 hw [] r0 w_CS x0 x1 x2 x3 x4 h0 n0 Z0 S_CS hcs P_r0) hZ (own_at hw 51 rfl) (own_at hw 8 rfl) (by decide) (by decide)) q1a q1c (g := (mkF m 43 #[rv r0, iv p1, iv 4, sl] [(.ref r0), (.int 4)])) rfl (by rw [hml]; rfl) (Steps.refl _) (argsL := []) (rest := [(.int 4)]) (lenOf pd_16 rfl) rfl (Nat.le_refl _) (hb hby d8_43) (fun _ _ => ⟨rfl, e0, (by decide : 2 + 0 ≤ _), (by decide : 12 + 0 ≤ _)⟩)
  dsimp only [Pt.U, Pt.locs, Pt.cells, Pt.slots] at X1 l1 y1 z1 st1 hQ1
  subst l1 y1 z1
  obtain ⟨rfl, N1q, e1⟩ := hQ1
  have N1 := Fr.app N0 N1q
  obtain ⟨cq2, kq2, q2a, q2b, q2c⟩ := isOf hZ e1 E_r0
  obtain ⟨_, _, ⟨T2, L2, j2, i2⟩, -, X2, ⟨Lc2, hQ2, l2, y2, z2⟩, st2⟩ := X1.virtualBack hx (y := (⟨cS0, "charAt", "(I)C"⟩ : MethodName)) (z := (⟨cS0, "charAt", "(I)C"⟩ : MethodName)) hown (mvT hZ (own_at hw 62 rfl)) (mvT hZ (own_at hw 63 rfl)) (notFace_of_selects (args := #[]) (mvT hZ (own_at hw 65 rfl))) (mvT hZ (own_at hw 65 rfl)) (mvT hZ (own_at hw 64 rfl)) (by decide) (backOf (W := 0) (rmCA_5_4 l Z a0 hw [] r0 w_CS w_F x0 x1 x2 x3 x4 h0 n0 Z0 S_CS hcs S_F hwF S_AD S_HI S_LO P_r0 hch_x4) hZ (own_at hw 66 rfl) (own_at hw 8 rfl) (by decide) (by decide)) q2a q2c (g := (mkF m 51 #[rv r0, iv p1, iv 4, sl] [(.int 4), (.ref r0)])) rfl (by rw [hml]; rfl) (Steps.refl _) (argsL := [(.int 4)]) (rest := []) (lenOf pd_18 rfl) rfl (Nat.le_refl _) (hb hby d8_51) (fun _ _ => ⟨rfl, e1, (by decide : 2 + 0 ≤ _), (by decide : 12 + 0 ≤ _)⟩)
  dsimp only [Pt.U, Pt.locs, Pt.cells, Pt.slots] at X2 l2 y2 z2 st2 hQ2
  subst l2 y2 z2
  obtain ⟨rfl, N2q, e2⟩ := hQ2
  have N2 := Fr.app N1 N2q
  have k4 : ∀ t, OwnS p e below T2 (mkF m 55 #[rv r0, iv p1, iv 4, iv x4] []) t → OwnS p e below T0 (mkF m 41 #[rv r0, iv p1, iv 4, sl] []) t := fun t q => by
   refine k0 t ?_
   show OwnS p e below T0 (mkF m 41 #[rv r0, iv p1, iv 4, sl] []) _
   refine oIn X0 hx hby d8_41 rfl (oAn X0 hx hby d8_42 rfl rfl ?_)
   refine st1.trans ?_
   refine XS.icmpNo X1.here hx rfl (hb hby d8_46) rfl (tlt (by decide : (4 : Int32) < (5 : Int32))).2.1 ?_
   refine oAn X1 hx hby d8_49 rfl rfl (oIn X1 hx hby d8_50 rfl ?_)
   refine st2.trans ?_
   refine XS.istoreN X2.here hx rfl (hb hby d8_54) rfl (l' := #[rv r0, iv p1, iv 4, iv x4]) (own_os3 h_sl) ?_
   exact q
  rcases own_cls x4 with hq3 | ⟨hq3, hq3e⟩ | ⟨hq3, hq3e⟩
  · skip
    obtain ⟨fs, hr, hrun, hended, hRW⟩ := X2.leaveW hS0 (by rw [e2]; exact hk0) (v := some (.int 5)) (fun h => by rw [hret] at h; cases h)
    have hCE : CHr Z own_EL s.vm s.heap T2.vm T2.heap := by rw [hh, e2]; exact R0c.trans (CHv.at X2 hZ (own_ew hw) H0c)
    refine ⟨_, _, k4 _ ?_, hrun, hended, _, _, rfl, ?_, hCE, hRW.1, hRW.2.1, hRW.2.2.1, hRW.2.2.2.mono (by decide) (by decide)⟩
    · show OwnS p e below T2 (mkF m 55 #[rv r0, iv p1, iv 4, iv x4] []) _
      refine oIn X2 hx hby d8_55 rfl (oBp X2 hx hby d8_56 ?_)
      refine XS.icmpNo X2.here hx rfl (hb hby d8_58) rfl (teq hq3).2 ?_
      refine oIn X2 hx hby d8_61 rfl (oIc X2 hx hby d8_62 ?_)
      refine XS.iadd X2.here hx rfl (hb hby d8_63) rfl ?_
      exact retI X2 hx hret (hb hby d8_64) hr
    · show Q_sgEn_4 Z _ _ _ _ _ _ _ _ _ _ h0 n0 _ T2.heap _
      rw [e2]
      exact ⟨(by simp [own_sc1, own_sc2, own_sc3, own_sc4, own_sc5, hq3]), N2, rfl, trivial⟩
  · skip
    have k5 : ∀ t, OwnS p e below T2 (mkF m 41 #[rv r0, iv p1, iv 5, iv x4] []) t → OwnS p e below T0 (mkF m 41 #[rv r0, iv p1, iv 4, sl] []) t := fun t q => by
     refine k4 t ?_
     show OwnS p e below T2 (mkF m 55 #[rv r0, iv p1, iv 4, iv x4] []) _
     refine oIn X2 hx hby d8_55 rfl (oBp X2 hx hby d8_56 ?_)
     refine XS.icmpYes X2.here hx rfl (pc0 := 58) (pc' := 65) rfl (hb hby d8_58) rfl (feq hq3).2 (by decide) (by decide) ?_
     refine oIn X2 hx hby d8_65 rfl (oBp X2 hx hby d8_66 ?_)
     refine XS.icmpNo X2.here hx rfl (hb hby d8_68) rfl (flt (own_t4 hq3e)).1 ?_
     refine oIn X2 hx hby d8_71 rfl (oBp X2 hx hby d8_72 ?_)
     refine XS.icmpNo X2.here hx rfl (hb hby d8_74) rfl (feq (own_t5 hq3e)).1 ?_
     refine oIn X2 hx hby d8_77 rfl ?_
     refine XS.sipush X2.here hx rfl (hb hby d8_78) ?_
     refine XS.icmpYes X2.here hx rfl (pc0 := 81) (pc' := 86) rfl (hb hby d8_81) rfl (flt (own_t3 hq3e)).2.2.2 (by decide) (by decide) ?_
     refine XS.iinc X2.here hx rfl (hb hby d8_86) rfl (l' := #[rv r0, iv p1, iv 5, iv x4]) rfl ?_
     refine oGo X2 hx hby 89 41 d8_89 (by decide) (by decide) ?_
     exact q
    obtain ⟨s6, o6, ja6, jb6, jc6, v6, L6, rfl, ⟨hv6, jN6, jh6, -⟩, jF6⟩ := sgEn_5 l Z a0 hw r0 p1 (iv x4) w_CS w_F x0 x1 x2 x3 x4 h0 n0 Z0 S_CS hcs S_F hwF S_AD S_HI S_LO P_r0 hch_x0 hch_x1 hch_x2 hch_x3 hch_x4 (One.val rfl) E_r0 X2 hx hZ hby hml hown hret hlk e2 N2 hS0 hk0 H0c R0c hh
    exact ⟨s6, _, k5 _ ja6, jb6, jc6, v6, L6, rfl, ⟨hv6.trans (by simp [own_sc1, own_sc2, own_sc3, own_sc4, own_sc5, hq3, hq3e]), jN6, jh6, trivial⟩, jF6⟩
  · skip
    have k8 : ∀ t, OwnS p e below T2 (mkF m 68 #[rv r0, iv p1, iv 4, iv x4] [(.int 33), (.int x4)]) t → OwnS p e below T0 (mkF m 41 #[rv r0, iv p1, iv 4, sl] []) t := fun t q => by
     refine k4 t ?_
     show OwnS p e below T2 (mkF m 55 #[rv r0, iv p1, iv 4, iv x4] []) _
     refine oIn X2 hx hby d8_55 rfl (oBp X2 hx hby d8_56 ?_)
     refine XS.icmpYes X2.here hx rfl (pc0 := 58) (pc' := 65) rfl (hb hby d8_58) rfl (feq hq3).2 (by decide) (by decide) ?_
     refine oIn X2 hx hby d8_65 rfl (oBp X2 hx hby d8_66 ?_)
     exact q
    by_cases hc68_7 : x4 < (33 : Int32)
    · obtain ⟨fs, hr, hrun, hended, hRW⟩ := X2.leaveW hS0 (by rw [e2]; exact hk0) (v := some (.int (-1))) (fun h => by rw [hret] at h; cases h)
      have hCE : CHr Z own_EL s.vm s.heap T2.vm T2.heap := by rw [hh, e2]; exact R0c.trans (CHv.at X2 hZ (own_ew hw) H0c)
      refine ⟨_, _, k8 _ ?_, hrun, hended, _, _, rfl, ?_, hCE, hRW.1, hRW.2.1, hRW.2.2.1, hRW.2.2.2.mono (by decide) (by decide)⟩
      · refine XS.icmpYes X2.here hx rfl (pc0 := 68) (pc' := 84) rfl (hb hby d8_68) rfl (tlt hc68_7).1 (by decide) (by decide) ?_
        refine oIc X2 hx hby d8_84 ?_
        exact retI X2 hx hret (hb hby d8_85) hr
      · show Q_sgEn_4 Z _ _ _ _ _ _ _ _ _ _ h0 n0 _ T2.heap _
        rw [e2]
        exact ⟨(by simp [own_sc1, own_sc2, own_sc3, own_sc4, own_sc5, hq3, hq3e]), N2, rfl, trivial⟩
    · have k10 : ∀ t, OwnS p e below T2 (mkF m 74 #[rv r0, iv p1, iv 4, iv x4] [(.int 127), (.int x4)]) t → OwnS p e below T0 (mkF m 41 #[rv r0, iv p1, iv 4, sl] []) t := fun t q => by
       refine k8 t ?_
       refine XS.icmpNo X2.here hx rfl (hb hby d8_68) rfl (flt hc68_7).1 ?_
       refine oIn X2 hx hby d8_71 rfl (oBp X2 hx hby d8_72 ?_)
       exact q
      by_cases hc74_9 : x4 = (127 : Int32)
      · obtain ⟨fs, hr, hrun, hended, hRW⟩ := X2.leaveW hS0 (by rw [e2]; exact hk0) (v := some (.int (-1))) (fun h => by rw [hret] at h; cases h)
        have hCE : CHr Z own_EL s.vm s.heap T2.vm T2.heap := by rw [hh, e2]; exact R0c.trans (CHv.at X2 hZ (own_ew hw) H0c)
        refine ⟨_, _, k10 _ ?_, hrun, hended, _, _, rfl, ?_, hCE, hRW.1, hRW.2.1, hRW.2.2.1, hRW.2.2.2.mono (by decide) (by decide)⟩
        · refine XS.icmpYes X2.here hx rfl (pc0 := 74) (pc' := 84) rfl (hb hby d8_74) rfl (teq hc74_9).1 (by decide) (by decide) ?_
          refine oIc X2 hx hby d8_84 ?_
          exact retI X2 hx hret (hb hby d8_85) hr
        · show Q_sgEn_4 Z _ _ _ _ _ _ _ _ _ _ h0 n0 _ T2.heap _
          rw [e2]
          exact ⟨(by simp [own_sc1, own_sc2, own_sc3, own_sc4, own_sc5, hq3, hq3e]), N2, rfl, trivial⟩
      · obtain ⟨fs, hr, hrun, hended, hRW⟩ := X2.leaveW hS0 (by rw [e2]; exact hk0) (v := some (.int (-1))) (fun h => by rw [hret] at h; cases h)
        have hCE : CHr Z own_EL s.vm s.heap T2.vm T2.heap := by rw [hh, e2]; exact R0c.trans (CHv.at X2 hZ (own_ew hw) H0c)
        refine ⟨_, _, k10 _ ?_, hrun, hended, _, _, rfl, ?_, hCE, hRW.1, hRW.2.1, hRW.2.2.1, hRW.2.2.2.mono (by decide) (by decide)⟩
        · refine XS.icmpNo X2.here hx rfl (hb hby d8_74) rfl (feq hc74_9).1 ?_
          refine oIn X2 hx hby d8_77 rfl ?_
          refine XS.sipush X2.here hx rfl (hb hby d8_78) ?_
          refine XS.icmpNo X2.here hx rfl (hb hby d8_81) rfl (tlt (own_f4 hq3e hq3 hc68_7 hc74_9)).2.2.2 ?_
          refine oIc X2 hx hby d8_84 ?_
          exact retI X2 hx hret (hb hby d8_85) hr
        · show Q_sgEn_4 Z _ _ _ _ _ _ _ _ _ _ h0 n0 _ T2.heap _
          rw [e2]
          exact ⟨(by simp [own_sc1, own_sc2, own_sc3, own_sc4, own_sc5, hq3, hq3e]), N2, rfl, trivial⟩
def Q_sgEn_3 (Z : State) (r0 : Addr) (p1 : Int32) (sl : Slot) (w_CS : Int32) (w_F : Value) (x0 : Int32) (x1 : Int32) (x2 : Int32) (x3 : Int32) (x4 : Int32) (h0 : Heap) (n0 : Nat) (v : Option Value) (h : Heap) (L : List Loc) : Prop := v = some (.int (own_sc3 x0 x1 x2 x3 x4)) ∧ Fr n0 L ∧ h = h0 ∧ True
set_option maxRecDepth 65536 in
set_option maxHeartbeats 40000000 in
theorem sgEn_3 (l : Launch) (Z : State) (a0 : Array Value) (hw : ∀ d ∈ tables_1, d.before a0 Z = true) {p : Program} {e : Env} {s : State} {m : MethodId} {args : Array Value} {below : List Frame} {meth : Method} {c : Code} {T0 : State} {locs : List Loc} {vm0 : Vm} {kS : Nat} {hs : Heap} (r0 : Addr) (p1 : Int32) (sl : Slot) (w_CS : Int32) (w_F : Value) (x0 : Int32) (x1 : Int32) (x2 : Int32) (x3 : Int32) (x4 : Int32) (h0 : Heap) (n0 : Nat) (Z0 : n0 ≤ h0.size) (S_CS : Sta Z h0 cS0 cS13 "Z" (.int w_CS)) (hcs : ¬ (w_CS = (0 : Int32))) (S_F : Sta Z h0 cS4 cS14 cS5 w_F) (hwF : w_F.isRef = true) (S_AD : Sta Z h0 cS1 cS6 "Z" (.int 1)) (S_HI : Sta Z h0 cS1 cS7 "I" (.int 0)) (S_LO : Sta Z h0 cS1 cS8 "I" (.int 8)) (P_r0 : own_S5 Z h0 r0 x0 x1 x2 x3 x4) (hch_x0 : own_ch x0) (hch_x1 : own_ch x1) (hch_x2 : own_ch x2) (hch_x3 : own_ch x3) (hch_x4 : own_ch x4) (h_sl : One sl) (E_r0 : Exa Z h0 r0 cS0)
    (X0 : Stand p l e ({ frames := 5, cells := 2, slots := 12, locals := 70 } : Room) (s.setVm vm0) m args below meth c T0 locs 2 12) (hx : p.tables.exec = Jvm.exec) (hZ : Z.Warmed39 (s.setVm vm0).vm) (hby : c.code = prog_3_method_2_code) (hml : c.maxLocals = 4) (hown : (s.setVm vm0).vm.findClass cS3 = some m.cls) (hret : meth.sig.returnType = some .int) (hlk : meth.locks = false) (e0 : T0.heap = h0) (N0 : Fr n0 locs) (hS0 : s.Since vm0 kS) (hk0 : kS ≤ h0.size) (H0c : CHv Z own_EL vm0 h0) (R0c : CHr Z own_EL s.vm hs vm0 h0) (hh : s.heap = hs) :
    ∃ s₂ o, Steps p.tables e below (T0.setTop (mkF m 41 #[rv r0, iv p1, iv 3, sl] [])) s₂ ∧ s₂.status = .running ∧ Ended s₂ below o ∧ ∃ v L, o = .returned v ∧ Q_sgEn_3 Z r0 p1 sl w_CS w_F x0 x1 x2 x3 x4 h0 n0 v s₂.heap L ∧ CHr Z own_EL s.vm s.heap s₂.vm s₂.heap ∧ ReturnedEndW s o s₂ L ({ frames := 5, cells := 2, slots := 12, locals := 70 } : Room).cells ({ frames := 5, cells := 2, slots := 12, locals := 70 } : Room).slots := by
  have k0 : ∀ t, OwnS p e below T0 (mkF m 41 #[rv r0, iv p1, iv 3, sl] []) t → OwnS p e below T0 (mkF m 41 #[rv r0, iv p1, iv 3, sl] []) t := fun _ q => q
  obtain ⟨cq1, kq1, q1a, q1b, q1c⟩ := isOf hZ e0 E_r0
  obtain ⟨_, _, ⟨T1, L1, j1, i1⟩, -, X1, ⟨Lc1, hQ1, l1, y1, z1⟩, st1⟩ := X0.virtualBack hx (y := (⟨cS0, "length", "()I"⟩ : MethodName)) (z := (⟨cS0, "length", "()I"⟩ : MethodName)) hown (mvT hZ (own_at hw 61 rfl)) (mvT hZ (own_at hw 48 rfl)) (notFace_of_selects (args := #[]) (mvT hZ (own_at hw 50 rfl))) (mvT hZ (own_at hw 50 rfl)) (mvT hZ (own_at hw 49 rfl)) (by decide) (backOf (W := 1) (rmLen_5 l Z a0 hw [] r0 w_CS x0 x1 x2 x3 x4 h0 n0 Z0 S_CS hcs P_r0) hZ (own_at hw 51 rfl) (own_at hw 8 rfl) (by decide) (by decide)) q1a q1c (g := (mkF m 43 #[rv r0, iv p1, iv 3, sl] [(.ref r0), (.int 3)])) rfl (by rw [hml]; rfl) (Steps.refl _) (argsL := []) (rest := [(.int 3)]) (lenOf pd_16 rfl) rfl (Nat.le_refl _) (hb hby d8_43) (fun _ _ => ⟨rfl, e0, (by decide : 2 + 0 ≤ _), (by decide : 12 + 0 ≤ _)⟩)
  dsimp only [Pt.U, Pt.locs, Pt.cells, Pt.slots] at X1 l1 y1 z1 st1 hQ1
  subst l1 y1 z1
  obtain ⟨rfl, N1q, e1⟩ := hQ1
  have N1 := Fr.app N0 N1q
  obtain ⟨cq2, kq2, q2a, q2b, q2c⟩ := isOf hZ e1 E_r0
  obtain ⟨_, _, ⟨T2, L2, j2, i2⟩, -, X2, ⟨Lc2, hQ2, l2, y2, z2⟩, st2⟩ := X1.virtualBack hx (y := (⟨cS0, "charAt", "(I)C"⟩ : MethodName)) (z := (⟨cS0, "charAt", "(I)C"⟩ : MethodName)) hown (mvT hZ (own_at hw 62 rfl)) (mvT hZ (own_at hw 63 rfl)) (notFace_of_selects (args := #[]) (mvT hZ (own_at hw 65 rfl))) (mvT hZ (own_at hw 65 rfl)) (mvT hZ (own_at hw 64 rfl)) (by decide) (backOf (W := 0) (rmCA_5_3 l Z a0 hw [] r0 w_CS w_F x0 x1 x2 x3 x4 h0 n0 Z0 S_CS hcs S_F hwF S_AD S_HI S_LO P_r0 hch_x3) hZ (own_at hw 66 rfl) (own_at hw 8 rfl) (by decide) (by decide)) q2a q2c (g := (mkF m 51 #[rv r0, iv p1, iv 3, sl] [(.int 3), (.ref r0)])) rfl (by rw [hml]; rfl) (Steps.refl _) (argsL := [(.int 3)]) (rest := []) (lenOf pd_18 rfl) rfl (Nat.le_refl _) (hb hby d8_51) (fun _ _ => ⟨rfl, e1, (by decide : 2 + 0 ≤ _), (by decide : 12 + 0 ≤ _)⟩)
  dsimp only [Pt.U, Pt.locs, Pt.cells, Pt.slots] at X2 l2 y2 z2 st2 hQ2
  subst l2 y2 z2
  obtain ⟨rfl, N2q, e2⟩ := hQ2
  have N2 := Fr.app N1 N2q
  have k4 : ∀ t, OwnS p e below T2 (mkF m 55 #[rv r0, iv p1, iv 3, iv x3] []) t → OwnS p e below T0 (mkF m 41 #[rv r0, iv p1, iv 3, sl] []) t := fun t q => by
   refine k0 t ?_
   show OwnS p e below T0 (mkF m 41 #[rv r0, iv p1, iv 3, sl] []) _
   refine oIn X0 hx hby d8_41 rfl (oAn X0 hx hby d8_42 rfl rfl ?_)
   refine st1.trans ?_
   refine XS.icmpNo X1.here hx rfl (hb hby d8_46) rfl (tlt (by decide : (3 : Int32) < (5 : Int32))).2.1 ?_
   refine oAn X1 hx hby d8_49 rfl rfl (oIn X1 hx hby d8_50 rfl ?_)
   refine st2.trans ?_
   refine XS.istoreN X2.here hx rfl (hb hby d8_54) rfl (l' := #[rv r0, iv p1, iv 3, iv x3]) (own_os3 h_sl) ?_
   exact q
  rcases own_cls x3 with hq3 | ⟨hq3, hq3e⟩ | ⟨hq3, hq3e⟩
  · skip
    obtain ⟨fs, hr, hrun, hended, hRW⟩ := X2.leaveW hS0 (by rw [e2]; exact hk0) (v := some (.int 4)) (fun h => by rw [hret] at h; cases h)
    have hCE : CHr Z own_EL s.vm s.heap T2.vm T2.heap := by rw [hh, e2]; exact R0c.trans (CHv.at X2 hZ (own_ew hw) H0c)
    refine ⟨_, _, k4 _ ?_, hrun, hended, _, _, rfl, ?_, hCE, hRW.1, hRW.2.1, hRW.2.2.1, hRW.2.2.2.mono (by decide) (by decide)⟩
    · show OwnS p e below T2 (mkF m 55 #[rv r0, iv p1, iv 3, iv x3] []) _
      refine oIn X2 hx hby d8_55 rfl (oBp X2 hx hby d8_56 ?_)
      refine XS.icmpNo X2.here hx rfl (hb hby d8_58) rfl (teq hq3).2 ?_
      refine oIn X2 hx hby d8_61 rfl (oIc X2 hx hby d8_62 ?_)
      refine XS.iadd X2.here hx rfl (hb hby d8_63) rfl ?_
      exact retI X2 hx hret (hb hby d8_64) hr
    · show Q_sgEn_3 Z _ _ _ _ _ _ _ _ _ _ h0 n0 _ T2.heap _
      rw [e2]
      exact ⟨(by simp [own_sc1, own_sc2, own_sc3, own_sc4, own_sc5, hq3]), N2, rfl, trivial⟩
  · skip
    have k5 : ∀ t, OwnS p e below T2 (mkF m 41 #[rv r0, iv p1, iv 4, iv x3] []) t → OwnS p e below T0 (mkF m 41 #[rv r0, iv p1, iv 3, sl] []) t := fun t q => by
     refine k4 t ?_
     show OwnS p e below T2 (mkF m 55 #[rv r0, iv p1, iv 3, iv x3] []) _
     refine oIn X2 hx hby d8_55 rfl (oBp X2 hx hby d8_56 ?_)
     refine XS.icmpYes X2.here hx rfl (pc0 := 58) (pc' := 65) rfl (hb hby d8_58) rfl (feq hq3).2 (by decide) (by decide) ?_
     refine oIn X2 hx hby d8_65 rfl (oBp X2 hx hby d8_66 ?_)
     refine XS.icmpNo X2.here hx rfl (hb hby d8_68) rfl (flt (own_t4 hq3e)).1 ?_
     refine oIn X2 hx hby d8_71 rfl (oBp X2 hx hby d8_72 ?_)
     refine XS.icmpNo X2.here hx rfl (hb hby d8_74) rfl (feq (own_t5 hq3e)).1 ?_
     refine oIn X2 hx hby d8_77 rfl ?_
     refine XS.sipush X2.here hx rfl (hb hby d8_78) ?_
     refine XS.icmpYes X2.here hx rfl (pc0 := 81) (pc' := 86) rfl (hb hby d8_81) rfl (flt (own_t3 hq3e)).2.2.2 (by decide) (by decide) ?_
     refine XS.iinc X2.here hx rfl (hb hby d8_86) rfl (l' := #[rv r0, iv p1, iv 4, iv x3]) rfl ?_
     refine oGo X2 hx hby 89 41 d8_89 (by decide) (by decide) ?_
     exact q
    obtain ⟨s6, o6, ja6, jb6, jc6, v6, L6, rfl, ⟨hv6, jN6, jh6, -⟩, jF6⟩ := sgEn_4 l Z a0 hw r0 p1 (iv x3) w_CS w_F x0 x1 x2 x3 x4 h0 n0 Z0 S_CS hcs S_F hwF S_AD S_HI S_LO P_r0 hch_x0 hch_x1 hch_x2 hch_x3 hch_x4 (One.val rfl) E_r0 X2 hx hZ hby hml hown hret hlk e2 N2 hS0 hk0 H0c R0c hh
    exact ⟨s6, _, k5 _ ja6, jb6, jc6, v6, L6, rfl, ⟨hv6.trans (by simp [own_sc1, own_sc2, own_sc3, own_sc4, own_sc5, hq3, hq3e]), jN6, jh6, trivial⟩, jF6⟩
  · skip
    have k8 : ∀ t, OwnS p e below T2 (mkF m 68 #[rv r0, iv p1, iv 3, iv x3] [(.int 33), (.int x3)]) t → OwnS p e below T0 (mkF m 41 #[rv r0, iv p1, iv 3, sl] []) t := fun t q => by
     refine k4 t ?_
     show OwnS p e below T2 (mkF m 55 #[rv r0, iv p1, iv 3, iv x3] []) _
     refine oIn X2 hx hby d8_55 rfl (oBp X2 hx hby d8_56 ?_)
     refine XS.icmpYes X2.here hx rfl (pc0 := 58) (pc' := 65) rfl (hb hby d8_58) rfl (feq hq3).2 (by decide) (by decide) ?_
     refine oIn X2 hx hby d8_65 rfl (oBp X2 hx hby d8_66 ?_)
     exact q
    by_cases hc68_7 : x3 < (33 : Int32)
    · obtain ⟨fs, hr, hrun, hended, hRW⟩ := X2.leaveW hS0 (by rw [e2]; exact hk0) (v := some (.int (-1))) (fun h => by rw [hret] at h; cases h)
      have hCE : CHr Z own_EL s.vm s.heap T2.vm T2.heap := by rw [hh, e2]; exact R0c.trans (CHv.at X2 hZ (own_ew hw) H0c)
      refine ⟨_, _, k8 _ ?_, hrun, hended, _, _, rfl, ?_, hCE, hRW.1, hRW.2.1, hRW.2.2.1, hRW.2.2.2.mono (by decide) (by decide)⟩
      · refine XS.icmpYes X2.here hx rfl (pc0 := 68) (pc' := 84) rfl (hb hby d8_68) rfl (tlt hc68_7).1 (by decide) (by decide) ?_
        refine oIc X2 hx hby d8_84 ?_
        exact retI X2 hx hret (hb hby d8_85) hr
      · show Q_sgEn_3 Z _ _ _ _ _ _ _ _ _ _ h0 n0 _ T2.heap _
        rw [e2]
        exact ⟨(by simp [own_sc1, own_sc2, own_sc3, own_sc4, own_sc5, hq3, hq3e]), N2, rfl, trivial⟩
    · have k10 : ∀ t, OwnS p e below T2 (mkF m 74 #[rv r0, iv p1, iv 3, iv x3] [(.int 127), (.int x3)]) t → OwnS p e below T0 (mkF m 41 #[rv r0, iv p1, iv 3, sl] []) t := fun t q => by
       refine k8 t ?_
       refine XS.icmpNo X2.here hx rfl (hb hby d8_68) rfl (flt hc68_7).1 ?_
       refine oIn X2 hx hby d8_71 rfl (oBp X2 hx hby d8_72 ?_)
       exact q
      by_cases hc74_9 : x3 = (127 : Int32)
      · obtain ⟨fs, hr, hrun, hended, hRW⟩ := X2.leaveW hS0 (by rw [e2]; exact hk0) (v := some (.int (-1))) (fun h => by rw [hret] at h; cases h)
        have hCE : CHr Z own_EL s.vm s.heap T2.vm T2.heap := by rw [hh, e2]; exact R0c.trans (CHv.at X2 hZ (own_ew hw) H0c)
        refine ⟨_, _, k10 _ ?_, hrun, hended, _, _, rfl, ?_, hCE, hRW.1, hRW.2.1, hRW.2.2.1, hRW.2.2.2.mono (by decide) (by decide)⟩
        · refine XS.icmpYes X2.here hx rfl (pc0 := 74) (pc' := 84) rfl (hb hby d8_74) rfl (teq hc74_9).1 (by decide) (by decide) ?_
          refine oIc X2 hx hby d8_84 ?_
          exact retI X2 hx hret (hb hby d8_85) hr
        · show Q_sgEn_3 Z _ _ _ _ _ _ _ _ _ _ h0 n0 _ T2.heap _
          rw [e2]
          exact ⟨(by simp [own_sc1, own_sc2, own_sc3, own_sc4, own_sc5, hq3, hq3e]), N2, rfl, trivial⟩
      · obtain ⟨fs, hr, hrun, hended, hRW⟩ := X2.leaveW hS0 (by rw [e2]; exact hk0) (v := some (.int (-1))) (fun h => by rw [hret] at h; cases h)
        have hCE : CHr Z own_EL s.vm s.heap T2.vm T2.heap := by rw [hh, e2]; exact R0c.trans (CHv.at X2 hZ (own_ew hw) H0c)
        refine ⟨_, _, k10 _ ?_, hrun, hended, _, _, rfl, ?_, hCE, hRW.1, hRW.2.1, hRW.2.2.1, hRW.2.2.2.mono (by decide) (by decide)⟩
        · refine XS.icmpNo X2.here hx rfl (hb hby d8_74) rfl (feq hc74_9).1 ?_
          refine oIn X2 hx hby d8_77 rfl ?_
          refine XS.sipush X2.here hx rfl (hb hby d8_78) ?_
          refine XS.icmpNo X2.here hx rfl (hb hby d8_81) rfl (tlt (own_f4 hq3e hq3 hc68_7 hc74_9)).2.2.2 ?_
          refine oIc X2 hx hby d8_84 ?_
          exact retI X2 hx hret (hb hby d8_85) hr
        · show Q_sgEn_3 Z _ _ _ _ _ _ _ _ _ _ h0 n0 _ T2.heap _
          rw [e2]
          exact ⟨(by simp [own_sc1, own_sc2, own_sc3, own_sc4, own_sc5, hq3, hq3e]), N2, rfl, trivial⟩
def Q_sgEn_2 (Z : State) (r0 : Addr) (p1 : Int32) (sl : Slot) (w_CS : Int32) (w_F : Value) (x0 : Int32) (x1 : Int32) (x2 : Int32) (x3 : Int32) (x4 : Int32) (h0 : Heap) (n0 : Nat) (v : Option Value) (h : Heap) (L : List Loc) : Prop := v = some (.int (own_sc2 x0 x1 x2 x3 x4)) ∧ Fr n0 L ∧ h = h0 ∧ True
set_option maxRecDepth 65536 in
set_option maxHeartbeats 40000000 in
theorem sgEn_2 (l : Launch) (Z : State) (a0 : Array Value) (hw : ∀ d ∈ tables_1, d.before a0 Z = true) {p : Program} {e : Env} {s : State} {m : MethodId} {args : Array Value} {below : List Frame} {meth : Method} {c : Code} {T0 : State} {locs : List Loc} {vm0 : Vm} {kS : Nat} {hs : Heap} (r0 : Addr) (p1 : Int32) (sl : Slot) (w_CS : Int32) (w_F : Value) (x0 : Int32) (x1 : Int32) (x2 : Int32) (x3 : Int32) (x4 : Int32) (h0 : Heap) (n0 : Nat) (Z0 : n0 ≤ h0.size) (S_CS : Sta Z h0 cS0 cS13 "Z" (.int w_CS)) (hcs : ¬ (w_CS = (0 : Int32))) (S_F : Sta Z h0 cS4 cS14 cS5 w_F) (hwF : w_F.isRef = true) (S_AD : Sta Z h0 cS1 cS6 "Z" (.int 1)) (S_HI : Sta Z h0 cS1 cS7 "I" (.int 0)) (S_LO : Sta Z h0 cS1 cS8 "I" (.int 8)) (P_r0 : own_S5 Z h0 r0 x0 x1 x2 x3 x4) (hch_x0 : own_ch x0) (hch_x1 : own_ch x1) (hch_x2 : own_ch x2) (hch_x3 : own_ch x3) (hch_x4 : own_ch x4) (h_sl : One sl) (E_r0 : Exa Z h0 r0 cS0)
    (X0 : Stand p l e ({ frames := 5, cells := 2, slots := 12, locals := 70 } : Room) (s.setVm vm0) m args below meth c T0 locs 2 12) (hx : p.tables.exec = Jvm.exec) (hZ : Z.Warmed39 (s.setVm vm0).vm) (hby : c.code = prog_3_method_2_code) (hml : c.maxLocals = 4) (hown : (s.setVm vm0).vm.findClass cS3 = some m.cls) (hret : meth.sig.returnType = some .int) (hlk : meth.locks = false) (e0 : T0.heap = h0) (N0 : Fr n0 locs) (hS0 : s.Since vm0 kS) (hk0 : kS ≤ h0.size) (H0c : CHv Z own_EL vm0 h0) (R0c : CHr Z own_EL s.vm hs vm0 h0) (hh : s.heap = hs) :
    ∃ s₂ o, Steps p.tables e below (T0.setTop (mkF m 41 #[rv r0, iv p1, iv 2, sl] [])) s₂ ∧ s₂.status = .running ∧ Ended s₂ below o ∧ ∃ v L, o = .returned v ∧ Q_sgEn_2 Z r0 p1 sl w_CS w_F x0 x1 x2 x3 x4 h0 n0 v s₂.heap L ∧ CHr Z own_EL s.vm s.heap s₂.vm s₂.heap ∧ ReturnedEndW s o s₂ L ({ frames := 5, cells := 2, slots := 12, locals := 70 } : Room).cells ({ frames := 5, cells := 2, slots := 12, locals := 70 } : Room).slots := by
  have k0 : ∀ t, OwnS p e below T0 (mkF m 41 #[rv r0, iv p1, iv 2, sl] []) t → OwnS p e below T0 (mkF m 41 #[rv r0, iv p1, iv 2, sl] []) t := fun _ q => q
  obtain ⟨cq1, kq1, q1a, q1b, q1c⟩ := isOf hZ e0 E_r0
  obtain ⟨_, _, ⟨T1, L1, j1, i1⟩, -, X1, ⟨Lc1, hQ1, l1, y1, z1⟩, st1⟩ := X0.virtualBack hx (y := (⟨cS0, "length", "()I"⟩ : MethodName)) (z := (⟨cS0, "length", "()I"⟩ : MethodName)) hown (mvT hZ (own_at hw 61 rfl)) (mvT hZ (own_at hw 48 rfl)) (notFace_of_selects (args := #[]) (mvT hZ (own_at hw 50 rfl))) (mvT hZ (own_at hw 50 rfl)) (mvT hZ (own_at hw 49 rfl)) (by decide) (backOf (W := 1) (rmLen_5 l Z a0 hw [] r0 w_CS x0 x1 x2 x3 x4 h0 n0 Z0 S_CS hcs P_r0) hZ (own_at hw 51 rfl) (own_at hw 8 rfl) (by decide) (by decide)) q1a q1c (g := (mkF m 43 #[rv r0, iv p1, iv 2, sl] [(.ref r0), (.int 2)])) rfl (by rw [hml]; rfl) (Steps.refl _) (argsL := []) (rest := [(.int 2)]) (lenOf pd_16 rfl) rfl (Nat.le_refl _) (hb hby d8_43) (fun _ _ => ⟨rfl, e0, (by decide : 2 + 0 ≤ _), (by decide : 12 + 0 ≤ _)⟩)
  dsimp only [Pt.U, Pt.locs, Pt.cells, Pt.slots] at X1 l1 y1 z1 st1 hQ1
  subst l1 y1 z1
  obtain ⟨rfl, N1q, e1⟩ := hQ1
  have N1 := Fr.app N0 N1q
  obtain ⟨cq2, kq2, q2a, q2b, q2c⟩ := isOf hZ e1 E_r0
  obtain ⟨_, _, ⟨T2, L2, j2, i2⟩, -, X2, ⟨Lc2, hQ2, l2, y2, z2⟩, st2⟩ := X1.virtualBack hx (y := (⟨cS0, "charAt", "(I)C"⟩ : MethodName)) (z := (⟨cS0, "charAt", "(I)C"⟩ : MethodName)) hown (mvT hZ (own_at hw 62 rfl)) (mvT hZ (own_at hw 63 rfl)) (notFace_of_selects (args := #[]) (mvT hZ (own_at hw 65 rfl))) (mvT hZ (own_at hw 65 rfl)) (mvT hZ (own_at hw 64 rfl)) (by decide) (backOf (W := 0) (rmCA_5_2 l Z a0 hw [] r0 w_CS w_F x0 x1 x2 x3 x4 h0 n0 Z0 S_CS hcs S_F hwF S_AD S_HI S_LO P_r0 hch_x2) hZ (own_at hw 66 rfl) (own_at hw 8 rfl) (by decide) (by decide)) q2a q2c (g := (mkF m 51 #[rv r0, iv p1, iv 2, sl] [(.int 2), (.ref r0)])) rfl (by rw [hml]; rfl) (Steps.refl _) (argsL := [(.int 2)]) (rest := []) (lenOf pd_18 rfl) rfl (Nat.le_refl _) (hb hby d8_51) (fun _ _ => ⟨rfl, e1, (by decide : 2 + 0 ≤ _), (by decide : 12 + 0 ≤ _)⟩)
  dsimp only [Pt.U, Pt.locs, Pt.cells, Pt.slots] at X2 l2 y2 z2 st2 hQ2
  subst l2 y2 z2
  obtain ⟨rfl, N2q, e2⟩ := hQ2
  have N2 := Fr.app N1 N2q
  have k4 : ∀ t, OwnS p e below T2 (mkF m 55 #[rv r0, iv p1, iv 2, iv x2] []) t → OwnS p e below T0 (mkF m 41 #[rv r0, iv p1, iv 2, sl] []) t := fun t q => by
   refine k0 t ?_
   show OwnS p e below T0 (mkF m 41 #[rv r0, iv p1, iv 2, sl] []) _
   refine oIn X0 hx hby d8_41 rfl (oAn X0 hx hby d8_42 rfl rfl ?_)
   refine st1.trans ?_
   refine XS.icmpNo X1.here hx rfl (hb hby d8_46) rfl (tlt (by decide : (2 : Int32) < (5 : Int32))).2.1 ?_
   refine oAn X1 hx hby d8_49 rfl rfl (oIn X1 hx hby d8_50 rfl ?_)
   refine st2.trans ?_
   refine XS.istoreN X2.here hx rfl (hb hby d8_54) rfl (l' := #[rv r0, iv p1, iv 2, iv x2]) (own_os3 h_sl) ?_
   exact q
  rcases own_cls x2 with hq3 | ⟨hq3, hq3e⟩ | ⟨hq3, hq3e⟩
  · skip
    obtain ⟨fs, hr, hrun, hended, hRW⟩ := X2.leaveW hS0 (by rw [e2]; exact hk0) (v := some (.int 3)) (fun h => by rw [hret] at h; cases h)
    have hCE : CHr Z own_EL s.vm s.heap T2.vm T2.heap := by rw [hh, e2]; exact R0c.trans (CHv.at X2 hZ (own_ew hw) H0c)
    refine ⟨_, _, k4 _ ?_, hrun, hended, _, _, rfl, ?_, hCE, hRW.1, hRW.2.1, hRW.2.2.1, hRW.2.2.2.mono (by decide) (by decide)⟩
    · show OwnS p e below T2 (mkF m 55 #[rv r0, iv p1, iv 2, iv x2] []) _
      refine oIn X2 hx hby d8_55 rfl (oBp X2 hx hby d8_56 ?_)
      refine XS.icmpNo X2.here hx rfl (hb hby d8_58) rfl (teq hq3).2 ?_
      refine oIn X2 hx hby d8_61 rfl (oIc X2 hx hby d8_62 ?_)
      refine XS.iadd X2.here hx rfl (hb hby d8_63) rfl ?_
      exact retI X2 hx hret (hb hby d8_64) hr
    · show Q_sgEn_2 Z _ _ _ _ _ _ _ _ _ _ h0 n0 _ T2.heap _
      rw [e2]
      exact ⟨(by simp [own_sc1, own_sc2, own_sc3, own_sc4, own_sc5, hq3]), N2, rfl, trivial⟩
  · skip
    have k5 : ∀ t, OwnS p e below T2 (mkF m 41 #[rv r0, iv p1, iv 3, iv x2] []) t → OwnS p e below T0 (mkF m 41 #[rv r0, iv p1, iv 2, sl] []) t := fun t q => by
     refine k4 t ?_
     show OwnS p e below T2 (mkF m 55 #[rv r0, iv p1, iv 2, iv x2] []) _
     refine oIn X2 hx hby d8_55 rfl (oBp X2 hx hby d8_56 ?_)
     refine XS.icmpYes X2.here hx rfl (pc0 := 58) (pc' := 65) rfl (hb hby d8_58) rfl (feq hq3).2 (by decide) (by decide) ?_
     refine oIn X2 hx hby d8_65 rfl (oBp X2 hx hby d8_66 ?_)
     refine XS.icmpNo X2.here hx rfl (hb hby d8_68) rfl (flt (own_t4 hq3e)).1 ?_
     refine oIn X2 hx hby d8_71 rfl (oBp X2 hx hby d8_72 ?_)
     refine XS.icmpNo X2.here hx rfl (hb hby d8_74) rfl (feq (own_t5 hq3e)).1 ?_
     refine oIn X2 hx hby d8_77 rfl ?_
     refine XS.sipush X2.here hx rfl (hb hby d8_78) ?_
     refine XS.icmpYes X2.here hx rfl (pc0 := 81) (pc' := 86) rfl (hb hby d8_81) rfl (flt (own_t3 hq3e)).2.2.2 (by decide) (by decide) ?_
     refine XS.iinc X2.here hx rfl (hb hby d8_86) rfl (l' := #[rv r0, iv p1, iv 3, iv x2]) rfl ?_
     refine oGo X2 hx hby 89 41 d8_89 (by decide) (by decide) ?_
     exact q
    obtain ⟨s6, o6, ja6, jb6, jc6, v6, L6, rfl, ⟨hv6, jN6, jh6, -⟩, jF6⟩ := sgEn_3 l Z a0 hw r0 p1 (iv x2) w_CS w_F x0 x1 x2 x3 x4 h0 n0 Z0 S_CS hcs S_F hwF S_AD S_HI S_LO P_r0 hch_x0 hch_x1 hch_x2 hch_x3 hch_x4 (One.val rfl) E_r0 X2 hx hZ hby hml hown hret hlk e2 N2 hS0 hk0 H0c R0c hh
    exact ⟨s6, _, k5 _ ja6, jb6, jc6, v6, L6, rfl, ⟨hv6.trans (by simp [own_sc1, own_sc2, own_sc3, own_sc4, own_sc5, hq3, hq3e]), jN6, jh6, trivial⟩, jF6⟩
  · skip
    have k8 : ∀ t, OwnS p e below T2 (mkF m 68 #[rv r0, iv p1, iv 2, iv x2] [(.int 33), (.int x2)]) t → OwnS p e below T0 (mkF m 41 #[rv r0, iv p1, iv 2, sl] []) t := fun t q => by
     refine k4 t ?_
     show OwnS p e below T2 (mkF m 55 #[rv r0, iv p1, iv 2, iv x2] []) _
     refine oIn X2 hx hby d8_55 rfl (oBp X2 hx hby d8_56 ?_)
     refine XS.icmpYes X2.here hx rfl (pc0 := 58) (pc' := 65) rfl (hb hby d8_58) rfl (feq hq3).2 (by decide) (by decide) ?_
     refine oIn X2 hx hby d8_65 rfl (oBp X2 hx hby d8_66 ?_)
     exact q
    by_cases hc68_7 : x2 < (33 : Int32)
    · obtain ⟨fs, hr, hrun, hended, hRW⟩ := X2.leaveW hS0 (by rw [e2]; exact hk0) (v := some (.int (-1))) (fun h => by rw [hret] at h; cases h)
      have hCE : CHr Z own_EL s.vm s.heap T2.vm T2.heap := by rw [hh, e2]; exact R0c.trans (CHv.at X2 hZ (own_ew hw) H0c)
      refine ⟨_, _, k8 _ ?_, hrun, hended, _, _, rfl, ?_, hCE, hRW.1, hRW.2.1, hRW.2.2.1, hRW.2.2.2.mono (by decide) (by decide)⟩
      · refine XS.icmpYes X2.here hx rfl (pc0 := 68) (pc' := 84) rfl (hb hby d8_68) rfl (tlt hc68_7).1 (by decide) (by decide) ?_
        refine oIc X2 hx hby d8_84 ?_
        exact retI X2 hx hret (hb hby d8_85) hr
      · show Q_sgEn_2 Z _ _ _ _ _ _ _ _ _ _ h0 n0 _ T2.heap _
        rw [e2]
        exact ⟨(by simp [own_sc1, own_sc2, own_sc3, own_sc4, own_sc5, hq3, hq3e]), N2, rfl, trivial⟩
    · have k10 : ∀ t, OwnS p e below T2 (mkF m 74 #[rv r0, iv p1, iv 2, iv x2] [(.int 127), (.int x2)]) t → OwnS p e below T0 (mkF m 41 #[rv r0, iv p1, iv 2, sl] []) t := fun t q => by
       refine k8 t ?_
       refine XS.icmpNo X2.here hx rfl (hb hby d8_68) rfl (flt hc68_7).1 ?_
       refine oIn X2 hx hby d8_71 rfl (oBp X2 hx hby d8_72 ?_)
       exact q
      by_cases hc74_9 : x2 = (127 : Int32)
      · obtain ⟨fs, hr, hrun, hended, hRW⟩ := X2.leaveW hS0 (by rw [e2]; exact hk0) (v := some (.int (-1))) (fun h => by rw [hret] at h; cases h)
        have hCE : CHr Z own_EL s.vm s.heap T2.vm T2.heap := by rw [hh, e2]; exact R0c.trans (CHv.at X2 hZ (own_ew hw) H0c)
        refine ⟨_, _, k10 _ ?_, hrun, hended, _, _, rfl, ?_, hCE, hRW.1, hRW.2.1, hRW.2.2.1, hRW.2.2.2.mono (by decide) (by decide)⟩
        · refine XS.icmpYes X2.here hx rfl (pc0 := 74) (pc' := 84) rfl (hb hby d8_74) rfl (teq hc74_9).1 (by decide) (by decide) ?_
          refine oIc X2 hx hby d8_84 ?_
          exact retI X2 hx hret (hb hby d8_85) hr
        · show Q_sgEn_2 Z _ _ _ _ _ _ _ _ _ _ h0 n0 _ T2.heap _
          rw [e2]
          exact ⟨(by simp [own_sc1, own_sc2, own_sc3, own_sc4, own_sc5, hq3, hq3e]), N2, rfl, trivial⟩
      · obtain ⟨fs, hr, hrun, hended, hRW⟩ := X2.leaveW hS0 (by rw [e2]; exact hk0) (v := some (.int (-1))) (fun h => by rw [hret] at h; cases h)
        have hCE : CHr Z own_EL s.vm s.heap T2.vm T2.heap := by rw [hh, e2]; exact R0c.trans (CHv.at X2 hZ (own_ew hw) H0c)
        refine ⟨_, _, k10 _ ?_, hrun, hended, _, _, rfl, ?_, hCE, hRW.1, hRW.2.1, hRW.2.2.1, hRW.2.2.2.mono (by decide) (by decide)⟩
        · refine XS.icmpNo X2.here hx rfl (hb hby d8_74) rfl (feq hc74_9).1 ?_
          refine oIn X2 hx hby d8_77 rfl ?_
          refine XS.sipush X2.here hx rfl (hb hby d8_78) ?_
          refine XS.icmpNo X2.here hx rfl (hb hby d8_81) rfl (tlt (own_f4 hq3e hq3 hc68_7 hc74_9)).2.2.2 ?_
          refine oIc X2 hx hby d8_84 ?_
          exact retI X2 hx hret (hb hby d8_85) hr
        · show Q_sgEn_2 Z _ _ _ _ _ _ _ _ _ _ h0 n0 _ T2.heap _
          rw [e2]
          exact ⟨(by simp [own_sc1, own_sc2, own_sc3, own_sc4, own_sc5, hq3, hq3e]), N2, rfl, trivial⟩
def Q_sgEn_1 (Z : State) (r0 : Addr) (p1 : Int32) (sl : Slot) (w_CS : Int32) (w_F : Value) (x0 : Int32) (x1 : Int32) (x2 : Int32) (x3 : Int32) (x4 : Int32) (h0 : Heap) (n0 : Nat) (v : Option Value) (h : Heap) (L : List Loc) : Prop := v = some (.int (own_sc1 x0 x1 x2 x3 x4)) ∧ Fr n0 L ∧ h = h0 ∧ True
set_option maxRecDepth 65536 in
set_option maxHeartbeats 40000000 in
theorem sgEn_1 (l : Launch) (Z : State) (a0 : Array Value) (hw : ∀ d ∈ tables_1, d.before a0 Z = true) {p : Program} {e : Env} {s : State} {m : MethodId} {args : Array Value} {below : List Frame} {meth : Method} {c : Code} {T0 : State} {locs : List Loc} {vm0 : Vm} {kS : Nat} {hs : Heap} (r0 : Addr) (p1 : Int32) (sl : Slot) (w_CS : Int32) (w_F : Value) (x0 : Int32) (x1 : Int32) (x2 : Int32) (x3 : Int32) (x4 : Int32) (h0 : Heap) (n0 : Nat) (Z0 : n0 ≤ h0.size) (S_CS : Sta Z h0 cS0 cS13 "Z" (.int w_CS)) (hcs : ¬ (w_CS = (0 : Int32))) (S_F : Sta Z h0 cS4 cS14 cS5 w_F) (hwF : w_F.isRef = true) (S_AD : Sta Z h0 cS1 cS6 "Z" (.int 1)) (S_HI : Sta Z h0 cS1 cS7 "I" (.int 0)) (S_LO : Sta Z h0 cS1 cS8 "I" (.int 8)) (P_r0 : own_S5 Z h0 r0 x0 x1 x2 x3 x4) (hch_x0 : own_ch x0) (hch_x1 : own_ch x1) (hch_x2 : own_ch x2) (hch_x3 : own_ch x3) (hch_x4 : own_ch x4) (h_sl : One sl) (E_r0 : Exa Z h0 r0 cS0)
    (X0 : Stand p l e ({ frames := 5, cells := 2, slots := 12, locals := 70 } : Room) (s.setVm vm0) m args below meth c T0 locs 2 12) (hx : p.tables.exec = Jvm.exec) (hZ : Z.Warmed39 (s.setVm vm0).vm) (hby : c.code = prog_3_method_2_code) (hml : c.maxLocals = 4) (hown : (s.setVm vm0).vm.findClass cS3 = some m.cls) (hret : meth.sig.returnType = some .int) (hlk : meth.locks = false) (e0 : T0.heap = h0) (N0 : Fr n0 locs) (hS0 : s.Since vm0 kS) (hk0 : kS ≤ h0.size) (H0c : CHv Z own_EL vm0 h0) (R0c : CHr Z own_EL s.vm hs vm0 h0) (hh : s.heap = hs) :
    ∃ s₂ o, Steps p.tables e below (T0.setTop (mkF m 41 #[rv r0, iv p1, iv 1, sl] [])) s₂ ∧ s₂.status = .running ∧ Ended s₂ below o ∧ ∃ v L, o = .returned v ∧ Q_sgEn_1 Z r0 p1 sl w_CS w_F x0 x1 x2 x3 x4 h0 n0 v s₂.heap L ∧ CHr Z own_EL s.vm s.heap s₂.vm s₂.heap ∧ ReturnedEndW s o s₂ L ({ frames := 5, cells := 2, slots := 12, locals := 70 } : Room).cells ({ frames := 5, cells := 2, slots := 12, locals := 70 } : Room).slots := by
  have k0 : ∀ t, OwnS p e below T0 (mkF m 41 #[rv r0, iv p1, iv 1, sl] []) t → OwnS p e below T0 (mkF m 41 #[rv r0, iv p1, iv 1, sl] []) t := fun _ q => q
  obtain ⟨cq1, kq1, q1a, q1b, q1c⟩ := isOf hZ e0 E_r0
  obtain ⟨_, _, ⟨T1, L1, j1, i1⟩, -, X1, ⟨Lc1, hQ1, l1, y1, z1⟩, st1⟩ := X0.virtualBack hx (y := (⟨cS0, "length", "()I"⟩ : MethodName)) (z := (⟨cS0, "length", "()I"⟩ : MethodName)) hown (mvT hZ (own_at hw 61 rfl)) (mvT hZ (own_at hw 48 rfl)) (notFace_of_selects (args := #[]) (mvT hZ (own_at hw 50 rfl))) (mvT hZ (own_at hw 50 rfl)) (mvT hZ (own_at hw 49 rfl)) (by decide) (backOf (W := 1) (rmLen_5 l Z a0 hw [] r0 w_CS x0 x1 x2 x3 x4 h0 n0 Z0 S_CS hcs P_r0) hZ (own_at hw 51 rfl) (own_at hw 8 rfl) (by decide) (by decide)) q1a q1c (g := (mkF m 43 #[rv r0, iv p1, iv 1, sl] [(.ref r0), (.int 1)])) rfl (by rw [hml]; rfl) (Steps.refl _) (argsL := []) (rest := [(.int 1)]) (lenOf pd_16 rfl) rfl (Nat.le_refl _) (hb hby d8_43) (fun _ _ => ⟨rfl, e0, (by decide : 2 + 0 ≤ _), (by decide : 12 + 0 ≤ _)⟩)
  dsimp only [Pt.U, Pt.locs, Pt.cells, Pt.slots] at X1 l1 y1 z1 st1 hQ1
  subst l1 y1 z1
  obtain ⟨rfl, N1q, e1⟩ := hQ1
  have N1 := Fr.app N0 N1q
  obtain ⟨cq2, kq2, q2a, q2b, q2c⟩ := isOf hZ e1 E_r0
  obtain ⟨_, _, ⟨T2, L2, j2, i2⟩, -, X2, ⟨Lc2, hQ2, l2, y2, z2⟩, st2⟩ := X1.virtualBack hx (y := (⟨cS0, "charAt", "(I)C"⟩ : MethodName)) (z := (⟨cS0, "charAt", "(I)C"⟩ : MethodName)) hown (mvT hZ (own_at hw 62 rfl)) (mvT hZ (own_at hw 63 rfl)) (notFace_of_selects (args := #[]) (mvT hZ (own_at hw 65 rfl))) (mvT hZ (own_at hw 65 rfl)) (mvT hZ (own_at hw 64 rfl)) (by decide) (backOf (W := 0) (rmCA_5_1 l Z a0 hw [] r0 w_CS w_F x0 x1 x2 x3 x4 h0 n0 Z0 S_CS hcs S_F hwF S_AD S_HI S_LO P_r0 hch_x1) hZ (own_at hw 66 rfl) (own_at hw 8 rfl) (by decide) (by decide)) q2a q2c (g := (mkF m 51 #[rv r0, iv p1, iv 1, sl] [(.int 1), (.ref r0)])) rfl (by rw [hml]; rfl) (Steps.refl _) (argsL := [(.int 1)]) (rest := []) (lenOf pd_18 rfl) rfl (Nat.le_refl _) (hb hby d8_51) (fun _ _ => ⟨rfl, e1, (by decide : 2 + 0 ≤ _), (by decide : 12 + 0 ≤ _)⟩)
  dsimp only [Pt.U, Pt.locs, Pt.cells, Pt.slots] at X2 l2 y2 z2 st2 hQ2
  subst l2 y2 z2
  obtain ⟨rfl, N2q, e2⟩ := hQ2
  have N2 := Fr.app N1 N2q
  have k4 : ∀ t, OwnS p e below T2 (mkF m 55 #[rv r0, iv p1, iv 1, iv x1] []) t → OwnS p e below T0 (mkF m 41 #[rv r0, iv p1, iv 1, sl] []) t := fun t q => by
   refine k0 t ?_
   show OwnS p e below T0 (mkF m 41 #[rv r0, iv p1, iv 1, sl] []) _
   refine oIn X0 hx hby d8_41 rfl (oAn X0 hx hby d8_42 rfl rfl ?_)
   refine st1.trans ?_
   refine XS.icmpNo X1.here hx rfl (hb hby d8_46) rfl (tlt (by decide : (1 : Int32) < (5 : Int32))).2.1 ?_
   refine oAn X1 hx hby d8_49 rfl rfl (oIn X1 hx hby d8_50 rfl ?_)
   refine st2.trans ?_
   refine XS.istoreN X2.here hx rfl (hb hby d8_54) rfl (l' := #[rv r0, iv p1, iv 1, iv x1]) (own_os3 h_sl) ?_
   exact q
  rcases own_cls x1 with hq3 | ⟨hq3, hq3e⟩ | ⟨hq3, hq3e⟩
  · skip
    obtain ⟨fs, hr, hrun, hended, hRW⟩ := X2.leaveW hS0 (by rw [e2]; exact hk0) (v := some (.int 2)) (fun h => by rw [hret] at h; cases h)
    have hCE : CHr Z own_EL s.vm s.heap T2.vm T2.heap := by rw [hh, e2]; exact R0c.trans (CHv.at X2 hZ (own_ew hw) H0c)
    refine ⟨_, _, k4 _ ?_, hrun, hended, _, _, rfl, ?_, hCE, hRW.1, hRW.2.1, hRW.2.2.1, hRW.2.2.2.mono (by decide) (by decide)⟩
    · show OwnS p e below T2 (mkF m 55 #[rv r0, iv p1, iv 1, iv x1] []) _
      refine oIn X2 hx hby d8_55 rfl (oBp X2 hx hby d8_56 ?_)
      refine XS.icmpNo X2.here hx rfl (hb hby d8_58) rfl (teq hq3).2 ?_
      refine oIn X2 hx hby d8_61 rfl (oIc X2 hx hby d8_62 ?_)
      refine XS.iadd X2.here hx rfl (hb hby d8_63) rfl ?_
      exact retI X2 hx hret (hb hby d8_64) hr
    · show Q_sgEn_1 Z _ _ _ _ _ _ _ _ _ _ h0 n0 _ T2.heap _
      rw [e2]
      exact ⟨(by simp [own_sc1, own_sc2, own_sc3, own_sc4, own_sc5, hq3]), N2, rfl, trivial⟩
  · skip
    have k5 : ∀ t, OwnS p e below T2 (mkF m 41 #[rv r0, iv p1, iv 2, iv x1] []) t → OwnS p e below T0 (mkF m 41 #[rv r0, iv p1, iv 1, sl] []) t := fun t q => by
     refine k4 t ?_
     show OwnS p e below T2 (mkF m 55 #[rv r0, iv p1, iv 1, iv x1] []) _
     refine oIn X2 hx hby d8_55 rfl (oBp X2 hx hby d8_56 ?_)
     refine XS.icmpYes X2.here hx rfl (pc0 := 58) (pc' := 65) rfl (hb hby d8_58) rfl (feq hq3).2 (by decide) (by decide) ?_
     refine oIn X2 hx hby d8_65 rfl (oBp X2 hx hby d8_66 ?_)
     refine XS.icmpNo X2.here hx rfl (hb hby d8_68) rfl (flt (own_t4 hq3e)).1 ?_
     refine oIn X2 hx hby d8_71 rfl (oBp X2 hx hby d8_72 ?_)
     refine XS.icmpNo X2.here hx rfl (hb hby d8_74) rfl (feq (own_t5 hq3e)).1 ?_
     refine oIn X2 hx hby d8_77 rfl ?_
     refine XS.sipush X2.here hx rfl (hb hby d8_78) ?_
     refine XS.icmpYes X2.here hx rfl (pc0 := 81) (pc' := 86) rfl (hb hby d8_81) rfl (flt (own_t3 hq3e)).2.2.2 (by decide) (by decide) ?_
     refine XS.iinc X2.here hx rfl (hb hby d8_86) rfl (l' := #[rv r0, iv p1, iv 2, iv x1]) rfl ?_
     refine oGo X2 hx hby 89 41 d8_89 (by decide) (by decide) ?_
     exact q
    obtain ⟨s6, o6, ja6, jb6, jc6, v6, L6, rfl, ⟨hv6, jN6, jh6, -⟩, jF6⟩ := sgEn_2 l Z a0 hw r0 p1 (iv x1) w_CS w_F x0 x1 x2 x3 x4 h0 n0 Z0 S_CS hcs S_F hwF S_AD S_HI S_LO P_r0 hch_x0 hch_x1 hch_x2 hch_x3 hch_x4 (One.val rfl) E_r0 X2 hx hZ hby hml hown hret hlk e2 N2 hS0 hk0 H0c R0c hh
    exact ⟨s6, _, k5 _ ja6, jb6, jc6, v6, L6, rfl, ⟨hv6.trans (by simp [own_sc1, own_sc2, own_sc3, own_sc4, own_sc5, hq3, hq3e]), jN6, jh6, trivial⟩, jF6⟩
  · skip
    have k8 : ∀ t, OwnS p e below T2 (mkF m 68 #[rv r0, iv p1, iv 1, iv x1] [(.int 33), (.int x1)]) t → OwnS p e below T0 (mkF m 41 #[rv r0, iv p1, iv 1, sl] []) t := fun t q => by
     refine k4 t ?_
     show OwnS p e below T2 (mkF m 55 #[rv r0, iv p1, iv 1, iv x1] []) _
     refine oIn X2 hx hby d8_55 rfl (oBp X2 hx hby d8_56 ?_)
     refine XS.icmpYes X2.here hx rfl (pc0 := 58) (pc' := 65) rfl (hb hby d8_58) rfl (feq hq3).2 (by decide) (by decide) ?_
     refine oIn X2 hx hby d8_65 rfl (oBp X2 hx hby d8_66 ?_)
     exact q
    by_cases hc68_7 : x1 < (33 : Int32)
    · obtain ⟨fs, hr, hrun, hended, hRW⟩ := X2.leaveW hS0 (by rw [e2]; exact hk0) (v := some (.int (-1))) (fun h => by rw [hret] at h; cases h)
      have hCE : CHr Z own_EL s.vm s.heap T2.vm T2.heap := by rw [hh, e2]; exact R0c.trans (CHv.at X2 hZ (own_ew hw) H0c)
      refine ⟨_, _, k8 _ ?_, hrun, hended, _, _, rfl, ?_, hCE, hRW.1, hRW.2.1, hRW.2.2.1, hRW.2.2.2.mono (by decide) (by decide)⟩
      · refine XS.icmpYes X2.here hx rfl (pc0 := 68) (pc' := 84) rfl (hb hby d8_68) rfl (tlt hc68_7).1 (by decide) (by decide) ?_
        refine oIc X2 hx hby d8_84 ?_
        exact retI X2 hx hret (hb hby d8_85) hr
      · show Q_sgEn_1 Z _ _ _ _ _ _ _ _ _ _ h0 n0 _ T2.heap _
        rw [e2]
        exact ⟨(by simp [own_sc1, own_sc2, own_sc3, own_sc4, own_sc5, hq3, hq3e]), N2, rfl, trivial⟩
    · have k10 : ∀ t, OwnS p e below T2 (mkF m 74 #[rv r0, iv p1, iv 1, iv x1] [(.int 127), (.int x1)]) t → OwnS p e below T0 (mkF m 41 #[rv r0, iv p1, iv 1, sl] []) t := fun t q => by
       refine k8 t ?_
       refine XS.icmpNo X2.here hx rfl (hb hby d8_68) rfl (flt hc68_7).1 ?_
       refine oIn X2 hx hby d8_71 rfl (oBp X2 hx hby d8_72 ?_)
       exact q
      by_cases hc74_9 : x1 = (127 : Int32)
      · obtain ⟨fs, hr, hrun, hended, hRW⟩ := X2.leaveW hS0 (by rw [e2]; exact hk0) (v := some (.int (-1))) (fun h => by rw [hret] at h; cases h)
        have hCE : CHr Z own_EL s.vm s.heap T2.vm T2.heap := by rw [hh, e2]; exact R0c.trans (CHv.at X2 hZ (own_ew hw) H0c)
        refine ⟨_, _, k10 _ ?_, hrun, hended, _, _, rfl, ?_, hCE, hRW.1, hRW.2.1, hRW.2.2.1, hRW.2.2.2.mono (by decide) (by decide)⟩
        · refine XS.icmpYes X2.here hx rfl (pc0 := 74) (pc' := 84) rfl (hb hby d8_74) rfl (teq hc74_9).1 (by decide) (by decide) ?_
          refine oIc X2 hx hby d8_84 ?_
          exact retI X2 hx hret (hb hby d8_85) hr
        · show Q_sgEn_1 Z _ _ _ _ _ _ _ _ _ _ h0 n0 _ T2.heap _
          rw [e2]
          exact ⟨(by simp [own_sc1, own_sc2, own_sc3, own_sc4, own_sc5, hq3, hq3e]), N2, rfl, trivial⟩
      · obtain ⟨fs, hr, hrun, hended, hRW⟩ := X2.leaveW hS0 (by rw [e2]; exact hk0) (v := some (.int (-1))) (fun h => by rw [hret] at h; cases h)
        have hCE : CHr Z own_EL s.vm s.heap T2.vm T2.heap := by rw [hh, e2]; exact R0c.trans (CHv.at X2 hZ (own_ew hw) H0c)
        refine ⟨_, _, k10 _ ?_, hrun, hended, _, _, rfl, ?_, hCE, hRW.1, hRW.2.1, hRW.2.2.1, hRW.2.2.2.mono (by decide) (by decide)⟩
        · refine XS.icmpNo X2.here hx rfl (hb hby d8_74) rfl (feq hc74_9).1 ?_
          refine oIn X2 hx hby d8_77 rfl ?_
          refine XS.sipush X2.here hx rfl (hb hby d8_78) ?_
          refine XS.icmpNo X2.here hx rfl (hb hby d8_81) rfl (tlt (own_f4 hq3e hq3 hc68_7 hc74_9)).2.2.2 ?_
          refine oIc X2 hx hby d8_84 ?_
          exact retI X2 hx hret (hb hby d8_85) hr
        · show Q_sgEn_1 Z _ _ _ _ _ _ _ _ _ _ h0 n0 _ T2.heap _
          rw [e2]
          exact ⟨(by simp [own_sc1, own_sc2, own_sc3, own_sc4, own_sc5, hq3, hq3e]), N2, rfl, trivial⟩
theorem pd_19 : parseMethodDescriptor cS9 = some ⟨[(.object cS0), .int], some .boolean⟩ := by decide +kernel
theorem d8_0 : decode prog_3_method_2_code 0 = .ok (.aload_n 0, 1) := by decide +kernel
theorem d8_1 : decode prog_3_method_2_code 1 = .ok (.ldc 26, 2) := by decide +kernel
theorem d8_3 : decode prog_3_method_2_code 3 = .ok (.iload_n 1, 1) := by decide +kernel
theorem d8_4 : decode prog_3_method_2_code 4 = .ok (.invokevirtual 28, 3) := by decide +kernel
theorem d8_7 : decode prog_3_method_2_code 7 = .ok (.ifCond .eq 9, 3) := by decide +kernel
theorem d8_10 : decode prog_3_method_2_code 10 = .ok (.iload_n 1, 1) := by decide +kernel
theorem d8_11 : decode prog_3_method_2_code 11 = .ok (.iconst 2, 1) := by decide +kernel
theorem d8_12 : decode prog_3_method_2_code 12 = .ok (.iadd, 1) := by decide +kernel
theorem d8_13 : decode prog_3_method_2_code 13 = .ok (.goto 4, 3) := by decide +kernel
theorem d8_16 : decode prog_3_method_2_code 16 = .ok (.iload_n 1, 1) := by decide +kernel
theorem d8_17 : decode prog_3_method_2_code 17 = .ok (.istore_n 2, 1) := by decide +kernel
theorem d8_18 : decode prog_3_method_2_code 18 = .ok (.iload_n 2, 1) := by decide +kernel
theorem d8_19 : decode prog_3_method_2_code 19 = .ok (.aload_n 0, 1) := by decide +kernel
theorem d8_20 : decode prog_3_method_2_code 20 = .ok (.invokevirtual 34, 3) := by decide +kernel
theorem d8_23 : decode prog_3_method_2_code 23 = .ok (.if_icmp .ge 13, 3) := by decide +kernel
theorem d8_26 : decode prog_3_method_2_code 26 = .ok (.aload_n 0, 1) := by decide +kernel
theorem d8_27 : decode prog_3_method_2_code 27 = .ok (.iload_n 2, 1) := by decide +kernel
theorem d8_28 : decode prog_3_method_2_code 28 = .ok (.invokevirtual 38, 3) := by decide +kernel
theorem d8_31 : decode prog_3_method_2_code 31 = .ok (.bipush 34, 2) := by decide +kernel
theorem d8_33 : decode prog_3_method_2_code 33 = .ok (.if_icmp .eq 5, 3) := by decide +kernel
theorem d8_36 : decode prog_3_method_2_code 36 = .ok (.iconst (-1), 1) := by decide +kernel
theorem d8_37 : decode prog_3_method_2_code 37 = .ok (.ireturn, 1) := by decide +kernel
theorem d8_38 : decode prog_3_method_2_code 38 = .ok (.iinc 2 1, 3) := by decide +kernel
theorem ef_8 (m : MethodId) (x0 : Addr) (x1 : Int32) : entryFrame m #[(.ref x0), (.int x1)] 4 = mkF m 0 #[.val (.ref x0), .val (.int x1), .unset, .unset] [] := by first | (simp [entryFrame, mkF, argsToLocals, Value.category]; done) | rfl
def Q_En_0 (Z : State) (r0 : Addr) (w_CS : Int32) (w_F : Value) (x0 : Int32) (x1 : Int32) (x2 : Int32) (x3 : Int32) (x4 : Int32) (h0 : Heap) (n0 : Nat) (v : Option Value) (h : Heap) (L : List Loc) : Prop := v = some (.int (own_e0 x0 x1 x2 x3 x4)) ∧ Fr n0 L ∧ Keep h0 h [] ∧ True
set_option maxRecDepth 65536 in
set_option maxHeartbeats 40000000 in
theorem rmEn_0 (l : Launch) (Z : State) (a0 : Array Value) (hw : ∀ d ∈ tables_1, d.before a0 Z = true) (ws : List Jvm.Cond) (r0 : Addr) (w_CS : Int32) (w_F : Value) (x0 : Int32) (x1 : Int32) (x2 : Int32) (x3 : Int32) (x4 : Int32) (h0 : Heap) (n0 : Nat) (Z0 : n0 ≤ h0.size) (S_CS : Sta Z h0 cS0 cS13 "Z" (.int w_CS)) (hcs : ¬ (w_CS = (0 : Int32))) (S_F : Sta Z h0 cS4 cS14 cS5 w_F) (hwF : w_F.isRef = true) (S_AD : Sta Z h0 cS1 cS6 "Z" (.int 1)) (S_HI : Sta Z h0 cS1 cS7 "I" (.int 0)) (S_LO : Sta Z h0 cS1 cS8 "I" (.int 8)) (P_r0 : own_S5 Z h0 r0 x0 x1 x2 x3 x4) (hch_x0 : own_ch x0) (hch_x1 : own_ch x1) (hch_x2 : own_ch x2) (hch_x3 : own_ch x3) (hch_x4 : own_ch x4) (E_r0 : Exa Z h0 r0 cS0) :
    MetFree l (⟨cS3, "end", cS17⟩ : MethodName) (head1 (Jvm.Cond.code (⟨cS3, "end", cS17⟩ : MethodName) prog_3_method_2_code 4 (some .int) :: ws) ({ frames := 5, cells := 2, slots := 12, locals := 70 } : Room)) (fun a U => a = #[(.ref r0), (.int 0)] ∧ Z.Warmed39 U.vm ∧ U.heap = h0 ∧ CHv Z own_EL U.vm h0) (fun _ _ _ _ _ => True) (fun _ U o U' => ∃ v L, o = .returned v ∧ Q_En_0 Z r0 w_CS w_F x0 x1 x2 x3 x4 h0 n0 v U'.heap L ∧ CHr Z own_EL U.vm U.heap U'.vm U'.heap ∧ ReturnedEndW U o U' L 2 12) := by
  refine MetFree.of_bodySF (plainFor_of_name pn_com_example_strict_lock_strictlock_EntityTags) hisR ?_
  intro p e s m args below meth c s₁ Bd hml0 hP hK
  obtain ⟨rfl, hZ, hh, H0c⟩ := hP
  have hx := Bd.exec
  have hby := Bd.bytes
  have hml : c.maxLocals = 4 := hml0
  have hown : (s.setVm s.vm).vm.findClass cS3 = some m.cls := findClass_of_methodNamed Bd.named
  have hnm := (name_of_methodNamed Bd.named Bd.method).1
  have X0 : Stand p l e ({ frames := 5, cells := 2, slots := 12, locals := 70 } : Room) (s.setVm s.vm) m #[(.ref r0), (.int 0)] below meth c s₁ [] 0 0 := Stand.of_body Bd
  have e0 : s₁.heap = h0 := by rw [← hh, Bd.state]; rfl
  have N0 := Fr.nil n0
  have k0 : ∀ t, OwnS p e below s₁ (mkF m 0 #[rv r0, iv 0, .unset, .unset] []) t → OwnS p e below s₁ (entryFrame m #[(.ref r0), (.int 0)] 4) t := fun t k => castTop (ef_8 m r0 (0 : Int32)) k
  have hZ : Z.Warmed39 (s.setVm s.vm).vm := hZ
  have hS0 : s.Since s.vm h0.size := (State.WarmedH.refl s).since _
  have hk0 : h0.size ≤ h0.size := Nat.le_refl _
  have R0c := CHr.refl H0c
  obtain ⟨a1, T1, h1, k11, bb1, kk1, X1, e1, E1, hS1, hk1, hZ1, hown1, EA1, FC1, FV1, V1, -, -, CR1, LT1, ne1, st1⟩ := ldcCH X0 hx hZ hown (own_at hw 39 rfl) (own_ws hw) e0 hS0 hk0 (own_ew hw) (own_mem0) H0c (vs := [(.int 87), (.int 47)]) (z := 2) ⟨by decide, rfl⟩ (by decide) rfl (g := (mkF m 1 #[rv r0, iv 0, .unset, .unset] [(.ref r0)])) rfl (hb hby d8_1) (n := 8) (by decide) (by decide) (by decide) (by decide)
  have Hc1 := CR1.1
  have Rc1 := R0c.trans CR1
  have f3 := (S_CS.ext E1)
  have f4 := (S_AD.ext E1)
  have f5 := (S_HI.ext E1)
  have f6 := (S_LO.ext E1)
  have f7 := (own_S5_ext P_r0 E1)
  have f8 := (E_r0.ext E1)
  obtain ⟨cq2, kq2, q2a, q2b, q2c⟩ := isOf hZ1 e1 f8
  obtain ⟨_, _, ⟨T2, L2, j2, i2⟩, -, X2, ⟨Lc2, hQ2, l2, y2, z2⟩, st2⟩ := X1.virtualBack hx (y := (⟨cS0, "startsWith", cS9⟩ : MethodName)) (z := (⟨cS0, "startsWith", cS9⟩ : MethodName)) hown1 (mvT hZ1 (own_at hw 42 rfl)) (mvT hZ1 (own_at hw 43 rfl)) (notFace_of_selects (args := #[]) (mvT hZ1 (own_at hw 45 rfl))) (mvT hZ1 (own_at hw 45 rfl)) (mvT hZ1 (own_at hw 44 rfl)) (by decide) (backOf (W := 0) (rmSW_0 l Z a0 hw [] r0 a1 w_CS bb1 kk1 x0 x1 x2 x3 x4 h1 n0 (Nat.le_trans Z0 E1.1) f3 hcs f4 f5 f6 f7 EA1 FC1 FV1 V1 hch_x0 hch_x1 hch_x2 hch_x3 hch_x4 f8) hZ1 (own_at hw 46 rfl) (own_at hw 8 rfl) (by decide) (by decide)) q2a q2c (g := (mkF m 4 #[rv r0, iv 0, .unset, .unset] [(.int 0), (.ref a1), (.ref r0)])) rfl (by rw [hml]; rfl) (Steps.refl _) (argsL := [(.ref a1), (.int 0)]) (rest := []) (lenOf pd_19 rfl) rfl (Nat.le_refl _) (hb hby d8_4) (fun _ _ => ⟨rfl, e1, (by decide : 2 + 0 ≤ _), (by decide : 12 + 0 ≤ _)⟩)
  dsimp only [Pt.U, Pt.locs, Pt.cells, Pt.slots] at X2 l2 y2 z2 st2 hQ2
  subst l2 y2 z2
  have k9 : ∀ t, OwnS p e below T1 (mkF m 4 #[rv r0, iv 0, .unset, .unset] [(.int 0), (.ref a1), (.ref r0)]) t → OwnS p e below s₁ (entryFrame m #[(.ref r0), (.int 0)] 4) t := fun t q => by
   refine k0 t ?_
   show OwnS p e below s₁ (mkF m 0 #[rv r0, iv 0, .unset, .unset] []) _
   refine oAn X0 hx hby d8_0 rfl rfl ?_
   refine st1 _ ?_
   refine oIn X1 hx hby d8_3 rfl ?_
   exact q
  rcases hQ2 with ⟨rfl, N2q, e2, p2_0, p2_1⟩ | ⟨rfl, N2q, e2, p2_0, p2_1⟩ | ⟨rfl, N2q, e2, p2_0⟩
  · have N2 := Fr.app N0 N2q
    obtain ⟨cq10, kq10, q10a, q10b, q10c⟩ := isOf hZ1 e2 f8
    obtain ⟨_, _, ⟨T10, L10, j10, i10⟩, -, X10, ⟨Lc10, hQ10, l10, y10, z10⟩, st10⟩ := X2.virtualBack hx (y := (⟨cS0, "length", "()I"⟩ : MethodName)) (z := (⟨cS0, "length", "()I"⟩ : MethodName)) hown1 (mvT hZ1 (own_at hw 61 rfl)) (mvT hZ1 (own_at hw 48 rfl)) (notFace_of_selects (args := #[]) (mvT hZ1 (own_at hw 50 rfl))) (mvT hZ1 (own_at hw 50 rfl)) (mvT hZ1 (own_at hw 49 rfl)) (by decide) (backOf (W := 1) (rmLen_5 l Z a0 hw [] r0 w_CS x0 x1 x2 x3 x4 h1 n0 (Nat.le_trans Z0 E1.1) f3 hcs f7) hZ1 (own_at hw 51 rfl) (own_at hw 8 rfl) (by decide) (by decide)) q10a q10c (g := (mkF m 20 #[rv r0, iv 0, iv 2, .unset] [(.ref r0), (.int 2)])) rfl (by rw [hml]; rfl) (Steps.refl _) (argsL := []) (rest := [(.int 2)]) (lenOf pd_16 rfl) rfl (Nat.le_refl _) (hb hby d8_20) (fun _ _ => ⟨rfl, e2, (by decide : 2 + 0 ≤ _), (by decide : 12 + 0 ≤ _)⟩)
    dsimp only [Pt.U, Pt.locs, Pt.cells, Pt.slots] at X10 l10 y10 z10 st10 hQ10
    subst l10 y10 z10
    obtain ⟨rfl, N10q, e10⟩ := hQ10
    have N10 := Fr.app N2 N10q
    have f12 := (S_F.ext E1)
    obtain ⟨cq11, kq11, q11a, q11b, q11c⟩ := isOf hZ1 e10 f8
    obtain ⟨_, _, ⟨T11, L11, j11, i11⟩, -, X11, ⟨Lc11, hQ11, l11, y11, z11⟩, st11⟩ := X10.virtualBack hx (y := (⟨cS0, "charAt", "(I)C"⟩ : MethodName)) (z := (⟨cS0, "charAt", "(I)C"⟩ : MethodName)) hown1 (mvT hZ1 (own_at hw 62 rfl)) (mvT hZ1 (own_at hw 63 rfl)) (notFace_of_selects (args := #[]) (mvT hZ1 (own_at hw 65 rfl))) (mvT hZ1 (own_at hw 65 rfl)) (mvT hZ1 (own_at hw 64 rfl)) (by decide) (backOf (W := 0) (rmCA_5_2 l Z a0 hw [] r0 w_CS w_F x0 x1 x2 x3 x4 h1 n0 (Nat.le_trans Z0 E1.1) f3 hcs f12 hwF f4 f5 f6 f7 hch_x2) hZ1 (own_at hw 66 rfl) (own_at hw 8 rfl) (by decide) (by decide)) q11a q11c (g := (mkF m 28 #[rv r0, iv 0, iv 2, .unset] [(.int 2), (.ref r0)])) rfl (by rw [hml]; rfl) (Steps.refl _) (argsL := [(.int 2)]) (rest := []) (lenOf pd_18 rfl) rfl (Nat.le_refl _) (hb hby d8_28) (fun _ _ => ⟨rfl, e10, (by decide : 2 + 0 ≤ _), (by decide : 12 + 0 ≤ _)⟩)
    dsimp only [Pt.U, Pt.locs, Pt.cells, Pt.slots] at X11 l11 y11 z11 st11 hQ11
    subst l11 y11 z11
    obtain ⟨rfl, N11q, e11⟩ := hQ11
    have N11 := Fr.app N10 N11q
    have k14 : ∀ t, OwnS p e below T11 (mkF m 33 #[rv r0, iv 0, iv 2, .unset] [(.int 34), (.int x2)]) t → OwnS p e below s₁ (entryFrame m #[(.ref r0), (.int 0)] 4) t := fun t q => by
     refine k9 t ?_
     refine st2.trans ?_
     refine XS.ifNo X2.here hx rfl (hb hby d8_7) rfl ((if0 _ _).trans (feq (by decide : ¬ ((1 : Int32) = (0 : Int32)))).1) ?_
     refine oIn X2 hx hby d8_10 rfl (oIc X2 hx hby d8_11 ?_)
     refine XS.iadd X2.here hx rfl (hb hby d8_12) rfl ?_
     refine oGo X2 hx hby 13 17 d8_13 (by decide) (by decide) ?_
     refine XS.istoreN X2.here hx rfl (hb hby d8_17) rfl (l' := #[rv r0, iv 0, iv 2, .unset]) rfl ?_
     refine oIn X2 hx hby d8_18 rfl (oAn X2 hx hby d8_19 rfl rfl ?_)
     refine st10.trans ?_
     refine XS.icmpNo X10.here hx rfl (hb hby d8_23) rfl (tlt (by decide : (2 : Int32) < (5 : Int32))).2.1 ?_
     refine oAn X10 hx hby d8_26 rfl rfl (oIn X10 hx hby d8_27 rfl ?_)
     refine st11.trans ?_
     refine oBp X11 hx hby d8_31 ?_
     exact q
    by_cases hc33_13 : x2 = (34 : Int32)
    · have k15 : ∀ t, OwnS p e below T11 (mkF m 41 #[rv r0, iv 0, iv 3, .unset] []) t → OwnS p e below s₁ (entryFrame m #[(.ref r0), (.int 0)] 4) t := fun t q => by
       refine k14 t ?_
       refine XS.icmpYes X11.here hx rfl (pc0 := 33) (pc' := 38) rfl (hb hby d8_33) rfl (teq hc33_13).1 (by decide) (by decide) ?_
       refine XS.iinc X11.here hx rfl (hb hby d8_38) rfl (l' := #[rv r0, iv 0, iv 3, .unset]) rfl ?_
       exact q
      obtain ⟨s16, o16, ja16, jb16, jc16, v16, L16, rfl, ⟨hv16, jN16, jh16, -⟩, jF16⟩ := sgEn_3 l Z a0 hw r0 (0 : Int32) (.unset) w_CS w_F x0 x1 x2 x3 x4 h1 n0 (Nat.le_trans Z0 E1.1) f3 hcs f12 hwF f4 f5 f6 f7 hch_x0 hch_x1 hch_x2 hch_x3 hch_x4 One.u f8 X11 hx hZ1 hby hml hown1 Bd.returns Bd.notSynchronized e11 N11 hS1 hk1 Hc1 Rc1 hh
      exact ⟨s16, _, k15 _ ja16, jb16, jc16, v16, L16, rfl, ⟨hv16.trans (by simp [own_e0, own_sc1, own_sc2, own_sc3, own_sc4, own_sc5, own_q0, own_q1, own_q2, own_q3, own_q4, own_q5, hc33_13, p2_0, p2_1]), jN16, (by rw [jh16]; exact ((Keep.refl h0 []).ext E1)), trivial⟩, jF16⟩
    · obtain ⟨fs, hr, hrun, hended, hRW⟩ := X11.leaveW hS1 (by rw [e11]; exact hk1) (v := some (.int (-1))) (fun h => by rw [Bd.returns] at h; cases h)
      have hCE : CHr Z own_EL s.vm s.heap T11.vm T11.heap := by rw [hh, e11]; exact Rc1.trans (CHv.at X11 hZ1 (own_ew hw) Hc1)
      refine ⟨_, _, k14 _ ?_, hrun, hended, _, _, rfl, ?_, hCE, hRW.1, hRW.2.1, hRW.2.2.1, hRW.2.2.2.mono (by decide) (by decide)⟩
      · refine XS.icmpNo X11.here hx rfl (hb hby d8_33) rfl (feq hc33_13).1 ?_
        refine oIc X11 hx hby d8_36 ?_
        exact retI X11 hx Bd.returns (hb hby d8_37) hr
      · show Q_En_0 Z _ _ _ _ _ _ _ _ h0 n0 _ T11.heap _
        rw [e11]
        exact ⟨(by simp [own_e0, own_sc1, own_sc2, own_sc3, own_sc4, own_sc5, own_q0, own_q1, own_q2, own_q3, own_q4, own_q5, hc33_13, p2_0, p2_1]), N11, ((Keep.refl h0 []).ext E1), trivial⟩
  · have N2 := Fr.app N0 N2q
    obtain ⟨cq17, kq17, q17a, q17b, q17c⟩ := isOf hZ1 e2 f8
    obtain ⟨_, _, ⟨T17, L17, j17, i17⟩, -, X17, ⟨Lc17, hQ17, l17, y17, z17⟩, st17⟩ := X2.virtualBack hx (y := (⟨cS0, "length", "()I"⟩ : MethodName)) (z := (⟨cS0, "length", "()I"⟩ : MethodName)) hown1 (mvT hZ1 (own_at hw 61 rfl)) (mvT hZ1 (own_at hw 48 rfl)) (notFace_of_selects (args := #[]) (mvT hZ1 (own_at hw 50 rfl))) (mvT hZ1 (own_at hw 50 rfl)) (mvT hZ1 (own_at hw 49 rfl)) (by decide) (backOf (W := 1) (rmLen_5 l Z a0 hw [] r0 w_CS x0 x1 x2 x3 x4 h1 n0 (Nat.le_trans Z0 E1.1) f3 hcs f7) hZ1 (own_at hw 51 rfl) (own_at hw 8 rfl) (by decide) (by decide)) q17a q17c (g := (mkF m 20 #[rv r0, iv 0, iv 0, .unset] [(.ref r0), (.int 0)])) rfl (by rw [hml]; rfl) (Steps.refl _) (argsL := []) (rest := [(.int 0)]) (lenOf pd_16 rfl) rfl (Nat.le_refl _) (hb hby d8_20) (fun _ _ => ⟨rfl, e2, (by decide : 2 + 0 ≤ _), (by decide : 12 + 0 ≤ _)⟩)
    dsimp only [Pt.U, Pt.locs, Pt.cells, Pt.slots] at X17 l17 y17 z17 st17 hQ17
    subst l17 y17 z17
    obtain ⟨rfl, N17q, e17⟩ := hQ17
    have N17 := Fr.app N2 N17q
    have f19 := (S_F.ext E1)
    obtain ⟨cq18, kq18, q18a, q18b, q18c⟩ := isOf hZ1 e17 f8
    obtain ⟨_, _, ⟨T18, L18, j18, i18⟩, -, X18, ⟨Lc18, hQ18, l18, y18, z18⟩, st18⟩ := X17.virtualBack hx (y := (⟨cS0, "charAt", "(I)C"⟩ : MethodName)) (z := (⟨cS0, "charAt", "(I)C"⟩ : MethodName)) hown1 (mvT hZ1 (own_at hw 62 rfl)) (mvT hZ1 (own_at hw 63 rfl)) (notFace_of_selects (args := #[]) (mvT hZ1 (own_at hw 65 rfl))) (mvT hZ1 (own_at hw 65 rfl)) (mvT hZ1 (own_at hw 64 rfl)) (by decide) (backOf (W := 0) (rmCA_5_0 l Z a0 hw [] r0 w_CS w_F x0 x1 x2 x3 x4 h1 n0 (Nat.le_trans Z0 E1.1) f3 hcs f19 hwF f4 f5 f6 f7 hch_x0) hZ1 (own_at hw 66 rfl) (own_at hw 8 rfl) (by decide) (by decide)) q18a q18c (g := (mkF m 28 #[rv r0, iv 0, iv 0, .unset] [(.int 0), (.ref r0)])) rfl (by rw [hml]; rfl) (Steps.refl _) (argsL := [(.int 0)]) (rest := []) (lenOf pd_18 rfl) rfl (Nat.le_refl _) (hb hby d8_28) (fun _ _ => ⟨rfl, e17, (by decide : 2 + 0 ≤ _), (by decide : 12 + 0 ≤ _)⟩)
    dsimp only [Pt.U, Pt.locs, Pt.cells, Pt.slots] at X18 l18 y18 z18 st18 hQ18
    subst l18 y18 z18
    obtain ⟨rfl, N18q, e18⟩ := hQ18
    have N18 := Fr.app N17 N18q
    obtain ⟨fs, hr, hrun, hended, hRW⟩ := X18.leaveW hS1 (by rw [e18]; exact hk1) (v := some (.int (-1))) (fun h => by rw [Bd.returns] at h; cases h)
    have hCE : CHr Z own_EL s.vm s.heap T18.vm T18.heap := by rw [hh, e18]; exact Rc1.trans (CHv.at X18 hZ1 (own_ew hw) Hc1)
    refine ⟨_, _, k9 _ ?_, hrun, hended, _, _, rfl, ?_, hCE, hRW.1, hRW.2.1, hRW.2.2.1, hRW.2.2.2.mono (by decide) (by decide)⟩
    · refine st2.trans ?_
      refine XS.ifYes X2.here hx rfl (pc0 := 7) (pc' := 16) rfl (hb hby d8_7) rfl ((if0 _ _).trans (teq (by decide : (0 : Int32) = (0 : Int32))).1) (by decide) (by decide) ?_
      refine oIn X2 hx hby d8_16 rfl ?_
      refine XS.istoreN X2.here hx rfl (hb hby d8_17) rfl (l' := #[rv r0, iv 0, iv 0, .unset]) rfl ?_
      refine oIn X2 hx hby d8_18 rfl (oAn X2 hx hby d8_19 rfl rfl ?_)
      refine st17.trans ?_
      refine XS.icmpNo X17.here hx rfl (hb hby d8_23) rfl (tlt (by decide : (0 : Int32) < (5 : Int32))).2.1 ?_
      refine oAn X17 hx hby d8_26 rfl rfl (oIn X17 hx hby d8_27 rfl ?_)
      refine st18.trans ?_
      refine oBp X18 hx hby d8_31 ?_
      refine XS.icmpNo X18.here hx rfl (hb hby d8_33) rfl (feq (by rw [p2_0]; decide)).1 ?_
      refine oIc X18 hx hby d8_36 ?_
      exact retI X18 hx Bd.returns (hb hby d8_37) hr
    · show Q_En_0 Z _ _ _ _ _ _ _ _ h0 n0 _ T18.heap _
      rw [e18]
      exact ⟨(by simp [own_e0, own_sc1, own_sc2, own_sc3, own_sc4, own_sc5, own_q0, own_q1, own_q2, own_q3, own_q4, own_q5, p2_0, p2_1]), N18, ((Keep.refl h0 []).ext E1), trivial⟩
  · have N2 := Fr.app N0 N2q
    obtain ⟨cq20, kq20, q20a, q20b, q20c⟩ := isOf hZ1 e2 f8
    obtain ⟨_, _, ⟨T20, L20, j20, i20⟩, -, X20, ⟨Lc20, hQ20, l20, y20, z20⟩, st20⟩ := X2.virtualBack hx (y := (⟨cS0, "length", "()I"⟩ : MethodName)) (z := (⟨cS0, "length", "()I"⟩ : MethodName)) hown1 (mvT hZ1 (own_at hw 61 rfl)) (mvT hZ1 (own_at hw 48 rfl)) (notFace_of_selects (args := #[]) (mvT hZ1 (own_at hw 50 rfl))) (mvT hZ1 (own_at hw 50 rfl)) (mvT hZ1 (own_at hw 49 rfl)) (by decide) (backOf (W := 1) (rmLen_5 l Z a0 hw [] r0 w_CS x0 x1 x2 x3 x4 h1 n0 (Nat.le_trans Z0 E1.1) f3 hcs f7) hZ1 (own_at hw 51 rfl) (own_at hw 8 rfl) (by decide) (by decide)) q20a q20c (g := (mkF m 20 #[rv r0, iv 0, iv 0, .unset] [(.ref r0), (.int 0)])) rfl (by rw [hml]; rfl) (Steps.refl _) (argsL := []) (rest := [(.int 0)]) (lenOf pd_16 rfl) rfl (Nat.le_refl _) (hb hby d8_20) (fun _ _ => ⟨rfl, e2, (by decide : 2 + 0 ≤ _), (by decide : 12 + 0 ≤ _)⟩)
    dsimp only [Pt.U, Pt.locs, Pt.cells, Pt.slots] at X20 l20 y20 z20 st20 hQ20
    subst l20 y20 z20
    obtain ⟨rfl, N20q, e20⟩ := hQ20
    have N20 := Fr.app N2 N20q
    have f22 := (S_F.ext E1)
    obtain ⟨cq21, kq21, q21a, q21b, q21c⟩ := isOf hZ1 e20 f8
    obtain ⟨_, _, ⟨T21, L21, j21, i21⟩, -, X21, ⟨Lc21, hQ21, l21, y21, z21⟩, st21⟩ := X20.virtualBack hx (y := (⟨cS0, "charAt", "(I)C"⟩ : MethodName)) (z := (⟨cS0, "charAt", "(I)C"⟩ : MethodName)) hown1 (mvT hZ1 (own_at hw 62 rfl)) (mvT hZ1 (own_at hw 63 rfl)) (notFace_of_selects (args := #[]) (mvT hZ1 (own_at hw 65 rfl))) (mvT hZ1 (own_at hw 65 rfl)) (mvT hZ1 (own_at hw 64 rfl)) (by decide) (backOf (W := 0) (rmCA_5_0 l Z a0 hw [] r0 w_CS w_F x0 x1 x2 x3 x4 h1 n0 (Nat.le_trans Z0 E1.1) f3 hcs f22 hwF f4 f5 f6 f7 hch_x0) hZ1 (own_at hw 66 rfl) (own_at hw 8 rfl) (by decide) (by decide)) q21a q21c (g := (mkF m 28 #[rv r0, iv 0, iv 0, .unset] [(.int 0), (.ref r0)])) rfl (by rw [hml]; rfl) (Steps.refl _) (argsL := [(.int 0)]) (rest := []) (lenOf pd_18 rfl) rfl (Nat.le_refl _) (hb hby d8_28) (fun _ _ => ⟨rfl, e20, (by decide : 2 + 0 ≤ _), (by decide : 12 + 0 ≤ _)⟩)
    dsimp only [Pt.U, Pt.locs, Pt.cells, Pt.slots] at X21 l21 y21 z21 st21 hQ21
    subst l21 y21 z21
    obtain ⟨rfl, N21q, e21⟩ := hQ21
    have N21 := Fr.app N20 N21q
    have k24 : ∀ t, OwnS p e below T21 (mkF m 33 #[rv r0, iv 0, iv 0, .unset] [(.int 34), (.int x0)]) t → OwnS p e below s₁ (entryFrame m #[(.ref r0), (.int 0)] 4) t := fun t q => by
     refine k9 t ?_
     refine st2.trans ?_
     refine XS.ifYes X2.here hx rfl (pc0 := 7) (pc' := 16) rfl (hb hby d8_7) rfl ((if0 _ _).trans (teq (by decide : (0 : Int32) = (0 : Int32))).1) (by decide) (by decide) ?_
     refine oIn X2 hx hby d8_16 rfl ?_
     refine XS.istoreN X2.here hx rfl (hb hby d8_17) rfl (l' := #[rv r0, iv 0, iv 0, .unset]) rfl ?_
     refine oIn X2 hx hby d8_18 rfl (oAn X2 hx hby d8_19 rfl rfl ?_)
     refine st20.trans ?_
     refine XS.icmpNo X20.here hx rfl (hb hby d8_23) rfl (tlt (by decide : (0 : Int32) < (5 : Int32))).2.1 ?_
     refine oAn X20 hx hby d8_26 rfl rfl (oIn X20 hx hby d8_27 rfl ?_)
     refine st21.trans ?_
     refine oBp X21 hx hby d8_31 ?_
     exact q
    by_cases hc33_23 : x0 = (34 : Int32)
    · have k25 : ∀ t, OwnS p e below T21 (mkF m 41 #[rv r0, iv 0, iv 1, .unset] []) t → OwnS p e below s₁ (entryFrame m #[(.ref r0), (.int 0)] 4) t := fun t q => by
       refine k24 t ?_
       refine XS.icmpYes X21.here hx rfl (pc0 := 33) (pc' := 38) rfl (hb hby d8_33) rfl (teq hc33_23).1 (by decide) (by decide) ?_
       refine XS.iinc X21.here hx rfl (hb hby d8_38) rfl (l' := #[rv r0, iv 0, iv 1, .unset]) rfl ?_
       exact q
      obtain ⟨s26, o26, ja26, jb26, jc26, v26, L26, rfl, ⟨hv26, jN26, jh26, -⟩, jF26⟩ := sgEn_1 l Z a0 hw r0 (0 : Int32) (.unset) w_CS w_F x0 x1 x2 x3 x4 h1 n0 (Nat.le_trans Z0 E1.1) f3 hcs f22 hwF f4 f5 f6 f7 hch_x0 hch_x1 hch_x2 hch_x3 hch_x4 One.u f8 X21 hx hZ1 hby hml hown1 Bd.returns Bd.notSynchronized e21 N21 hS1 hk1 Hc1 Rc1 hh
      exact ⟨s26, _, k25 _ ja26, jb26, jc26, v26, L26, rfl, ⟨hv26.trans (by simp [own_e0, own_sc1, own_sc2, own_sc3, own_sc4, own_sc5, own_q0, own_q1, own_q2, own_q3, own_q4, own_q5, hc33_23, p2_0]), jN26, (by rw [jh26]; exact ((Keep.refl h0 []).ext E1)), trivial⟩, jF26⟩
    · obtain ⟨fs, hr, hrun, hended, hRW⟩ := X21.leaveW hS1 (by rw [e21]; exact hk1) (v := some (.int (-1))) (fun h => by rw [Bd.returns] at h; cases h)
      have hCE : CHr Z own_EL s.vm s.heap T21.vm T21.heap := by rw [hh, e21]; exact Rc1.trans (CHv.at X21 hZ1 (own_ew hw) Hc1)
      refine ⟨_, _, k24 _ ?_, hrun, hended, _, _, rfl, ?_, hCE, hRW.1, hRW.2.1, hRW.2.2.1, hRW.2.2.2.mono (by decide) (by decide)⟩
      · refine XS.icmpNo X21.here hx rfl (hb hby d8_33) rfl (feq hc33_23).1 ?_
        refine oIc X21 hx hby d8_36 ?_
        exact retI X21 hx Bd.returns (hb hby d8_37) hr
      · show Q_En_0 Z _ _ _ _ _ _ _ _ h0 n0 _ T21.heap _
        rw [e21]
        exact ⟨(by simp [own_e0, own_sc1, own_sc2, own_sc3, own_sc4, own_sc5, own_q0, own_q1, own_q2, own_q3, own_q4, own_q5, hc33_23, p2_0]), N21, ((Keep.refl h0 []).ext E1), trivial⟩
def Q_En_1 (Z : State) (r0 : Addr) (w_CS : Int32) (w_F : Value) (x0 : Int32) (x1 : Int32) (x2 : Int32) (x3 : Int32) (x4 : Int32) (h0 : Heap) (n0 : Nat) (v : Option Value) (h : Heap) (L : List Loc) : Prop := v = some (.int (own_e1 x0 x1 x2 x3 x4)) ∧ Fr n0 L ∧ Keep h0 h [] ∧ True
set_option maxRecDepth 65536 in
set_option maxHeartbeats 40000000 in
theorem rmEn_1 (l : Launch) (Z : State) (a0 : Array Value) (hw : ∀ d ∈ tables_1, d.before a0 Z = true) (ws : List Jvm.Cond) (r0 : Addr) (w_CS : Int32) (w_F : Value) (x0 : Int32) (x1 : Int32) (x2 : Int32) (x3 : Int32) (x4 : Int32) (h0 : Heap) (n0 : Nat) (Z0 : n0 ≤ h0.size) (S_CS : Sta Z h0 cS0 cS13 "Z" (.int w_CS)) (hcs : ¬ (w_CS = (0 : Int32))) (S_F : Sta Z h0 cS4 cS14 cS5 w_F) (hwF : w_F.isRef = true) (S_AD : Sta Z h0 cS1 cS6 "Z" (.int 1)) (S_HI : Sta Z h0 cS1 cS7 "I" (.int 0)) (S_LO : Sta Z h0 cS1 cS8 "I" (.int 8)) (P_r0 : own_S5 Z h0 r0 x0 x1 x2 x3 x4) (hch_x0 : own_ch x0) (hch_x1 : own_ch x1) (hch_x2 : own_ch x2) (hch_x3 : own_ch x3) (hch_x4 : own_ch x4) (E_r0 : Exa Z h0 r0 cS0) :
    MetFree l (⟨cS3, "end", cS17⟩ : MethodName) (head1 (Jvm.Cond.code (⟨cS3, "end", cS17⟩ : MethodName) prog_3_method_2_code 4 (some .int) :: ws) ({ frames := 5, cells := 2, slots := 12, locals := 70 } : Room)) (fun a U => a = #[(.ref r0), (.int 1)] ∧ Z.Warmed39 U.vm ∧ U.heap = h0 ∧ CHv Z own_EL U.vm h0) (fun _ _ _ _ _ => True) (fun _ U o U' => ∃ v L, o = .returned v ∧ Q_En_1 Z r0 w_CS w_F x0 x1 x2 x3 x4 h0 n0 v U'.heap L ∧ CHr Z own_EL U.vm U.heap U'.vm U'.heap ∧ ReturnedEndW U o U' L 2 12) := by
  refine MetFree.of_bodySF (plainFor_of_name pn_com_example_strict_lock_strictlock_EntityTags) hisR ?_
  intro p e s m args below meth c s₁ Bd hml0 hP hK
  obtain ⟨rfl, hZ, hh, H0c⟩ := hP
  have hx := Bd.exec
  have hby := Bd.bytes
  have hml : c.maxLocals = 4 := hml0
  have hown : (s.setVm s.vm).vm.findClass cS3 = some m.cls := findClass_of_methodNamed Bd.named
  have hnm := (name_of_methodNamed Bd.named Bd.method).1
  have X0 : Stand p l e ({ frames := 5, cells := 2, slots := 12, locals := 70 } : Room) (s.setVm s.vm) m #[(.ref r0), (.int 1)] below meth c s₁ [] 0 0 := Stand.of_body Bd
  have e0 : s₁.heap = h0 := by rw [← hh, Bd.state]; rfl
  have N0 := Fr.nil n0
  have k0 : ∀ t, OwnS p e below s₁ (mkF m 0 #[rv r0, iv 1, .unset, .unset] []) t → OwnS p e below s₁ (entryFrame m #[(.ref r0), (.int 1)] 4) t := fun t k => castTop (ef_8 m r0 (1 : Int32)) k
  have hZ : Z.Warmed39 (s.setVm s.vm).vm := hZ
  have hS0 : s.Since s.vm h0.size := (State.WarmedH.refl s).since _
  have hk0 : h0.size ≤ h0.size := Nat.le_refl _
  have R0c := CHr.refl H0c
  obtain ⟨a1, T1, h1, k11, bb1, kk1, X1, e1, E1, hS1, hk1, hZ1, hown1, EA1, FC1, FV1, V1, -, -, CR1, LT1, ne1, st1⟩ := ldcCH X0 hx hZ hown (own_at hw 39 rfl) (own_ws hw) e0 hS0 hk0 (own_ew hw) (own_mem0) H0c (vs := [(.int 87), (.int 47)]) (z := 2) ⟨by decide, rfl⟩ (by decide) rfl (g := (mkF m 1 #[rv r0, iv 1, .unset, .unset] [(.ref r0)])) rfl (hb hby d8_1) (n := 8) (by decide) (by decide) (by decide) (by decide)
  have Hc1 := CR1.1
  have Rc1 := R0c.trans CR1
  have f3 := (S_CS.ext E1)
  have f4 := (S_AD.ext E1)
  have f5 := (S_HI.ext E1)
  have f6 := (S_LO.ext E1)
  have f7 := (own_S5_ext P_r0 E1)
  have f8 := (E_r0.ext E1)
  obtain ⟨cq2, kq2, q2a, q2b, q2c⟩ := isOf hZ1 e1 f8
  obtain ⟨_, _, ⟨T2, L2, j2, i2⟩, -, X2, ⟨Lc2, hQ2, l2, y2, z2⟩, st2⟩ := X1.virtualBack hx (y := (⟨cS0, "startsWith", cS9⟩ : MethodName)) (z := (⟨cS0, "startsWith", cS9⟩ : MethodName)) hown1 (mvT hZ1 (own_at hw 42 rfl)) (mvT hZ1 (own_at hw 43 rfl)) (notFace_of_selects (args := #[]) (mvT hZ1 (own_at hw 45 rfl))) (mvT hZ1 (own_at hw 45 rfl)) (mvT hZ1 (own_at hw 44 rfl)) (by decide) (backOf (W := 0) (rmSW_1 l Z a0 hw [] r0 a1 w_CS bb1 kk1 x0 x1 x2 x3 x4 h1 n0 (Nat.le_trans Z0 E1.1) f3 hcs f4 f5 f6 f7 EA1 FC1 FV1 V1 hch_x0 hch_x1 hch_x2 hch_x3 hch_x4 f8) hZ1 (own_at hw 46 rfl) (own_at hw 8 rfl) (by decide) (by decide)) q2a q2c (g := (mkF m 4 #[rv r0, iv 1, .unset, .unset] [(.int 1), (.ref a1), (.ref r0)])) rfl (by rw [hml]; rfl) (Steps.refl _) (argsL := [(.ref a1), (.int 1)]) (rest := []) (lenOf pd_19 rfl) rfl (Nat.le_refl _) (hb hby d8_4) (fun _ _ => ⟨rfl, e1, (by decide : 2 + 0 ≤ _), (by decide : 12 + 0 ≤ _)⟩)
  dsimp only [Pt.U, Pt.locs, Pt.cells, Pt.slots] at X2 l2 y2 z2 st2 hQ2
  subst l2 y2 z2
  have k9 : ∀ t, OwnS p e below T1 (mkF m 4 #[rv r0, iv 1, .unset, .unset] [(.int 1), (.ref a1), (.ref r0)]) t → OwnS p e below s₁ (entryFrame m #[(.ref r0), (.int 1)] 4) t := fun t q => by
   refine k0 t ?_
   show OwnS p e below s₁ (mkF m 0 #[rv r0, iv 1, .unset, .unset] []) _
   refine oAn X0 hx hby d8_0 rfl rfl ?_
   refine st1 _ ?_
   refine oIn X1 hx hby d8_3 rfl ?_
   exact q
  rcases hQ2 with ⟨rfl, N2q, e2, p2_0, p2_1⟩ | ⟨rfl, N2q, e2, p2_0, p2_1⟩ | ⟨rfl, N2q, e2, p2_0⟩
  · have N2 := Fr.app N0 N2q
    obtain ⟨cq10, kq10, q10a, q10b, q10c⟩ := isOf hZ1 e2 f8
    obtain ⟨_, _, ⟨T10, L10, j10, i10⟩, -, X10, ⟨Lc10, hQ10, l10, y10, z10⟩, st10⟩ := X2.virtualBack hx (y := (⟨cS0, "length", "()I"⟩ : MethodName)) (z := (⟨cS0, "length", "()I"⟩ : MethodName)) hown1 (mvT hZ1 (own_at hw 61 rfl)) (mvT hZ1 (own_at hw 48 rfl)) (notFace_of_selects (args := #[]) (mvT hZ1 (own_at hw 50 rfl))) (mvT hZ1 (own_at hw 50 rfl)) (mvT hZ1 (own_at hw 49 rfl)) (by decide) (backOf (W := 1) (rmLen_5 l Z a0 hw [] r0 w_CS x0 x1 x2 x3 x4 h1 n0 (Nat.le_trans Z0 E1.1) f3 hcs f7) hZ1 (own_at hw 51 rfl) (own_at hw 8 rfl) (by decide) (by decide)) q10a q10c (g := (mkF m 20 #[rv r0, iv 1, iv 3, .unset] [(.ref r0), (.int 3)])) rfl (by rw [hml]; rfl) (Steps.refl _) (argsL := []) (rest := [(.int 3)]) (lenOf pd_16 rfl) rfl (Nat.le_refl _) (hb hby d8_20) (fun _ _ => ⟨rfl, e2, (by decide : 2 + 0 ≤ _), (by decide : 12 + 0 ≤ _)⟩)
    dsimp only [Pt.U, Pt.locs, Pt.cells, Pt.slots] at X10 l10 y10 z10 st10 hQ10
    subst l10 y10 z10
    obtain ⟨rfl, N10q, e10⟩ := hQ10
    have N10 := Fr.app N2 N10q
    have f12 := (S_F.ext E1)
    obtain ⟨cq11, kq11, q11a, q11b, q11c⟩ := isOf hZ1 e10 f8
    obtain ⟨_, _, ⟨T11, L11, j11, i11⟩, -, X11, ⟨Lc11, hQ11, l11, y11, z11⟩, st11⟩ := X10.virtualBack hx (y := (⟨cS0, "charAt", "(I)C"⟩ : MethodName)) (z := (⟨cS0, "charAt", "(I)C"⟩ : MethodName)) hown1 (mvT hZ1 (own_at hw 62 rfl)) (mvT hZ1 (own_at hw 63 rfl)) (notFace_of_selects (args := #[]) (mvT hZ1 (own_at hw 65 rfl))) (mvT hZ1 (own_at hw 65 rfl)) (mvT hZ1 (own_at hw 64 rfl)) (by decide) (backOf (W := 0) (rmCA_5_3 l Z a0 hw [] r0 w_CS w_F x0 x1 x2 x3 x4 h1 n0 (Nat.le_trans Z0 E1.1) f3 hcs f12 hwF f4 f5 f6 f7 hch_x3) hZ1 (own_at hw 66 rfl) (own_at hw 8 rfl) (by decide) (by decide)) q11a q11c (g := (mkF m 28 #[rv r0, iv 1, iv 3, .unset] [(.int 3), (.ref r0)])) rfl (by rw [hml]; rfl) (Steps.refl _) (argsL := [(.int 3)]) (rest := []) (lenOf pd_18 rfl) rfl (Nat.le_refl _) (hb hby d8_28) (fun _ _ => ⟨rfl, e10, (by decide : 2 + 0 ≤ _), (by decide : 12 + 0 ≤ _)⟩)
    dsimp only [Pt.U, Pt.locs, Pt.cells, Pt.slots] at X11 l11 y11 z11 st11 hQ11
    subst l11 y11 z11
    obtain ⟨rfl, N11q, e11⟩ := hQ11
    have N11 := Fr.app N10 N11q
    have k14 : ∀ t, OwnS p e below T11 (mkF m 33 #[rv r0, iv 1, iv 3, .unset] [(.int 34), (.int x3)]) t → OwnS p e below s₁ (entryFrame m #[(.ref r0), (.int 1)] 4) t := fun t q => by
     refine k9 t ?_
     refine st2.trans ?_
     refine XS.ifNo X2.here hx rfl (hb hby d8_7) rfl ((if0 _ _).trans (feq (by decide : ¬ ((1 : Int32) = (0 : Int32)))).1) ?_
     refine oIn X2 hx hby d8_10 rfl (oIc X2 hx hby d8_11 ?_)
     refine XS.iadd X2.here hx rfl (hb hby d8_12) rfl ?_
     refine oGo X2 hx hby 13 17 d8_13 (by decide) (by decide) ?_
     refine XS.istoreN X2.here hx rfl (hb hby d8_17) rfl (l' := #[rv r0, iv 1, iv 3, .unset]) rfl ?_
     refine oIn X2 hx hby d8_18 rfl (oAn X2 hx hby d8_19 rfl rfl ?_)
     refine st10.trans ?_
     refine XS.icmpNo X10.here hx rfl (hb hby d8_23) rfl (tlt (by decide : (3 : Int32) < (5 : Int32))).2.1 ?_
     refine oAn X10 hx hby d8_26 rfl rfl (oIn X10 hx hby d8_27 rfl ?_)
     refine st11.trans ?_
     refine oBp X11 hx hby d8_31 ?_
     exact q
    by_cases hc33_13 : x3 = (34 : Int32)
    · have k15 : ∀ t, OwnS p e below T11 (mkF m 41 #[rv r0, iv 1, iv 4, .unset] []) t → OwnS p e below s₁ (entryFrame m #[(.ref r0), (.int 1)] 4) t := fun t q => by
       refine k14 t ?_
       refine XS.icmpYes X11.here hx rfl (pc0 := 33) (pc' := 38) rfl (hb hby d8_33) rfl (teq hc33_13).1 (by decide) (by decide) ?_
       refine XS.iinc X11.here hx rfl (hb hby d8_38) rfl (l' := #[rv r0, iv 1, iv 4, .unset]) rfl ?_
       exact q
      obtain ⟨s16, o16, ja16, jb16, jc16, v16, L16, rfl, ⟨hv16, jN16, jh16, -⟩, jF16⟩ := sgEn_4 l Z a0 hw r0 (1 : Int32) (.unset) w_CS w_F x0 x1 x2 x3 x4 h1 n0 (Nat.le_trans Z0 E1.1) f3 hcs f12 hwF f4 f5 f6 f7 hch_x0 hch_x1 hch_x2 hch_x3 hch_x4 One.u f8 X11 hx hZ1 hby hml hown1 Bd.returns Bd.notSynchronized e11 N11 hS1 hk1 Hc1 Rc1 hh
      exact ⟨s16, _, k15 _ ja16, jb16, jc16, v16, L16, rfl, ⟨hv16.trans (by simp [own_e1, own_sc1, own_sc2, own_sc3, own_sc4, own_sc5, own_q0, own_q1, own_q2, own_q3, own_q4, own_q5, hc33_13, p2_0, p2_1]), jN16, (by rw [jh16]; exact ((Keep.refl h0 []).ext E1)), trivial⟩, jF16⟩
    · obtain ⟨fs, hr, hrun, hended, hRW⟩ := X11.leaveW hS1 (by rw [e11]; exact hk1) (v := some (.int (-1))) (fun h => by rw [Bd.returns] at h; cases h)
      have hCE : CHr Z own_EL s.vm s.heap T11.vm T11.heap := by rw [hh, e11]; exact Rc1.trans (CHv.at X11 hZ1 (own_ew hw) Hc1)
      refine ⟨_, _, k14 _ ?_, hrun, hended, _, _, rfl, ?_, hCE, hRW.1, hRW.2.1, hRW.2.2.1, hRW.2.2.2.mono (by decide) (by decide)⟩
      · refine XS.icmpNo X11.here hx rfl (hb hby d8_33) rfl (feq hc33_13).1 ?_
        refine oIc X11 hx hby d8_36 ?_
        exact retI X11 hx Bd.returns (hb hby d8_37) hr
      · show Q_En_1 Z _ _ _ _ _ _ _ _ h0 n0 _ T11.heap _
        rw [e11]
        exact ⟨(by simp [own_e1, own_sc1, own_sc2, own_sc3, own_sc4, own_sc5, own_q0, own_q1, own_q2, own_q3, own_q4, own_q5, hc33_13, p2_0, p2_1]), N11, ((Keep.refl h0 []).ext E1), trivial⟩
  · have N2 := Fr.app N0 N2q
    obtain ⟨cq17, kq17, q17a, q17b, q17c⟩ := isOf hZ1 e2 f8
    obtain ⟨_, _, ⟨T17, L17, j17, i17⟩, -, X17, ⟨Lc17, hQ17, l17, y17, z17⟩, st17⟩ := X2.virtualBack hx (y := (⟨cS0, "length", "()I"⟩ : MethodName)) (z := (⟨cS0, "length", "()I"⟩ : MethodName)) hown1 (mvT hZ1 (own_at hw 61 rfl)) (mvT hZ1 (own_at hw 48 rfl)) (notFace_of_selects (args := #[]) (mvT hZ1 (own_at hw 50 rfl))) (mvT hZ1 (own_at hw 50 rfl)) (mvT hZ1 (own_at hw 49 rfl)) (by decide) (backOf (W := 1) (rmLen_5 l Z a0 hw [] r0 w_CS x0 x1 x2 x3 x4 h1 n0 (Nat.le_trans Z0 E1.1) f3 hcs f7) hZ1 (own_at hw 51 rfl) (own_at hw 8 rfl) (by decide) (by decide)) q17a q17c (g := (mkF m 20 #[rv r0, iv 1, iv 1, .unset] [(.ref r0), (.int 1)])) rfl (by rw [hml]; rfl) (Steps.refl _) (argsL := []) (rest := [(.int 1)]) (lenOf pd_16 rfl) rfl (Nat.le_refl _) (hb hby d8_20) (fun _ _ => ⟨rfl, e2, (by decide : 2 + 0 ≤ _), (by decide : 12 + 0 ≤ _)⟩)
    dsimp only [Pt.U, Pt.locs, Pt.cells, Pt.slots] at X17 l17 y17 z17 st17 hQ17
    subst l17 y17 z17
    obtain ⟨rfl, N17q, e17⟩ := hQ17
    have N17 := Fr.app N2 N17q
    have f19 := (S_F.ext E1)
    obtain ⟨cq18, kq18, q18a, q18b, q18c⟩ := isOf hZ1 e17 f8
    obtain ⟨_, _, ⟨T18, L18, j18, i18⟩, -, X18, ⟨Lc18, hQ18, l18, y18, z18⟩, st18⟩ := X17.virtualBack hx (y := (⟨cS0, "charAt", "(I)C"⟩ : MethodName)) (z := (⟨cS0, "charAt", "(I)C"⟩ : MethodName)) hown1 (mvT hZ1 (own_at hw 62 rfl)) (mvT hZ1 (own_at hw 63 rfl)) (notFace_of_selects (args := #[]) (mvT hZ1 (own_at hw 65 rfl))) (mvT hZ1 (own_at hw 65 rfl)) (mvT hZ1 (own_at hw 64 rfl)) (by decide) (backOf (W := 0) (rmCA_5_1 l Z a0 hw [] r0 w_CS w_F x0 x1 x2 x3 x4 h1 n0 (Nat.le_trans Z0 E1.1) f3 hcs f19 hwF f4 f5 f6 f7 hch_x1) hZ1 (own_at hw 66 rfl) (own_at hw 8 rfl) (by decide) (by decide)) q18a q18c (g := (mkF m 28 #[rv r0, iv 1, iv 1, .unset] [(.int 1), (.ref r0)])) rfl (by rw [hml]; rfl) (Steps.refl _) (argsL := [(.int 1)]) (rest := []) (lenOf pd_18 rfl) rfl (Nat.le_refl _) (hb hby d8_28) (fun _ _ => ⟨rfl, e17, (by decide : 2 + 0 ≤ _), (by decide : 12 + 0 ≤ _)⟩)
    dsimp only [Pt.U, Pt.locs, Pt.cells, Pt.slots] at X18 l18 y18 z18 st18 hQ18
    subst l18 y18 z18
    obtain ⟨rfl, N18q, e18⟩ := hQ18
    have N18 := Fr.app N17 N18q
    obtain ⟨fs, hr, hrun, hended, hRW⟩ := X18.leaveW hS1 (by rw [e18]; exact hk1) (v := some (.int (-1))) (fun h => by rw [Bd.returns] at h; cases h)
    have hCE : CHr Z own_EL s.vm s.heap T18.vm T18.heap := by rw [hh, e18]; exact Rc1.trans (CHv.at X18 hZ1 (own_ew hw) Hc1)
    refine ⟨_, _, k9 _ ?_, hrun, hended, _, _, rfl, ?_, hCE, hRW.1, hRW.2.1, hRW.2.2.1, hRW.2.2.2.mono (by decide) (by decide)⟩
    · refine st2.trans ?_
      refine XS.ifYes X2.here hx rfl (pc0 := 7) (pc' := 16) rfl (hb hby d8_7) rfl ((if0 _ _).trans (teq (by decide : (0 : Int32) = (0 : Int32))).1) (by decide) (by decide) ?_
      refine oIn X2 hx hby d8_16 rfl ?_
      refine XS.istoreN X2.here hx rfl (hb hby d8_17) rfl (l' := #[rv r0, iv 1, iv 1, .unset]) rfl ?_
      refine oIn X2 hx hby d8_18 rfl (oAn X2 hx hby d8_19 rfl rfl ?_)
      refine st17.trans ?_
      refine XS.icmpNo X17.here hx rfl (hb hby d8_23) rfl (tlt (by decide : (1 : Int32) < (5 : Int32))).2.1 ?_
      refine oAn X17 hx hby d8_26 rfl rfl (oIn X17 hx hby d8_27 rfl ?_)
      refine st18.trans ?_
      refine oBp X18 hx hby d8_31 ?_
      refine XS.icmpNo X18.here hx rfl (hb hby d8_33) rfl (feq (by rw [p2_0]; decide)).1 ?_
      refine oIc X18 hx hby d8_36 ?_
      exact retI X18 hx Bd.returns (hb hby d8_37) hr
    · show Q_En_1 Z _ _ _ _ _ _ _ _ h0 n0 _ T18.heap _
      rw [e18]
      exact ⟨(by simp [own_e1, own_sc1, own_sc2, own_sc3, own_sc4, own_sc5, own_q0, own_q1, own_q2, own_q3, own_q4, own_q5, p2_0, p2_1]), N18, ((Keep.refl h0 []).ext E1), trivial⟩
  · have N2 := Fr.app N0 N2q
    obtain ⟨cq20, kq20, q20a, q20b, q20c⟩ := isOf hZ1 e2 f8
    obtain ⟨_, _, ⟨T20, L20, j20, i20⟩, -, X20, ⟨Lc20, hQ20, l20, y20, z20⟩, st20⟩ := X2.virtualBack hx (y := (⟨cS0, "length", "()I"⟩ : MethodName)) (z := (⟨cS0, "length", "()I"⟩ : MethodName)) hown1 (mvT hZ1 (own_at hw 61 rfl)) (mvT hZ1 (own_at hw 48 rfl)) (notFace_of_selects (args := #[]) (mvT hZ1 (own_at hw 50 rfl))) (mvT hZ1 (own_at hw 50 rfl)) (mvT hZ1 (own_at hw 49 rfl)) (by decide) (backOf (W := 1) (rmLen_5 l Z a0 hw [] r0 w_CS x0 x1 x2 x3 x4 h1 n0 (Nat.le_trans Z0 E1.1) f3 hcs f7) hZ1 (own_at hw 51 rfl) (own_at hw 8 rfl) (by decide) (by decide)) q20a q20c (g := (mkF m 20 #[rv r0, iv 1, iv 1, .unset] [(.ref r0), (.int 1)])) rfl (by rw [hml]; rfl) (Steps.refl _) (argsL := []) (rest := [(.int 1)]) (lenOf pd_16 rfl) rfl (Nat.le_refl _) (hb hby d8_20) (fun _ _ => ⟨rfl, e2, (by decide : 2 + 0 ≤ _), (by decide : 12 + 0 ≤ _)⟩)
    dsimp only [Pt.U, Pt.locs, Pt.cells, Pt.slots] at X20 l20 y20 z20 st20 hQ20
    subst l20 y20 z20
    obtain ⟨rfl, N20q, e20⟩ := hQ20
    have N20 := Fr.app N2 N20q
    have f22 := (S_F.ext E1)
    obtain ⟨cq21, kq21, q21a, q21b, q21c⟩ := isOf hZ1 e20 f8
    obtain ⟨_, _, ⟨T21, L21, j21, i21⟩, -, X21, ⟨Lc21, hQ21, l21, y21, z21⟩, st21⟩ := X20.virtualBack hx (y := (⟨cS0, "charAt", "(I)C"⟩ : MethodName)) (z := (⟨cS0, "charAt", "(I)C"⟩ : MethodName)) hown1 (mvT hZ1 (own_at hw 62 rfl)) (mvT hZ1 (own_at hw 63 rfl)) (notFace_of_selects (args := #[]) (mvT hZ1 (own_at hw 65 rfl))) (mvT hZ1 (own_at hw 65 rfl)) (mvT hZ1 (own_at hw 64 rfl)) (by decide) (backOf (W := 0) (rmCA_5_1 l Z a0 hw [] r0 w_CS w_F x0 x1 x2 x3 x4 h1 n0 (Nat.le_trans Z0 E1.1) f3 hcs f22 hwF f4 f5 f6 f7 hch_x1) hZ1 (own_at hw 66 rfl) (own_at hw 8 rfl) (by decide) (by decide)) q21a q21c (g := (mkF m 28 #[rv r0, iv 1, iv 1, .unset] [(.int 1), (.ref r0)])) rfl (by rw [hml]; rfl) (Steps.refl _) (argsL := [(.int 1)]) (rest := []) (lenOf pd_18 rfl) rfl (Nat.le_refl _) (hb hby d8_28) (fun _ _ => ⟨rfl, e20, (by decide : 2 + 0 ≤ _), (by decide : 12 + 0 ≤ _)⟩)
    dsimp only [Pt.U, Pt.locs, Pt.cells, Pt.slots] at X21 l21 y21 z21 st21 hQ21
    subst l21 y21 z21
    obtain ⟨rfl, N21q, e21⟩ := hQ21
    have N21 := Fr.app N20 N21q
    have k24 : ∀ t, OwnS p e below T21 (mkF m 33 #[rv r0, iv 1, iv 1, .unset] [(.int 34), (.int x1)]) t → OwnS p e below s₁ (entryFrame m #[(.ref r0), (.int 1)] 4) t := fun t q => by
     refine k9 t ?_
     refine st2.trans ?_
     refine XS.ifYes X2.here hx rfl (pc0 := 7) (pc' := 16) rfl (hb hby d8_7) rfl ((if0 _ _).trans (teq (by decide : (0 : Int32) = (0 : Int32))).1) (by decide) (by decide) ?_
     refine oIn X2 hx hby d8_16 rfl ?_
     refine XS.istoreN X2.here hx rfl (hb hby d8_17) rfl (l' := #[rv r0, iv 1, iv 1, .unset]) rfl ?_
     refine oIn X2 hx hby d8_18 rfl (oAn X2 hx hby d8_19 rfl rfl ?_)
     refine st20.trans ?_
     refine XS.icmpNo X20.here hx rfl (hb hby d8_23) rfl (tlt (by decide : (1 : Int32) < (5 : Int32))).2.1 ?_
     refine oAn X20 hx hby d8_26 rfl rfl (oIn X20 hx hby d8_27 rfl ?_)
     refine st21.trans ?_
     refine oBp X21 hx hby d8_31 ?_
     exact q
    by_cases hc33_23 : x1 = (34 : Int32)
    · have k25 : ∀ t, OwnS p e below T21 (mkF m 41 #[rv r0, iv 1, iv 2, .unset] []) t → OwnS p e below s₁ (entryFrame m #[(.ref r0), (.int 1)] 4) t := fun t q => by
       refine k24 t ?_
       refine XS.icmpYes X21.here hx rfl (pc0 := 33) (pc' := 38) rfl (hb hby d8_33) rfl (teq hc33_23).1 (by decide) (by decide) ?_
       refine XS.iinc X21.here hx rfl (hb hby d8_38) rfl (l' := #[rv r0, iv 1, iv 2, .unset]) rfl ?_
       exact q
      obtain ⟨s26, o26, ja26, jb26, jc26, v26, L26, rfl, ⟨hv26, jN26, jh26, -⟩, jF26⟩ := sgEn_2 l Z a0 hw r0 (1 : Int32) (.unset) w_CS w_F x0 x1 x2 x3 x4 h1 n0 (Nat.le_trans Z0 E1.1) f3 hcs f22 hwF f4 f5 f6 f7 hch_x0 hch_x1 hch_x2 hch_x3 hch_x4 One.u f8 X21 hx hZ1 hby hml hown1 Bd.returns Bd.notSynchronized e21 N21 hS1 hk1 Hc1 Rc1 hh
      exact ⟨s26, _, k25 _ ja26, jb26, jc26, v26, L26, rfl, ⟨hv26.trans (by simp [own_e1, own_sc1, own_sc2, own_sc3, own_sc4, own_sc5, own_q0, own_q1, own_q2, own_q3, own_q4, own_q5, hc33_23, p2_0]), jN26, (by rw [jh26]; exact ((Keep.refl h0 []).ext E1)), trivial⟩, jF26⟩
    · obtain ⟨fs, hr, hrun, hended, hRW⟩ := X21.leaveW hS1 (by rw [e21]; exact hk1) (v := some (.int (-1))) (fun h => by rw [Bd.returns] at h; cases h)
      have hCE : CHr Z own_EL s.vm s.heap T21.vm T21.heap := by rw [hh, e21]; exact Rc1.trans (CHv.at X21 hZ1 (own_ew hw) Hc1)
      refine ⟨_, _, k24 _ ?_, hrun, hended, _, _, rfl, ?_, hCE, hRW.1, hRW.2.1, hRW.2.2.1, hRW.2.2.2.mono (by decide) (by decide)⟩
      · refine XS.icmpNo X21.here hx rfl (hb hby d8_33) rfl (feq hc33_23).1 ?_
        refine oIc X21 hx hby d8_36 ?_
        exact retI X21 hx Bd.returns (hb hby d8_37) hr
      · show Q_En_1 Z _ _ _ _ _ _ _ _ h0 n0 _ T21.heap _
        rw [e21]
        exact ⟨(by simp [own_e1, own_sc1, own_sc2, own_sc3, own_sc4, own_sc5, own_q0, own_q1, own_q2, own_q3, own_q4, own_q5, hc33_23, p2_0]), N21, ((Keep.refl h0 []).ext E1), trivial⟩
def Q_En_2 (Z : State) (r0 : Addr) (w_CS : Int32) (w_F : Value) (x0 : Int32) (x1 : Int32) (x2 : Int32) (x3 : Int32) (x4 : Int32) (h0 : Heap) (n0 : Nat) (v : Option Value) (h : Heap) (L : List Loc) : Prop := v = some (.int (own_e2 x0 x1 x2 x3 x4)) ∧ Fr n0 L ∧ Keep h0 h [] ∧ True
set_option maxRecDepth 65536 in
set_option maxHeartbeats 40000000 in
theorem rmEn_2 (l : Launch) (Z : State) (a0 : Array Value) (hw : ∀ d ∈ tables_1, d.before a0 Z = true) (ws : List Jvm.Cond) (r0 : Addr) (w_CS : Int32) (w_F : Value) (x0 : Int32) (x1 : Int32) (x2 : Int32) (x3 : Int32) (x4 : Int32) (h0 : Heap) (n0 : Nat) (Z0 : n0 ≤ h0.size) (S_CS : Sta Z h0 cS0 cS13 "Z" (.int w_CS)) (hcs : ¬ (w_CS = (0 : Int32))) (S_F : Sta Z h0 cS4 cS14 cS5 w_F) (hwF : w_F.isRef = true) (S_AD : Sta Z h0 cS1 cS6 "Z" (.int 1)) (S_HI : Sta Z h0 cS1 cS7 "I" (.int 0)) (S_LO : Sta Z h0 cS1 cS8 "I" (.int 8)) (P_r0 : own_S5 Z h0 r0 x0 x1 x2 x3 x4) (hch_x0 : own_ch x0) (hch_x1 : own_ch x1) (hch_x2 : own_ch x2) (hch_x3 : own_ch x3) (hch_x4 : own_ch x4) (E_r0 : Exa Z h0 r0 cS0) :
    MetFree l (⟨cS3, "end", cS17⟩ : MethodName) (head1 (Jvm.Cond.code (⟨cS3, "end", cS17⟩ : MethodName) prog_3_method_2_code 4 (some .int) :: ws) ({ frames := 5, cells := 2, slots := 12, locals := 70 } : Room)) (fun a U => a = #[(.ref r0), (.int 2)] ∧ Z.Warmed39 U.vm ∧ U.heap = h0 ∧ CHv Z own_EL U.vm h0) (fun _ _ _ _ _ => True) (fun _ U o U' => ∃ v L, o = .returned v ∧ Q_En_2 Z r0 w_CS w_F x0 x1 x2 x3 x4 h0 n0 v U'.heap L ∧ CHr Z own_EL U.vm U.heap U'.vm U'.heap ∧ ReturnedEndW U o U' L 2 12) := by
  refine MetFree.of_bodySF (plainFor_of_name pn_com_example_strict_lock_strictlock_EntityTags) hisR ?_
  intro p e s m args below meth c s₁ Bd hml0 hP hK
  obtain ⟨rfl, hZ, hh, H0c⟩ := hP
  have hx := Bd.exec
  have hby := Bd.bytes
  have hml : c.maxLocals = 4 := hml0
  have hown : (s.setVm s.vm).vm.findClass cS3 = some m.cls := findClass_of_methodNamed Bd.named
  have hnm := (name_of_methodNamed Bd.named Bd.method).1
  have X0 : Stand p l e ({ frames := 5, cells := 2, slots := 12, locals := 70 } : Room) (s.setVm s.vm) m #[(.ref r0), (.int 2)] below meth c s₁ [] 0 0 := Stand.of_body Bd
  have e0 : s₁.heap = h0 := by rw [← hh, Bd.state]; rfl
  have N0 := Fr.nil n0
  have k0 : ∀ t, OwnS p e below s₁ (mkF m 0 #[rv r0, iv 2, .unset, .unset] []) t → OwnS p e below s₁ (entryFrame m #[(.ref r0), (.int 2)] 4) t := fun t k => castTop (ef_8 m r0 (2 : Int32)) k
  have hZ : Z.Warmed39 (s.setVm s.vm).vm := hZ
  have hS0 : s.Since s.vm h0.size := (State.WarmedH.refl s).since _
  have hk0 : h0.size ≤ h0.size := Nat.le_refl _
  have R0c := CHr.refl H0c
  obtain ⟨a1, T1, h1, k11, bb1, kk1, X1, e1, E1, hS1, hk1, hZ1, hown1, EA1, FC1, FV1, V1, -, -, CR1, LT1, ne1, st1⟩ := ldcCH X0 hx hZ hown (own_at hw 39 rfl) (own_ws hw) e0 hS0 hk0 (own_ew hw) (own_mem0) H0c (vs := [(.int 87), (.int 47)]) (z := 2) ⟨by decide, rfl⟩ (by decide) rfl (g := (mkF m 1 #[rv r0, iv 2, .unset, .unset] [(.ref r0)])) rfl (hb hby d8_1) (n := 8) (by decide) (by decide) (by decide) (by decide)
  have Hc1 := CR1.1
  have Rc1 := R0c.trans CR1
  have f3 := (S_CS.ext E1)
  have f4 := (S_AD.ext E1)
  have f5 := (S_HI.ext E1)
  have f6 := (S_LO.ext E1)
  have f7 := (own_S5_ext P_r0 E1)
  have f8 := (E_r0.ext E1)
  obtain ⟨cq2, kq2, q2a, q2b, q2c⟩ := isOf hZ1 e1 f8
  obtain ⟨_, _, ⟨T2, L2, j2, i2⟩, -, X2, ⟨Lc2, hQ2, l2, y2, z2⟩, st2⟩ := X1.virtualBack hx (y := (⟨cS0, "startsWith", cS9⟩ : MethodName)) (z := (⟨cS0, "startsWith", cS9⟩ : MethodName)) hown1 (mvT hZ1 (own_at hw 42 rfl)) (mvT hZ1 (own_at hw 43 rfl)) (notFace_of_selects (args := #[]) (mvT hZ1 (own_at hw 45 rfl))) (mvT hZ1 (own_at hw 45 rfl)) (mvT hZ1 (own_at hw 44 rfl)) (by decide) (backOf (W := 0) (rmSW_2 l Z a0 hw [] r0 a1 w_CS bb1 kk1 x0 x1 x2 x3 x4 h1 n0 (Nat.le_trans Z0 E1.1) f3 hcs f4 f5 f6 f7 EA1 FC1 FV1 V1 hch_x0 hch_x1 hch_x2 hch_x3 hch_x4 f8) hZ1 (own_at hw 46 rfl) (own_at hw 8 rfl) (by decide) (by decide)) q2a q2c (g := (mkF m 4 #[rv r0, iv 2, .unset, .unset] [(.int 2), (.ref a1), (.ref r0)])) rfl (by rw [hml]; rfl) (Steps.refl _) (argsL := [(.ref a1), (.int 2)]) (rest := []) (lenOf pd_19 rfl) rfl (Nat.le_refl _) (hb hby d8_4) (fun _ _ => ⟨rfl, e1, (by decide : 2 + 0 ≤ _), (by decide : 12 + 0 ≤ _)⟩)
  dsimp only [Pt.U, Pt.locs, Pt.cells, Pt.slots] at X2 l2 y2 z2 st2 hQ2
  subst l2 y2 z2
  have k9 : ∀ t, OwnS p e below T1 (mkF m 4 #[rv r0, iv 2, .unset, .unset] [(.int 2), (.ref a1), (.ref r0)]) t → OwnS p e below s₁ (entryFrame m #[(.ref r0), (.int 2)] 4) t := fun t q => by
   refine k0 t ?_
   show OwnS p e below s₁ (mkF m 0 #[rv r0, iv 2, .unset, .unset] []) _
   refine oAn X0 hx hby d8_0 rfl rfl ?_
   refine st1 _ ?_
   refine oIn X1 hx hby d8_3 rfl ?_
   exact q
  rcases hQ2 with ⟨rfl, N2q, e2, p2_0, p2_1⟩ | ⟨rfl, N2q, e2, p2_0, p2_1⟩ | ⟨rfl, N2q, e2, p2_0⟩
  · have N2 := Fr.app N0 N2q
    obtain ⟨cq10, kq10, q10a, q10b, q10c⟩ := isOf hZ1 e2 f8
    obtain ⟨_, _, ⟨T10, L10, j10, i10⟩, -, X10, ⟨Lc10, hQ10, l10, y10, z10⟩, st10⟩ := X2.virtualBack hx (y := (⟨cS0, "length", "()I"⟩ : MethodName)) (z := (⟨cS0, "length", "()I"⟩ : MethodName)) hown1 (mvT hZ1 (own_at hw 61 rfl)) (mvT hZ1 (own_at hw 48 rfl)) (notFace_of_selects (args := #[]) (mvT hZ1 (own_at hw 50 rfl))) (mvT hZ1 (own_at hw 50 rfl)) (mvT hZ1 (own_at hw 49 rfl)) (by decide) (backOf (W := 1) (rmLen_5 l Z a0 hw [] r0 w_CS x0 x1 x2 x3 x4 h1 n0 (Nat.le_trans Z0 E1.1) f3 hcs f7) hZ1 (own_at hw 51 rfl) (own_at hw 8 rfl) (by decide) (by decide)) q10a q10c (g := (mkF m 20 #[rv r0, iv 2, iv 4, .unset] [(.ref r0), (.int 4)])) rfl (by rw [hml]; rfl) (Steps.refl _) (argsL := []) (rest := [(.int 4)]) (lenOf pd_16 rfl) rfl (Nat.le_refl _) (hb hby d8_20) (fun _ _ => ⟨rfl, e2, (by decide : 2 + 0 ≤ _), (by decide : 12 + 0 ≤ _)⟩)
    dsimp only [Pt.U, Pt.locs, Pt.cells, Pt.slots] at X10 l10 y10 z10 st10 hQ10
    subst l10 y10 z10
    obtain ⟨rfl, N10q, e10⟩ := hQ10
    have N10 := Fr.app N2 N10q
    have f12 := (S_F.ext E1)
    obtain ⟨cq11, kq11, q11a, q11b, q11c⟩ := isOf hZ1 e10 f8
    obtain ⟨_, _, ⟨T11, L11, j11, i11⟩, -, X11, ⟨Lc11, hQ11, l11, y11, z11⟩, st11⟩ := X10.virtualBack hx (y := (⟨cS0, "charAt", "(I)C"⟩ : MethodName)) (z := (⟨cS0, "charAt", "(I)C"⟩ : MethodName)) hown1 (mvT hZ1 (own_at hw 62 rfl)) (mvT hZ1 (own_at hw 63 rfl)) (notFace_of_selects (args := #[]) (mvT hZ1 (own_at hw 65 rfl))) (mvT hZ1 (own_at hw 65 rfl)) (mvT hZ1 (own_at hw 64 rfl)) (by decide) (backOf (W := 0) (rmCA_5_4 l Z a0 hw [] r0 w_CS w_F x0 x1 x2 x3 x4 h1 n0 (Nat.le_trans Z0 E1.1) f3 hcs f12 hwF f4 f5 f6 f7 hch_x4) hZ1 (own_at hw 66 rfl) (own_at hw 8 rfl) (by decide) (by decide)) q11a q11c (g := (mkF m 28 #[rv r0, iv 2, iv 4, .unset] [(.int 4), (.ref r0)])) rfl (by rw [hml]; rfl) (Steps.refl _) (argsL := [(.int 4)]) (rest := []) (lenOf pd_18 rfl) rfl (Nat.le_refl _) (hb hby d8_28) (fun _ _ => ⟨rfl, e10, (by decide : 2 + 0 ≤ _), (by decide : 12 + 0 ≤ _)⟩)
    dsimp only [Pt.U, Pt.locs, Pt.cells, Pt.slots] at X11 l11 y11 z11 st11 hQ11
    subst l11 y11 z11
    obtain ⟨rfl, N11q, e11⟩ := hQ11
    have N11 := Fr.app N10 N11q
    have k14 : ∀ t, OwnS p e below T11 (mkF m 33 #[rv r0, iv 2, iv 4, .unset] [(.int 34), (.int x4)]) t → OwnS p e below s₁ (entryFrame m #[(.ref r0), (.int 2)] 4) t := fun t q => by
     refine k9 t ?_
     refine st2.trans ?_
     refine XS.ifNo X2.here hx rfl (hb hby d8_7) rfl ((if0 _ _).trans (feq (by decide : ¬ ((1 : Int32) = (0 : Int32)))).1) ?_
     refine oIn X2 hx hby d8_10 rfl (oIc X2 hx hby d8_11 ?_)
     refine XS.iadd X2.here hx rfl (hb hby d8_12) rfl ?_
     refine oGo X2 hx hby 13 17 d8_13 (by decide) (by decide) ?_
     refine XS.istoreN X2.here hx rfl (hb hby d8_17) rfl (l' := #[rv r0, iv 2, iv 4, .unset]) rfl ?_
     refine oIn X2 hx hby d8_18 rfl (oAn X2 hx hby d8_19 rfl rfl ?_)
     refine st10.trans ?_
     refine XS.icmpNo X10.here hx rfl (hb hby d8_23) rfl (tlt (by decide : (4 : Int32) < (5 : Int32))).2.1 ?_
     refine oAn X10 hx hby d8_26 rfl rfl (oIn X10 hx hby d8_27 rfl ?_)
     refine st11.trans ?_
     refine oBp X11 hx hby d8_31 ?_
     exact q
    by_cases hc33_13 : x4 = (34 : Int32)
    · have k15 : ∀ t, OwnS p e below T11 (mkF m 41 #[rv r0, iv 2, iv 5, .unset] []) t → OwnS p e below s₁ (entryFrame m #[(.ref r0), (.int 2)] 4) t := fun t q => by
       refine k14 t ?_
       refine XS.icmpYes X11.here hx rfl (pc0 := 33) (pc' := 38) rfl (hb hby d8_33) rfl (teq hc33_13).1 (by decide) (by decide) ?_
       refine XS.iinc X11.here hx rfl (hb hby d8_38) rfl (l' := #[rv r0, iv 2, iv 5, .unset]) rfl ?_
       exact q
      obtain ⟨s16, o16, ja16, jb16, jc16, v16, L16, rfl, ⟨hv16, jN16, jh16, -⟩, jF16⟩ := sgEn_5 l Z a0 hw r0 (2 : Int32) (.unset) w_CS w_F x0 x1 x2 x3 x4 h1 n0 (Nat.le_trans Z0 E1.1) f3 hcs f12 hwF f4 f5 f6 f7 hch_x0 hch_x1 hch_x2 hch_x3 hch_x4 One.u f8 X11 hx hZ1 hby hml hown1 Bd.returns Bd.notSynchronized e11 N11 hS1 hk1 Hc1 Rc1 hh
      exact ⟨s16, _, k15 _ ja16, jb16, jc16, v16, L16, rfl, ⟨hv16.trans (by simp [own_e2, own_sc1, own_sc2, own_sc3, own_sc4, own_sc5, own_q0, own_q1, own_q2, own_q3, own_q4, own_q5, hc33_13, p2_0, p2_1]), jN16, (by rw [jh16]; exact ((Keep.refl h0 []).ext E1)), trivial⟩, jF16⟩
    · obtain ⟨fs, hr, hrun, hended, hRW⟩ := X11.leaveW hS1 (by rw [e11]; exact hk1) (v := some (.int (-1))) (fun h => by rw [Bd.returns] at h; cases h)
      have hCE : CHr Z own_EL s.vm s.heap T11.vm T11.heap := by rw [hh, e11]; exact Rc1.trans (CHv.at X11 hZ1 (own_ew hw) Hc1)
      refine ⟨_, _, k14 _ ?_, hrun, hended, _, _, rfl, ?_, hCE, hRW.1, hRW.2.1, hRW.2.2.1, hRW.2.2.2.mono (by decide) (by decide)⟩
      · refine XS.icmpNo X11.here hx rfl (hb hby d8_33) rfl (feq hc33_13).1 ?_
        refine oIc X11 hx hby d8_36 ?_
        exact retI X11 hx Bd.returns (hb hby d8_37) hr
      · show Q_En_2 Z _ _ _ _ _ _ _ _ h0 n0 _ T11.heap _
        rw [e11]
        exact ⟨(by simp [own_e2, own_sc1, own_sc2, own_sc3, own_sc4, own_sc5, own_q0, own_q1, own_q2, own_q3, own_q4, own_q5, hc33_13, p2_0, p2_1]), N11, ((Keep.refl h0 []).ext E1), trivial⟩
  · have N2 := Fr.app N0 N2q
    obtain ⟨cq17, kq17, q17a, q17b, q17c⟩ := isOf hZ1 e2 f8
    obtain ⟨_, _, ⟨T17, L17, j17, i17⟩, -, X17, ⟨Lc17, hQ17, l17, y17, z17⟩, st17⟩ := X2.virtualBack hx (y := (⟨cS0, "length", "()I"⟩ : MethodName)) (z := (⟨cS0, "length", "()I"⟩ : MethodName)) hown1 (mvT hZ1 (own_at hw 61 rfl)) (mvT hZ1 (own_at hw 48 rfl)) (notFace_of_selects (args := #[]) (mvT hZ1 (own_at hw 50 rfl))) (mvT hZ1 (own_at hw 50 rfl)) (mvT hZ1 (own_at hw 49 rfl)) (by decide) (backOf (W := 1) (rmLen_5 l Z a0 hw [] r0 w_CS x0 x1 x2 x3 x4 h1 n0 (Nat.le_trans Z0 E1.1) f3 hcs f7) hZ1 (own_at hw 51 rfl) (own_at hw 8 rfl) (by decide) (by decide)) q17a q17c (g := (mkF m 20 #[rv r0, iv 2, iv 2, .unset] [(.ref r0), (.int 2)])) rfl (by rw [hml]; rfl) (Steps.refl _) (argsL := []) (rest := [(.int 2)]) (lenOf pd_16 rfl) rfl (Nat.le_refl _) (hb hby d8_20) (fun _ _ => ⟨rfl, e2, (by decide : 2 + 0 ≤ _), (by decide : 12 + 0 ≤ _)⟩)
    dsimp only [Pt.U, Pt.locs, Pt.cells, Pt.slots] at X17 l17 y17 z17 st17 hQ17
    subst l17 y17 z17
    obtain ⟨rfl, N17q, e17⟩ := hQ17
    have N17 := Fr.app N2 N17q
    have f19 := (S_F.ext E1)
    obtain ⟨cq18, kq18, q18a, q18b, q18c⟩ := isOf hZ1 e17 f8
    obtain ⟨_, _, ⟨T18, L18, j18, i18⟩, -, X18, ⟨Lc18, hQ18, l18, y18, z18⟩, st18⟩ := X17.virtualBack hx (y := (⟨cS0, "charAt", "(I)C"⟩ : MethodName)) (z := (⟨cS0, "charAt", "(I)C"⟩ : MethodName)) hown1 (mvT hZ1 (own_at hw 62 rfl)) (mvT hZ1 (own_at hw 63 rfl)) (notFace_of_selects (args := #[]) (mvT hZ1 (own_at hw 65 rfl))) (mvT hZ1 (own_at hw 65 rfl)) (mvT hZ1 (own_at hw 64 rfl)) (by decide) (backOf (W := 0) (rmCA_5_2 l Z a0 hw [] r0 w_CS w_F x0 x1 x2 x3 x4 h1 n0 (Nat.le_trans Z0 E1.1) f3 hcs f19 hwF f4 f5 f6 f7 hch_x2) hZ1 (own_at hw 66 rfl) (own_at hw 8 rfl) (by decide) (by decide)) q18a q18c (g := (mkF m 28 #[rv r0, iv 2, iv 2, .unset] [(.int 2), (.ref r0)])) rfl (by rw [hml]; rfl) (Steps.refl _) (argsL := [(.int 2)]) (rest := []) (lenOf pd_18 rfl) rfl (Nat.le_refl _) (hb hby d8_28) (fun _ _ => ⟨rfl, e17, (by decide : 2 + 0 ≤ _), (by decide : 12 + 0 ≤ _)⟩)
    dsimp only [Pt.U, Pt.locs, Pt.cells, Pt.slots] at X18 l18 y18 z18 st18 hQ18
    subst l18 y18 z18
    obtain ⟨rfl, N18q, e18⟩ := hQ18
    have N18 := Fr.app N17 N18q
    obtain ⟨fs, hr, hrun, hended, hRW⟩ := X18.leaveW hS1 (by rw [e18]; exact hk1) (v := some (.int (-1))) (fun h => by rw [Bd.returns] at h; cases h)
    have hCE : CHr Z own_EL s.vm s.heap T18.vm T18.heap := by rw [hh, e18]; exact Rc1.trans (CHv.at X18 hZ1 (own_ew hw) Hc1)
    refine ⟨_, _, k9 _ ?_, hrun, hended, _, _, rfl, ?_, hCE, hRW.1, hRW.2.1, hRW.2.2.1, hRW.2.2.2.mono (by decide) (by decide)⟩
    · refine st2.trans ?_
      refine XS.ifYes X2.here hx rfl (pc0 := 7) (pc' := 16) rfl (hb hby d8_7) rfl ((if0 _ _).trans (teq (by decide : (0 : Int32) = (0 : Int32))).1) (by decide) (by decide) ?_
      refine oIn X2 hx hby d8_16 rfl ?_
      refine XS.istoreN X2.here hx rfl (hb hby d8_17) rfl (l' := #[rv r0, iv 2, iv 2, .unset]) rfl ?_
      refine oIn X2 hx hby d8_18 rfl (oAn X2 hx hby d8_19 rfl rfl ?_)
      refine st17.trans ?_
      refine XS.icmpNo X17.here hx rfl (hb hby d8_23) rfl (tlt (by decide : (2 : Int32) < (5 : Int32))).2.1 ?_
      refine oAn X17 hx hby d8_26 rfl rfl (oIn X17 hx hby d8_27 rfl ?_)
      refine st18.trans ?_
      refine oBp X18 hx hby d8_31 ?_
      refine XS.icmpNo X18.here hx rfl (hb hby d8_33) rfl (feq (by rw [p2_0]; decide)).1 ?_
      refine oIc X18 hx hby d8_36 ?_
      exact retI X18 hx Bd.returns (hb hby d8_37) hr
    · show Q_En_2 Z _ _ _ _ _ _ _ _ h0 n0 _ T18.heap _
      rw [e18]
      exact ⟨(by simp [own_e2, own_sc1, own_sc2, own_sc3, own_sc4, own_sc5, own_q0, own_q1, own_q2, own_q3, own_q4, own_q5, p2_0, p2_1]), N18, ((Keep.refl h0 []).ext E1), trivial⟩
  · have N2 := Fr.app N0 N2q
    obtain ⟨cq20, kq20, q20a, q20b, q20c⟩ := isOf hZ1 e2 f8
    obtain ⟨_, _, ⟨T20, L20, j20, i20⟩, -, X20, ⟨Lc20, hQ20, l20, y20, z20⟩, st20⟩ := X2.virtualBack hx (y := (⟨cS0, "length", "()I"⟩ : MethodName)) (z := (⟨cS0, "length", "()I"⟩ : MethodName)) hown1 (mvT hZ1 (own_at hw 61 rfl)) (mvT hZ1 (own_at hw 48 rfl)) (notFace_of_selects (args := #[]) (mvT hZ1 (own_at hw 50 rfl))) (mvT hZ1 (own_at hw 50 rfl)) (mvT hZ1 (own_at hw 49 rfl)) (by decide) (backOf (W := 1) (rmLen_5 l Z a0 hw [] r0 w_CS x0 x1 x2 x3 x4 h1 n0 (Nat.le_trans Z0 E1.1) f3 hcs f7) hZ1 (own_at hw 51 rfl) (own_at hw 8 rfl) (by decide) (by decide)) q20a q20c (g := (mkF m 20 #[rv r0, iv 2, iv 2, .unset] [(.ref r0), (.int 2)])) rfl (by rw [hml]; rfl) (Steps.refl _) (argsL := []) (rest := [(.int 2)]) (lenOf pd_16 rfl) rfl (Nat.le_refl _) (hb hby d8_20) (fun _ _ => ⟨rfl, e2, (by decide : 2 + 0 ≤ _), (by decide : 12 + 0 ≤ _)⟩)
    dsimp only [Pt.U, Pt.locs, Pt.cells, Pt.slots] at X20 l20 y20 z20 st20 hQ20
    subst l20 y20 z20
    obtain ⟨rfl, N20q, e20⟩ := hQ20
    have N20 := Fr.app N2 N20q
    have f22 := (S_F.ext E1)
    obtain ⟨cq21, kq21, q21a, q21b, q21c⟩ := isOf hZ1 e20 f8
    obtain ⟨_, _, ⟨T21, L21, j21, i21⟩, -, X21, ⟨Lc21, hQ21, l21, y21, z21⟩, st21⟩ := X20.virtualBack hx (y := (⟨cS0, "charAt", "(I)C"⟩ : MethodName)) (z := (⟨cS0, "charAt", "(I)C"⟩ : MethodName)) hown1 (mvT hZ1 (own_at hw 62 rfl)) (mvT hZ1 (own_at hw 63 rfl)) (notFace_of_selects (args := #[]) (mvT hZ1 (own_at hw 65 rfl))) (mvT hZ1 (own_at hw 65 rfl)) (mvT hZ1 (own_at hw 64 rfl)) (by decide) (backOf (W := 0) (rmCA_5_2 l Z a0 hw [] r0 w_CS w_F x0 x1 x2 x3 x4 h1 n0 (Nat.le_trans Z0 E1.1) f3 hcs f22 hwF f4 f5 f6 f7 hch_x2) hZ1 (own_at hw 66 rfl) (own_at hw 8 rfl) (by decide) (by decide)) q21a q21c (g := (mkF m 28 #[rv r0, iv 2, iv 2, .unset] [(.int 2), (.ref r0)])) rfl (by rw [hml]; rfl) (Steps.refl _) (argsL := [(.int 2)]) (rest := []) (lenOf pd_18 rfl) rfl (Nat.le_refl _) (hb hby d8_28) (fun _ _ => ⟨rfl, e20, (by decide : 2 + 0 ≤ _), (by decide : 12 + 0 ≤ _)⟩)
    dsimp only [Pt.U, Pt.locs, Pt.cells, Pt.slots] at X21 l21 y21 z21 st21 hQ21
    subst l21 y21 z21
    obtain ⟨rfl, N21q, e21⟩ := hQ21
    have N21 := Fr.app N20 N21q
    have k24 : ∀ t, OwnS p e below T21 (mkF m 33 #[rv r0, iv 2, iv 2, .unset] [(.int 34), (.int x2)]) t → OwnS p e below s₁ (entryFrame m #[(.ref r0), (.int 2)] 4) t := fun t q => by
     refine k9 t ?_
     refine st2.trans ?_
     refine XS.ifYes X2.here hx rfl (pc0 := 7) (pc' := 16) rfl (hb hby d8_7) rfl ((if0 _ _).trans (teq (by decide : (0 : Int32) = (0 : Int32))).1) (by decide) (by decide) ?_
     refine oIn X2 hx hby d8_16 rfl ?_
     refine XS.istoreN X2.here hx rfl (hb hby d8_17) rfl (l' := #[rv r0, iv 2, iv 2, .unset]) rfl ?_
     refine oIn X2 hx hby d8_18 rfl (oAn X2 hx hby d8_19 rfl rfl ?_)
     refine st20.trans ?_
     refine XS.icmpNo X20.here hx rfl (hb hby d8_23) rfl (tlt (by decide : (2 : Int32) < (5 : Int32))).2.1 ?_
     refine oAn X20 hx hby d8_26 rfl rfl (oIn X20 hx hby d8_27 rfl ?_)
     refine st21.trans ?_
     refine oBp X21 hx hby d8_31 ?_
     exact q
    by_cases hc33_23 : x2 = (34 : Int32)
    · have k25 : ∀ t, OwnS p e below T21 (mkF m 41 #[rv r0, iv 2, iv 3, .unset] []) t → OwnS p e below s₁ (entryFrame m #[(.ref r0), (.int 2)] 4) t := fun t q => by
       refine k24 t ?_
       refine XS.icmpYes X21.here hx rfl (pc0 := 33) (pc' := 38) rfl (hb hby d8_33) rfl (teq hc33_23).1 (by decide) (by decide) ?_
       refine XS.iinc X21.here hx rfl (hb hby d8_38) rfl (l' := #[rv r0, iv 2, iv 3, .unset]) rfl ?_
       exact q
      obtain ⟨s26, o26, ja26, jb26, jc26, v26, L26, rfl, ⟨hv26, jN26, jh26, -⟩, jF26⟩ := sgEn_3 l Z a0 hw r0 (2 : Int32) (.unset) w_CS w_F x0 x1 x2 x3 x4 h1 n0 (Nat.le_trans Z0 E1.1) f3 hcs f22 hwF f4 f5 f6 f7 hch_x0 hch_x1 hch_x2 hch_x3 hch_x4 One.u f8 X21 hx hZ1 hby hml hown1 Bd.returns Bd.notSynchronized e21 N21 hS1 hk1 Hc1 Rc1 hh
      exact ⟨s26, _, k25 _ ja26, jb26, jc26, v26, L26, rfl, ⟨hv26.trans (by simp [own_e2, own_sc1, own_sc2, own_sc3, own_sc4, own_sc5, own_q0, own_q1, own_q2, own_q3, own_q4, own_q5, hc33_23, p2_0]), jN26, (by rw [jh26]; exact ((Keep.refl h0 []).ext E1)), trivial⟩, jF26⟩
    · obtain ⟨fs, hr, hrun, hended, hRW⟩ := X21.leaveW hS1 (by rw [e21]; exact hk1) (v := some (.int (-1))) (fun h => by rw [Bd.returns] at h; cases h)
      have hCE : CHr Z own_EL s.vm s.heap T21.vm T21.heap := by rw [hh, e21]; exact Rc1.trans (CHv.at X21 hZ1 (own_ew hw) Hc1)
      refine ⟨_, _, k24 _ ?_, hrun, hended, _, _, rfl, ?_, hCE, hRW.1, hRW.2.1, hRW.2.2.1, hRW.2.2.2.mono (by decide) (by decide)⟩
      · refine XS.icmpNo X21.here hx rfl (hb hby d8_33) rfl (feq hc33_23).1 ?_
        refine oIc X21 hx hby d8_36 ?_
        exact retI X21 hx Bd.returns (hb hby d8_37) hr
      · show Q_En_2 Z _ _ _ _ _ _ _ _ h0 n0 _ T21.heap _
        rw [e21]
        exact ⟨(by simp [own_e2, own_sc1, own_sc2, own_sc3, own_sc4, own_sc5, own_q0, own_q1, own_q2, own_q3, own_q4, own_q5, hc33_23, p2_0]), N21, ((Keep.refl h0 []).ext E1), trivial⟩
def Q_En_3 (Z : State) (r0 : Addr) (w_CS : Int32) (w_F : Value) (x0 : Int32) (x1 : Int32) (x2 : Int32) (x3 : Int32) (x4 : Int32) (h0 : Heap) (n0 : Nat) (v : Option Value) (h : Heap) (L : List Loc) : Prop := v = some (.int (own_e3 x0 x1 x2 x3 x4)) ∧ Fr n0 L ∧ Keep h0 h [] ∧ True
set_option maxRecDepth 65536 in
set_option maxHeartbeats 40000000 in
theorem rmEn_3 (l : Launch) (Z : State) (a0 : Array Value) (hw : ∀ d ∈ tables_1, d.before a0 Z = true) (ws : List Jvm.Cond) (r0 : Addr) (w_CS : Int32) (w_F : Value) (x0 : Int32) (x1 : Int32) (x2 : Int32) (x3 : Int32) (x4 : Int32) (h0 : Heap) (n0 : Nat) (Z0 : n0 ≤ h0.size) (S_CS : Sta Z h0 cS0 cS13 "Z" (.int w_CS)) (hcs : ¬ (w_CS = (0 : Int32))) (S_F : Sta Z h0 cS4 cS14 cS5 w_F) (hwF : w_F.isRef = true) (S_AD : Sta Z h0 cS1 cS6 "Z" (.int 1)) (S_HI : Sta Z h0 cS1 cS7 "I" (.int 0)) (S_LO : Sta Z h0 cS1 cS8 "I" (.int 8)) (P_r0 : own_S5 Z h0 r0 x0 x1 x2 x3 x4) (hch_x0 : own_ch x0) (hch_x1 : own_ch x1) (hch_x2 : own_ch x2) (hch_x3 : own_ch x3) (hch_x4 : own_ch x4) (E_r0 : Exa Z h0 r0 cS0) :
    MetFree l (⟨cS3, "end", cS17⟩ : MethodName) (head1 (Jvm.Cond.code (⟨cS3, "end", cS17⟩ : MethodName) prog_3_method_2_code 4 (some .int) :: ws) ({ frames := 5, cells := 2, slots := 12, locals := 70 } : Room)) (fun a U => a = #[(.ref r0), (.int 3)] ∧ Z.Warmed39 U.vm ∧ U.heap = h0 ∧ CHv Z own_EL U.vm h0) (fun _ _ _ _ _ => True) (fun _ U o U' => ∃ v L, o = .returned v ∧ Q_En_3 Z r0 w_CS w_F x0 x1 x2 x3 x4 h0 n0 v U'.heap L ∧ CHr Z own_EL U.vm U.heap U'.vm U'.heap ∧ ReturnedEndW U o U' L 2 12) := by
  refine MetFree.of_bodySF (plainFor_of_name pn_com_example_strict_lock_strictlock_EntityTags) hisR ?_
  intro p e s m args below meth c s₁ Bd hml0 hP hK
  obtain ⟨rfl, hZ, hh, H0c⟩ := hP
  have hx := Bd.exec
  have hby := Bd.bytes
  have hml : c.maxLocals = 4 := hml0
  have hown : (s.setVm s.vm).vm.findClass cS3 = some m.cls := findClass_of_methodNamed Bd.named
  have hnm := (name_of_methodNamed Bd.named Bd.method).1
  have X0 : Stand p l e ({ frames := 5, cells := 2, slots := 12, locals := 70 } : Room) (s.setVm s.vm) m #[(.ref r0), (.int 3)] below meth c s₁ [] 0 0 := Stand.of_body Bd
  have e0 : s₁.heap = h0 := by rw [← hh, Bd.state]; rfl
  have N0 := Fr.nil n0
  have k0 : ∀ t, OwnS p e below s₁ (mkF m 0 #[rv r0, iv 3, .unset, .unset] []) t → OwnS p e below s₁ (entryFrame m #[(.ref r0), (.int 3)] 4) t := fun t k => castTop (ef_8 m r0 (3 : Int32)) k
  have hZ : Z.Warmed39 (s.setVm s.vm).vm := hZ
  have hS0 : s.Since s.vm h0.size := (State.WarmedH.refl s).since _
  have hk0 : h0.size ≤ h0.size := Nat.le_refl _
  have R0c := CHr.refl H0c
  obtain ⟨a1, T1, h1, k11, bb1, kk1, X1, e1, E1, hS1, hk1, hZ1, hown1, EA1, FC1, FV1, V1, -, -, CR1, LT1, ne1, st1⟩ := ldcCH X0 hx hZ hown (own_at hw 39 rfl) (own_ws hw) e0 hS0 hk0 (own_ew hw) (own_mem0) H0c (vs := [(.int 87), (.int 47)]) (z := 2) ⟨by decide, rfl⟩ (by decide) rfl (g := (mkF m 1 #[rv r0, iv 3, .unset, .unset] [(.ref r0)])) rfl (hb hby d8_1) (n := 8) (by decide) (by decide) (by decide) (by decide)
  have Hc1 := CR1.1
  have Rc1 := R0c.trans CR1
  have f3 := (S_CS.ext E1)
  have f4 := (S_AD.ext E1)
  have f5 := (S_HI.ext E1)
  have f6 := (S_LO.ext E1)
  have f7 := (own_S5_ext P_r0 E1)
  have f8 := (E_r0.ext E1)
  obtain ⟨cq2, kq2, q2a, q2b, q2c⟩ := isOf hZ1 e1 f8
  obtain ⟨_, _, ⟨T2, L2, j2, i2⟩, -, X2, ⟨Lc2, hQ2, l2, y2, z2⟩, st2⟩ := X1.virtualBack hx (y := (⟨cS0, "startsWith", cS9⟩ : MethodName)) (z := (⟨cS0, "startsWith", cS9⟩ : MethodName)) hown1 (mvT hZ1 (own_at hw 42 rfl)) (mvT hZ1 (own_at hw 43 rfl)) (notFace_of_selects (args := #[]) (mvT hZ1 (own_at hw 45 rfl))) (mvT hZ1 (own_at hw 45 rfl)) (mvT hZ1 (own_at hw 44 rfl)) (by decide) (backOf (W := 0) (rmSW_3 l Z a0 hw [] r0 a1 w_CS bb1 kk1 x0 x1 x2 x3 x4 h1 n0 (Nat.le_trans Z0 E1.1) f3 hcs f4 f5 f6 f7 EA1 FC1 FV1 V1 hch_x0 hch_x1 hch_x2 hch_x3 hch_x4 f8) hZ1 (own_at hw 46 rfl) (own_at hw 8 rfl) (by decide) (by decide)) q2a q2c (g := (mkF m 4 #[rv r0, iv 3, .unset, .unset] [(.int 3), (.ref a1), (.ref r0)])) rfl (by rw [hml]; rfl) (Steps.refl _) (argsL := [(.ref a1), (.int 3)]) (rest := []) (lenOf pd_19 rfl) rfl (Nat.le_refl _) (hb hby d8_4) (fun _ _ => ⟨rfl, e1, (by decide : 2 + 0 ≤ _), (by decide : 12 + 0 ≤ _)⟩)
  dsimp only [Pt.U, Pt.locs, Pt.cells, Pt.slots] at X2 l2 y2 z2 st2 hQ2
  subst l2 y2 z2
  have k9 : ∀ t, OwnS p e below T1 (mkF m 4 #[rv r0, iv 3, .unset, .unset] [(.int 3), (.ref a1), (.ref r0)]) t → OwnS p e below s₁ (entryFrame m #[(.ref r0), (.int 3)] 4) t := fun t q => by
   refine k0 t ?_
   show OwnS p e below s₁ (mkF m 0 #[rv r0, iv 3, .unset, .unset] []) _
   refine oAn X0 hx hby d8_0 rfl rfl ?_
   refine st1 _ ?_
   refine oIn X1 hx hby d8_3 rfl ?_
   exact q
  rcases hQ2 with ⟨rfl, N2q, e2, p2_0, p2_1⟩ | ⟨rfl, N2q, e2, p2_0, p2_1⟩ | ⟨rfl, N2q, e2, p2_0⟩
  · have N2 := Fr.app N0 N2q
    obtain ⟨cq10, kq10, q10a, q10b, q10c⟩ := isOf hZ1 e2 f8
    obtain ⟨_, _, ⟨T10, L10, j10, i10⟩, -, X10, ⟨Lc10, hQ10, l10, y10, z10⟩, st10⟩ := X2.virtualBack hx (y := (⟨cS0, "length", "()I"⟩ : MethodName)) (z := (⟨cS0, "length", "()I"⟩ : MethodName)) hown1 (mvT hZ1 (own_at hw 61 rfl)) (mvT hZ1 (own_at hw 48 rfl)) (notFace_of_selects (args := #[]) (mvT hZ1 (own_at hw 50 rfl))) (mvT hZ1 (own_at hw 50 rfl)) (mvT hZ1 (own_at hw 49 rfl)) (by decide) (backOf (W := 1) (rmLen_5 l Z a0 hw [] r0 w_CS x0 x1 x2 x3 x4 h1 n0 (Nat.le_trans Z0 E1.1) f3 hcs f7) hZ1 (own_at hw 51 rfl) (own_at hw 8 rfl) (by decide) (by decide)) q10a q10c (g := (mkF m 20 #[rv r0, iv 3, iv 5, .unset] [(.ref r0), (.int 5)])) rfl (by rw [hml]; rfl) (Steps.refl _) (argsL := []) (rest := [(.int 5)]) (lenOf pd_16 rfl) rfl (Nat.le_refl _) (hb hby d8_20) (fun _ _ => ⟨rfl, e2, (by decide : 2 + 0 ≤ _), (by decide : 12 + 0 ≤ _)⟩)
    dsimp only [Pt.U, Pt.locs, Pt.cells, Pt.slots] at X10 l10 y10 z10 st10 hQ10
    subst l10 y10 z10
    obtain ⟨rfl, N10q, e10⟩ := hQ10
    have N10 := Fr.app N2 N10q
    obtain ⟨fs, hr, hrun, hended, hRW⟩ := X10.leaveW hS1 (by rw [e10]; exact hk1) (v := some (.int (-1))) (fun h => by rw [Bd.returns] at h; cases h)
    have hCE : CHr Z own_EL s.vm s.heap T10.vm T10.heap := by rw [hh, e10]; exact Rc1.trans (CHv.at X10 hZ1 (own_ew hw) Hc1)
    refine ⟨_, _, k9 _ ?_, hrun, hended, _, _, rfl, ?_, hCE, hRW.1, hRW.2.1, hRW.2.2.1, hRW.2.2.2.mono (by decide) (by decide)⟩
    · refine st2.trans ?_
      refine XS.ifNo X2.here hx rfl (hb hby d8_7) rfl ((if0 _ _).trans (feq (by decide : ¬ ((1 : Int32) = (0 : Int32)))).1) ?_
      refine oIn X2 hx hby d8_10 rfl (oIc X2 hx hby d8_11 ?_)
      refine XS.iadd X2.here hx rfl (hb hby d8_12) rfl ?_
      refine oGo X2 hx hby 13 17 d8_13 (by decide) (by decide) ?_
      refine XS.istoreN X2.here hx rfl (hb hby d8_17) rfl (l' := #[rv r0, iv 3, iv 5, .unset]) rfl ?_
      refine oIn X2 hx hby d8_18 rfl (oAn X2 hx hby d8_19 rfl rfl ?_)
      refine st10.trans ?_
      refine XS.icmpYes X10.here hx rfl (pc0 := 23) (pc' := 36) rfl (hb hby d8_23) rfl (flt (by decide : ¬ ((5 : Int32) < (5 : Int32)))).2.1 (by decide) (by decide) ?_
      refine oIc X10 hx hby d8_36 ?_
      exact retI X10 hx Bd.returns (hb hby d8_37) hr
    · show Q_En_3 Z _ _ _ _ _ _ _ _ h0 n0 _ T10.heap _
      rw [e10]
      exact ⟨(by simp [own_e3, own_sc1, own_sc2, own_sc3, own_sc4, own_sc5, own_q0, own_q1, own_q2, own_q3, own_q4, own_q5, p2_0, p2_1]), N10, ((Keep.refl h0 []).ext E1), trivial⟩
  · have N2 := Fr.app N0 N2q
    obtain ⟨cq11, kq11, q11a, q11b, q11c⟩ := isOf hZ1 e2 f8
    obtain ⟨_, _, ⟨T11, L11, j11, i11⟩, -, X11, ⟨Lc11, hQ11, l11, y11, z11⟩, st11⟩ := X2.virtualBack hx (y := (⟨cS0, "length", "()I"⟩ : MethodName)) (z := (⟨cS0, "length", "()I"⟩ : MethodName)) hown1 (mvT hZ1 (own_at hw 61 rfl)) (mvT hZ1 (own_at hw 48 rfl)) (notFace_of_selects (args := #[]) (mvT hZ1 (own_at hw 50 rfl))) (mvT hZ1 (own_at hw 50 rfl)) (mvT hZ1 (own_at hw 49 rfl)) (by decide) (backOf (W := 1) (rmLen_5 l Z a0 hw [] r0 w_CS x0 x1 x2 x3 x4 h1 n0 (Nat.le_trans Z0 E1.1) f3 hcs f7) hZ1 (own_at hw 51 rfl) (own_at hw 8 rfl) (by decide) (by decide)) q11a q11c (g := (mkF m 20 #[rv r0, iv 3, iv 3, .unset] [(.ref r0), (.int 3)])) rfl (by rw [hml]; rfl) (Steps.refl _) (argsL := []) (rest := [(.int 3)]) (lenOf pd_16 rfl) rfl (Nat.le_refl _) (hb hby d8_20) (fun _ _ => ⟨rfl, e2, (by decide : 2 + 0 ≤ _), (by decide : 12 + 0 ≤ _)⟩)
    dsimp only [Pt.U, Pt.locs, Pt.cells, Pt.slots] at X11 l11 y11 z11 st11 hQ11
    subst l11 y11 z11
    obtain ⟨rfl, N11q, e11⟩ := hQ11
    have N11 := Fr.app N2 N11q
    have f13 := (S_F.ext E1)
    obtain ⟨cq12, kq12, q12a, q12b, q12c⟩ := isOf hZ1 e11 f8
    obtain ⟨_, _, ⟨T12, L12, j12, i12⟩, -, X12, ⟨Lc12, hQ12, l12, y12, z12⟩, st12⟩ := X11.virtualBack hx (y := (⟨cS0, "charAt", "(I)C"⟩ : MethodName)) (z := (⟨cS0, "charAt", "(I)C"⟩ : MethodName)) hown1 (mvT hZ1 (own_at hw 62 rfl)) (mvT hZ1 (own_at hw 63 rfl)) (notFace_of_selects (args := #[]) (mvT hZ1 (own_at hw 65 rfl))) (mvT hZ1 (own_at hw 65 rfl)) (mvT hZ1 (own_at hw 64 rfl)) (by decide) (backOf (W := 0) (rmCA_5_3 l Z a0 hw [] r0 w_CS w_F x0 x1 x2 x3 x4 h1 n0 (Nat.le_trans Z0 E1.1) f3 hcs f13 hwF f4 f5 f6 f7 hch_x3) hZ1 (own_at hw 66 rfl) (own_at hw 8 rfl) (by decide) (by decide)) q12a q12c (g := (mkF m 28 #[rv r0, iv 3, iv 3, .unset] [(.int 3), (.ref r0)])) rfl (by rw [hml]; rfl) (Steps.refl _) (argsL := [(.int 3)]) (rest := []) (lenOf pd_18 rfl) rfl (Nat.le_refl _) (hb hby d8_28) (fun _ _ => ⟨rfl, e11, (by decide : 2 + 0 ≤ _), (by decide : 12 + 0 ≤ _)⟩)
    dsimp only [Pt.U, Pt.locs, Pt.cells, Pt.slots] at X12 l12 y12 z12 st12 hQ12
    subst l12 y12 z12
    obtain ⟨rfl, N12q, e12⟩ := hQ12
    have N12 := Fr.app N11 N12q
    obtain ⟨fs, hr, hrun, hended, hRW⟩ := X12.leaveW hS1 (by rw [e12]; exact hk1) (v := some (.int (-1))) (fun h => by rw [Bd.returns] at h; cases h)
    have hCE : CHr Z own_EL s.vm s.heap T12.vm T12.heap := by rw [hh, e12]; exact Rc1.trans (CHv.at X12 hZ1 (own_ew hw) Hc1)
    refine ⟨_, _, k9 _ ?_, hrun, hended, _, _, rfl, ?_, hCE, hRW.1, hRW.2.1, hRW.2.2.1, hRW.2.2.2.mono (by decide) (by decide)⟩
    · refine st2.trans ?_
      refine XS.ifYes X2.here hx rfl (pc0 := 7) (pc' := 16) rfl (hb hby d8_7) rfl ((if0 _ _).trans (teq (by decide : (0 : Int32) = (0 : Int32))).1) (by decide) (by decide) ?_
      refine oIn X2 hx hby d8_16 rfl ?_
      refine XS.istoreN X2.here hx rfl (hb hby d8_17) rfl (l' := #[rv r0, iv 3, iv 3, .unset]) rfl ?_
      refine oIn X2 hx hby d8_18 rfl (oAn X2 hx hby d8_19 rfl rfl ?_)
      refine st11.trans ?_
      refine XS.icmpNo X11.here hx rfl (hb hby d8_23) rfl (tlt (by decide : (3 : Int32) < (5 : Int32))).2.1 ?_
      refine oAn X11 hx hby d8_26 rfl rfl (oIn X11 hx hby d8_27 rfl ?_)
      refine st12.trans ?_
      refine oBp X12 hx hby d8_31 ?_
      refine XS.icmpNo X12.here hx rfl (hb hby d8_33) rfl (feq (by rw [p2_0]; decide)).1 ?_
      refine oIc X12 hx hby d8_36 ?_
      exact retI X12 hx Bd.returns (hb hby d8_37) hr
    · show Q_En_3 Z _ _ _ _ _ _ _ _ h0 n0 _ T12.heap _
      rw [e12]
      exact ⟨(by simp [own_e3, own_sc1, own_sc2, own_sc3, own_sc4, own_sc5, own_q0, own_q1, own_q2, own_q3, own_q4, own_q5, p2_0, p2_1]), N12, ((Keep.refl h0 []).ext E1), trivial⟩
  · have N2 := Fr.app N0 N2q
    obtain ⟨cq14, kq14, q14a, q14b, q14c⟩ := isOf hZ1 e2 f8
    obtain ⟨_, _, ⟨T14, L14, j14, i14⟩, -, X14, ⟨Lc14, hQ14, l14, y14, z14⟩, st14⟩ := X2.virtualBack hx (y := (⟨cS0, "length", "()I"⟩ : MethodName)) (z := (⟨cS0, "length", "()I"⟩ : MethodName)) hown1 (mvT hZ1 (own_at hw 61 rfl)) (mvT hZ1 (own_at hw 48 rfl)) (notFace_of_selects (args := #[]) (mvT hZ1 (own_at hw 50 rfl))) (mvT hZ1 (own_at hw 50 rfl)) (mvT hZ1 (own_at hw 49 rfl)) (by decide) (backOf (W := 1) (rmLen_5 l Z a0 hw [] r0 w_CS x0 x1 x2 x3 x4 h1 n0 (Nat.le_trans Z0 E1.1) f3 hcs f7) hZ1 (own_at hw 51 rfl) (own_at hw 8 rfl) (by decide) (by decide)) q14a q14c (g := (mkF m 20 #[rv r0, iv 3, iv 3, .unset] [(.ref r0), (.int 3)])) rfl (by rw [hml]; rfl) (Steps.refl _) (argsL := []) (rest := [(.int 3)]) (lenOf pd_16 rfl) rfl (Nat.le_refl _) (hb hby d8_20) (fun _ _ => ⟨rfl, e2, (by decide : 2 + 0 ≤ _), (by decide : 12 + 0 ≤ _)⟩)
    dsimp only [Pt.U, Pt.locs, Pt.cells, Pt.slots] at X14 l14 y14 z14 st14 hQ14
    subst l14 y14 z14
    obtain ⟨rfl, N14q, e14⟩ := hQ14
    have N14 := Fr.app N2 N14q
    have f16 := (S_F.ext E1)
    obtain ⟨cq15, kq15, q15a, q15b, q15c⟩ := isOf hZ1 e14 f8
    obtain ⟨_, _, ⟨T15, L15, j15, i15⟩, -, X15, ⟨Lc15, hQ15, l15, y15, z15⟩, st15⟩ := X14.virtualBack hx (y := (⟨cS0, "charAt", "(I)C"⟩ : MethodName)) (z := (⟨cS0, "charAt", "(I)C"⟩ : MethodName)) hown1 (mvT hZ1 (own_at hw 62 rfl)) (mvT hZ1 (own_at hw 63 rfl)) (notFace_of_selects (args := #[]) (mvT hZ1 (own_at hw 65 rfl))) (mvT hZ1 (own_at hw 65 rfl)) (mvT hZ1 (own_at hw 64 rfl)) (by decide) (backOf (W := 0) (rmCA_5_3 l Z a0 hw [] r0 w_CS w_F x0 x1 x2 x3 x4 h1 n0 (Nat.le_trans Z0 E1.1) f3 hcs f16 hwF f4 f5 f6 f7 hch_x3) hZ1 (own_at hw 66 rfl) (own_at hw 8 rfl) (by decide) (by decide)) q15a q15c (g := (mkF m 28 #[rv r0, iv 3, iv 3, .unset] [(.int 3), (.ref r0)])) rfl (by rw [hml]; rfl) (Steps.refl _) (argsL := [(.int 3)]) (rest := []) (lenOf pd_18 rfl) rfl (Nat.le_refl _) (hb hby d8_28) (fun _ _ => ⟨rfl, e14, (by decide : 2 + 0 ≤ _), (by decide : 12 + 0 ≤ _)⟩)
    dsimp only [Pt.U, Pt.locs, Pt.cells, Pt.slots] at X15 l15 y15 z15 st15 hQ15
    subst l15 y15 z15
    obtain ⟨rfl, N15q, e15⟩ := hQ15
    have N15 := Fr.app N14 N15q
    have k18 : ∀ t, OwnS p e below T15 (mkF m 33 #[rv r0, iv 3, iv 3, .unset] [(.int 34), (.int x3)]) t → OwnS p e below s₁ (entryFrame m #[(.ref r0), (.int 3)] 4) t := fun t q => by
     refine k9 t ?_
     refine st2.trans ?_
     refine XS.ifYes X2.here hx rfl (pc0 := 7) (pc' := 16) rfl (hb hby d8_7) rfl ((if0 _ _).trans (teq (by decide : (0 : Int32) = (0 : Int32))).1) (by decide) (by decide) ?_
     refine oIn X2 hx hby d8_16 rfl ?_
     refine XS.istoreN X2.here hx rfl (hb hby d8_17) rfl (l' := #[rv r0, iv 3, iv 3, .unset]) rfl ?_
     refine oIn X2 hx hby d8_18 rfl (oAn X2 hx hby d8_19 rfl rfl ?_)
     refine st14.trans ?_
     refine XS.icmpNo X14.here hx rfl (hb hby d8_23) rfl (tlt (by decide : (3 : Int32) < (5 : Int32))).2.1 ?_
     refine oAn X14 hx hby d8_26 rfl rfl (oIn X14 hx hby d8_27 rfl ?_)
     refine st15.trans ?_
     refine oBp X15 hx hby d8_31 ?_
     exact q
    by_cases hc33_17 : x3 = (34 : Int32)
    · have k19 : ∀ t, OwnS p e below T15 (mkF m 41 #[rv r0, iv 3, iv 4, .unset] []) t → OwnS p e below s₁ (entryFrame m #[(.ref r0), (.int 3)] 4) t := fun t q => by
       refine k18 t ?_
       refine XS.icmpYes X15.here hx rfl (pc0 := 33) (pc' := 38) rfl (hb hby d8_33) rfl (teq hc33_17).1 (by decide) (by decide) ?_
       refine XS.iinc X15.here hx rfl (hb hby d8_38) rfl (l' := #[rv r0, iv 3, iv 4, .unset]) rfl ?_
       exact q
      obtain ⟨s20, o20, ja20, jb20, jc20, v20, L20, rfl, ⟨hv20, jN20, jh20, -⟩, jF20⟩ := sgEn_4 l Z a0 hw r0 (3 : Int32) (.unset) w_CS w_F x0 x1 x2 x3 x4 h1 n0 (Nat.le_trans Z0 E1.1) f3 hcs f16 hwF f4 f5 f6 f7 hch_x0 hch_x1 hch_x2 hch_x3 hch_x4 One.u f8 X15 hx hZ1 hby hml hown1 Bd.returns Bd.notSynchronized e15 N15 hS1 hk1 Hc1 Rc1 hh
      exact ⟨s20, _, k19 _ ja20, jb20, jc20, v20, L20, rfl, ⟨hv20.trans (by simp [own_e3, own_sc1, own_sc2, own_sc3, own_sc4, own_sc5, own_q0, own_q1, own_q2, own_q3, own_q4, own_q5, hc33_17, p2_0]), jN20, (by rw [jh20]; exact ((Keep.refl h0 []).ext E1)), trivial⟩, jF20⟩
    · obtain ⟨fs, hr, hrun, hended, hRW⟩ := X15.leaveW hS1 (by rw [e15]; exact hk1) (v := some (.int (-1))) (fun h => by rw [Bd.returns] at h; cases h)
      have hCE : CHr Z own_EL s.vm s.heap T15.vm T15.heap := by rw [hh, e15]; exact Rc1.trans (CHv.at X15 hZ1 (own_ew hw) Hc1)
      refine ⟨_, _, k18 _ ?_, hrun, hended, _, _, rfl, ?_, hCE, hRW.1, hRW.2.1, hRW.2.2.1, hRW.2.2.2.mono (by decide) (by decide)⟩
      · refine XS.icmpNo X15.here hx rfl (hb hby d8_33) rfl (feq hc33_17).1 ?_
        refine oIc X15 hx hby d8_36 ?_
        exact retI X15 hx Bd.returns (hb hby d8_37) hr
      · show Q_En_3 Z _ _ _ _ _ _ _ _ h0 n0 _ T15.heap _
        rw [e15]
        exact ⟨(by simp [own_e3, own_sc1, own_sc2, own_sc3, own_sc4, own_sc5, own_q0, own_q1, own_q2, own_q3, own_q4, own_q5, hc33_17, p2_0]), N15, ((Keep.refl h0 []).ext E1), trivial⟩
def Q_En_4 (Z : State) (r0 : Addr) (w_CS : Int32) (w_F : Value) (x0 : Int32) (x1 : Int32) (x2 : Int32) (x3 : Int32) (x4 : Int32) (h0 : Heap) (n0 : Nat) (v : Option Value) (h : Heap) (L : List Loc) : Prop := v = some (.int (own_e4 x0 x1 x2 x3 x4)) ∧ Fr n0 L ∧ Keep h0 h [] ∧ True
set_option maxRecDepth 65536 in
set_option maxHeartbeats 40000000 in
theorem rmEn_4 (l : Launch) (Z : State) (a0 : Array Value) (hw : ∀ d ∈ tables_1, d.before a0 Z = true) (ws : List Jvm.Cond) (r0 : Addr) (w_CS : Int32) (w_F : Value) (x0 : Int32) (x1 : Int32) (x2 : Int32) (x3 : Int32) (x4 : Int32) (h0 : Heap) (n0 : Nat) (Z0 : n0 ≤ h0.size) (S_CS : Sta Z h0 cS0 cS13 "Z" (.int w_CS)) (hcs : ¬ (w_CS = (0 : Int32))) (S_F : Sta Z h0 cS4 cS14 cS5 w_F) (hwF : w_F.isRef = true) (S_AD : Sta Z h0 cS1 cS6 "Z" (.int 1)) (S_HI : Sta Z h0 cS1 cS7 "I" (.int 0)) (S_LO : Sta Z h0 cS1 cS8 "I" (.int 8)) (P_r0 : own_S5 Z h0 r0 x0 x1 x2 x3 x4) (hch_x0 : own_ch x0) (hch_x1 : own_ch x1) (hch_x2 : own_ch x2) (hch_x3 : own_ch x3) (hch_x4 : own_ch x4) (E_r0 : Exa Z h0 r0 cS0) :
    MetFree l (⟨cS3, "end", cS17⟩ : MethodName) (head1 (Jvm.Cond.code (⟨cS3, "end", cS17⟩ : MethodName) prog_3_method_2_code 4 (some .int) :: ws) ({ frames := 5, cells := 2, slots := 12, locals := 70 } : Room)) (fun a U => a = #[(.ref r0), (.int 4)] ∧ Z.Warmed39 U.vm ∧ U.heap = h0 ∧ CHv Z own_EL U.vm h0) (fun _ _ _ _ _ => True) (fun _ U o U' => ∃ v L, o = .returned v ∧ Q_En_4 Z r0 w_CS w_F x0 x1 x2 x3 x4 h0 n0 v U'.heap L ∧ CHr Z own_EL U.vm U.heap U'.vm U'.heap ∧ ReturnedEndW U o U' L 2 12) := by
  refine MetFree.of_bodySF (plainFor_of_name pn_com_example_strict_lock_strictlock_EntityTags) hisR ?_
  intro p e s m args below meth c s₁ Bd hml0 hP hK
  obtain ⟨rfl, hZ, hh, H0c⟩ := hP
  have hx := Bd.exec
  have hby := Bd.bytes
  have hml : c.maxLocals = 4 := hml0
  have hown : (s.setVm s.vm).vm.findClass cS3 = some m.cls := findClass_of_methodNamed Bd.named
  have hnm := (name_of_methodNamed Bd.named Bd.method).1
  have X0 : Stand p l e ({ frames := 5, cells := 2, slots := 12, locals := 70 } : Room) (s.setVm s.vm) m #[(.ref r0), (.int 4)] below meth c s₁ [] 0 0 := Stand.of_body Bd
  have e0 : s₁.heap = h0 := by rw [← hh, Bd.state]; rfl
  have N0 := Fr.nil n0
  have k0 : ∀ t, OwnS p e below s₁ (mkF m 0 #[rv r0, iv 4, .unset, .unset] []) t → OwnS p e below s₁ (entryFrame m #[(.ref r0), (.int 4)] 4) t := fun t k => castTop (ef_8 m r0 (4 : Int32)) k
  have hZ : Z.Warmed39 (s.setVm s.vm).vm := hZ
  have hS0 : s.Since s.vm h0.size := (State.WarmedH.refl s).since _
  have hk0 : h0.size ≤ h0.size := Nat.le_refl _
  have R0c := CHr.refl H0c
  obtain ⟨a1, T1, h1, k11, bb1, kk1, X1, e1, E1, hS1, hk1, hZ1, hown1, EA1, FC1, FV1, V1, -, -, CR1, LT1, ne1, st1⟩ := ldcCH X0 hx hZ hown (own_at hw 39 rfl) (own_ws hw) e0 hS0 hk0 (own_ew hw) (own_mem0) H0c (vs := [(.int 87), (.int 47)]) (z := 2) ⟨by decide, rfl⟩ (by decide) rfl (g := (mkF m 1 #[rv r0, iv 4, .unset, .unset] [(.ref r0)])) rfl (hb hby d8_1) (n := 8) (by decide) (by decide) (by decide) (by decide)
  have Hc1 := CR1.1
  have Rc1 := R0c.trans CR1
  have f3 := (S_CS.ext E1)
  have f4 := (S_AD.ext E1)
  have f5 := (S_HI.ext E1)
  have f6 := (S_LO.ext E1)
  have f7 := (own_S5_ext P_r0 E1)
  have f8 := (E_r0.ext E1)
  obtain ⟨cq2, kq2, q2a, q2b, q2c⟩ := isOf hZ1 e1 f8
  obtain ⟨_, _, ⟨T2, L2, j2, i2⟩, -, X2, ⟨Lc2, hQ2, l2, y2, z2⟩, st2⟩ := X1.virtualBack hx (y := (⟨cS0, "startsWith", cS9⟩ : MethodName)) (z := (⟨cS0, "startsWith", cS9⟩ : MethodName)) hown1 (mvT hZ1 (own_at hw 42 rfl)) (mvT hZ1 (own_at hw 43 rfl)) (notFace_of_selects (args := #[]) (mvT hZ1 (own_at hw 45 rfl))) (mvT hZ1 (own_at hw 45 rfl)) (mvT hZ1 (own_at hw 44 rfl)) (by decide) (backOf (W := 0) (rmSW_4 l Z a0 hw [] r0 a1 w_CS bb1 kk1 x0 x1 x2 x3 x4 h1 n0 (Nat.le_trans Z0 E1.1) f3 hcs f4 f5 f6 f7 EA1 FC1 FV1 V1 hch_x0 hch_x1 hch_x2 hch_x3 hch_x4 f8) hZ1 (own_at hw 46 rfl) (own_at hw 8 rfl) (by decide) (by decide)) q2a q2c (g := (mkF m 4 #[rv r0, iv 4, .unset, .unset] [(.int 4), (.ref a1), (.ref r0)])) rfl (by rw [hml]; rfl) (Steps.refl _) (argsL := [(.ref a1), (.int 4)]) (rest := []) (lenOf pd_19 rfl) rfl (Nat.le_refl _) (hb hby d8_4) (fun _ _ => ⟨rfl, e1, (by decide : 2 + 0 ≤ _), (by decide : 12 + 0 ≤ _)⟩)
  dsimp only [Pt.U, Pt.locs, Pt.cells, Pt.slots] at X2 l2 y2 z2 st2 hQ2
  subst l2 y2 z2
  obtain ⟨rfl, N2q, e2, -⟩ := hQ2
  have N2 := Fr.app N0 N2q
  obtain ⟨cq9, kq9, q9a, q9b, q9c⟩ := isOf hZ1 e2 f8
  obtain ⟨_, _, ⟨T9, L9, j9, i9⟩, -, X9, ⟨Lc9, hQ9, l9, y9, z9⟩, st9⟩ := X2.virtualBack hx (y := (⟨cS0, "length", "()I"⟩ : MethodName)) (z := (⟨cS0, "length", "()I"⟩ : MethodName)) hown1 (mvT hZ1 (own_at hw 61 rfl)) (mvT hZ1 (own_at hw 48 rfl)) (notFace_of_selects (args := #[]) (mvT hZ1 (own_at hw 50 rfl))) (mvT hZ1 (own_at hw 50 rfl)) (mvT hZ1 (own_at hw 49 rfl)) (by decide) (backOf (W := 1) (rmLen_5 l Z a0 hw [] r0 w_CS x0 x1 x2 x3 x4 h1 n0 (Nat.le_trans Z0 E1.1) f3 hcs f7) hZ1 (own_at hw 51 rfl) (own_at hw 8 rfl) (by decide) (by decide)) q9a q9c (g := (mkF m 20 #[rv r0, iv 4, iv 4, .unset] [(.ref r0), (.int 4)])) rfl (by rw [hml]; rfl) (Steps.refl _) (argsL := []) (rest := [(.int 4)]) (lenOf pd_16 rfl) rfl (Nat.le_refl _) (hb hby d8_20) (fun _ _ => ⟨rfl, e2, (by decide : 2 + 0 ≤ _), (by decide : 12 + 0 ≤ _)⟩)
  dsimp only [Pt.U, Pt.locs, Pt.cells, Pt.slots] at X9 l9 y9 z9 st9 hQ9
  subst l9 y9 z9
  obtain ⟨rfl, N9q, e9⟩ := hQ9
  have N9 := Fr.app N2 N9q
  have f11 := (S_F.ext E1)
  obtain ⟨cq10, kq10, q10a, q10b, q10c⟩ := isOf hZ1 e9 f8
  obtain ⟨_, _, ⟨T10, L10, j10, i10⟩, -, X10, ⟨Lc10, hQ10, l10, y10, z10⟩, st10⟩ := X9.virtualBack hx (y := (⟨cS0, "charAt", "(I)C"⟩ : MethodName)) (z := (⟨cS0, "charAt", "(I)C"⟩ : MethodName)) hown1 (mvT hZ1 (own_at hw 62 rfl)) (mvT hZ1 (own_at hw 63 rfl)) (notFace_of_selects (args := #[]) (mvT hZ1 (own_at hw 65 rfl))) (mvT hZ1 (own_at hw 65 rfl)) (mvT hZ1 (own_at hw 64 rfl)) (by decide) (backOf (W := 0) (rmCA_5_4 l Z a0 hw [] r0 w_CS w_F x0 x1 x2 x3 x4 h1 n0 (Nat.le_trans Z0 E1.1) f3 hcs f11 hwF f4 f5 f6 f7 hch_x4) hZ1 (own_at hw 66 rfl) (own_at hw 8 rfl) (by decide) (by decide)) q10a q10c (g := (mkF m 28 #[rv r0, iv 4, iv 4, .unset] [(.int 4), (.ref r0)])) rfl (by rw [hml]; rfl) (Steps.refl _) (argsL := [(.int 4)]) (rest := []) (lenOf pd_18 rfl) rfl (Nat.le_refl _) (hb hby d8_28) (fun _ _ => ⟨rfl, e9, (by decide : 2 + 0 ≤ _), (by decide : 12 + 0 ≤ _)⟩)
  dsimp only [Pt.U, Pt.locs, Pt.cells, Pt.slots] at X10 l10 y10 z10 st10 hQ10
  subst l10 y10 z10
  obtain ⟨rfl, N10q, e10⟩ := hQ10
  have N10 := Fr.app N9 N10q
  have k13 : ∀ t, OwnS p e below T10 (mkF m 33 #[rv r0, iv 4, iv 4, .unset] [(.int 34), (.int x4)]) t → OwnS p e below s₁ (entryFrame m #[(.ref r0), (.int 4)] 4) t := fun t q => by
   refine k0 t ?_
   show OwnS p e below s₁ (mkF m 0 #[rv r0, iv 4, .unset, .unset] []) _
   refine oAn X0 hx hby d8_0 rfl rfl ?_
   refine st1 _ ?_
   refine oIn X1 hx hby d8_3 rfl ?_
   refine st2.trans ?_
   refine XS.ifYes X2.here hx rfl (pc0 := 7) (pc' := 16) rfl (hb hby d8_7) rfl ((if0 _ _).trans (teq (by decide : (0 : Int32) = (0 : Int32))).1) (by decide) (by decide) ?_
   refine oIn X2 hx hby d8_16 rfl ?_
   refine XS.istoreN X2.here hx rfl (hb hby d8_17) rfl (l' := #[rv r0, iv 4, iv 4, .unset]) rfl ?_
   refine oIn X2 hx hby d8_18 rfl (oAn X2 hx hby d8_19 rfl rfl ?_)
   refine st9.trans ?_
   refine XS.icmpNo X9.here hx rfl (hb hby d8_23) rfl (tlt (by decide : (4 : Int32) < (5 : Int32))).2.1 ?_
   refine oAn X9 hx hby d8_26 rfl rfl (oIn X9 hx hby d8_27 rfl ?_)
   refine st10.trans ?_
   refine oBp X10 hx hby d8_31 ?_
   exact q
  by_cases hc33_12 : x4 = (34 : Int32)
  · have k14 : ∀ t, OwnS p e below T10 (mkF m 41 #[rv r0, iv 4, iv 5, .unset] []) t → OwnS p e below s₁ (entryFrame m #[(.ref r0), (.int 4)] 4) t := fun t q => by
     refine k13 t ?_
     refine XS.icmpYes X10.here hx rfl (pc0 := 33) (pc' := 38) rfl (hb hby d8_33) rfl (teq hc33_12).1 (by decide) (by decide) ?_
     refine XS.iinc X10.here hx rfl (hb hby d8_38) rfl (l' := #[rv r0, iv 4, iv 5, .unset]) rfl ?_
     exact q
    obtain ⟨s15, o15, ja15, jb15, jc15, v15, L15, rfl, ⟨hv15, jN15, jh15, -⟩, jF15⟩ := sgEn_5 l Z a0 hw r0 (4 : Int32) (.unset) w_CS w_F x0 x1 x2 x3 x4 h1 n0 (Nat.le_trans Z0 E1.1) f3 hcs f11 hwF f4 f5 f6 f7 hch_x0 hch_x1 hch_x2 hch_x3 hch_x4 One.u f8 X10 hx hZ1 hby hml hown1 Bd.returns Bd.notSynchronized e10 N10 hS1 hk1 Hc1 Rc1 hh
    exact ⟨s15, _, k14 _ ja15, jb15, jc15, v15, L15, rfl, ⟨hv15.trans (by simp [own_e4, own_sc1, own_sc2, own_sc3, own_sc4, own_sc5, own_q0, own_q1, own_q2, own_q3, own_q4, own_q5, hc33_12]), jN15, (by rw [jh15]; exact ((Keep.refl h0 []).ext E1)), trivial⟩, jF15⟩
  · obtain ⟨fs, hr, hrun, hended, hRW⟩ := X10.leaveW hS1 (by rw [e10]; exact hk1) (v := some (.int (-1))) (fun h => by rw [Bd.returns] at h; cases h)
    have hCE : CHr Z own_EL s.vm s.heap T10.vm T10.heap := by rw [hh, e10]; exact Rc1.trans (CHv.at X10 hZ1 (own_ew hw) Hc1)
    refine ⟨_, _, k13 _ ?_, hrun, hended, _, _, rfl, ?_, hCE, hRW.1, hRW.2.1, hRW.2.2.1, hRW.2.2.2.mono (by decide) (by decide)⟩
    · refine XS.icmpNo X10.here hx rfl (hb hby d8_33) rfl (feq hc33_12).1 ?_
      refine oIc X10 hx hby d8_36 ?_
      exact retI X10 hx Bd.returns (hb hby d8_37) hr
    · show Q_En_4 Z _ _ _ _ _ _ _ _ h0 n0 _ T10.heap _
      rw [e10]
      exact ⟨(by simp [own_e4, own_sc1, own_sc2, own_sc3, own_sc4, own_sc5, own_q0, own_q1, own_q2, own_q3, own_q4, own_q5, hc33_12]), N10, ((Keep.refl h0 []).ext E1), trivial⟩
def Q_En_5 (Z : State) (r0 : Addr) (w_CS : Int32) (w_F : Value) (x0 : Int32) (x1 : Int32) (x2 : Int32) (x3 : Int32) (x4 : Int32) (h0 : Heap) (n0 : Nat) (v : Option Value) (h : Heap) (L : List Loc) : Prop := v = some (.int (own_e5 x0 x1 x2 x3 x4)) ∧ Fr n0 L ∧ Keep h0 h [] ∧ True
set_option maxRecDepth 65536 in
set_option maxHeartbeats 40000000 in
theorem rmEn_5 (l : Launch) (Z : State) (a0 : Array Value) (hw : ∀ d ∈ tables_1, d.before a0 Z = true) (ws : List Jvm.Cond) (r0 : Addr) (w_CS : Int32) (w_F : Value) (x0 : Int32) (x1 : Int32) (x2 : Int32) (x3 : Int32) (x4 : Int32) (h0 : Heap) (n0 : Nat) (Z0 : n0 ≤ h0.size) (S_CS : Sta Z h0 cS0 cS13 "Z" (.int w_CS)) (hcs : ¬ (w_CS = (0 : Int32))) (S_F : Sta Z h0 cS4 cS14 cS5 w_F) (hwF : w_F.isRef = true) (S_AD : Sta Z h0 cS1 cS6 "Z" (.int 1)) (S_HI : Sta Z h0 cS1 cS7 "I" (.int 0)) (S_LO : Sta Z h0 cS1 cS8 "I" (.int 8)) (P_r0 : own_S5 Z h0 r0 x0 x1 x2 x3 x4) (hch_x0 : own_ch x0) (hch_x1 : own_ch x1) (hch_x2 : own_ch x2) (hch_x3 : own_ch x3) (hch_x4 : own_ch x4) (E_r0 : Exa Z h0 r0 cS0) :
    MetFree l (⟨cS3, "end", cS17⟩ : MethodName) (head1 (Jvm.Cond.code (⟨cS3, "end", cS17⟩ : MethodName) prog_3_method_2_code 4 (some .int) :: ws) ({ frames := 5, cells := 2, slots := 12, locals := 70 } : Room)) (fun a U => a = #[(.ref r0), (.int 5)] ∧ Z.Warmed39 U.vm ∧ U.heap = h0 ∧ CHv Z own_EL U.vm h0) (fun _ _ _ _ _ => True) (fun _ U o U' => ∃ v L, o = .returned v ∧ Q_En_5 Z r0 w_CS w_F x0 x1 x2 x3 x4 h0 n0 v U'.heap L ∧ CHr Z own_EL U.vm U.heap U'.vm U'.heap ∧ ReturnedEndW U o U' L 2 12) := by
  refine MetFree.of_bodySF (plainFor_of_name pn_com_example_strict_lock_strictlock_EntityTags) hisR ?_
  intro p e s m args below meth c s₁ Bd hml0 hP hK
  obtain ⟨rfl, hZ, hh, H0c⟩ := hP
  have hx := Bd.exec
  have hby := Bd.bytes
  have hml : c.maxLocals = 4 := hml0
  have hown : (s.setVm s.vm).vm.findClass cS3 = some m.cls := findClass_of_methodNamed Bd.named
  have hnm := (name_of_methodNamed Bd.named Bd.method).1
  have X0 : Stand p l e ({ frames := 5, cells := 2, slots := 12, locals := 70 } : Room) (s.setVm s.vm) m #[(.ref r0), (.int 5)] below meth c s₁ [] 0 0 := Stand.of_body Bd
  have e0 : s₁.heap = h0 := by rw [← hh, Bd.state]; rfl
  have N0 := Fr.nil n0
  have k0 : ∀ t, OwnS p e below s₁ (mkF m 0 #[rv r0, iv 5, .unset, .unset] []) t → OwnS p e below s₁ (entryFrame m #[(.ref r0), (.int 5)] 4) t := fun t k => castTop (ef_8 m r0 (5 : Int32)) k
  have hZ : Z.Warmed39 (s.setVm s.vm).vm := hZ
  have hS0 : s.Since s.vm h0.size := (State.WarmedH.refl s).since _
  have hk0 : h0.size ≤ h0.size := Nat.le_refl _
  have R0c := CHr.refl H0c
  obtain ⟨a1, T1, h1, k11, bb1, kk1, X1, e1, E1, hS1, hk1, hZ1, hown1, EA1, FC1, FV1, V1, -, -, CR1, LT1, ne1, st1⟩ := ldcCH X0 hx hZ hown (own_at hw 39 rfl) (own_ws hw) e0 hS0 hk0 (own_ew hw) (own_mem0) H0c (vs := [(.int 87), (.int 47)]) (z := 2) ⟨by decide, rfl⟩ (by decide) rfl (g := (mkF m 1 #[rv r0, iv 5, .unset, .unset] [(.ref r0)])) rfl (hb hby d8_1) (n := 8) (by decide) (by decide) (by decide) (by decide)
  have Hc1 := CR1.1
  have Rc1 := R0c.trans CR1
  have f3 := (S_CS.ext E1)
  have f4 := (S_AD.ext E1)
  have f5 := (S_HI.ext E1)
  have f6 := (S_LO.ext E1)
  have f7 := (own_S5_ext P_r0 E1)
  have f8 := (E_r0.ext E1)
  obtain ⟨cq2, kq2, q2a, q2b, q2c⟩ := isOf hZ1 e1 f8
  obtain ⟨_, _, ⟨T2, L2, j2, i2⟩, -, X2, ⟨Lc2, hQ2, l2, y2, z2⟩, st2⟩ := X1.virtualBack hx (y := (⟨cS0, "startsWith", cS9⟩ : MethodName)) (z := (⟨cS0, "startsWith", cS9⟩ : MethodName)) hown1 (mvT hZ1 (own_at hw 42 rfl)) (mvT hZ1 (own_at hw 43 rfl)) (notFace_of_selects (args := #[]) (mvT hZ1 (own_at hw 45 rfl))) (mvT hZ1 (own_at hw 45 rfl)) (mvT hZ1 (own_at hw 44 rfl)) (by decide) (backOf (W := 0) (rmSW_5 l Z a0 hw [] r0 a1 w_CS bb1 kk1 x0 x1 x2 x3 x4 h1 n0 (Nat.le_trans Z0 E1.1) f3 hcs f4 f5 f6 f7 EA1 FC1 FV1 V1 hch_x0 hch_x1 hch_x2 hch_x3 hch_x4 f8) hZ1 (own_at hw 46 rfl) (own_at hw 8 rfl) (by decide) (by decide)) q2a q2c (g := (mkF m 4 #[rv r0, iv 5, .unset, .unset] [(.int 5), (.ref a1), (.ref r0)])) rfl (by rw [hml]; rfl) (Steps.refl _) (argsL := [(.ref a1), (.int 5)]) (rest := []) (lenOf pd_19 rfl) rfl (Nat.le_refl _) (hb hby d8_4) (fun _ _ => ⟨rfl, e1, (by decide : 2 + 0 ≤ _), (by decide : 12 + 0 ≤ _)⟩)
  dsimp only [Pt.U, Pt.locs, Pt.cells, Pt.slots] at X2 l2 y2 z2 st2 hQ2
  subst l2 y2 z2
  obtain ⟨rfl, N2q, e2, -⟩ := hQ2
  have N2 := Fr.app N0 N2q
  obtain ⟨cq9, kq9, q9a, q9b, q9c⟩ := isOf hZ1 e2 f8
  obtain ⟨_, _, ⟨T9, L9, j9, i9⟩, -, X9, ⟨Lc9, hQ9, l9, y9, z9⟩, st9⟩ := X2.virtualBack hx (y := (⟨cS0, "length", "()I"⟩ : MethodName)) (z := (⟨cS0, "length", "()I"⟩ : MethodName)) hown1 (mvT hZ1 (own_at hw 61 rfl)) (mvT hZ1 (own_at hw 48 rfl)) (notFace_of_selects (args := #[]) (mvT hZ1 (own_at hw 50 rfl))) (mvT hZ1 (own_at hw 50 rfl)) (mvT hZ1 (own_at hw 49 rfl)) (by decide) (backOf (W := 1) (rmLen_5 l Z a0 hw [] r0 w_CS x0 x1 x2 x3 x4 h1 n0 (Nat.le_trans Z0 E1.1) f3 hcs f7) hZ1 (own_at hw 51 rfl) (own_at hw 8 rfl) (by decide) (by decide)) q9a q9c (g := (mkF m 20 #[rv r0, iv 5, iv 5, .unset] [(.ref r0), (.int 5)])) rfl (by rw [hml]; rfl) (Steps.refl _) (argsL := []) (rest := [(.int 5)]) (lenOf pd_16 rfl) rfl (Nat.le_refl _) (hb hby d8_20) (fun _ _ => ⟨rfl, e2, (by decide : 2 + 0 ≤ _), (by decide : 12 + 0 ≤ _)⟩)
  dsimp only [Pt.U, Pt.locs, Pt.cells, Pt.slots] at X9 l9 y9 z9 st9 hQ9
  subst l9 y9 z9
  obtain ⟨rfl, N9q, e9⟩ := hQ9
  have N9 := Fr.app N2 N9q
  obtain ⟨fs, hr, hrun, hended, hRW⟩ := X9.leaveW hS1 (by rw [e9]; exact hk1) (v := some (.int (-1))) (fun h => by rw [Bd.returns] at h; cases h)
  have hCE : CHr Z own_EL s.vm s.heap T9.vm T9.heap := by rw [hh, e9]; exact Rc1.trans (CHv.at X9 hZ1 (own_ew hw) Hc1)
  refine ⟨_, _, k0 _ ?_, hrun, hended, _, _, rfl, ?_, hCE, hRW.1, hRW.2.1, hRW.2.2.1, hRW.2.2.2.mono (by decide) (by decide)⟩
  · show OwnS p e below s₁ (mkF m 0 #[rv r0, iv 5, .unset, .unset] []) _
    refine oAn X0 hx hby d8_0 rfl rfl ?_
    refine st1 _ ?_
    refine oIn X1 hx hby d8_3 rfl ?_
    refine st2.trans ?_
    refine XS.ifYes X2.here hx rfl (pc0 := 7) (pc' := 16) rfl (hb hby d8_7) rfl ((if0 _ _).trans (teq (by decide : (0 : Int32) = (0 : Int32))).1) (by decide) (by decide) ?_
    refine oIn X2 hx hby d8_16 rfl ?_
    refine XS.istoreN X2.here hx rfl (hb hby d8_17) rfl (l' := #[rv r0, iv 5, iv 5, .unset]) rfl ?_
    refine oIn X2 hx hby d8_18 rfl (oAn X2 hx hby d8_19 rfl rfl ?_)
    refine st9.trans ?_
    refine XS.icmpYes X9.here hx rfl (pc0 := 23) (pc' := 36) rfl (hb hby d8_23) rfl (flt (by decide : ¬ ((5 : Int32) < (5 : Int32)))).2.1 (by decide) (by decide) ?_
    refine oIc X9 hx hby d8_36 ?_
    exact retI X9 hx Bd.returns (hb hby d8_37) hr
  · show Q_En_5 Z _ _ _ _ _ _ _ _ h0 n0 _ T9.heap _
    rw [e9]
    exact ⟨(by simp [own_e5, own_sc1, own_sc2, own_sc3, own_sc4, own_sc5, own_q0, own_q1, own_q2, own_q3, own_q4, own_q5]), N9, ((Keep.refl h0 []).ext E1), trivial⟩
theorem pd_20 : parseMethodDescriptor "([C)V" = some ⟨[(.array .char)], none⟩ := by decide +kernel
theorem pd_21 : parseMethodDescriptor cS17 = some ⟨[(.object cS0), .int], some .int⟩ := by decide +kernel
theorem ef_0 (m : MethodId) (x0 : Int32) (x1 : Int32) (x2 : Int32) (x3 : Int32) (x4 : Int32) (x5 : Int32) : entryFrame m #[(.int x0), (.int x1), (.int x2), (.int x3), (.int x4), (.int x5)] maxLocals = mkF m 0 #[.val (.int x0), .val (.int x1), .val (.int x2), .val (.int x3), .val (.int x4), .val (.int x5), .unset, .unset] [] := by first | (simp [entryFrame, mkF, argsToLocals, Value.category, maxLocals]; done) | rfl
def Q_0 (Z : State) (p0 : Int32) (p1 : Int32) (p2 : Int32) (p3 : Int32) (p4 : Int32) (p5 : Int32) (w_CS : Int32) (w_F : Value) (h0 : Heap) (n0 : Nat) (v : Option Value) (h : Heap) (L : List Loc) : Prop := v = some (.int 1) ∧ Fr n0 L ∧ True
set_option maxRecDepth 65536 in
set_option maxHeartbeats 40000000 in
theorem rm0 (l : Launch) (Z : State) (a0 : Array Value) (hw : ∀ d ∈ tables_1, d.before a0 Z = true) (ws : List Jvm.Cond) (p0 : Int32) (p1 : Int32) (p2 : Int32) (p3 : Int32) (p4 : Int32) (p5 : Int32) (w_CS : Int32) (w_F : Value) (h0 : Heap) (n0 : Nat) (Z0 : n0 ≤ h0.size) (S_CS : Sta Z h0 cS0 cS13 "Z" (.int w_CS)) (hcs : ¬ (w_CS = (0 : Int32))) (S_F : Sta Z h0 cS4 cS14 cS5 w_F) (hwF : w_F.isRef = true) (S_AD : Sta Z h0 cS1 cS6 "Z" (.int 1)) (S_HI : Sta Z h0 cS1 cS7 "I" (.int 0)) (S_LO : Sta Z h0 cS1 cS8 "I" (.int 8)) :
    MetFree l x (head1 (Jvm.Cond.code x code maxLocals ret :: ws) room_1) (fun a U => a = #[(.int p0), (.int p1), (.int p2), (.int p3), (.int p4), (.int p5)] ∧ Z.Warmed39 U.vm ∧ U.heap = h0 ∧ CHv Z own_EL U.vm h0) (fun _ _ _ _ _ => True) (fun _ U o U' => ∃ v L, o = .returned v ∧ Q_0 Z p0 p1 p2 p3 p4 p5 w_CS w_F h0 n0 v U'.heap L ∧ CHr Z own_EL U.vm U.heap U'.vm U'.heap ∧ ReturnedEndW U o U' L room_1.cells room_1.slots) := by
  refine MetFree.of_bodySF (plainFor_of_name pn_com_example_strict_lock_strictlock_EntityTagsEndPinLaw) hisR ?_
  intro p e s m args below meth c s₁ Bd hml0 hP hK
  obtain ⟨rfl, hZ, hh, H0c⟩ := hP
  have hx := Bd.exec
  have hby := Bd.bytes
  have hml : c.maxLocals = 8 := hml0
  have hown : (s.setVm s.vm).vm.findClass cS2 = some m.cls := findClass_of_methodNamed Bd.named
  have hnm := (name_of_methodNamed Bd.named Bd.method).1
  have X0 : Stand p l e room_1 (s.setVm s.vm) m #[(.int p0), (.int p1), (.int p2), (.int p3), (.int p4), (.int p5)] below meth c s₁ [] 0 0 := Stand.of_body Bd
  have e0 : s₁.heap = h0 := by rw [← hh, Bd.state]; rfl
  have N0 := Fr.nil n0
  have k0 : ∀ t, OwnS p e below s₁ (mkF m 0 #[iv p0, iv p1, iv p2, iv p3, iv p4, iv p5, .unset, .unset] []) t → OwnS p e below s₁ (entryFrame m #[(.int p0), (.int p1), (.int p2), (.int p3), (.int p4), (.int p5)] maxLocals) t := fun t k => castTop (ef_0 m p0 p1 p2 p3 p4 p5) k
  have hZ : Z.Warmed39 (s.setVm s.vm).vm := hZ
  have hS0 : s.Since s.vm h0.size := (State.WarmedH.refl s).since _
  have hk0 : h0.size ≤ h0.size := Nat.le_refl _
  have R0c := CHr.refl H0c
  obtain ⟨T1, h1, k1, X1, e1, E1, A1, EA1, st1⟩ := newPE X0 hx hZ (own_at hw 0 rfl) e0 (g := (mkF m 1 #[iv p0, iv p1, iv p2, iv p3, iv p4, iv p5, .unset, .unset] [(.int 5)])) rfl (hb hby at_1) rfl (by decide) (cap := 5) (by decide) (by decide) (by decide) (by decide) (ad := "[C") (by decide)
  obtain ⟨b1, g1⟩ : ∃ z, z = h0.size := ⟨_, rfl⟩
  rw [← g1] at A1 EA1 st1
  have g_b1 : n0 ≤ b1 := Nat.le_trans Z0 (Nat.le_of_eq g1.symm)
  have sz_b1 : h0.size ≤ b1 := Nat.le_trans (Keep.refl h0 []).1 (Nat.le_of_eq g1.symm)
  have Hc1 := CHv.ext E1 H0c
  have Rc1 := R0c.trans (CHr.ext E1 H0c)
  have hk1 := Nat.le_trans hk0 E1.1
  have Sf1_b1 := Safe.ext (EL := own_EL) E1 H0c (Safe.new (Nat.le_of_eq g1.symm))
  have V_b1 : Arv Z h1 b1 k1 .char (5 : Int32) [(.int 0), (.int 0), (.int 0), (.int 0), (.int 0)] (.int 0) := (Arv.new A1 (by decide)).pad (pad_rep [] (.int 0) 5)
  obtain ⟨_, _, ⟨T2, L2, j2, i2⟩, -, X2, ⟨Lc2, hQ2, l2, y2, z2⟩, st2⟩ := Jvm.LawKit.callS X1 hx (y := (⟨cS2, "pick", "(I)C"⟩ : MethodName)) hown (mvT hZ (own_at hw 1 rfl)) (mvT hZ (own_at hw 2 rfl)) (mvT hZ (own_at hw 3 rfl)) (mvT hZ (own_at hw 4 rfl)) (by decide) (backOf (W := 2) (rmPk l Z a0 hw [] p0 h1 n0 (Nat.le_trans Z0 E1.1) ) hZ (own_at hw 4 rfl) (own_at hw 3 rfl) (by decide) (by decide)) (g := (mkF m 9 #[iv p0, iv p1, iv p2, iv p3, iv p4, iv p5, rv b1, .unset] [(.int p0), (.int 0), (.ref b1)])) rfl (by rw [hml]; rfl) (argsL := [(.int p0)]) (rest := [(.int 0), (.ref b1)]) (lenOf pd_18 rfl) rfl (Nat.le_refl _) (hb hby at_9) (fun _ _ => ⟨rfl, e1, (by decide : 1 + 0 ≤ _), (by decide : 5 + 0 ≤ _)⟩)
  dsimp only [Pt.U, Pt.locs, Pt.cells, Pt.slots] at X2 l2 y2 z2 st2 hQ2
  subst l2 y2 z2
  obtain ⟨rr_2, rfl, N2q, e2, p2_0⟩ := hQ2
  have N2 := Fr.app N0 N2q
  obtain ⟨cl_z3, Ar_z3, q_z3, S_z3, N_z3, H_z3, G_z3⟩ := id V_b1
  have hin4 : ¬ ((0 : Int32) < 0 ∨ cl_z3.slots.size ≤ ((0 : Int32)).toNatClampNeg) := inb_of S_z3 ⟨by decide, by decide⟩
  obtain ⟨T5, h5, X5, e5, W5, st5⟩ := stC X2 hx hZ e2 Ar_z3 (j := (0 : Int32)) hin4 (g := (mkF m 12 #[iv p0, iv p1, iv p2, iv p3, iv p4, iv p5, rv b1, .unset] [(.int rr_2), (.int 0), (.ref b1)])) rfl rfl (hb hby at_12)
  have Hc5 := CHv.wr W5 Sf1_b1 Hc1
  have Rc5 := Rc1.trans (CHr.wr W5 Sf1_b1 Hc1)
  have hk5 := Nat.le_trans hk1 (Keep.of_wr W5).1
  have Sf5_b1 := Safe.wr W5 Sf1_b1 Hc1 Sf1_b1
  have V5 : Arv Z h5 b1 k1 .char (5 : Int32) [(.int (rr_2.toUInt32.toUInt16.toUInt32.toInt32)), (.int 0), (.int 0), (.int 0), (.int 0)] (.int 0) := Arv.set Ar_z3 q_z3 S_z3 N_z3 H_z3 G_z3 (fits_nar_char _) W5 0 rfl (Nat.le_of_ble_eq_true rfl)
  have N5 := Fr.snoc X5 N2 g_b1
  obtain ⟨_, _, ⟨T6, L6, j6, i6⟩, -, X6, ⟨Lc6, hQ6, l6, y6, z6⟩, st6⟩ := Jvm.LawKit.callS X5 hx (y := (⟨cS2, "pick", "(I)C"⟩ : MethodName)) hown (mvT hZ (own_at hw 1 rfl)) (mvT hZ (own_at hw 2 rfl)) (mvT hZ (own_at hw 3 rfl)) (mvT hZ (own_at hw 4 rfl)) (by decide) (backOf (W := 2) (rmPk l Z a0 hw [] p1 h5 n0 (Nat.le_trans (Nat.le_trans Z0 E1.1) (Keep.of_wr W5).1) ) hZ (own_at hw 4 rfl) (own_at hw 3 rfl) (by decide) (by decide)) (g := (mkF m 17 #[iv p0, iv p1, iv p2, iv p3, iv p4, iv p5, rv b1, .unset] [(.int p1), (.int 1), (.ref b1)])) rfl (by rw [hml]; rfl) (argsL := [(.int p1)]) (rest := [(.int 1), (.ref b1)]) (lenOf pd_18 rfl) rfl (Nat.le_refl _) (hb hby at_17) (fun _ _ => ⟨rfl, e5, (by decide : 1 + 0 ≤ _), (by decide : 5 + 0 ≤ _)⟩)
  dsimp only [Pt.U, Pt.locs, Pt.cells, Pt.slots] at X6 l6 y6 z6 st6 hQ6
  subst l6 y6 z6
  obtain ⟨rr_6, rfl, N6q, e6, p6_0⟩ := hQ6
  have N6 := Fr.app N5 N6q
  obtain ⟨cl_z7, Ar_z7, q_z7, S_z7, N_z7, H_z7, G_z7⟩ := id V5
  have hin8 : ¬ ((1 : Int32) < 0 ∨ cl_z7.slots.size ≤ ((1 : Int32)).toNatClampNeg) := inb_of S_z7 ⟨by decide, by decide⟩
  obtain ⟨T9, h9, X9, e9, W9, st9⟩ := stC X6 hx hZ e6 Ar_z7 (j := (1 : Int32)) hin8 (g := (mkF m 20 #[iv p0, iv p1, iv p2, iv p3, iv p4, iv p5, rv b1, .unset] [(.int rr_6), (.int 1), (.ref b1)])) rfl rfl (hb hby at_20)
  have Hc9 := CHv.wr W9 Sf5_b1 Hc5
  have Rc9 := Rc5.trans (CHr.wr W9 Sf5_b1 Hc5)
  have hk9 := Nat.le_trans hk5 (Keep.of_wr W9).1
  have Sf9_b1 := Safe.wr W9 Sf5_b1 Hc5 Sf5_b1
  have V9 : Arv Z h9 b1 k1 .char (5 : Int32) [(.int (rr_2.toUInt32.toUInt16.toUInt32.toInt32)), (.int (rr_6.toUInt32.toUInt16.toUInt32.toInt32)), (.int 0), (.int 0), (.int 0)] (.int 0) := Arv.set Ar_z7 q_z7 S_z7 N_z7 H_z7 G_z7 (fits_nar_char _) W9 1 rfl (Nat.le_of_ble_eq_true rfl)
  have N9 := Fr.snoc X9 N6 g_b1
  obtain ⟨_, _, ⟨T10, L10, j10, i10⟩, -, X10, ⟨Lc10, hQ10, l10, y10, z10⟩, st10⟩ := Jvm.LawKit.callS X9 hx (y := (⟨cS2, "pick", "(I)C"⟩ : MethodName)) hown (mvT hZ (own_at hw 1 rfl)) (mvT hZ (own_at hw 2 rfl)) (mvT hZ (own_at hw 3 rfl)) (mvT hZ (own_at hw 4 rfl)) (by decide) (backOf (W := 2) (rmPk l Z a0 hw [] p2 h9 n0 (Nat.le_trans (Nat.le_trans (Nat.le_trans Z0 E1.1) (Keep.of_wr W5).1) (Keep.of_wr W9).1) ) hZ (own_at hw 4 rfl) (own_at hw 3 rfl) (by decide) (by decide)) (g := (mkF m 25 #[iv p0, iv p1, iv p2, iv p3, iv p4, iv p5, rv b1, .unset] [(.int p2), (.int 2), (.ref b1)])) rfl (by rw [hml]; rfl) (argsL := [(.int p2)]) (rest := [(.int 2), (.ref b1)]) (lenOf pd_18 rfl) rfl (Nat.le_refl _) (hb hby at_25) (fun _ _ => ⟨rfl, e9, (by decide : 1 + 0 ≤ _), (by decide : 5 + 0 ≤ _)⟩)
  dsimp only [Pt.U, Pt.locs, Pt.cells, Pt.slots] at X10 l10 y10 z10 st10 hQ10
  subst l10 y10 z10
  obtain ⟨rr_10, rfl, N10q, e10, p10_0⟩ := hQ10
  have N10 := Fr.app N9 N10q
  obtain ⟨cl_z11, Ar_z11, q_z11, S_z11, N_z11, H_z11, G_z11⟩ := id V9
  have hin12 : ¬ ((2 : Int32) < 0 ∨ cl_z11.slots.size ≤ ((2 : Int32)).toNatClampNeg) := inb_of S_z11 ⟨by decide, by decide⟩
  obtain ⟨T13, h13, X13, e13, W13, st13⟩ := stC X10 hx hZ e10 Ar_z11 (j := (2 : Int32)) hin12 (g := (mkF m 28 #[iv p0, iv p1, iv p2, iv p3, iv p4, iv p5, rv b1, .unset] [(.int rr_10), (.int 2), (.ref b1)])) rfl rfl (hb hby at_28)
  have Hc13 := CHv.wr W13 Sf9_b1 Hc9
  have Rc13 := Rc9.trans (CHr.wr W13 Sf9_b1 Hc9)
  have hk13 := Nat.le_trans hk9 (Keep.of_wr W13).1
  have Sf13_b1 := Safe.wr W13 Sf9_b1 Hc9 Sf9_b1
  have V13 : Arv Z h13 b1 k1 .char (5 : Int32) [(.int (rr_2.toUInt32.toUInt16.toUInt32.toInt32)), (.int (rr_6.toUInt32.toUInt16.toUInt32.toInt32)), (.int (rr_10.toUInt32.toUInt16.toUInt32.toInt32)), (.int 0), (.int 0)] (.int 0) := Arv.set Ar_z11 q_z11 S_z11 N_z11 H_z11 G_z11 (fits_nar_char _) W13 2 rfl (Nat.le_of_ble_eq_true rfl)
  have N13 := Fr.snoc X13 N10 g_b1
  obtain ⟨_, _, ⟨T14, L14, j14, i14⟩, -, X14, ⟨Lc14, hQ14, l14, y14, z14⟩, st14⟩ := Jvm.LawKit.callS X13 hx (y := (⟨cS2, "pick", "(I)C"⟩ : MethodName)) hown (mvT hZ (own_at hw 1 rfl)) (mvT hZ (own_at hw 2 rfl)) (mvT hZ (own_at hw 3 rfl)) (mvT hZ (own_at hw 4 rfl)) (by decide) (backOf (W := 2) (rmPk l Z a0 hw [] p3 h13 n0 (Nat.le_trans (Nat.le_trans (Nat.le_trans (Nat.le_trans Z0 E1.1) (Keep.of_wr W5).1) (Keep.of_wr W9).1) (Keep.of_wr W13).1) ) hZ (own_at hw 4 rfl) (own_at hw 3 rfl) (by decide) (by decide)) (g := (mkF m 33 #[iv p0, iv p1, iv p2, iv p3, iv p4, iv p5, rv b1, .unset] [(.int p3), (.int 3), (.ref b1)])) rfl (by rw [hml]; rfl) (argsL := [(.int p3)]) (rest := [(.int 3), (.ref b1)]) (lenOf pd_18 rfl) rfl (Nat.le_refl _) (hb hby at_33) (fun _ _ => ⟨rfl, e13, (by decide : 1 + 0 ≤ _), (by decide : 5 + 0 ≤ _)⟩)
  dsimp only [Pt.U, Pt.locs, Pt.cells, Pt.slots] at X14 l14 y14 z14 st14 hQ14
  subst l14 y14 z14
  obtain ⟨rr_14, rfl, N14q, e14, p14_0⟩ := hQ14
  have N14 := Fr.app N13 N14q
  obtain ⟨cl_z15, Ar_z15, q_z15, S_z15, N_z15, H_z15, G_z15⟩ := id V13
  have hin16 : ¬ ((3 : Int32) < 0 ∨ cl_z15.slots.size ≤ ((3 : Int32)).toNatClampNeg) := inb_of S_z15 ⟨by decide, by decide⟩
  obtain ⟨T17, h17, X17, e17, W17, st17⟩ := stC X14 hx hZ e14 Ar_z15 (j := (3 : Int32)) hin16 (g := (mkF m 36 #[iv p0, iv p1, iv p2, iv p3, iv p4, iv p5, rv b1, .unset] [(.int rr_14), (.int 3), (.ref b1)])) rfl rfl (hb hby at_36)
  have Hc17 := CHv.wr W17 Sf13_b1 Hc13
  have Rc17 := Rc13.trans (CHr.wr W17 Sf13_b1 Hc13)
  have hk17 := Nat.le_trans hk13 (Keep.of_wr W17).1
  have Sf17_b1 := Safe.wr W17 Sf13_b1 Hc13 Sf13_b1
  have V17 : Arv Z h17 b1 k1 .char (5 : Int32) [(.int (rr_2.toUInt32.toUInt16.toUInt32.toInt32)), (.int (rr_6.toUInt32.toUInt16.toUInt32.toInt32)), (.int (rr_10.toUInt32.toUInt16.toUInt32.toInt32)), (.int (rr_14.toUInt32.toUInt16.toUInt32.toInt32)), (.int 0)] (.int 0) := Arv.set Ar_z15 q_z15 S_z15 N_z15 H_z15 G_z15 (fits_nar_char _) W17 3 rfl (Nat.le_of_ble_eq_true rfl)
  have N17 := Fr.snoc X17 N14 g_b1
  obtain ⟨_, _, ⟨T18, L18, j18, i18⟩, -, X18, ⟨Lc18, hQ18, l18, y18, z18⟩, st18⟩ := Jvm.LawKit.callS X17 hx (y := (⟨cS2, "pick", "(I)C"⟩ : MethodName)) hown (mvT hZ (own_at hw 1 rfl)) (mvT hZ (own_at hw 2 rfl)) (mvT hZ (own_at hw 3 rfl)) (mvT hZ (own_at hw 4 rfl)) (by decide) (backOf (W := 2) (rmPk l Z a0 hw [] p4 h17 n0 (Nat.le_trans (Nat.le_trans (Nat.le_trans (Nat.le_trans (Nat.le_trans Z0 E1.1) (Keep.of_wr W5).1) (Keep.of_wr W9).1) (Keep.of_wr W13).1) (Keep.of_wr W17).1) ) hZ (own_at hw 4 rfl) (own_at hw 3 rfl) (by decide) (by decide)) (g := (mkF m 42 #[iv p0, iv p1, iv p2, iv p3, iv p4, iv p5, rv b1, .unset] [(.int p4), (.int 4), (.ref b1)])) rfl (by rw [hml]; rfl) (argsL := [(.int p4)]) (rest := [(.int 4), (.ref b1)]) (lenOf pd_18 rfl) rfl (Nat.le_refl _) (hb hby at_42) (fun _ _ => ⟨rfl, e17, (by decide : 1 + 0 ≤ _), (by decide : 5 + 0 ≤ _)⟩)
  dsimp only [Pt.U, Pt.locs, Pt.cells, Pt.slots] at X18 l18 y18 z18 st18 hQ18
  subst l18 y18 z18
  obtain ⟨rr_18, rfl, N18q, e18, p18_0⟩ := hQ18
  have N18 := Fr.app N17 N18q
  obtain ⟨cl_z19, Ar_z19, q_z19, S_z19, N_z19, H_z19, G_z19⟩ := id V17
  have hin20 : ¬ ((4 : Int32) < 0 ∨ cl_z19.slots.size ≤ ((4 : Int32)).toNatClampNeg) := inb_of S_z19 ⟨by decide, by decide⟩
  obtain ⟨T21, h21, X21, e21, W21, st21⟩ := stC X18 hx hZ e18 Ar_z19 (j := (4 : Int32)) hin20 (g := (mkF m 45 #[iv p0, iv p1, iv p2, iv p3, iv p4, iv p5, rv b1, .unset] [(.int rr_18), (.int 4), (.ref b1)])) rfl rfl (hb hby at_45)
  have Hc21 := CHv.wr W21 Sf17_b1 Hc17
  have Rc21 := Rc17.trans (CHr.wr W21 Sf17_b1 Hc17)
  have hk21 := Nat.le_trans hk17 (Keep.of_wr W21).1
  have Sf21_b1 := Safe.wr W21 Sf17_b1 Hc17 Sf17_b1
  have V21 : Arv Z h21 b1 k1 .char (5 : Int32) [(.int (rr_2.toUInt32.toUInt16.toUInt32.toInt32)), (.int (rr_6.toUInt32.toUInt16.toUInt32.toInt32)), (.int (rr_10.toUInt32.toUInt16.toUInt32.toInt32)), (.int (rr_14.toUInt32.toUInt16.toUInt32.toInt32)), (.int (rr_18.toUInt32.toUInt16.toUInt32.toInt32))] (.int 0) := Arv.set Ar_z19 q_z19 S_z19 N_z19 H_z19 G_z19 (fits_nar_char _) W21 4 rfl (Nat.le_of_ble_eq_true rfl)
  have N21 := Fr.snoc X21 N18 g_b1
  have f22 := (((((EA1.wr W5).wr W9).wr W13).wr W17).wr W21)
  obtain ⟨T23, h23, X23, e23, E23, A23, D23, -, st23⟩ := newO X21 hx hZ hown (own_at hw 6 rfl) (own_at hw 7 rfl) (own_at hw 8 rfl) e21 (g := (mkF m 56 #[iv p0, iv p1, iv p2, iv p3, iv p4, iv p5, rv b1, iv ((p5 &&& (2147483647 : Int32)) % (6 : Int32))] [])) rfl (hb hby at_56) (by decide) (by decide)
  obtain ⟨b23, g23⟩ : ∃ z, z = h21.size := ⟨_, rfl⟩
  rw [← g23] at A23 D23 st23
  have g_b23 : n0 ≤ b23 := Nat.le_trans (Nat.le_trans (Nat.le_trans (Nat.le_trans (Nat.le_trans (Nat.le_trans (Nat.le_trans Z0 E1.1) (Keep.of_wr W5).1) (Keep.of_wr W9).1) (Keep.of_wr W13).1) (Keep.of_wr W17).1) (Keep.of_wr W21).1) (Nat.le_of_eq g23.symm)
  have sz_b23 : h0.size ≤ b23 := Nat.le_trans (((((((Keep.refl h0 []).ext E1).wr W5 (Or.inr sz_b1)).wr W9 (Or.inr sz_b1)).wr W13 (Or.inr sz_b1)).wr W17 (Or.inr sz_b1)).wr W21 (Or.inr sz_b1)).1 (Nat.le_of_eq g23.symm)
  have Hc23 := CHv.ext E23 Hc21
  have Rc23 := Rc21.trans (CHr.ext E23 Hc21)
  have hk23 := Nat.le_trans hk21 E23.1
  have Sf23_b1 := Safe.ext E23 Hc21 Sf21_b1
  have Sf23_b23 := Safe.ext (EL := own_EL) E23 Hc21 (Safe.new (Nat.le_of_eq g23.symm))
  have F_coder_b23 : Fld Z h23 b23 cS0 "coder" "B" (.int 0) := D23 (Or.inr (own_at hw 32 rfl)) (ty := .byte) (by decide)
  have F_value_b23 : Fld Z h23 b23 cS0 "value" "[B" .null := D23 (Or.inr (own_at hw 34 rfl)) (ty := (.array .byte)) (by decide)
  have f25 := (((((((S_CS.ext E1).wr W5).wr W9).wr W13).wr W17).wr W21).ext E23)
  have f26 := (((((((S_AD.ext E1).wr W5).wr W9).wr W13).wr W17).wr W21).ext E23)
  have f27 := (((((((S_HI.ext E1).wr W5).wr W9).wr W13).wr W17).wr W21).ext E23)
  have f28 := (((((((S_LO.ext E1).wr W5).wr W9).wr W13).wr W17).wr W21).ext E23)
  have f29 := (V21.ext E23)
  obtain ⟨_, _, ⟨T24, L24, j24, i24⟩, -, X24, ⟨Lc24, hQ24, l24, y24, z24⟩, st24⟩ := X23.specialBack hx (y := (⟨cS0, "<init>", "([C)V"⟩ : MethodName)) rfl hown (mvT hZ (own_at hw 9 rfl)) (mvT hZ (own_at hw 10 rfl)) (mvT hZ (own_at hw 11 rfl)) (by decide) (backOf (W := 1) (rmI1_5 l Z a0 hw [] b23 b1 w_CS k1 (rr_2.toUInt32.toUInt16.toUInt32.toInt32) (rr_6.toUInt32.toUInt16.toUInt32.toInt32) (rr_10.toUInt32.toUInt16.toUInt32.toInt32) (rr_14.toUInt32.toUInt16.toUInt32.toInt32) (rr_18.toUInt32.toUInt16.toUInt32.toInt32) (.int 0) .null h23 n0 (Nat.le_trans (Nat.le_trans (Nat.le_trans (Nat.le_trans (Nat.le_trans (Nat.le_trans (Nat.le_trans Z0 E1.1) (Keep.of_wr W5).1) (Keep.of_wr W9).1) (Keep.of_wr W13).1) (Keep.of_wr W17).1) (Keep.of_wr W21).1) E23.1) f25 hcs f26 f27 f28 A23 f29 (own_chc _) (own_chc _) (own_chc _) (own_chc _) (own_chc _) F_coder_b23 g_b23 F_value_b23) hZ (own_at hw 11 rfl) (own_at hw 8 rfl) (by decide) (by decide)) (g := (mkF m 62 #[iv p0, iv p1, iv p2, iv p3, iv p4, iv p5, rv b1, iv ((p5 &&& (2147483647 : Int32)) % (6 : Int32))] [(.ref b1), (.ref b23), (.ref b23)])) rfl (by rw [hml]; rfl) (Steps.refl _) (a := b23) (argsL := [(.ref b1)]) (rest := [(.ref b23)]) (lenOf pd_20 rfl) rfl (Nat.le_refl _) (hb hby at_62) (fun _ _ => ⟨rfl, e23, (by decide : 2 + 2 ≤ _), (by decide : 9 + 15 ≤ _)⟩)
  dsimp only [Pt.U, Pt.locs, Pt.cells, Pt.slots] at X24 l24 y24 z24 st24 hQ24
  subst l24 y24 z24
  have f30 := (f22.ext E23)
  obtain ⟨rfl, N24q, K24, p24_0, p24_1⟩ := hQ24
  have pl24 := (allS (P := fun x => ∃ cell : Cell, h23[x]? = some cell ∧ cell.vm.isStatics = false) (own_ns A23) all0)
  have Hc24 := CHv.keep K24 (sfS Sf23_b23 sf0) Hc23
  have Rc24 := Rc23.trans (CHr.keep K24 (sfS Sf23_b23 sf0) Hc23)
  have hk24 := Nat.le_trans hk23 K24.1
  have Sf24_b1 := Safe.keep K24 (sfS Sf23_b23 sf0) Hc23 Sf23_b1
  have Sf24_b23 := Safe.keep K24 (sfS Sf23_b23 sf0) Hc23 Sf23_b23
  have N24 := Fr.app N21 N24q
  have k31 : ∀ t, OwnS p e below T24 (mkF m 67 #[iv p0, iv p1, iv p2, iv p3, iv p4, iv p5, rv b1, iv ((p5 &&& (2147483647 : Int32)) % (6 : Int32))] [(.int ((p5 &&& (2147483647 : Int32)) % (6 : Int32))), (.ref b23)]) t → OwnS p e below s₁ (entryFrame m #[(.int p0), (.int p1), (.int p2), (.int p3), (.int p4), (.int p5)] maxLocals) t := fun t q => by
   refine k0 t ?_
   show OwnS p e below s₁ (mkF m 0 #[iv p0, iv p1, iv p2, iv p3, iv p4, iv p5, .unset, .unset] []) _
   refine oIc X0 hx hby at_0 ?_
   refine st1 _ ?_
   refine XS.astore X1.here hx rfl (hb hby at_3) rfl rfl (l' := #[iv p0, iv p1, iv p2, iv p3, iv p4, iv p5, rv b1, .unset]) rfl ?_
   refine oAl X1 hx hby at_5 rfl rfl (oIc X1 hx hby at_7 (oIn X1 hx hby at_8 rfl ?_))
   refine st2 _ ?_
   refine st5 _ ?_
   refine oAl X5 hx hby at_13 rfl rfl (oIc X5 hx hby at_15 (oIn X5 hx hby at_16 rfl ?_))
   refine st6 _ ?_
   refine st9 _ ?_
   refine oAl X9 hx hby at_21 rfl rfl (oIc X9 hx hby at_23 (oIn X9 hx hby at_24 rfl ?_))
   refine st10 _ ?_
   refine st13 _ ?_
   refine oAl X13 hx hby at_29 rfl rfl (oIc X13 hx hby at_31 (oIn X13 hx hby at_32 rfl ?_))
   refine st14 _ ?_
   refine st17 _ ?_
   refine oAl X17 hx hby at_37 rfl rfl (oIc X17 hx hby at_39 (oIl X17 hx hby at_40 rfl ?_))
   refine st18 _ ?_
   refine st21 _ ?_
   refine oIl X21 hx hby at_46 rfl ?_
   refine X21.ldcInt hx hown (mvT hZ (own_at hw 5 rfl)) (g := (mkF m 48 #[iv p0, iv p1, iv p2, iv p3, iv p4, iv p5, rv b1, .unset] [(.int p5)])) rfl (hb hby at_48) _ ?_
   refine XS.iand X21.here hx rfl (hb hby at_50) rfl ?_
   refine oBp X21 hx hby at_51 ?_
   refine iremM X21 hx (g := (mkF m 53 #[iv p0, iv p1, iv p2, iv p3, iv p4, iv p5, rv b1, .unset] [(.int 6), (.int (p5 &&& (2147483647 : Int32)))])) rfl (hb hby at_53) rfl (by decide) ?_
   refine XS.istore X21.here hx rfl (hb hby at_54) rfl (l' := #[iv p0, iv p1, iv p2, iv p3, iv p4, iv p5, rv b1, iv ((p5 &&& (2147483647 : Int32)) % (6 : Int32))]) rfl ?_
   refine st23 _ ?_
   refine XS.dup X23.here hx rfl (hb hby at_59) rfl rfl ?_
   refine oAl X23 hx hby at_60 rfl rfl ?_
   refine st24.trans ?_
   refine oIl X24 hx hby at_65 rfl ?_
   exact q
  rcases own_mod6 p5 with hk | hk | hk | hk | hk | hk
  · have f33 := (own_sta_keep f25 K24 pl24)
    have f34 := (own_sta_keep (((((((S_F.ext E1).wr W5).wr W9).wr W13).wr W17).wr W21).ext E23) K24 pl24)
    have f35 := (own_sta_keep f26 K24 pl24)
    have f36 := (own_sta_keep f27 K24 pl24)
    have f37 := (own_sta_keep f28 K24 pl24)
    have f38 := (f30.keep K24)
    have lt_b1 := f38.lt
    have lt_b23 := p24_1.lt
    obtain ⟨_, _, ⟨T32, L32, j32, i32⟩, -, X32, hSq32, hgq32, ⟨Lc32, hQ32, l32, y32, z32, CR32⟩, st32⟩ := Jvm.RoadKit.callSS X24 hx (y := (⟨cS3, "end", cS17⟩ : MethodName)) hown (mvT hZ (own_at hw 35 rfl)) (mvT hZ (own_at hw 36 rfl)) (mvT hZ (own_at hw 37 rfl)) (mvT hZ (own_at hw 38 rfl)) (by decide) (backOfSH (W := 0) (rmEn_0 l Z a0 hw [] b23 w_CS w_F (rr_2.toUInt32.toUInt16.toUInt32.toInt32) (rr_6.toUInt32.toUInt16.toUInt32.toInt32) (rr_10.toUInt32.toUInt16.toUInt32.toInt32) (rr_14.toUInt32.toUInt16.toUInt32.toInt32) (rr_18.toUInt32.toUInt16.toUInt32.toInt32) T24.heap n0 (Nat.le_trans (Nat.le_trans (Nat.le_trans (Nat.le_trans (Nat.le_trans (Nat.le_trans (Nat.le_trans (Nat.le_trans Z0 E1.1) (Keep.of_wr W5).1) (Keep.of_wr W9).1) (Keep.of_wr W13).1) (Keep.of_wr W17).1) (Keep.of_wr W21).1) E23.1) K24.1) f33 hcs f34 hwF f35 f36 f37 p24_0 (own_chc _) (own_chc _) (own_chc _) (own_chc _) (own_chc _) p24_1) hZ (own_at hw 38 rfl) (own_at hw 37 rfl) (by decide) (by decide) (own_ew hw) Hc24) (g := (mkF m 67 #[iv p0, iv p1, iv p2, iv p3, iv p4, iv p5, rv b1, iv 0] [(.int 0), (.ref b23)])) rfl (by rw [hml]; rfl) (argsL := [(.ref b23), (.int 0)]) (rest := []) (lenOf pd_21 rfl) rfl (Nat.le_refl _) (hb hby at_67) (fun _ _ => ⟨rfl, rfl, (by decide : 4 + 2 ≤ _), (by decide : 24 + 12 ≤ _)⟩)
    dsimp only [Pt.U, Pt.locs, Pt.cells, Pt.slots] at X32 l32 y32 z32 st32 hQ32 CR32 hSq32 hgq32
    subst l32 y32 z32
    obtain ⟨X32, hS32, hZ32, hown32⟩ := rebS hS0 hk24 X32 hSq32 hgq32 hZ hown
    have hk32 : T32.heap.size ≤ T32.heap.size := Nat.le_refl _
    obtain ⟨rfl, N32q, K32, -⟩ := hQ32
    have lt_b1 := f38.lt
    have lt_b23 := p24_1.lt
    have Hc32 := CR32.1
    have Rc32 := Rc24.trans CR32
    have Sf32_b1 := CHr.safe CR32 lt_b1 Sf24_b1
    have Sf32_b23 := CHr.safe CR32 lt_b23 Sf24_b23
    have N32 := Fr.app N24 N32q
    have f40 := ((f29.keep K24 (ninS (Nat.ne_of_lt (Nat.lt_of_lt_of_le f22.lt (Nat.le_of_eq g23.symm))) nin0)).keep K32 nin0)
    obtain ⟨_, _, ⟨T39, L39, j39, i39⟩, -, X39, ⟨Lc39, hQ39, l39, y39, z39⟩, st39⟩ := Jvm.LawKit.callS X32 hx (y := (⟨cS2, "ref", "([CI)I"⟩ : MethodName)) hown32 (mvT hZ32 (own_at hw 84 rfl)) (mvT hZ32 (own_at hw 85 rfl)) (mvT hZ32 (own_at hw 3 rfl)) (mvT hZ32 (own_at hw 86 rfl)) (by decide) (backOf (W := 1) (rmRf_0 l Z a0 hw [] b1 k1 (rr_2.toUInt32.toUInt16.toUInt32.toInt32) (rr_6.toUInt32.toUInt16.toUInt32.toInt32) (rr_10.toUInt32.toUInt16.toUInt32.toInt32) (rr_14.toUInt32.toUInt16.toUInt32.toInt32) (rr_18.toUInt32.toUInt16.toUInt32.toInt32) T32.heap n0 (Nat.le_trans (Nat.le_trans (Nat.le_trans (Nat.le_trans (Nat.le_trans (Nat.le_trans (Nat.le_trans (Nat.le_trans (Nat.le_trans Z0 E1.1) (Keep.of_wr W5).1) (Keep.of_wr W9).1) (Keep.of_wr W13).1) (Keep.of_wr W17).1) (Keep.of_wr W21).1) E23.1) K24.1) K32.1) f40) hZ32 (own_at hw 86 rfl) (own_at hw 3 rfl) (by decide) (by decide)) (g := (mkF m 74 #[iv p0, iv p1, iv p2, iv p3, iv p4, iv p5, rv b1, iv 0] [(.int 0), (.ref b1), (.int (own_e0 (rr_2.toUInt32.toUInt16.toUInt32.toInt32) (rr_6.toUInt32.toUInt16.toUInt32.toInt32) (rr_10.toUInt32.toUInt16.toUInt32.toInt32) (rr_14.toUInt32.toUInt16.toUInt32.toInt32) (rr_18.toUInt32.toUInt16.toUInt32.toInt32)))])) rfl (by rw [hml]; rfl) (argsL := [(.ref b1), (.int 0)]) (rest := [(.int (own_e0 (rr_2.toUInt32.toUInt16.toUInt32.toInt32) (rr_6.toUInt32.toUInt16.toUInt32.toInt32) (rr_10.toUInt32.toUInt16.toUInt32.toInt32) (rr_14.toUInt32.toUInt16.toUInt32.toInt32) (rr_18.toUInt32.toUInt16.toUInt32.toInt32)))]) (lenOf pd_15 rfl) rfl (Nat.le_refl _) (hb hby at_74) (fun _ _ => ⟨rfl, rfl, (by decide : 6 + 0 ≤ _), (by decide : 36 + 0 ≤ _)⟩)
    dsimp only [Pt.U, Pt.locs, Pt.cells, Pt.slots] at X39 l39 y39 z39 st39 hQ39
    subst l39 y39 z39
    obtain ⟨rfl, N39q, e39⟩ := hQ39
    have N39 := Fr.app N32 N39q
    obtain ⟨fs, hr, hrun, hended, hRW⟩ := X39.leaveW hS32 (by rw [e39]; exact hk32) (v := some (.int 1)) (fun h => by rw [Bd.returns] at h; cases h)
    have hCE : CHr Z own_EL s.vm s.heap T39.vm T39.heap := by rw [hh, e39]; exact Rc32.trans (CHv.at X39 hZ32 (own_ew hw) Hc32)
    refine ⟨_, _, k31 _ ?_, hrun, hended, _, _, rfl, ?_, hCE, hRW.1, hRW.2.1, hRW.2.2.1, hRW.2.2.2.mono (by decide) (by decide)⟩
    · rw [hk]
      refine st32.trans ?_
      refine oAl X32 hx hby at_70 rfl rfl (oIl X32 hx hby at_72 rfl ?_)
      refine st39 _ ?_
      refine XS.icmpNo X39.here hx rfl (hb hby at_77) rfl (teq (rfl : (own_e0 (rr_2.toUInt32.toUInt16.toUInt32.toInt32) (rr_6.toUInt32.toUInt16.toUInt32.toInt32) (rr_10.toUInt32.toUInt16.toUInt32.toInt32) (rr_14.toUInt32.toUInt16.toUInt32.toInt32) (rr_18.toUInt32.toUInt16.toUInt32.toInt32)) = (own_e0 (rr_2.toUInt32.toUInt16.toUInt32.toInt32) (rr_6.toUInt32.toUInt16.toUInt32.toInt32) (rr_10.toUInt32.toUInt16.toUInt32.toInt32) (rr_14.toUInt32.toUInt16.toUInt32.toInt32) (rr_18.toUInt32.toUInt16.toUInt32.toInt32)))).2 ?_
      refine oIc X39 hx hby at_80 (oGo X39 hx hby 81 85 at_81 (by decide) (by decide) ?_)
      exact retN X39 hx (t := .boolean) Bd.returns (by simp) (hb hby at_85) hr
    · show Q_0 Z _ _ _ _ _ _ _ _ h0 n0 _ T39.heap _
      rw [e39]
      exact ⟨rfl, N39, trivial⟩
  · have f42 := (own_sta_keep f25 K24 pl24)
    have f43 := (own_sta_keep (((((((S_F.ext E1).wr W5).wr W9).wr W13).wr W17).wr W21).ext E23) K24 pl24)
    have f44 := (own_sta_keep f26 K24 pl24)
    have f45 := (own_sta_keep f27 K24 pl24)
    have f46 := (own_sta_keep f28 K24 pl24)
    have f47 := (f30.keep K24)
    have lt_b1 := f47.lt
    have lt_b23 := p24_1.lt
    obtain ⟨_, _, ⟨T41, L41, j41, i41⟩, -, X41, hSq41, hgq41, ⟨Lc41, hQ41, l41, y41, z41, CR41⟩, st41⟩ := Jvm.RoadKit.callSS X24 hx (y := (⟨cS3, "end", cS17⟩ : MethodName)) hown (mvT hZ (own_at hw 35 rfl)) (mvT hZ (own_at hw 36 rfl)) (mvT hZ (own_at hw 37 rfl)) (mvT hZ (own_at hw 38 rfl)) (by decide) (backOfSH (W := 0) (rmEn_1 l Z a0 hw [] b23 w_CS w_F (rr_2.toUInt32.toUInt16.toUInt32.toInt32) (rr_6.toUInt32.toUInt16.toUInt32.toInt32) (rr_10.toUInt32.toUInt16.toUInt32.toInt32) (rr_14.toUInt32.toUInt16.toUInt32.toInt32) (rr_18.toUInt32.toUInt16.toUInt32.toInt32) T24.heap n0 (Nat.le_trans (Nat.le_trans (Nat.le_trans (Nat.le_trans (Nat.le_trans (Nat.le_trans (Nat.le_trans (Nat.le_trans Z0 E1.1) (Keep.of_wr W5).1) (Keep.of_wr W9).1) (Keep.of_wr W13).1) (Keep.of_wr W17).1) (Keep.of_wr W21).1) E23.1) K24.1) f42 hcs f43 hwF f44 f45 f46 p24_0 (own_chc _) (own_chc _) (own_chc _) (own_chc _) (own_chc _) p24_1) hZ (own_at hw 38 rfl) (own_at hw 37 rfl) (by decide) (by decide) (own_ew hw) Hc24) (g := (mkF m 67 #[iv p0, iv p1, iv p2, iv p3, iv p4, iv p5, rv b1, iv 1] [(.int 1), (.ref b23)])) rfl (by rw [hml]; rfl) (argsL := [(.ref b23), (.int 1)]) (rest := []) (lenOf pd_21 rfl) rfl (Nat.le_refl _) (hb hby at_67) (fun _ _ => ⟨rfl, rfl, (by decide : 4 + 2 ≤ _), (by decide : 24 + 12 ≤ _)⟩)
    dsimp only [Pt.U, Pt.locs, Pt.cells, Pt.slots] at X41 l41 y41 z41 st41 hQ41 CR41 hSq41 hgq41
    subst l41 y41 z41
    obtain ⟨X41, hS41, hZ41, hown41⟩ := rebS hS0 hk24 X41 hSq41 hgq41 hZ hown
    have hk41 : T41.heap.size ≤ T41.heap.size := Nat.le_refl _
    obtain ⟨rfl, N41q, K41, -⟩ := hQ41
    have lt_b1 := f47.lt
    have lt_b23 := p24_1.lt
    have Hc41 := CR41.1
    have Rc41 := Rc24.trans CR41
    have Sf41_b1 := CHr.safe CR41 lt_b1 Sf24_b1
    have Sf41_b23 := CHr.safe CR41 lt_b23 Sf24_b23
    have N41 := Fr.app N24 N41q
    have f49 := ((f29.keep K24 (ninS (Nat.ne_of_lt (Nat.lt_of_lt_of_le f22.lt (Nat.le_of_eq g23.symm))) nin0)).keep K41 nin0)
    obtain ⟨_, _, ⟨T48, L48, j48, i48⟩, -, X48, ⟨Lc48, hQ48, l48, y48, z48⟩, st48⟩ := Jvm.LawKit.callS X41 hx (y := (⟨cS2, "ref", "([CI)I"⟩ : MethodName)) hown41 (mvT hZ41 (own_at hw 84 rfl)) (mvT hZ41 (own_at hw 85 rfl)) (mvT hZ41 (own_at hw 3 rfl)) (mvT hZ41 (own_at hw 86 rfl)) (by decide) (backOf (W := 1) (rmRf_1 l Z a0 hw [] b1 k1 (rr_2.toUInt32.toUInt16.toUInt32.toInt32) (rr_6.toUInt32.toUInt16.toUInt32.toInt32) (rr_10.toUInt32.toUInt16.toUInt32.toInt32) (rr_14.toUInt32.toUInt16.toUInt32.toInt32) (rr_18.toUInt32.toUInt16.toUInt32.toInt32) T41.heap n0 (Nat.le_trans (Nat.le_trans (Nat.le_trans (Nat.le_trans (Nat.le_trans (Nat.le_trans (Nat.le_trans (Nat.le_trans (Nat.le_trans Z0 E1.1) (Keep.of_wr W5).1) (Keep.of_wr W9).1) (Keep.of_wr W13).1) (Keep.of_wr W17).1) (Keep.of_wr W21).1) E23.1) K24.1) K41.1) f49) hZ41 (own_at hw 86 rfl) (own_at hw 3 rfl) (by decide) (by decide)) (g := (mkF m 74 #[iv p0, iv p1, iv p2, iv p3, iv p4, iv p5, rv b1, iv 1] [(.int 1), (.ref b1), (.int (own_e1 (rr_2.toUInt32.toUInt16.toUInt32.toInt32) (rr_6.toUInt32.toUInt16.toUInt32.toInt32) (rr_10.toUInt32.toUInt16.toUInt32.toInt32) (rr_14.toUInt32.toUInt16.toUInt32.toInt32) (rr_18.toUInt32.toUInt16.toUInt32.toInt32)))])) rfl (by rw [hml]; rfl) (argsL := [(.ref b1), (.int 1)]) (rest := [(.int (own_e1 (rr_2.toUInt32.toUInt16.toUInt32.toInt32) (rr_6.toUInt32.toUInt16.toUInt32.toInt32) (rr_10.toUInt32.toUInt16.toUInt32.toInt32) (rr_14.toUInt32.toUInt16.toUInt32.toInt32) (rr_18.toUInt32.toUInt16.toUInt32.toInt32)))]) (lenOf pd_15 rfl) rfl (Nat.le_refl _) (hb hby at_74) (fun _ _ => ⟨rfl, rfl, (by decide : 6 + 0 ≤ _), (by decide : 36 + 0 ≤ _)⟩)
    dsimp only [Pt.U, Pt.locs, Pt.cells, Pt.slots] at X48 l48 y48 z48 st48 hQ48
    subst l48 y48 z48
    obtain ⟨rfl, N48q, e48⟩ := hQ48
    have N48 := Fr.app N41 N48q
    obtain ⟨fs, hr, hrun, hended, hRW⟩ := X48.leaveW hS41 (by rw [e48]; exact hk41) (v := some (.int 1)) (fun h => by rw [Bd.returns] at h; cases h)
    have hCE : CHr Z own_EL s.vm s.heap T48.vm T48.heap := by rw [hh, e48]; exact Rc41.trans (CHv.at X48 hZ41 (own_ew hw) Hc41)
    refine ⟨_, _, k31 _ ?_, hrun, hended, _, _, rfl, ?_, hCE, hRW.1, hRW.2.1, hRW.2.2.1, hRW.2.2.2.mono (by decide) (by decide)⟩
    · rw [hk]
      refine st41.trans ?_
      refine oAl X41 hx hby at_70 rfl rfl (oIl X41 hx hby at_72 rfl ?_)
      refine st48 _ ?_
      refine XS.icmpNo X48.here hx rfl (hb hby at_77) rfl (teq (rfl : (own_e1 (rr_2.toUInt32.toUInt16.toUInt32.toInt32) (rr_6.toUInt32.toUInt16.toUInt32.toInt32) (rr_10.toUInt32.toUInt16.toUInt32.toInt32) (rr_14.toUInt32.toUInt16.toUInt32.toInt32) (rr_18.toUInt32.toUInt16.toUInt32.toInt32)) = (own_e1 (rr_2.toUInt32.toUInt16.toUInt32.toInt32) (rr_6.toUInt32.toUInt16.toUInt32.toInt32) (rr_10.toUInt32.toUInt16.toUInt32.toInt32) (rr_14.toUInt32.toUInt16.toUInt32.toInt32) (rr_18.toUInt32.toUInt16.toUInt32.toInt32)))).2 ?_
      refine oIc X48 hx hby at_80 (oGo X48 hx hby 81 85 at_81 (by decide) (by decide) ?_)
      exact retN X48 hx (t := .boolean) Bd.returns (by simp) (hb hby at_85) hr
    · show Q_0 Z _ _ _ _ _ _ _ _ h0 n0 _ T48.heap _
      rw [e48]
      exact ⟨rfl, N48, trivial⟩
  · have f51 := (own_sta_keep f25 K24 pl24)
    have f52 := (own_sta_keep (((((((S_F.ext E1).wr W5).wr W9).wr W13).wr W17).wr W21).ext E23) K24 pl24)
    have f53 := (own_sta_keep f26 K24 pl24)
    have f54 := (own_sta_keep f27 K24 pl24)
    have f55 := (own_sta_keep f28 K24 pl24)
    have f56 := (f30.keep K24)
    have lt_b1 := f56.lt
    have lt_b23 := p24_1.lt
    obtain ⟨_, _, ⟨T50, L50, j50, i50⟩, -, X50, hSq50, hgq50, ⟨Lc50, hQ50, l50, y50, z50, CR50⟩, st50⟩ := Jvm.RoadKit.callSS X24 hx (y := (⟨cS3, "end", cS17⟩ : MethodName)) hown (mvT hZ (own_at hw 35 rfl)) (mvT hZ (own_at hw 36 rfl)) (mvT hZ (own_at hw 37 rfl)) (mvT hZ (own_at hw 38 rfl)) (by decide) (backOfSH (W := 0) (rmEn_2 l Z a0 hw [] b23 w_CS w_F (rr_2.toUInt32.toUInt16.toUInt32.toInt32) (rr_6.toUInt32.toUInt16.toUInt32.toInt32) (rr_10.toUInt32.toUInt16.toUInt32.toInt32) (rr_14.toUInt32.toUInt16.toUInt32.toInt32) (rr_18.toUInt32.toUInt16.toUInt32.toInt32) T24.heap n0 (Nat.le_trans (Nat.le_trans (Nat.le_trans (Nat.le_trans (Nat.le_trans (Nat.le_trans (Nat.le_trans (Nat.le_trans Z0 E1.1) (Keep.of_wr W5).1) (Keep.of_wr W9).1) (Keep.of_wr W13).1) (Keep.of_wr W17).1) (Keep.of_wr W21).1) E23.1) K24.1) f51 hcs f52 hwF f53 f54 f55 p24_0 (own_chc _) (own_chc _) (own_chc _) (own_chc _) (own_chc _) p24_1) hZ (own_at hw 38 rfl) (own_at hw 37 rfl) (by decide) (by decide) (own_ew hw) Hc24) (g := (mkF m 67 #[iv p0, iv p1, iv p2, iv p3, iv p4, iv p5, rv b1, iv 2] [(.int 2), (.ref b23)])) rfl (by rw [hml]; rfl) (argsL := [(.ref b23), (.int 2)]) (rest := []) (lenOf pd_21 rfl) rfl (Nat.le_refl _) (hb hby at_67) (fun _ _ => ⟨rfl, rfl, (by decide : 4 + 2 ≤ _), (by decide : 24 + 12 ≤ _)⟩)
    dsimp only [Pt.U, Pt.locs, Pt.cells, Pt.slots] at X50 l50 y50 z50 st50 hQ50 CR50 hSq50 hgq50
    subst l50 y50 z50
    obtain ⟨X50, hS50, hZ50, hown50⟩ := rebS hS0 hk24 X50 hSq50 hgq50 hZ hown
    have hk50 : T50.heap.size ≤ T50.heap.size := Nat.le_refl _
    obtain ⟨rfl, N50q, K50, -⟩ := hQ50
    have lt_b1 := f56.lt
    have lt_b23 := p24_1.lt
    have Hc50 := CR50.1
    have Rc50 := Rc24.trans CR50
    have Sf50_b1 := CHr.safe CR50 lt_b1 Sf24_b1
    have Sf50_b23 := CHr.safe CR50 lt_b23 Sf24_b23
    have N50 := Fr.app N24 N50q
    have f58 := ((f29.keep K24 (ninS (Nat.ne_of_lt (Nat.lt_of_lt_of_le f22.lt (Nat.le_of_eq g23.symm))) nin0)).keep K50 nin0)
    obtain ⟨_, _, ⟨T57, L57, j57, i57⟩, -, X57, ⟨Lc57, hQ57, l57, y57, z57⟩, st57⟩ := Jvm.LawKit.callS X50 hx (y := (⟨cS2, "ref", "([CI)I"⟩ : MethodName)) hown50 (mvT hZ50 (own_at hw 84 rfl)) (mvT hZ50 (own_at hw 85 rfl)) (mvT hZ50 (own_at hw 3 rfl)) (mvT hZ50 (own_at hw 86 rfl)) (by decide) (backOf (W := 1) (rmRf_2 l Z a0 hw [] b1 k1 (rr_2.toUInt32.toUInt16.toUInt32.toInt32) (rr_6.toUInt32.toUInt16.toUInt32.toInt32) (rr_10.toUInt32.toUInt16.toUInt32.toInt32) (rr_14.toUInt32.toUInt16.toUInt32.toInt32) (rr_18.toUInt32.toUInt16.toUInt32.toInt32) T50.heap n0 (Nat.le_trans (Nat.le_trans (Nat.le_trans (Nat.le_trans (Nat.le_trans (Nat.le_trans (Nat.le_trans (Nat.le_trans (Nat.le_trans Z0 E1.1) (Keep.of_wr W5).1) (Keep.of_wr W9).1) (Keep.of_wr W13).1) (Keep.of_wr W17).1) (Keep.of_wr W21).1) E23.1) K24.1) K50.1) f58) hZ50 (own_at hw 86 rfl) (own_at hw 3 rfl) (by decide) (by decide)) (g := (mkF m 74 #[iv p0, iv p1, iv p2, iv p3, iv p4, iv p5, rv b1, iv 2] [(.int 2), (.ref b1), (.int (own_e2 (rr_2.toUInt32.toUInt16.toUInt32.toInt32) (rr_6.toUInt32.toUInt16.toUInt32.toInt32) (rr_10.toUInt32.toUInt16.toUInt32.toInt32) (rr_14.toUInt32.toUInt16.toUInt32.toInt32) (rr_18.toUInt32.toUInt16.toUInt32.toInt32)))])) rfl (by rw [hml]; rfl) (argsL := [(.ref b1), (.int 2)]) (rest := [(.int (own_e2 (rr_2.toUInt32.toUInt16.toUInt32.toInt32) (rr_6.toUInt32.toUInt16.toUInt32.toInt32) (rr_10.toUInt32.toUInt16.toUInt32.toInt32) (rr_14.toUInt32.toUInt16.toUInt32.toInt32) (rr_18.toUInt32.toUInt16.toUInt32.toInt32)))]) (lenOf pd_15 rfl) rfl (Nat.le_refl _) (hb hby at_74) (fun _ _ => ⟨rfl, rfl, (by decide : 6 + 0 ≤ _), (by decide : 36 + 0 ≤ _)⟩)
    dsimp only [Pt.U, Pt.locs, Pt.cells, Pt.slots] at X57 l57 y57 z57 st57 hQ57
    subst l57 y57 z57
    obtain ⟨rfl, N57q, e57⟩ := hQ57
    have N57 := Fr.app N50 N57q
    obtain ⟨fs, hr, hrun, hended, hRW⟩ := X57.leaveW hS50 (by rw [e57]; exact hk50) (v := some (.int 1)) (fun h => by rw [Bd.returns] at h; cases h)
    have hCE : CHr Z own_EL s.vm s.heap T57.vm T57.heap := by rw [hh, e57]; exact Rc50.trans (CHv.at X57 hZ50 (own_ew hw) Hc50)
    refine ⟨_, _, k31 _ ?_, hrun, hended, _, _, rfl, ?_, hCE, hRW.1, hRW.2.1, hRW.2.2.1, hRW.2.2.2.mono (by decide) (by decide)⟩
    · rw [hk]
      refine st50.trans ?_
      refine oAl X50 hx hby at_70 rfl rfl (oIl X50 hx hby at_72 rfl ?_)
      refine st57 _ ?_
      refine XS.icmpNo X57.here hx rfl (hb hby at_77) rfl (teq (rfl : (own_e2 (rr_2.toUInt32.toUInt16.toUInt32.toInt32) (rr_6.toUInt32.toUInt16.toUInt32.toInt32) (rr_10.toUInt32.toUInt16.toUInt32.toInt32) (rr_14.toUInt32.toUInt16.toUInt32.toInt32) (rr_18.toUInt32.toUInt16.toUInt32.toInt32)) = (own_e2 (rr_2.toUInt32.toUInt16.toUInt32.toInt32) (rr_6.toUInt32.toUInt16.toUInt32.toInt32) (rr_10.toUInt32.toUInt16.toUInt32.toInt32) (rr_14.toUInt32.toUInt16.toUInt32.toInt32) (rr_18.toUInt32.toUInt16.toUInt32.toInt32)))).2 ?_
      refine oIc X57 hx hby at_80 (oGo X57 hx hby 81 85 at_81 (by decide) (by decide) ?_)
      exact retN X57 hx (t := .boolean) Bd.returns (by simp) (hb hby at_85) hr
    · show Q_0 Z _ _ _ _ _ _ _ _ h0 n0 _ T57.heap _
      rw [e57]
      exact ⟨rfl, N57, trivial⟩
  · have f60 := (own_sta_keep f25 K24 pl24)
    have f61 := (own_sta_keep (((((((S_F.ext E1).wr W5).wr W9).wr W13).wr W17).wr W21).ext E23) K24 pl24)
    have f62 := (own_sta_keep f26 K24 pl24)
    have f63 := (own_sta_keep f27 K24 pl24)
    have f64 := (own_sta_keep f28 K24 pl24)
    have f65 := (f30.keep K24)
    have lt_b1 := f65.lt
    have lt_b23 := p24_1.lt
    obtain ⟨_, _, ⟨T59, L59, j59, i59⟩, -, X59, hSq59, hgq59, ⟨Lc59, hQ59, l59, y59, z59, CR59⟩, st59⟩ := Jvm.RoadKit.callSS X24 hx (y := (⟨cS3, "end", cS17⟩ : MethodName)) hown (mvT hZ (own_at hw 35 rfl)) (mvT hZ (own_at hw 36 rfl)) (mvT hZ (own_at hw 37 rfl)) (mvT hZ (own_at hw 38 rfl)) (by decide) (backOfSH (W := 0) (rmEn_3 l Z a0 hw [] b23 w_CS w_F (rr_2.toUInt32.toUInt16.toUInt32.toInt32) (rr_6.toUInt32.toUInt16.toUInt32.toInt32) (rr_10.toUInt32.toUInt16.toUInt32.toInt32) (rr_14.toUInt32.toUInt16.toUInt32.toInt32) (rr_18.toUInt32.toUInt16.toUInt32.toInt32) T24.heap n0 (Nat.le_trans (Nat.le_trans (Nat.le_trans (Nat.le_trans (Nat.le_trans (Nat.le_trans (Nat.le_trans (Nat.le_trans Z0 E1.1) (Keep.of_wr W5).1) (Keep.of_wr W9).1) (Keep.of_wr W13).1) (Keep.of_wr W17).1) (Keep.of_wr W21).1) E23.1) K24.1) f60 hcs f61 hwF f62 f63 f64 p24_0 (own_chc _) (own_chc _) (own_chc _) (own_chc _) (own_chc _) p24_1) hZ (own_at hw 38 rfl) (own_at hw 37 rfl) (by decide) (by decide) (own_ew hw) Hc24) (g := (mkF m 67 #[iv p0, iv p1, iv p2, iv p3, iv p4, iv p5, rv b1, iv 3] [(.int 3), (.ref b23)])) rfl (by rw [hml]; rfl) (argsL := [(.ref b23), (.int 3)]) (rest := []) (lenOf pd_21 rfl) rfl (Nat.le_refl _) (hb hby at_67) (fun _ _ => ⟨rfl, rfl, (by decide : 4 + 2 ≤ _), (by decide : 24 + 12 ≤ _)⟩)
    dsimp only [Pt.U, Pt.locs, Pt.cells, Pt.slots] at X59 l59 y59 z59 st59 hQ59 CR59 hSq59 hgq59
    subst l59 y59 z59
    obtain ⟨X59, hS59, hZ59, hown59⟩ := rebS hS0 hk24 X59 hSq59 hgq59 hZ hown
    have hk59 : T59.heap.size ≤ T59.heap.size := Nat.le_refl _
    obtain ⟨rfl, N59q, K59, -⟩ := hQ59
    have lt_b1 := f65.lt
    have lt_b23 := p24_1.lt
    have Hc59 := CR59.1
    have Rc59 := Rc24.trans CR59
    have Sf59_b1 := CHr.safe CR59 lt_b1 Sf24_b1
    have Sf59_b23 := CHr.safe CR59 lt_b23 Sf24_b23
    have N59 := Fr.app N24 N59q
    have f67 := ((f29.keep K24 (ninS (Nat.ne_of_lt (Nat.lt_of_lt_of_le f22.lt (Nat.le_of_eq g23.symm))) nin0)).keep K59 nin0)
    obtain ⟨_, _, ⟨T66, L66, j66, i66⟩, -, X66, ⟨Lc66, hQ66, l66, y66, z66⟩, st66⟩ := Jvm.LawKit.callS X59 hx (y := (⟨cS2, "ref", "([CI)I"⟩ : MethodName)) hown59 (mvT hZ59 (own_at hw 84 rfl)) (mvT hZ59 (own_at hw 85 rfl)) (mvT hZ59 (own_at hw 3 rfl)) (mvT hZ59 (own_at hw 86 rfl)) (by decide) (backOf (W := 1) (rmRf_3 l Z a0 hw [] b1 k1 (rr_2.toUInt32.toUInt16.toUInt32.toInt32) (rr_6.toUInt32.toUInt16.toUInt32.toInt32) (rr_10.toUInt32.toUInt16.toUInt32.toInt32) (rr_14.toUInt32.toUInt16.toUInt32.toInt32) (rr_18.toUInt32.toUInt16.toUInt32.toInt32) T59.heap n0 (Nat.le_trans (Nat.le_trans (Nat.le_trans (Nat.le_trans (Nat.le_trans (Nat.le_trans (Nat.le_trans (Nat.le_trans (Nat.le_trans Z0 E1.1) (Keep.of_wr W5).1) (Keep.of_wr W9).1) (Keep.of_wr W13).1) (Keep.of_wr W17).1) (Keep.of_wr W21).1) E23.1) K24.1) K59.1) f67) hZ59 (own_at hw 86 rfl) (own_at hw 3 rfl) (by decide) (by decide)) (g := (mkF m 74 #[iv p0, iv p1, iv p2, iv p3, iv p4, iv p5, rv b1, iv 3] [(.int 3), (.ref b1), (.int (own_e3 (rr_2.toUInt32.toUInt16.toUInt32.toInt32) (rr_6.toUInt32.toUInt16.toUInt32.toInt32) (rr_10.toUInt32.toUInt16.toUInt32.toInt32) (rr_14.toUInt32.toUInt16.toUInt32.toInt32) (rr_18.toUInt32.toUInt16.toUInt32.toInt32)))])) rfl (by rw [hml]; rfl) (argsL := [(.ref b1), (.int 3)]) (rest := [(.int (own_e3 (rr_2.toUInt32.toUInt16.toUInt32.toInt32) (rr_6.toUInt32.toUInt16.toUInt32.toInt32) (rr_10.toUInt32.toUInt16.toUInt32.toInt32) (rr_14.toUInt32.toUInt16.toUInt32.toInt32) (rr_18.toUInt32.toUInt16.toUInt32.toInt32)))]) (lenOf pd_15 rfl) rfl (Nat.le_refl _) (hb hby at_74) (fun _ _ => ⟨rfl, rfl, (by decide : 6 + 0 ≤ _), (by decide : 36 + 0 ≤ _)⟩)
    dsimp only [Pt.U, Pt.locs, Pt.cells, Pt.slots] at X66 l66 y66 z66 st66 hQ66
    subst l66 y66 z66
    obtain ⟨rfl, N66q, e66⟩ := hQ66
    have N66 := Fr.app N59 N66q
    obtain ⟨fs, hr, hrun, hended, hRW⟩ := X66.leaveW hS59 (by rw [e66]; exact hk59) (v := some (.int 1)) (fun h => by rw [Bd.returns] at h; cases h)
    have hCE : CHr Z own_EL s.vm s.heap T66.vm T66.heap := by rw [hh, e66]; exact Rc59.trans (CHv.at X66 hZ59 (own_ew hw) Hc59)
    refine ⟨_, _, k31 _ ?_, hrun, hended, _, _, rfl, ?_, hCE, hRW.1, hRW.2.1, hRW.2.2.1, hRW.2.2.2.mono (by decide) (by decide)⟩
    · rw [hk]
      refine st59.trans ?_
      refine oAl X59 hx hby at_70 rfl rfl (oIl X59 hx hby at_72 rfl ?_)
      refine st66 _ ?_
      refine XS.icmpNo X66.here hx rfl (hb hby at_77) rfl (teq (rfl : (own_e3 (rr_2.toUInt32.toUInt16.toUInt32.toInt32) (rr_6.toUInt32.toUInt16.toUInt32.toInt32) (rr_10.toUInt32.toUInt16.toUInt32.toInt32) (rr_14.toUInt32.toUInt16.toUInt32.toInt32) (rr_18.toUInt32.toUInt16.toUInt32.toInt32)) = (own_e3 (rr_2.toUInt32.toUInt16.toUInt32.toInt32) (rr_6.toUInt32.toUInt16.toUInt32.toInt32) (rr_10.toUInt32.toUInt16.toUInt32.toInt32) (rr_14.toUInt32.toUInt16.toUInt32.toInt32) (rr_18.toUInt32.toUInt16.toUInt32.toInt32)))).2 ?_
      refine oIc X66 hx hby at_80 (oGo X66 hx hby 81 85 at_81 (by decide) (by decide) ?_)
      exact retN X66 hx (t := .boolean) Bd.returns (by simp) (hb hby at_85) hr
    · show Q_0 Z _ _ _ _ _ _ _ _ h0 n0 _ T66.heap _
      rw [e66]
      exact ⟨rfl, N66, trivial⟩
  · have f69 := (own_sta_keep f25 K24 pl24)
    have f70 := (own_sta_keep (((((((S_F.ext E1).wr W5).wr W9).wr W13).wr W17).wr W21).ext E23) K24 pl24)
    have f71 := (own_sta_keep f26 K24 pl24)
    have f72 := (own_sta_keep f27 K24 pl24)
    have f73 := (own_sta_keep f28 K24 pl24)
    have f74 := (f30.keep K24)
    have lt_b1 := f74.lt
    have lt_b23 := p24_1.lt
    obtain ⟨_, _, ⟨T68, L68, j68, i68⟩, -, X68, hSq68, hgq68, ⟨Lc68, hQ68, l68, y68, z68, CR68⟩, st68⟩ := Jvm.RoadKit.callSS X24 hx (y := (⟨cS3, "end", cS17⟩ : MethodName)) hown (mvT hZ (own_at hw 35 rfl)) (mvT hZ (own_at hw 36 rfl)) (mvT hZ (own_at hw 37 rfl)) (mvT hZ (own_at hw 38 rfl)) (by decide) (backOfSH (W := 0) (rmEn_4 l Z a0 hw [] b23 w_CS w_F (rr_2.toUInt32.toUInt16.toUInt32.toInt32) (rr_6.toUInt32.toUInt16.toUInt32.toInt32) (rr_10.toUInt32.toUInt16.toUInt32.toInt32) (rr_14.toUInt32.toUInt16.toUInt32.toInt32) (rr_18.toUInt32.toUInt16.toUInt32.toInt32) T24.heap n0 (Nat.le_trans (Nat.le_trans (Nat.le_trans (Nat.le_trans (Nat.le_trans (Nat.le_trans (Nat.le_trans (Nat.le_trans Z0 E1.1) (Keep.of_wr W5).1) (Keep.of_wr W9).1) (Keep.of_wr W13).1) (Keep.of_wr W17).1) (Keep.of_wr W21).1) E23.1) K24.1) f69 hcs f70 hwF f71 f72 f73 p24_0 (own_chc _) (own_chc _) (own_chc _) (own_chc _) (own_chc _) p24_1) hZ (own_at hw 38 rfl) (own_at hw 37 rfl) (by decide) (by decide) (own_ew hw) Hc24) (g := (mkF m 67 #[iv p0, iv p1, iv p2, iv p3, iv p4, iv p5, rv b1, iv 4] [(.int 4), (.ref b23)])) rfl (by rw [hml]; rfl) (argsL := [(.ref b23), (.int 4)]) (rest := []) (lenOf pd_21 rfl) rfl (Nat.le_refl _) (hb hby at_67) (fun _ _ => ⟨rfl, rfl, (by decide : 4 + 2 ≤ _), (by decide : 24 + 12 ≤ _)⟩)
    dsimp only [Pt.U, Pt.locs, Pt.cells, Pt.slots] at X68 l68 y68 z68 st68 hQ68 CR68 hSq68 hgq68
    subst l68 y68 z68
    obtain ⟨X68, hS68, hZ68, hown68⟩ := rebS hS0 hk24 X68 hSq68 hgq68 hZ hown
    have hk68 : T68.heap.size ≤ T68.heap.size := Nat.le_refl _
    obtain ⟨rfl, N68q, K68, -⟩ := hQ68
    have lt_b1 := f74.lt
    have lt_b23 := p24_1.lt
    have Hc68 := CR68.1
    have Rc68 := Rc24.trans CR68
    have Sf68_b1 := CHr.safe CR68 lt_b1 Sf24_b1
    have Sf68_b23 := CHr.safe CR68 lt_b23 Sf24_b23
    have N68 := Fr.app N24 N68q
    have f76 := ((f29.keep K24 (ninS (Nat.ne_of_lt (Nat.lt_of_lt_of_le f22.lt (Nat.le_of_eq g23.symm))) nin0)).keep K68 nin0)
    obtain ⟨_, _, ⟨T75, L75, j75, i75⟩, -, X75, ⟨Lc75, hQ75, l75, y75, z75⟩, st75⟩ := Jvm.LawKit.callS X68 hx (y := (⟨cS2, "ref", "([CI)I"⟩ : MethodName)) hown68 (mvT hZ68 (own_at hw 84 rfl)) (mvT hZ68 (own_at hw 85 rfl)) (mvT hZ68 (own_at hw 3 rfl)) (mvT hZ68 (own_at hw 86 rfl)) (by decide) (backOf (W := 1) (rmRf_4 l Z a0 hw [] b1 k1 (rr_2.toUInt32.toUInt16.toUInt32.toInt32) (rr_6.toUInt32.toUInt16.toUInt32.toInt32) (rr_10.toUInt32.toUInt16.toUInt32.toInt32) (rr_14.toUInt32.toUInt16.toUInt32.toInt32) (rr_18.toUInt32.toUInt16.toUInt32.toInt32) T68.heap n0 (Nat.le_trans (Nat.le_trans (Nat.le_trans (Nat.le_trans (Nat.le_trans (Nat.le_trans (Nat.le_trans (Nat.le_trans (Nat.le_trans Z0 E1.1) (Keep.of_wr W5).1) (Keep.of_wr W9).1) (Keep.of_wr W13).1) (Keep.of_wr W17).1) (Keep.of_wr W21).1) E23.1) K24.1) K68.1) f76) hZ68 (own_at hw 86 rfl) (own_at hw 3 rfl) (by decide) (by decide)) (g := (mkF m 74 #[iv p0, iv p1, iv p2, iv p3, iv p4, iv p5, rv b1, iv 4] [(.int 4), (.ref b1), (.int (own_e4 (rr_2.toUInt32.toUInt16.toUInt32.toInt32) (rr_6.toUInt32.toUInt16.toUInt32.toInt32) (rr_10.toUInt32.toUInt16.toUInt32.toInt32) (rr_14.toUInt32.toUInt16.toUInt32.toInt32) (rr_18.toUInt32.toUInt16.toUInt32.toInt32)))])) rfl (by rw [hml]; rfl) (argsL := [(.ref b1), (.int 4)]) (rest := [(.int (own_e4 (rr_2.toUInt32.toUInt16.toUInt32.toInt32) (rr_6.toUInt32.toUInt16.toUInt32.toInt32) (rr_10.toUInt32.toUInt16.toUInt32.toInt32) (rr_14.toUInt32.toUInt16.toUInt32.toInt32) (rr_18.toUInt32.toUInt16.toUInt32.toInt32)))]) (lenOf pd_15 rfl) rfl (Nat.le_refl _) (hb hby at_74) (fun _ _ => ⟨rfl, rfl, (by decide : 6 + 0 ≤ _), (by decide : 36 + 0 ≤ _)⟩)
    dsimp only [Pt.U, Pt.locs, Pt.cells, Pt.slots] at X75 l75 y75 z75 st75 hQ75
    subst l75 y75 z75
    obtain ⟨rfl, N75q, e75⟩ := hQ75
    have N75 := Fr.app N68 N75q
    obtain ⟨fs, hr, hrun, hended, hRW⟩ := X75.leaveW hS68 (by rw [e75]; exact hk68) (v := some (.int 1)) (fun h => by rw [Bd.returns] at h; cases h)
    have hCE : CHr Z own_EL s.vm s.heap T75.vm T75.heap := by rw [hh, e75]; exact Rc68.trans (CHv.at X75 hZ68 (own_ew hw) Hc68)
    refine ⟨_, _, k31 _ ?_, hrun, hended, _, _, rfl, ?_, hCE, hRW.1, hRW.2.1, hRW.2.2.1, hRW.2.2.2.mono (by decide) (by decide)⟩
    · rw [hk]
      refine st68.trans ?_
      refine oAl X68 hx hby at_70 rfl rfl (oIl X68 hx hby at_72 rfl ?_)
      refine st75 _ ?_
      refine XS.icmpNo X75.here hx rfl (hb hby at_77) rfl (teq (rfl : (own_e4 (rr_2.toUInt32.toUInt16.toUInt32.toInt32) (rr_6.toUInt32.toUInt16.toUInt32.toInt32) (rr_10.toUInt32.toUInt16.toUInt32.toInt32) (rr_14.toUInt32.toUInt16.toUInt32.toInt32) (rr_18.toUInt32.toUInt16.toUInt32.toInt32)) = (own_e4 (rr_2.toUInt32.toUInt16.toUInt32.toInt32) (rr_6.toUInt32.toUInt16.toUInt32.toInt32) (rr_10.toUInt32.toUInt16.toUInt32.toInt32) (rr_14.toUInt32.toUInt16.toUInt32.toInt32) (rr_18.toUInt32.toUInt16.toUInt32.toInt32)))).2 ?_
      refine oIc X75 hx hby at_80 (oGo X75 hx hby 81 85 at_81 (by decide) (by decide) ?_)
      exact retN X75 hx (t := .boolean) Bd.returns (by simp) (hb hby at_85) hr
    · show Q_0 Z _ _ _ _ _ _ _ _ h0 n0 _ T75.heap _
      rw [e75]
      exact ⟨rfl, N75, trivial⟩
  · have f78 := (own_sta_keep f25 K24 pl24)
    have f79 := (own_sta_keep (((((((S_F.ext E1).wr W5).wr W9).wr W13).wr W17).wr W21).ext E23) K24 pl24)
    have f80 := (own_sta_keep f26 K24 pl24)
    have f81 := (own_sta_keep f27 K24 pl24)
    have f82 := (own_sta_keep f28 K24 pl24)
    have f83 := (f30.keep K24)
    have lt_b1 := f83.lt
    have lt_b23 := p24_1.lt
    obtain ⟨_, _, ⟨T77, L77, j77, i77⟩, -, X77, hSq77, hgq77, ⟨Lc77, hQ77, l77, y77, z77, CR77⟩, st77⟩ := Jvm.RoadKit.callSS X24 hx (y := (⟨cS3, "end", cS17⟩ : MethodName)) hown (mvT hZ (own_at hw 35 rfl)) (mvT hZ (own_at hw 36 rfl)) (mvT hZ (own_at hw 37 rfl)) (mvT hZ (own_at hw 38 rfl)) (by decide) (backOfSH (W := 0) (rmEn_5 l Z a0 hw [] b23 w_CS w_F (rr_2.toUInt32.toUInt16.toUInt32.toInt32) (rr_6.toUInt32.toUInt16.toUInt32.toInt32) (rr_10.toUInt32.toUInt16.toUInt32.toInt32) (rr_14.toUInt32.toUInt16.toUInt32.toInt32) (rr_18.toUInt32.toUInt16.toUInt32.toInt32) T24.heap n0 (Nat.le_trans (Nat.le_trans (Nat.le_trans (Nat.le_trans (Nat.le_trans (Nat.le_trans (Nat.le_trans (Nat.le_trans Z0 E1.1) (Keep.of_wr W5).1) (Keep.of_wr W9).1) (Keep.of_wr W13).1) (Keep.of_wr W17).1) (Keep.of_wr W21).1) E23.1) K24.1) f78 hcs f79 hwF f80 f81 f82 p24_0 (own_chc _) (own_chc _) (own_chc _) (own_chc _) (own_chc _) p24_1) hZ (own_at hw 38 rfl) (own_at hw 37 rfl) (by decide) (by decide) (own_ew hw) Hc24) (g := (mkF m 67 #[iv p0, iv p1, iv p2, iv p3, iv p4, iv p5, rv b1, iv 5] [(.int 5), (.ref b23)])) rfl (by rw [hml]; rfl) (argsL := [(.ref b23), (.int 5)]) (rest := []) (lenOf pd_21 rfl) rfl (Nat.le_refl _) (hb hby at_67) (fun _ _ => ⟨rfl, rfl, (by decide : 4 + 2 ≤ _), (by decide : 24 + 12 ≤ _)⟩)
    dsimp only [Pt.U, Pt.locs, Pt.cells, Pt.slots] at X77 l77 y77 z77 st77 hQ77 CR77 hSq77 hgq77
    subst l77 y77 z77
    obtain ⟨X77, hS77, hZ77, hown77⟩ := rebS hS0 hk24 X77 hSq77 hgq77 hZ hown
    have hk77 : T77.heap.size ≤ T77.heap.size := Nat.le_refl _
    obtain ⟨rfl, N77q, K77, -⟩ := hQ77
    have lt_b1 := f83.lt
    have lt_b23 := p24_1.lt
    have Hc77 := CR77.1
    have Rc77 := Rc24.trans CR77
    have Sf77_b1 := CHr.safe CR77 lt_b1 Sf24_b1
    have Sf77_b23 := CHr.safe CR77 lt_b23 Sf24_b23
    have N77 := Fr.app N24 N77q
    have f85 := ((f29.keep K24 (ninS (Nat.ne_of_lt (Nat.lt_of_lt_of_le f22.lt (Nat.le_of_eq g23.symm))) nin0)).keep K77 nin0)
    obtain ⟨_, _, ⟨T84, L84, j84, i84⟩, -, X84, ⟨Lc84, hQ84, l84, y84, z84⟩, st84⟩ := Jvm.LawKit.callS X77 hx (y := (⟨cS2, "ref", "([CI)I"⟩ : MethodName)) hown77 (mvT hZ77 (own_at hw 84 rfl)) (mvT hZ77 (own_at hw 85 rfl)) (mvT hZ77 (own_at hw 3 rfl)) (mvT hZ77 (own_at hw 86 rfl)) (by decide) (backOf (W := 1) (rmRf_5 l Z a0 hw [] b1 k1 (rr_2.toUInt32.toUInt16.toUInt32.toInt32) (rr_6.toUInt32.toUInt16.toUInt32.toInt32) (rr_10.toUInt32.toUInt16.toUInt32.toInt32) (rr_14.toUInt32.toUInt16.toUInt32.toInt32) (rr_18.toUInt32.toUInt16.toUInt32.toInt32) T77.heap n0 (Nat.le_trans (Nat.le_trans (Nat.le_trans (Nat.le_trans (Nat.le_trans (Nat.le_trans (Nat.le_trans (Nat.le_trans (Nat.le_trans Z0 E1.1) (Keep.of_wr W5).1) (Keep.of_wr W9).1) (Keep.of_wr W13).1) (Keep.of_wr W17).1) (Keep.of_wr W21).1) E23.1) K24.1) K77.1) f85) hZ77 (own_at hw 86 rfl) (own_at hw 3 rfl) (by decide) (by decide)) (g := (mkF m 74 #[iv p0, iv p1, iv p2, iv p3, iv p4, iv p5, rv b1, iv 5] [(.int 5), (.ref b1), (.int (own_e5 (rr_2.toUInt32.toUInt16.toUInt32.toInt32) (rr_6.toUInt32.toUInt16.toUInt32.toInt32) (rr_10.toUInt32.toUInt16.toUInt32.toInt32) (rr_14.toUInt32.toUInt16.toUInt32.toInt32) (rr_18.toUInt32.toUInt16.toUInt32.toInt32)))])) rfl (by rw [hml]; rfl) (argsL := [(.ref b1), (.int 5)]) (rest := [(.int (own_e5 (rr_2.toUInt32.toUInt16.toUInt32.toInt32) (rr_6.toUInt32.toUInt16.toUInt32.toInt32) (rr_10.toUInt32.toUInt16.toUInt32.toInt32) (rr_14.toUInt32.toUInt16.toUInt32.toInt32) (rr_18.toUInt32.toUInt16.toUInt32.toInt32)))]) (lenOf pd_15 rfl) rfl (Nat.le_refl _) (hb hby at_74) (fun _ _ => ⟨rfl, rfl, (by decide : 6 + 0 ≤ _), (by decide : 36 + 0 ≤ _)⟩)
    dsimp only [Pt.U, Pt.locs, Pt.cells, Pt.slots] at X84 l84 y84 z84 st84 hQ84
    subst l84 y84 z84
    obtain ⟨rfl, N84q, e84⟩ := hQ84
    have N84 := Fr.app N77 N84q
    obtain ⟨fs, hr, hrun, hended, hRW⟩ := X84.leaveW hS77 (by rw [e84]; exact hk77) (v := some (.int 1)) (fun h => by rw [Bd.returns] at h; cases h)
    have hCE : CHr Z own_EL s.vm s.heap T84.vm T84.heap := by rw [hh, e84]; exact Rc77.trans (CHv.at X84 hZ77 (own_ew hw) Hc77)
    refine ⟨_, _, k31 _ ?_, hrun, hended, _, _, rfl, ?_, hCE, hRW.1, hRW.2.1, hRW.2.2.1, hRW.2.2.2.mono (by decide) (by decide)⟩
    · rw [hk]
      refine st77.trans ?_
      refine oAl X77 hx hby at_70 rfl rfl (oIl X77 hx hby at_72 rfl ?_)
      refine st84 _ ?_
      refine XS.icmpNo X84.here hx rfl (hb hby at_77) rfl (teq (rfl : (own_e5 (rr_2.toUInt32.toUInt16.toUInt32.toInt32) (rr_6.toUInt32.toUInt16.toUInt32.toInt32) (rr_10.toUInt32.toUInt16.toUInt32.toInt32) (rr_14.toUInt32.toUInt16.toUInt32.toInt32) (rr_18.toUInt32.toUInt16.toUInt32.toInt32)) = (own_e5 (rr_2.toUInt32.toUInt16.toUInt32.toInt32) (rr_6.toUInt32.toUInt16.toUInt32.toInt32) (rr_10.toUInt32.toUInt16.toUInt32.toInt32) (rr_14.toUInt32.toUInt16.toUInt32.toInt32) (rr_18.toUInt32.toUInt16.toUInt32.toInt32)))).2 ?_
      refine oIc X84 hx hby at_80 (oGo X84 hx hby 81 85 at_81 (by decide) (by decide) ?_)
      exact retN X84 hx (t := .boolean) Bd.returns (by simp) (hb hby at_85) hr
    · show Q_0 Z _ _ _ _ _ _ _ _ h0 n0 _ T84.heap _
      rw [e84]
      exact ⟨rfl, N84, trivial⟩
set_option maxRecDepth 65536 in
set_option maxHeartbeats 40000000 in
theorem comes_1 {Post : Tables → Env → Array Value → State → Outcome → State → Prop} (hpost : ∀ tb e args s v u, (limb_1_1.after args s (.returned v) u = true ∧ limb_1_2.after args s (.returned v) u = true ∧ True) → ReturnedEndW s (.returned v) u (Jvm.fieldLocs frame_1_writes args s ++ Jvm.arrayLocs frame_1_arrays args s ++ Jvm.staticLocs frame_1_statics s) 24 1152 → Post tb e args s (.returned v) u) :
    ArmFor flags0 classFile x code maxLocals ret World_1 tables_1 room_1 Calls_1 rest_1 Pre_1 Post := by
  intro l hfl _ _ p e ha hc hk s m args below hf hA hF happ hP
  obtain ⟨hcalls, hrest, hpre⟩ := hP
  obtain ⟨-, -, -, hnamed, -, -, -, hat⟩ := (Spec.applies_iff hf).mp happ
  obtain ⟨hg, hn⟩ := and_e (Cond.before_iff.mp (show (Jvm.Cond.and given_1 narrow_1).before args s = true from hpre))
  have hw := fun d (hd : d ∈ tables_1) => atoms_spec (ws := Jvm.Cond.code x code maxLocals ret :: tables_1) hat d (List.mem_cons_of_mem _ hd)
  have hfit : Fit s := fun {y c} hc i hi => by
    obtain ⟨ha, rfl⟩ := Array.getElem?_eq_some_iff.mp hc
    have q := List.all_eq_true.mp ((Array.all_eq_true_iff_forall_mem.mp hF) _ (Array.getElem_mem ha)) i (List.mem_range.mpr hi)
    simpa [Array.getElem?_eq_getElem hi] using q
  obtain ⟨hsets, hown0⟩ := atoms_of _ (rest_1_c_eq ▸ (show rest_1_c.before _ s = true from hrest))
  have hr0 := Cond.before_iff.mp hown0
  obtain ⟨cj1, cj2⟩ := and_e hg
  obtain ⟨cj3, cj4⟩ := and_e cj2
  obtain ⟨cj5, cj6⟩ := and_e cj4
  obtain ⟨cj7, cj8⟩ := and_e cj6
  obtain ⟨cj9, cj10⟩ := and_e cj8
  obtain ⟨cj11, cj12⟩ := and_e cj10
  obtain ⟨w0, w1, w2, w3, w4, w5, rfl⟩ : ∃ w0 w1 w2 w3 w4 w5 : Value, args = #[w0, w1, w2, w3, w4, w5] := by
    have hs : args.size = 6 := by simpa [Cond.value, given_1] using cj1
    obtain ⟨L⟩ := args
    match L, hs with
    | [w0, w1, w2, w3, w4, w5], _ => exact ⟨w0, w1, w2, w3, w4, w5, rfl⟩
  obtain ⟨i0, ei0⟩ := is_v cj3
  obtain rfl : w0 = (.int i0) := Option.some.inj ei0
  obtain ⟨i1, ei1⟩ := is_v cj5
  obtain rfl : w1 = (.int i1) := Option.some.inj ei1
  obtain ⟨i2, ei2⟩ := is_v cj7
  obtain rfl : w2 = (.int i2) := Option.some.inj ei2
  obtain ⟨i3, ei3⟩ := is_v cj9
  obtain rfl : w3 = (.int i3) := Option.some.inj ei3
  obtain ⟨i4, ei4⟩ := is_v cj11
  obtain rfl : w4 = (.int i4) := Option.some.inj ei4
  obtain ⟨i5, ei5⟩ := is_v cj12
  obtain rfl : w5 = (.int i5) := Option.some.inj ei5
  have hcw : Jvm.Lit.compactW.before _ s = true := (hsets _ (List.mem_of_getElem? (i := 2) rfl))
  obtain ⟨w_CS, ev_CS⟩ := is_v (Cond.before_iff.mp (hsets _ (List.mem_of_getElem? (i := 1) rfl)))
  have S_CS : Sta s s.heap cS0 cS13 "Z" (.int w_CS) := Sta.start ev_CS (Or.inl (hsets _ (List.mem_of_getElem? (i := 0) rfl)))
  have hcs : ¬ (w_CS = (0 : Int32)) := own_ncs ev_CS hcw
  obtain ⟨w_F, ev_F, hwF⟩ := isR_v (Cond.before_iff.mp (hsets _ (List.mem_of_getElem? (i := 8) rfl)))
  have S_F : Sta s s.heap cS4 cS14 cS5 w_F := Sta.start ev_F (Or.inl (hsets _ (List.mem_of_getElem? (i := 7) rfl)))
  have ev_AD := own_eq_int (Cond.before_iff.mp (hsets _ (List.mem_of_getElem? (i := 12) rfl)))
  have S_AD : Sta s s.heap cS1 cS6 "Z" (.int 1) := Sta.start ev_AD (Or.inl (hsets _ (List.mem_of_getElem? (i := 11) rfl)))
  have ev_HI := own_eq_int (Cond.before_iff.mp (hsets _ (List.mem_of_getElem? (i := 15) rfl)))
  have S_HI : Sta s s.heap cS1 cS7 "I" (.int 0) := Sta.start ev_HI (Or.inl (hsets _ (List.mem_of_getElem? (i := 14) rfl)))
  have ev_LO := own_eq_int (Cond.before_iff.mp (hsets _ (List.mem_of_getElem? (i := 18) rfl)))
  have S_LO : Sta s s.heap cS1 cS8 "I" (.int 8) := Sta.start ev_LO (Or.inl (hsets _ (List.mem_of_getElem? (i := 17) rfl)))
  have hCH : CHv s own_EL s.vm s.heap := CHv.start (own_ew hw) (fun p hp => hcalls.1 p (own_elc p hp)) hcw (own_at hw 24 rfl) (own_at hw 7 rfl)
  obtain ⟨n, o, h1, h2, h3, _, L, rfl, ⟨rfl, N, -⟩, -, hq⟩ := rm0 l s _ hw tables_1 i0 i1 i2 i3 i4 i5 w_CS w_F s.heap s.heap.size (Nat.le_refl _) S_CS hcs S_F hwF S_AD S_HI S_LO p e ha hc hk s m _ below hf ((Spec.applies_iff_loose hf).mp happ).1 ⟨rfl, State.Warmed39.refl s, rfl, hCH⟩ trivial
  refine ⟨n, _, h1, h2, h3, hpost _ _ _ _ _ _ ⟨Cond.after_iff.mpr rfl, Cond.after_iff.mpr (eq_i res_at (Term.int_eval (1)) rfl), trivial⟩ ⟨hq.1, hq.2.1, hq.2.2.1, (hq.2.2.2.sift fun y hy => Or.inr (N y hy)).mono (by decide) (by decide)⟩⟩
theorem main_1_1 : Claimed_1_1 := comes_1 fun _ _ _ _ _ _ h hF => ⟨h.1, hF⟩
theorem main_1_2 : Claimed_1_2 := comes_1 fun _ _ _ _ _ _ h hF => ⟨h.2.1, hF⟩
end Jvm.Pilot.@@N@@
namespace Jvm.Pilot.@@N@@
open Jvm Jvm.ClassFile Sem Op Lib Jvm.Free Jvm.Stand Jvm.Pilot.@@N@@.Jvm.D
/-! MADE BY PROGRAM (witnessworld.py) out of the Statement's table words and the real class files: 20 classes; the members and pool entries that the words name. The judged class is class 1, her method 1. -/
namespace start1
open Jvm.ClassFile
def u (s : String) : CpInfo := .utf8 (stringToUtf16 s)
/-- a pool by its gaps: so many unusable entries, then the entry; so many at the end -/
def gap : Nat → List CpInfo → List CpInfo
  | 0, r => r
  | n + 1, r => .unusable :: gap n r
def poolList (es : List (Nat × CpInfo)) (last : Nat) : List CpInfo := es.foldr (fun e r => gap e.1 (e.2 :: r)) (gap last [])
def pool (es : List (Nat × CpInfo)) (last : Nat) : Array CpInfo := ⟨poolList es last⟩
def fileOf (pool : Array CpInfo) (this : Nat) (attrs : Array Attribute := #[]) (ms : Array MethodInfo := #[]) (fl : Nat := 33) (sup : Nat := 0) (ifs : Array Nat := #[]) (fds : Array FieldInfo := #[]) : ClassFile where
  minorVersion := 0
  majorVersion := 65
  constantPool := pool
  accessFlags := fl
  thisClass := this
  superClass := sup
  interfaces := ifs
  fields := fds
  methods := ms
  attributes := attrs
def plain (name : String) (sup : Option ClassId) : Class where
  name := name
  kind := .ordinary
  loader := none
  accessFlags := 33
  super := sup
  interfaces := #[]
  cf := none
  fields := #[]
  methods := #[]
  instanceTypes := #[]
  staticTypes := #[]
  resolved := #[]
  callSites := []
  init := .initialized
  statics := none
  mirror := none

def pool0 : Array CpInfo := pool [(5, u "<init>"), (0, u "()V"), (1, .class_ 10), (1, u "java/lang/Object")] 113

def k0c0 : Code := { maxStack := 0, maxLocals := 1, code := object_method_1_code, exceptionTable := #[], attributes := #[] }
def k0m0 : Method := { name := "<init>", desc := "()V", sig := { parameters := [], returnType := none }, accessFlags := 1, code := some k0c0 }
/-- java/lang/Object -/
def k0 : Class := { plain "java/lang/Object" none with
  accessFlags := 33
  interfaces := #[]
  cf := some (fileOf pool0 8 #[] #[{ accessFlags := 1, nameIndex := 5, descriptorIndex := 6, attributes := #[] }] 33 0 #[] #[])
  fields := #[]
  methods := #[k0m0]
  instanceTypes := #[]
  staticTypes := #[]
  resolved := Array.replicate 124 none
  statics := none }

def pool1 : Array CpInfo := pool [(2, .class_ 4), (1, u "java/lang/Object"), (0, u "<init>"), (0, u "()V"), (0, .methodref 8 9), (0, .class_ 10), (0, .nameAndType 11 12), (0, u "com/example/strict_lock/strictlock/EntityTagsEndPinLaw"), (0, u "pick"), (0, u "(I)C"), (0, .integer 2147483647), (0, .class_ 15), (0, u "java/lang/String"), (0, .methodref 14 17), (0, .nameAndType 5 18), (0, u "([C)V"), (0, .methodref 20 21), (0, .class_ 22), (0, .nameAndType 23 24), (0, u "com/example/strict_lock/strictlock/EntityTags"), (0, u "end"), (0, u "(Ljava/lang/String;I)I"), (0, .methodref 8 26), (0, .nameAndType 27 28), (0, u "ref"), (0, u "([CI)I"), (0, .integer 65535), (0, .methodref 8 31), (0, .nameAndType 32 33), (0, u "etagc"), (0, u "(C)Z"), (0, .methodref 8 35), (0, .nameAndType 36 28), (0, u "look"), (2, u "law"), (0, u "(IIIIII)Z")] 5

def k1m0 : Method := { name := "<init>", desc := "()V", sig := { parameters := [], returnType := none }, accessFlags := 1, code := none }
def k1c1 : Code := { maxStack := 3, maxLocals := 8, code := code, exceptionTable := #[], attributes := #[] }
def k1m1 : Method := { name := "law", desc := "(IIIIII)Z", sig := { parameters := [.int, .int, .int, .int, .int, .int], returnType := some .boolean }, accessFlags := 9, code := some k1c1 }
def k1c2 : Code := { maxStack := 2, maxLocals := 2, code := method_3_code, exceptionTable := #[], attributes := #[] }
def k1m2 : Method := { name := "pick", desc := "(I)C", sig := { parameters := [.int], returnType := some .char }, accessFlags := 10, code := some k1c2 }
def k1c3 : Code := { maxStack := 2, maxLocals := 1, code := method_4_code, exceptionTable := #[], attributes := #[] }
def k1m3 : Method := { name := "etagc", desc := "(C)Z", sig := { parameters := [.char], returnType := some .boolean }, accessFlags := 10, code := some k1c3 }
def k1c4 : Code := { maxStack := 2, maxLocals := 2, code := method_5_code, exceptionTable := #[], attributes := #[] }
def k1m4 : Method := { name := "look", desc := "([CI)I", sig := { parameters := [(.array .char), .int], returnType := some .int }, accessFlags := 10, code := some k1c4 }
def k1c5 : Code := { maxStack := 3, maxLocals := 5, code := method_6_code, exceptionTable := #[], attributes := #[] }
def k1m5 : Method := { name := "ref", desc := "([CI)I", sig := { parameters := [(.array .char), .int], returnType := some .int }, accessFlags := 10, code := some k1c5 }
/-- com/example/strict_lock/strictlock/EntityTagsEndPinLaw -/
def k1 : Class := { plain "com/example/strict_lock/strictlock/EntityTagsEndPinLaw" (some 0) with
  accessFlags := 49
  interfaces := #[]
  cf := some (fileOf pool1 8 #[] #[{ accessFlags := 1, nameIndex := 5, descriptorIndex := 6, attributes := #[] }, { accessFlags := 9, nameIndex := 39, descriptorIndex := 40, attributes := #[] }, { accessFlags := 10, nameIndex := 11, descriptorIndex := 12, attributes := #[] }, { accessFlags := 10, nameIndex := 32, descriptorIndex := 33, attributes := #[] }, { accessFlags := 10, nameIndex := 36, descriptorIndex := 28, attributes := #[] }, { accessFlags := 10, nameIndex := 27, descriptorIndex := 28, attributes := #[] }] 49 2 #[] #[])
  fields := #[]
  methods := #[k1m0, k1m1, k1m2, k1m3, k1m4, k1m5]
  instanceTypes := #[]
  staticTypes := #[]
  resolved := Array.replicate 46 none
  statics := none }

def pool2 : Array CpInfo := pool [(1, .class_ 2), (0, u "java/io/Serializable"), (0, .class_ 4), (0, u "java/lang/Object")] 2

/-- java/io/Serializable -/
def k2 : Class := { plain "java/io/Serializable" (some 0) with
  accessFlags := 1537
  interfaces := #[]
  cf := some (fileOf pool2 1 #[] #[] 1537 3 #[] #[])
  fields := #[]
  methods := #[]
  instanceTypes := #[]
  staticTypes := #[]
  resolved := Array.replicate 7 none
  statics := none }

def pool3 : Array CpInfo := pool [(1, .class_ 2), (0, u "java/lang/Comparable"), (0, .class_ 4), (0, u "java/lang/Object")] 7

/-- java/lang/Comparable -/
def k3 : Class := { plain "java/lang/Comparable" (some 0) with
  accessFlags := 1537
  interfaces := #[]
  cf := some (fileOf pool3 1 #[] #[] 1537 3 #[] #[])
  fields := #[]
  methods := #[]
  instanceTypes := #[]
  staticTypes := #[]
  resolved := Array.replicate 12 none
  statics := none }

def pool4 : Array CpInfo := pool [(2, .class_ 4), (1, u "java/lang/CharSequence"), (42, .class_ 48), (0, u "java/lang/CharSequence$1CodePointIterator"), (10, .class_ 60), (0, u "java/lang/CharSequence$1CharIterator"), (5, .class_ 67), (0, u "java/lang/Object")] 63

/-- java/lang/CharSequence -/
def k4 : Class := { plain "java/lang/CharSequence" (some 0) with
  accessFlags := 1537
  interfaces := #[]
  cf := some (fileOf pool4 2 #[.nestMembers #[47, 59]] #[] 1537 66 #[] #[])
  fields := #[]
  methods := #[]
  instanceTypes := #[]
  staticTypes := #[]
  resolved := Array.replicate 131 none
  statics := none }

def pool5 : Array CpInfo := pool [(1, .class_ 2), (0, u "java/lang/constant/Constable"), (0, .class_ 4), (0, u "java/lang/Object")] 6

/-- java/lang/constant/Constable -/
def k5 : Class := { plain "java/lang/constant/Constable" (some 0) with
  accessFlags := 1537
  interfaces := #[]
  cf := some (fileOf pool5 1 #[] #[] 1537 3 #[] #[])
  fields := #[]
  methods := #[]
  instanceTypes := #[]
  staticTypes := #[]
  resolved := Array.replicate 11 none
  statics := none }

def pool6 : Array CpInfo := pool [(1, .class_ 2), (0, u "java/lang/constant/ConstantDesc"), (0, .class_ 4), (0, u "java/lang/Object")] 32

/-- java/lang/constant/ConstantDesc -/
def k6 : Class := { plain "java/lang/constant/ConstantDesc" (some 0) with
  accessFlags := 1537
  interfaces := #[]
  cf := some (fileOf pool6 1 #[] #[] 1537 3 #[] #[])
  fields := #[]
  methods := #[]
  instanceTypes := #[]
  staticTypes := #[]
  resolved := Array.replicate 37 none
  statics := none }

def pool7 : Array CpInfo := pool [(1, .methodref 2 3), (0, .class_ 4), (0, .nameAndType 5 6), (0, u "java/lang/Object"), (0, u "<init>"), (0, u "()V"), (2, .fieldref 10 11), (0, .class_ 12), (0, .nameAndType 13 14), (0, u "java/lang/String"), (0, u "value"), (0, u "[B"), (0, .fieldref 10 16), (0, .nameAndType 17 18), (0, u "coder"), (0, u "B"), (2, u "hash"), (0, u "I"), (2, u "hashIsZero"), (0, u "Z"), (0, .methodref 10 28), (0, .nameAndType 5 29), (0, u "([CIILjava/lang/Void;)V"), (8, .fieldref 10 39), (0, .nameAndType 40 26), (0, u "COMPACT_STRINGS"), (1, .class_ 44), (1, u "java/lang/StringUTF16"), (0, u "compress"), (1, .methodref 42 48), (0, .nameAndType 49 50), (0, u "coderFromArrayLen"), (0, u "([BI)B"), (56, .class_ 109), (1, u "java/lang/StringLatin1"), (32, u "()Z"), (34, .methodref 42 178), (0, .nameAndType 45 179), (0, u "([CII)[B"), (154, u "()I"), (0, .methodref 10 336), (0, .nameAndType 17 337), (0, u "()B"), (22, .methodref 42 361), (0, .nameAndType 362 363), (0, u "getChar"), (0, u "([BI)C"), (12, u "([BI[BII)I"), (14, u "(II)V"), (35, u "(I)C"), (64, .methodref 10 493), (0, .nameAndType 494 142), (0, u "isLatin1"), (0, .methodref 107 496), (0, .nameAndType 497 363), (0, u "charAt"), (0, .methodref 42 496), (2, u "checkIndex"), (3, .methodref 10 506), (0, .nameAndType 507 334), (0, u "length"), (51, .class_ 561), (1, u "jdk/internal/util/ArraysSupport"), (0, u "mismatch"), (12, .class_ 576), (0, u "java/lang/CharSequence"), (22, u "CASE_INSENSITIVE_ORDER"), (0, u "Ljava/util/Comparator;"), (6, .methodref 559 608), (0, .nameAndType 562 376), (17, u "startsWith"), (0, u "(Ljava/lang/String;I)Z"), (382, u "([C)V"), (42, .fieldref 1054 1055), (0, .class_ 1056), (0, .nameAndType 1057 1058), (0, u "jdk/internal/util/Preconditions"), (0, u "SIOOBE_FORMATTER"), (0, u "Ljava/util/function/BiFunction;"), (0, .methodref 1054 1060), (0, .nameAndType 501 1061), (0, u "(IILjava/util/function/BiFunction;)I"), (39, u "serialPersistentFields"), (0, u "[Ljava/io/ObjectStreamField;"), (0, .class_ 1104), (0, u "java/lang/String$CaseInsensitiveComparator"), (1, .class_ 1107), (0, u "java/io/Serializable"), (0, .class_ 1109), (0, u "java/lang/Comparable"), (0, .class_ 1111), (0, u "java/lang/constant/Constable"), (0, .class_ 1113), (0, u "java/lang/constant/ConstantDesc"), (2, u "serialVersionUID"), (0, u "J"), (3, u "REPL"), (0, u "C"), (2, u "LATIN1"), (1, u "UTF16")] 323

def k7m0 : Method := { name := "<init>", desc := "()V", sig := { parameters := [], returnType := none }, accessFlags := 1, code := none }
def k7c1 : Code := { maxStack := 5, maxLocals := 2, code := jdk_42_method_3_code, exceptionTable := #[], attributes := #[] }
def k7m1 : Method := { name := "<init>", desc := "([C)V", sig := { parameters := [(.array .char)], returnType := none }, accessFlags := 1, code := some k7c1 }
def k7c2 : Code := { maxStack := 2, maxLocals := 1, code := jdk_42_method_54_code, exceptionTable := #[], attributes := #[] }
def k7m2 : Method := { name := "length", desc := "()I", sig := { parameters := [], returnType := some .int }, accessFlags := 1, code := some k7c2 }
def k7c3 : Code := { maxStack := 2, maxLocals := 2, code := jdk_42_method_56_code, exceptionTable := #[], attributes := #[] }
def k7m3 : Method := { name := "charAt", desc := "(I)C", sig := { parameters := [.int], returnType := some .char }, accessFlags := 1, code := some k7c3 }
def k7c4 : Code := { maxStack := 5, maxLocals := 8, code := jdk_42_method_75_code, exceptionTable := #[], attributes := #[] }
def k7m4 : Method := { name := "startsWith", desc := "(Ljava/lang/String;I)Z", sig := { parameters := [(.object "java/lang/String"), .int], returnType := some .boolean }, accessFlags := 1, code := some k7c4 }
def k7c5 : Code := { maxStack := 4, maxLocals := 6, code := jdk_42_method_149_code, exceptionTable := #[], attributes := #[] }
def k7m5 : Method := { name := "<init>", desc := "([CIILjava/lang/Void;)V", sig := { parameters := [(.array .char), .int, .int, (.object "java/lang/Void")], returnType := none }, accessFlags := 2, code := some k7c5 }
def k7c6 : Code := { maxStack := 1, maxLocals := 1, code := jdk_42_method_152_code, exceptionTable := #[], attributes := #[] }
def k7m6 : Method := { name := "coder", desc := "()B", sig := { parameters := [], returnType := some .byte }, accessFlags := 0, code := some k7c6 }
def k7c7 : Code := { maxStack := 1, maxLocals := 1, code := jdk_42_method_154_code, exceptionTable := #[], attributes := #[] }
def k7m7 : Method := { name := "isLatin1", desc := "()Z", sig := { parameters := [], returnType := some .boolean }, accessFlags := 0, code := some k7c7 }
def k7c8 : Code := { maxStack := 3, maxLocals := 2, code := jdk_42_method_155_code, exceptionTable := #[], attributes := #[] }
def k7m8 : Method := { name := "checkIndex", desc := "(II)V", sig := { parameters := [.int, .int], returnType := none }, accessFlags := 8, code := some k7c8 }
/-- java/lang/String -/
def k7 : Class := { plain "java/lang/String" (some 0) with
  accessFlags := 49
  interfaces := #[2, 3, 4, 5, 6]
  cf := some (fileOf pool7 10 #[.nestMembers #[1103]] #[{ accessFlags := 1, nameIndex := 5, descriptorIndex := 6, attributes := #[] }, { accessFlags := 1, nameIndex := 5, descriptorIndex := 1010, attributes := #[] }, { accessFlags := 1, nameIndex := 507, descriptorIndex := 334, attributes := #[] }, { accessFlags := 1, nameIndex := 497, descriptorIndex := 427, attributes := #[] }, { accessFlags := 1, nameIndex := 626, descriptorIndex := 627, attributes := #[] }, { accessFlags := 2, nameIndex := 5, descriptorIndex := 29, attributes := #[] }, { accessFlags := 0, nameIndex := 17, descriptorIndex := 337, attributes := #[] }, { accessFlags := 0, nameIndex := 494, descriptorIndex := 142, attributes := #[] }, { accessFlags := 8, nameIndex := 501, descriptorIndex := 391, attributes := #[] }] 49 2 #[1106, 1108, 575, 1110, 1112] #[{ accessFlags := 18, nameIndex := 13, descriptorIndex := 14, attributes := #[] }, { accessFlags := 18, nameIndex := 17, descriptorIndex := 18, attributes := #[] }, { accessFlags := 2, nameIndex := 21, descriptorIndex := 22, attributes := #[] }, { accessFlags := 2, nameIndex := 25, descriptorIndex := 26, attributes := #[] }, { accessFlags := 26, nameIndex := 1116, descriptorIndex := 1117, attributes := #[] }, { accessFlags := 24, nameIndex := 40, descriptorIndex := 26, attributes := #[] }, { accessFlags := 26, nameIndex := 1101, descriptorIndex := 1102, attributes := #[] }, { accessFlags := 26, nameIndex := 1121, descriptorIndex := 1122, attributes := #[] }, { accessFlags := 25, nameIndex := 599, descriptorIndex := 600, attributes := #[] }, { accessFlags := 24, nameIndex := 1125, descriptorIndex := 18, attributes := #[] }, { accessFlags := 24, nameIndex := 1127, descriptorIndex := 18, attributes := #[] }])
  fields := #[{ name := "value", type := (.array .byte), accessFlags := 18, slot := 0, constantValue := 0 }, { name := "coder", type := .byte, accessFlags := 18, slot := 1, constantValue := 0 }, { name := "hash", type := .int, accessFlags := 2, slot := 2, constantValue := 0 }, { name := "hashIsZero", type := .boolean, accessFlags := 2, slot := 3, constantValue := 0 }, { name := "serialVersionUID", type := .long, accessFlags := 26, slot := 0, constantValue := 0 }, { name := "COMPACT_STRINGS", type := .boolean, accessFlags := 24, slot := 1, constantValue := 0 }, { name := "serialPersistentFields", type := (.array (.object "java/io/ObjectStreamField")), accessFlags := 26, slot := 2, constantValue := 0 }, { name := "REPL", type := .char, accessFlags := 26, slot := 3, constantValue := 0 }, { name := "CASE_INSENSITIVE_ORDER", type := (.object "java/util/Comparator"), accessFlags := 25, slot := 4, constantValue := 0 }, { name := "LATIN1", type := .byte, accessFlags := 24, slot := 5, constantValue := 0 }, { name := "UTF16", type := .byte, accessFlags := 24, slot := 6, constantValue := 0 }]
  methods := #[k7m0, k7m1, k7m2, k7m3, k7m4, k7m5, k7m6, k7m7, k7m8]
  instanceTypes := #[(.array .byte), .byte, .int, .boolean]
  staticTypes := #[.long, .boolean, (.array (.object "java/io/ObjectStreamField")), .char, (.object "java/util/Comparator"), .byte, .byte]
  resolved := Array.replicate 1451 none
  statics := some 0 }

def pool8 : Array CpInfo := pool [(3, .class_ 4), (0, u "java/lang/String"), (1, .class_ 8), (1, u "java/lang/Object"), (0, u "<init>"), (0, u "()V"), (0, .methodref 12 13), (0, .class_ 14), (0, .nameAndType 15 16), (0, u "java/lang/StringUTF16"), (0, u "newBytesLength"), (0, u "(I)I"), (3, .integer 1073741823), (23, .fieldref 12 45), (0, .nameAndType 46 47), (0, u "$assertionsDisabled"), (0, u "Z"), (0, .methodref 12 49), (0, .nameAndType 50 51), (0, u "length"), (0, u "([B)I"), (7, .fieldref 12 60), (0, .nameAndType 61 62), (0, u "HI_BYTE_SHIFT"), (0, u "I"), (0, .fieldref 12 64), (0, .nameAndType 65 62), (0, u "LO_BYTE_SHIFT"), (1, .methodref 12 68), (0, .nameAndType 69 70), (0, u "checkIndex"), (0, u "(I[B)V"), (0, .methodref 12 72), (0, .nameAndType 73 74), (0, u "getChar"), (0, u "([BI)C"), (32, .methodref 12 108), (0, .nameAndType 109 110), (0, u "newBytesFor"), (0, u "(I)[B"), (0, .methodref 12 112), (0, .nameAndType 113 114), (0, u "putChar"), (0, u "([BII)V"), (0, .methodref 12 116), (0, .nameAndType 117 118), (0, u "compress"), (0, u "([CI[BII)I"), (0, .methodref 12 120), (0, .nameAndType 121 122), (0, u "toBytes"), (0, u "([CII)[B"), (138, u "coderFromArrayLen"), (0, u "([BI)B"), (106, .class_ 371), (1, u "java/lang/StringUTF16$LinesSpliterator"), (20, u "charAt"), (21, .methodref 3 415), (0, .nameAndType 69 416), (0, u "(II)V"), (13, u "MAX_LENGTH"), (196, .class_ 628), (0, u "java/lang/StringUTF16$CodePointsSpliterator"), (0, .class_ 630), (0, u "java/lang/StringUTF16$CharsSpliterator")] 4

def k8m0 : Method := { name := "<init>", desc := "()V", sig := { parameters := [], returnType := none }, accessFlags := 0, code := none }
def k8c1 : Code := { maxStack := 1, maxLocals := 1, code := jdk_52_method_2_code, exceptionTable := #[], attributes := #[] }
def k8m1 : Method := { name := "newBytesFor", desc := "(I)[B", sig := { parameters := [.int], returnType := some (.array .byte) }, accessFlags := 9, code := some k8c1 }
def k8c2 : Code := { maxStack := 4, maxLocals := 1, code := jdk_52_method_3_code, exceptionTable := #[], attributes := #[] }
def k8m2 : Method := { name := "newBytesLength", desc := "(I)I", sig := { parameters := [.int], returnType := some .int }, accessFlags := 9, code := some k8c2 }
def k8c3 : Code := { maxStack := 4, maxLocals := 3, code := jdk_52_method_4_code, exceptionTable := #[], attributes := #[] }
def k8m3 : Method := { name := "putChar", desc := "([BII)V", sig := { parameters := [(.array .byte), .int, .int], returnType := none }, accessFlags := 8, code := some k8c3 }
def k8c4 : Code := { maxStack := 3, maxLocals := 2, code := jdk_52_method_5_code, exceptionTable := #[], attributes := #[] }
def k8m4 : Method := { name := "getChar", desc := "([BI)C", sig := { parameters := [(.array .byte), .int], returnType := some .char }, accessFlags := 8, code := some k8c4 }
def k8c5 : Code := { maxStack := 2, maxLocals := 1, code := jdk_52_method_6_code, exceptionTable := #[], attributes := #[] }
def k8m5 : Method := { name := "length", desc := "([B)I", sig := { parameters := [(.array .byte)], returnType := some .int }, accessFlags := 9, code := some k8c5 }
def k8c6 : Code := { maxStack := 4, maxLocals := 5, code := jdk_52_method_14_code, exceptionTable := #[], attributes := #[] }
def k8m6 : Method := { name := "toBytes", desc := "([CII)[B", sig := { parameters := [(.array .char), .int, .int], returnType := some (.array .byte) }, accessFlags := 9, code := some k8c6 }
def k8c7 : Code := { maxStack := 2, maxLocals := 2, code := jdk_52_method_15_code, exceptionTable := #[], attributes := #[] }
def k8m7 : Method := { name := "coderFromArrayLen", desc := "([BI)B", sig := { parameters := [(.array .byte), .int], returnType := some .byte }, accessFlags := 8, code := some k8c7 }
def k8c8 : Code := { maxStack := 5, maxLocals := 6, code := jdk_52_method_16_code, exceptionTable := #[], attributes := #[] }
def k8m8 : Method := { name := "compress", desc := "([CII)[B", sig := { parameters := [(.array .char), .int, .int], returnType := some (.array .byte) }, accessFlags := 9, code := some k8c8 }
def k8c9 : Code := { maxStack := 3, maxLocals := 7, code := jdk_52_method_21_code, exceptionTable := #[], attributes := #[] }
def k8m9 : Method := { name := "compress", desc := "([CI[BII)I", sig := { parameters := [(.array .char), .int, (.array .byte), .int, .int], returnType := some .int }, accessFlags := 9, code := some k8c9 }
def k8c10 : Code := { maxStack := 2, maxLocals := 2, code := jdk_52_method_83_code, exceptionTable := #[], attributes := #[] }
def k8m10 : Method := { name := "charAt", desc := "([BI)C", sig := { parameters := [(.array .byte), .int], returnType := some .char }, accessFlags := 9, code := some k8c10 }
def k8c11 : Code := { maxStack := 2, maxLocals := 2, code := jdk_52_method_91_code, exceptionTable := #[], attributes := #[] }
def k8m11 : Method := { name := "checkIndex", desc := "(I[B)V", sig := { parameters := [.int, (.array .byte)], returnType := none }, accessFlags := 9, code := some k8c11 }
/-- java/lang/StringUTF16 -/
def k8 : Class := { plain "java/lang/StringUTF16" (some 0) with
  accessFlags := 48
  interfaces := #[]
  cf := some (fileOf pool8 12 #[.nestMembers #[627, 629, 369]] #[{ accessFlags := 0, nameIndex := 9, descriptorIndex := 10, attributes := #[] }, { accessFlags := 9, nameIndex := 109, descriptorIndex := 110, attributes := #[] }, { accessFlags := 9, nameIndex := 15, descriptorIndex := 16, attributes := #[] }, { accessFlags := 8, nameIndex := 113, descriptorIndex := 114, attributes := #[] }, { accessFlags := 8, nameIndex := 73, descriptorIndex := 74, attributes := #[] }, { accessFlags := 9, nameIndex := 50, descriptorIndex := 51, attributes := #[] }, { accessFlags := 9, nameIndex := 121, descriptorIndex := 122, attributes := #[] }, { accessFlags := 8, nameIndex := 261, descriptorIndex := 262, attributes := #[] }, { accessFlags := 9, nameIndex := 117, descriptorIndex := 122, attributes := #[] }, { accessFlags := 9, nameIndex := 117, descriptorIndex := 118, attributes := #[] }, { accessFlags := 9, nameIndex := 392, descriptorIndex := 74, attributes := #[] }, { accessFlags := 9, nameIndex := 69, descriptorIndex := 70, attributes := #[] }] 48 6 #[] #[{ accessFlags := 26, nameIndex := 61, descriptorIndex := 62, attributes := #[] }, { accessFlags := 26, nameIndex := 65, descriptorIndex := 62, attributes := #[] }, { accessFlags := 24, nameIndex := 430, descriptorIndex := 62, attributes := #[] }, { accessFlags := 4120, nameIndex := 46, descriptorIndex := 47, attributes := #[] }])
  fields := #[{ name := "HI_BYTE_SHIFT", type := .int, accessFlags := 26, slot := 0, constantValue := 0 }, { name := "LO_BYTE_SHIFT", type := .int, accessFlags := 26, slot := 1, constantValue := 0 }, { name := "MAX_LENGTH", type := .int, accessFlags := 24, slot := 2, constantValue := 0 }, { name := "$assertionsDisabled", type := .boolean, accessFlags := 4120, slot := 3, constantValue := 0 }]
  methods := #[k8m0, k8m1, k8m2, k8m3, k8m4, k8m5, k8m6, k8m7, k8m8, k8m9, k8m10, k8m11]
  instanceTypes := #[]
  staticTypes := #[.int, .int, .int, .boolean]
  resolved := Array.replicate 635 none
  statics := some 1 }

def pool9 : Array CpInfo := pool [(2, .class_ 4), (1, u "java/lang/Object"), (2, .class_ 8), (0, u "com/example/strict_lock/strictlock/EntityTags$Kept"), (8, .class_ 19), (1, u "com/example/strict_lock/strictlock/EntityTags"), (0, u "kept"), (0, u "Ljava/util/Map;"), (2, u "clock"), (0, u "Ljava/time/Clock;"), (0, .string 27), (0, u "W/"), (0, .methodref 29 30), (0, .class_ 31), (0, .nameAndType 32 33), (0, u "java/lang/String"), (0, u "startsWith"), (0, u "(Ljava/lang/String;I)Z"), (0, .methodref 29 35), (0, .nameAndType 36 37), (0, u "length"), (0, u "()I"), (0, .methodref 29 39), (0, .nameAndType 40 41), (0, u "charAt"), (0, u "(I)C"), (74, .class_ 117), (0, u "com/example/strict_lock/strictlock/EntityTags$Known"), (6, u "Ljava/lang/String;"), (24, u "SETTLED"), (0, u "Ljava/time/Duration;"), (94, u "KEPT"), (0, u "I"), (2, u "STATUS"), (0, u "READ_BUFFER_BYTES"), (5, u "end"), (0, u "(Ljava/lang/String;I)I")] 39

def k9c0 : Code := { maxStack := 3, maxLocals := 4, code := prog_3_method_2_code, exceptionTable := #[], attributes := #[] }
def k9m0 : Method := { name := "end", desc := "(Ljava/lang/String;I)I", sig := { parameters := [(.object "java/lang/String"), .int], returnType := some .int }, accessFlags := 8, code := some k9c0 }
/-- com/example/strict_lock/strictlock/EntityTags -/
def k9 : Class := { plain "com/example/strict_lock/strictlock/EntityTags" (some 0) with
  accessFlags := 48
  interfaces := #[]
  cf := some (fileOf pool9 17 #[.nestMembers #[7, 116]] #[{ accessFlags := 8, nameIndex := 256, descriptorIndex := 257, attributes := #[] }] 48 2 #[] #[{ accessFlags := 26, nameIndex := 149, descriptorIndex := 150, attributes := #[] }, { accessFlags := 26, nameIndex := 245, descriptorIndex := 246, attributes := #[] }, { accessFlags := 26, nameIndex := 249, descriptorIndex := 124, attributes := #[] }, { accessFlags := 26, nameIndex := 250, descriptorIndex := 246, attributes := #[] }, { accessFlags := 18, nameIndex := 24, descriptorIndex := 25, attributes := #[] }, { accessFlags := 18, nameIndex := 20, descriptorIndex := 21, attributes := #[] }])
  fields := #[{ name := "SETTLED", type := (.object "java/time/Duration"), accessFlags := 26, slot := 0, constantValue := 0 }, { name := "KEPT", type := .int, accessFlags := 26, slot := 1, constantValue := 0 }, { name := "STATUS", type := (.object "java/lang/String"), accessFlags := 26, slot := 2, constantValue := 0 }, { name := "READ_BUFFER_BYTES", type := .int, accessFlags := 26, slot := 3, constantValue := 0 }, { name := "clock", type := (.object "java/time/Clock"), accessFlags := 18, slot := 0, constantValue := 0 }, { name := "kept", type := (.object "java/util/Map"), accessFlags := 18, slot := 1, constantValue := 0 }]
  methods := #[k9m0]
  instanceTypes := #[(.object "java/time/Clock"), (.object "java/util/Map")]
  staticTypes := #[(.object "java/time/Duration"), .int, (.object "java/lang/String"), .int]
  resolved := Array.replicate 297 none
  statics := none }

def pool10 : Array CpInfo := pool [(9, u "<init>"), (6, .class_ 18), (1, u "java/lang/Object"), (0, u "()V"), (1, .class_ 23), (1, u "jdk/internal/util/ArraysSupport"), (0, u "LOG2_ARRAY_LONG_INDEX_SCALE"), (0, u "I"), (2, u "U"), (0, u "Ljdk/internal/misc/Unsafe;"), (8, u "BIG_ENDIAN"), (0, u "Z"), (8, u "LOG2_BYTE_BIT_SIZE"), (4, u "LOG2_ARRAY_INT_INDEX_SCALE"), (54, u "JLA"), (0, u "Ljdk/internal/access/JavaLangAccess;"), (11, u "LOG2_ARRAY_BOOLEAN_INDEX_SCALE"), (9, u "LOG2_ARRAY_BYTE_INDEX_SCALE"), (5, u "LOG2_ARRAY_CHAR_INDEX_SCALE"), (5, u "LOG2_ARRAY_SHORT_INDEX_SCALE"), (5, u "mismatch"), (12, u "LOG2_ARRAY_FLOAT_INDEX_SCALE"), (24, u "LOG2_ARRAY_DOUBLE_INDEX_SCALE"), (89, u "T_BOOLEAN"), (2, u "T_CHAR"), (1, u "T_FLOAT"), (1, u "T_DOUBLE"), (1, u "T_BYTE"), (1, u "T_SHORT"), (1, u "T_INT"), (1, u "T_LONG"), (1, u "SOFT_MAX_ARRAY_LENGTH"), (42, u "([BI[BII)I")] 40

def k10m0 : Method := { name := "<init>", desc := "()V", sig := { parameters := [], returnType := none }, accessFlags := 2, code := none }
def k10c1 : Code := { maxStack := 8, maxLocals := 8, code := jdk_48_method_14_code, exceptionTable := #[], attributes := #[] }
def k10m1 : Method := { name := "mismatch", desc := "([BI[BII)I", sig := { parameters := [(.array .byte), .int, (.array .byte), .int, .int], returnType := some .int }, accessFlags := 9, code := some k10c1 }
/-- jdk/internal/util/ArraysSupport -/
def k10 : Class := { plain "jdk/internal/util/ArraysSupport" (some 0) with
  accessFlags := 33
  interfaces := #[]
  cf := some (fileOf pool10 21 #[] #[{ accessFlags := 2, nameIndex := 9, descriptorIndex := 19, attributes := #[] }, { accessFlags := 9, nameIndex := 149, descriptorIndex := 337, attributes := #[] }] 33 16 #[] #[{ accessFlags := 24, nameIndex := 28, descriptorIndex := 29, attributes := #[] }, { accessFlags := 26, nameIndex := 38, descriptorIndex := 39, attributes := #[] }, { accessFlags := 25, nameIndex := 121, descriptorIndex := 25, attributes := #[] }, { accessFlags := 25, nameIndex := 131, descriptorIndex := 25, attributes := #[] }, { accessFlags := 25, nameIndex := 137, descriptorIndex := 25, attributes := #[] }, { accessFlags := 25, nameIndex := 143, descriptorIndex := 25, attributes := #[] }, { accessFlags := 25, nameIndex := 53, descriptorIndex := 25, attributes := #[] }, { accessFlags := 25, nameIndex := 24, descriptorIndex := 25, attributes := #[] }, { accessFlags := 25, nameIndex := 162, descriptorIndex := 25, attributes := #[] }, { accessFlags := 25, nameIndex := 187, descriptorIndex := 25, attributes := #[] }, { accessFlags := 26, nameIndex := 48, descriptorIndex := 25, attributes := #[] }, { accessFlags := 25, nameIndex := 277, descriptorIndex := 25, attributes := #[] }, { accessFlags := 25, nameIndex := 280, descriptorIndex := 25, attributes := #[] }, { accessFlags := 25, nameIndex := 282, descriptorIndex := 25, attributes := #[] }, { accessFlags := 25, nameIndex := 284, descriptorIndex := 25, attributes := #[] }, { accessFlags := 25, nameIndex := 286, descriptorIndex := 25, attributes := #[] }, { accessFlags := 25, nameIndex := 288, descriptorIndex := 25, attributes := #[] }, { accessFlags := 25, nameIndex := 290, descriptorIndex := 25, attributes := #[] }, { accessFlags := 25, nameIndex := 292, descriptorIndex := 25, attributes := #[] }, { accessFlags := 26, nameIndex := 108, descriptorIndex := 109, attributes := #[] }, { accessFlags := 25, nameIndex := 294, descriptorIndex := 25, attributes := #[] }])
  fields := #[{ name := "U", type := (.object "jdk/internal/misc/Unsafe"), accessFlags := 24, slot := 0, constantValue := 0 }, { name := "BIG_ENDIAN", type := .boolean, accessFlags := 26, slot := 1, constantValue := 0 }, { name := "LOG2_ARRAY_BOOLEAN_INDEX_SCALE", type := .int, accessFlags := 25, slot := 2, constantValue := 0 }, { name := "LOG2_ARRAY_BYTE_INDEX_SCALE", type := .int, accessFlags := 25, slot := 3, constantValue := 0 }, { name := "LOG2_ARRAY_CHAR_INDEX_SCALE", type := .int, accessFlags := 25, slot := 4, constantValue := 0 }, { name := "LOG2_ARRAY_SHORT_INDEX_SCALE", type := .int, accessFlags := 25, slot := 5, constantValue := 0 }, { name := "LOG2_ARRAY_INT_INDEX_SCALE", type := .int, accessFlags := 25, slot := 6, constantValue := 0 }, { name := "LOG2_ARRAY_LONG_INDEX_SCALE", type := .int, accessFlags := 25, slot := 7, constantValue := 0 }, { name := "LOG2_ARRAY_FLOAT_INDEX_SCALE", type := .int, accessFlags := 25, slot := 8, constantValue := 0 }, { name := "LOG2_ARRAY_DOUBLE_INDEX_SCALE", type := .int, accessFlags := 25, slot := 9, constantValue := 0 }, { name := "LOG2_BYTE_BIT_SIZE", type := .int, accessFlags := 26, slot := 10, constantValue := 0 }, { name := "T_BOOLEAN", type := .int, accessFlags := 25, slot := 11, constantValue := 0 }, { name := "T_CHAR", type := .int, accessFlags := 25, slot := 12, constantValue := 0 }, { name := "T_FLOAT", type := .int, accessFlags := 25, slot := 13, constantValue := 0 }, { name := "T_DOUBLE", type := .int, accessFlags := 25, slot := 14, constantValue := 0 }, { name := "T_BYTE", type := .int, accessFlags := 25, slot := 15, constantValue := 0 }, { name := "T_SHORT", type := .int, accessFlags := 25, slot := 16, constantValue := 0 }, { name := "T_INT", type := .int, accessFlags := 25, slot := 17, constantValue := 0 }, { name := "T_LONG", type := .int, accessFlags := 25, slot := 18, constantValue := 0 }, { name := "JLA", type := (.object "jdk/internal/access/JavaLangAccess"), accessFlags := 26, slot := 19, constantValue := 0 }, { name := "SOFT_MAX_ARRAY_LENGTH", type := .int, accessFlags := 25, slot := 20, constantValue := 0 }]
  methods := #[k10m0, k10m1]
  instanceTypes := #[]
  staticTypes := #[(.object "jdk/internal/misc/Unsafe"), .boolean, .int, .int, .int, .int, .int, .int, .int, .int, .int, .int, .int, .int, .int, .int, .int, .int, .int, (.object "jdk/internal/access/JavaLangAccess"), .int]
  resolved := Array.replicate 378 none
  statics := none }

def pool11 : Array CpInfo := pool [(1, .class_ 2), (0, u "java/lang/String"), (1, .class_ 6), (1, u "java/lang/Object"), (0, u "<init>"), (0, u "()V"), (0, .methodref 1 10), (0, .nameAndType 11 12), (0, u "checkIndex"), (0, u "(II)V"), (1, .class_ 16), (1, u "java/lang/StringLatin1"), (36, u "([BI)C"), (67, u "$assertionsDisabled"), (0, u "Z"), (98, .class_ 223), (1, u "java/lang/StringLatin1$LinesSpliterator"), (28, u "charAt"), (137, .class_ 391), (0, u "java/lang/StringLatin1$CharsSpliterator")] 3

def k11m0 : Method := { name := "<init>", desc := "()V", sig := { parameters := [], returnType := none }, accessFlags := 0, code := none }
def k11c1 : Code := { maxStack := 2, maxLocals := 2, code := jdk_43_method_2_code, exceptionTable := #[], attributes := #[] }
def k11m1 : Method := { name := "charAt", desc := "([BI)C", sig := { parameters := [(.array .byte), .int], returnType := some .char }, accessFlags := 9, code := some k11c1 }
/-- java/lang/StringLatin1 -/
def k11 : Class := { plain "java/lang/StringLatin1" (some 0) with
  accessFlags := 48
  interfaces := #[]
  cf := some (fileOf pool11 14 #[.nestMembers #[390, 221]] #[{ accessFlags := 0, nameIndex := 7, descriptorIndex := 8, attributes := #[] }, { accessFlags := 9, nameIndex := 252, descriptorIndex := 53, attributes := #[] }] 48 4 #[] #[{ accessFlags := 4120, nameIndex := 121, descriptorIndex := 122, attributes := #[] }])
  fields := #[{ name := "$assertionsDisabled", type := .boolean, accessFlags := 4120, slot := 0, constantValue := 0 }]
  methods := #[k11m0, k11m1]
  instanceTypes := #[]
  staticTypes := #[.boolean]
  resolved := Array.replicate 395 none
  statics := none }

def pool12 : Array CpInfo := pool [(2, .class_ 4), (1, u "java/lang/Object"), (0, u "<init>"), (0, u "()V"), (17, .class_ 26), (1, u "jdk/internal/util/Preconditions"), (6, u "checkIndex"), (21, .class_ 56), (0, u "jdk/internal/util/Preconditions$4"), (57, .class_ 115), (0, u "jdk/internal/util/Preconditions$1"), (7, u "SIOOBE_FORMATTER"), (0, u "Ljava/util/function/BiFunction;"), (0, .class_ 126), (0, u "jdk/internal/util/Preconditions$2"), (3, u "AIOOBE_FORMATTER"), (0, .class_ 132), (0, u "jdk/internal/util/Preconditions$3"), (3, u "IOOBE_FORMATTER"), (41, u "(IILjava/util/function/BiFunction;)I")] 15

def k12m0 : Method := { name := "<init>", desc := "()V", sig := { parameters := [], returnType := none }, accessFlags := 1, code := none }
def k12c1 : Code := { maxStack := 3, maxLocals := 3, code := jdk_41_method_11_code, exceptionTable := #[], attributes := #[] }
def k12m1 : Method := { name := "checkIndex", desc := "(IILjava/util/function/BiFunction;)I", sig := { parameters := [.int, .int, (.object "java/util/function/BiFunction")], returnType := some .int }, accessFlags := 9, code := some k12c1 }
/-- jdk/internal/util/Preconditions -/
def k12 : Class := { plain "jdk/internal/util/Preconditions" (some 0) with
  accessFlags := 33
  interfaces := #[]
  cf := some (fileOf pool12 24 #[.nestMembers #[55, 131, 125, 114]] #[{ accessFlags := 1, nameIndex := 5, descriptorIndex := 6, attributes := #[] }, { accessFlags := 9, nameIndex := 33, descriptorIndex := 178, attributes := #[] }] 33 2 #[] #[{ accessFlags := 25, nameIndex := 123, descriptorIndex := 124, attributes := #[] }, { accessFlags := 25, nameIndex := 130, descriptorIndex := 124, attributes := #[] }, { accessFlags := 25, nameIndex := 136, descriptorIndex := 124, attributes := #[] }])
  fields := #[{ name := "SIOOBE_FORMATTER", type := (.object "java/util/function/BiFunction"), accessFlags := 25, slot := 0, constantValue := 0 }, { name := "AIOOBE_FORMATTER", type := (.object "java/util/function/BiFunction"), accessFlags := 25, slot := 1, constantValue := 0 }, { name := "IOOBE_FORMATTER", type := (.object "java/util/function/BiFunction"), accessFlags := 25, slot := 2, constantValue := 0 }]
  methods := #[k12m0, k12m1]
  instanceTypes := #[]
  staticTypes := #[(.object "java/util/function/BiFunction"), (.object "java/util/function/BiFunction"), (.object "java/util/function/BiFunction")]
  resolved := Array.replicate 194 none
  statics := some 2 }

def pool13 : Array CpInfo := pool [(1, u "java/lang/Cloneable"), (0, .class_ 1), (0, u "java/lang/Object"), (0, .class_ 3)] 3

/-- java/lang/Cloneable -/
def k13 : Class := { plain "java/lang/Cloneable" (some 0) with
  accessFlags := 1537
  interfaces := #[]
  cf := some (fileOf pool13 2 #[] #[] 1537 4 #[] #[])
  fields := #[]
  methods := #[]
  instanceTypes := #[]
  staticTypes := #[]
  resolved := Array.replicate 8 none
  statics := none }

/-- the primitive byte -/
def k14 : Class := { plain "byte" none with kind := .primitive 'B', accessFlags := 0x411 }
/-- [B -/
def k15 : Class := { plain "[B" (some 0) with kind := .array 14 .byte, interfaces := #[13, 2], accessFlags := 1041 }

/-- the primitive char -/
def k16 : Class := { plain "char" none with kind := .primitive 'C', accessFlags := 0x411 }
/-- [C -/
def k17 : Class := { plain "[C" (some 0) with kind := .array 16 .char, interfaces := #[13, 2], accessFlags := 1041 }

/-- the primitive int -/
def k18 : Class := { plain "int" none with kind := .primitive 'I', accessFlags := 0x411 }
/-- [I -/
def k19 : Class := { plain "[I" (some 0) with kind := .array 18 .int, interfaces := #[13, 2], accessFlags := 1041 }

def heap : Heap := #[{ cls := 7, slots := #[.long 0, .int 1, .null, .int 0, .null, .int 0, .int 0], vm := .statics 7 },
  { cls := 8, slots := #[.int 0, .int 8, .int 0, .int 1], vm := .statics 8 },
  { cls := 12, slots := #[.null, .null, .null], vm := .statics 12 }]
def classes : Array Class := #[k0, k1, k2, k3, k4, k5, k6, k7, k8, k9, k10, k11, k12, k13, k14, k15, k16, k17, k18, k19]
def interned : List (Array UInt16 × Addr) := []
def slotsUsed : Nat := 14
def theMethod : MethodId := ⟨1, 1⟩
def args0 : Array Value := #[.int 0, .int 2, .int 5, .int 3, .int 0, .int 1]
def aboutOver (below : List Frame) : State where
  vm := { classes := classes, interned := interned.toArray }
  heap := heap
  slotsUsed := slotsUsed
  threads := #[{ frames := .invoking theMethod args0 :: below }]
def below0 : List Frame := [.native { method := ⟨0, 0⟩, args := #[] }]
def about1 : State := aboutOver below0
def p0 : Program := .bare "" "" ""
def e0 : Env := launch0.env 0 0 0
theorem w_frames : about1.frames = Frame.invoking theMethod args0 :: below0 := rfl
set_option maxRecDepth 65536 in
theorem w_args : argsFit about1.vm theMethod args0 = true := by decide +kernel
set_option maxRecDepth 65536 in
theorem w_heap : heapFits about1 = true := by decide +kernel
set_option maxRecDepth 65536 in
theorem w_runnable : about1.curStatus? = some .runnable := by decide +kernel
set_option maxRecDepth 65536 in
theorem w_alone : about1.alone = true := by decide +kernel
set_option maxRecDepth 65536 in
theorem w_named : about1.methodNamed? x = some theMethod := by decide +kernel
set_option maxRecDepth 65536 in
theorem w_hears : about1.hears theMethod below0 = true := by decide +kernel
set_option maxRecDepth 65536 in
theorem w_ripe : about1.ripe theMethod args0 below0 = true := by decide +kernel
theorem w_running : about1.status = .running := rfl
set_option maxRecDepth 65536 in
theorem w_room : about1.hasRoom e0.platform room_1 = true :=
  launch0.hasRoom_least _ room_1 (by decide +kernel) (by decide +kernel) (by decide +kernel) (by decide +kernel) (by decide +kernel) (by decide +kernel)
theorem allAtoms_all (ts : List Jvm.Cond) (a : Array Jvm.Value) (st : Jvm.State) : (allAtoms ts).before a st = ts.all (fun c => c.before a st) := by
  induction ts with
  | nil => rfl
  | cons c t ih =>
    show (Jvm.Cond.and c (allAtoms t)).before a st = _
    rw [Jvm.Cond.before_and, ih, List.all_cons]
def words1 : List Jvm.Cond := Jvm.Cond.code x code maxLocals ret :: tables_1
/-- a 'code' word, met by the world's own term for the bytes: nothing is compared byte by byte -/
theorem code_word {y : MethodName} {bytes : ByteArray} {mx : Nat} {rt : Option FieldType} {a : Array Value} {s : State} {m : MethodId} {meth : Method} {c : Code} (h1 : s.methodNamed? y = some m) (h2 : s.vm.method? m = some meth) (h3 : meth.code = some c) (h4 : c.code = bytes)
    (h5 : (c.maxLocals == mx && c.exceptionTable.isEmpty && decide (c.maxStack ≤ mostOperands) && decide (meth.sig.returnType = rt) && !meth.locks && decide (parseMethodDescriptor y.desc = some meth.sig)) = true) : (Jvm.Cond.code y bytes mx rt).before a s = true := by
  simp only [Bool.and_eq_true, beq_iff_eq, Bool.not_eq_true', decide_eq_true_eq] at h5
  obtain ⟨⟨⟨⟨⟨g1, g2⟩, g3⟩, g4⟩, g5⟩, g6⟩ := h5
  simp [Cond.before, Cond.holds, Cond.value, h1, h2, h3, h4, g1, g2, g3, g4, g5, g6]
def isCode : Jvm.Cond → Bool
  | .code _ _ _ _ => true
  | _ => false
theorem all_split {L : List Jvm.Cond} {P : Jvm.Cond → Bool} (h1 : L.all (fun c => isCode c || P c) = true) (h2 : ∀ c ∈ L.filter isCode, P c = true) : L.all P = true := by
  refine List.all_eq_true.mpr fun c hc => ?_
  have h := List.all_eq_true.mp h1 c hc
  rcases Bool.eq_false_or_eq_true (isCode c) with hi | hi
  · exact h2 c (List.mem_filter.mpr ⟨hc, hi⟩)
  · simpa [hi] using h
set_option maxRecDepth 65536 in
theorem w_c0 : (Jvm.Cond.code x code maxLocals ret).before args0 about1 = true := code_word (m := ⟨1, 1⟩) (meth := k1m1) (c := k1c1) (by decide +kernel) rfl rfl rfl (by decide +kernel)
set_option maxRecDepth 65536 in
theorem w_c1 : (Jvm.Cond.code ({ cls := "com/example/strict_lock/strictlock/EntityTagsEndPinLaw", name := "pick", desc := "(I)C" } : Jvm.MethodName) method_3_code (2 : Nat) (Option.some Jvm.ClassFile.FieldType.char)).before args0 about1 = true := code_word (m := ⟨1, 2⟩) (meth := k1m2) (c := k1c2) (by decide +kernel) rfl rfl rfl (by decide +kernel)
set_option maxRecDepth 65536 in
theorem w_c2 : (Jvm.Cond.code ({ cls := "java/lang/String", name := "<init>", desc := "([C)V" } : Jvm.MethodName) jdk_42_method_3_code (2 : Nat) (Option.none : Option Jvm.ClassFile.FieldType)).before args0 about1 = true := code_word (m := ⟨7, 1⟩) (meth := k7m1) (c := k7c1) (by decide +kernel) rfl rfl rfl (by decide +kernel)
set_option maxRecDepth 65536 in
theorem w_c3 : (Jvm.Cond.code ({ cls := "java/lang/String", name := "<init>", desc := "([CIILjava/lang/Void;)V" } : Jvm.MethodName) jdk_42_method_149_code (6 : Nat) (Option.none : Option Jvm.ClassFile.FieldType)).before args0 about1 = true := code_word (m := ⟨7, 5⟩) (meth := k7m5) (c := k7c5) (by decide +kernel) rfl rfl rfl (by decide +kernel)
set_option maxRecDepth 65536 in
theorem w_c4 : (Jvm.Cond.code ({ cls := "java/lang/Object", name := "<init>", desc := "()V" } : Jvm.MethodName) object_method_1_code (1 : Nat) (Option.none : Option Jvm.ClassFile.FieldType)).before args0 about1 = true := code_word (m := ⟨0, 0⟩) (meth := k0m0) (c := k0c0) (by decide +kernel) rfl rfl rfl (by decide +kernel)
set_option maxRecDepth 65536 in
theorem w_c5 : (Jvm.Cond.code ({ cls := "java/lang/StringUTF16", name := "compress", desc := "([CII)[B" } : Jvm.MethodName) jdk_52_method_16_code (6 : Nat) (Option.some (Jvm.ClassFile.FieldType.array Jvm.ClassFile.FieldType.byte))).before args0 about1 = true := code_word (m := ⟨8, 8⟩) (meth := k8m8) (c := k8c8) (by decide +kernel) rfl rfl rfl (by decide +kernel)
set_option maxRecDepth 65536 in
theorem w_c6 : (Jvm.Cond.code ({ cls := "java/lang/StringUTF16", name := "compress", desc := "([CI[BII)I" } : Jvm.MethodName) jdk_52_method_21_code (7 : Nat) (Option.some Jvm.ClassFile.FieldType.int)).before args0 about1 = true := code_word (m := ⟨8, 9⟩) (meth := k8m9) (c := k8c9) (by decide +kernel) rfl rfl rfl (by decide +kernel)
set_option maxRecDepth 65536 in
theorem w_c7 : (Jvm.Cond.code ({ cls := "java/lang/StringUTF16", name := "coderFromArrayLen", desc := "([BI)B" } : Jvm.MethodName) jdk_52_method_15_code (2 : Nat) (Option.some Jvm.ClassFile.FieldType.byte)).before args0 about1 = true := code_word (m := ⟨8, 7⟩) (meth := k8m7) (c := k8c7) (by decide +kernel) rfl rfl rfl (by decide +kernel)
set_option maxRecDepth 65536 in
theorem w_c8 : (Jvm.Cond.code ({ cls := "com/example/strict_lock/strictlock/EntityTags", name := "end", desc := "(Ljava/lang/String;I)I" } : Jvm.MethodName) prog_3_method_2_code (4 : Nat) (Option.some Jvm.ClassFile.FieldType.int)).before args0 about1 = true := code_word (m := ⟨9, 0⟩) (meth := k9m0) (c := k9c0) (by decide +kernel) rfl rfl rfl (by decide +kernel)
set_option maxRecDepth 65536 in
theorem w_c9 : (Jvm.Cond.code ({ cls := "java/lang/String", name := "startsWith", desc := "(Ljava/lang/String;I)Z" } : Jvm.MethodName) jdk_42_method_75_code (8 : Nat) (Option.some Jvm.ClassFile.FieldType.boolean)).before args0 about1 = true := code_word (m := ⟨7, 4⟩) (meth := k7m4) (c := k7c4) (by decide +kernel) rfl rfl rfl (by decide +kernel)
set_option maxRecDepth 65536 in
theorem w_c10 : (Jvm.Cond.code ({ cls := "java/lang/String", name := "length", desc := "()I" } : Jvm.MethodName) jdk_42_method_54_code (1 : Nat) (Option.some Jvm.ClassFile.FieldType.int)).before args0 about1 = true := code_word (m := ⟨7, 2⟩) (meth := k7m2) (c := k7c2) (by decide +kernel) rfl rfl rfl (by decide +kernel)
set_option maxRecDepth 65536 in
theorem w_c11 : (Jvm.Cond.code ({ cls := "java/lang/String", name := "coder", desc := "()B" } : Jvm.MethodName) jdk_42_method_152_code (1 : Nat) (Option.some Jvm.ClassFile.FieldType.byte)).before args0 about1 = true := code_word (m := ⟨7, 6⟩) (meth := k7m6) (c := k7c6) (by decide +kernel) rfl rfl rfl (by decide +kernel)
set_option maxRecDepth 65536 in
theorem w_c12 : (Jvm.Cond.code ({ cls := "jdk/internal/util/ArraysSupport", name := "mismatch", desc := "([BI[BII)I" } : Jvm.MethodName) jdk_48_method_14_code (8 : Nat) (Option.some Jvm.ClassFile.FieldType.int)).before args0 about1 = true := code_word (m := ⟨10, 1⟩) (meth := k10m1) (c := k10c1) (by decide +kernel) rfl rfl rfl (by decide +kernel)
set_option maxRecDepth 65536 in
theorem w_c13 : (Jvm.Cond.code ({ cls := "java/lang/String", name := "charAt", desc := "(I)C" } : Jvm.MethodName) jdk_42_method_56_code (2 : Nat) (Option.some Jvm.ClassFile.FieldType.char)).before args0 about1 = true := code_word (m := ⟨7, 3⟩) (meth := k7m3) (c := k7c3) (by decide +kernel) rfl rfl rfl (by decide +kernel)
set_option maxRecDepth 65536 in
theorem w_c14 : (Jvm.Cond.code ({ cls := "java/lang/String", name := "isLatin1", desc := "()Z" } : Jvm.MethodName) jdk_42_method_154_code (1 : Nat) (Option.some Jvm.ClassFile.FieldType.boolean)).before args0 about1 = true := code_word (m := ⟨7, 7⟩) (meth := k7m7) (c := k7c7) (by decide +kernel) rfl rfl rfl (by decide +kernel)
set_option maxRecDepth 65536 in
theorem w_c15 : (Jvm.Cond.code ({ cls := "java/lang/StringLatin1", name := "charAt", desc := "([BI)C" } : Jvm.MethodName) jdk_43_method_2_code (2 : Nat) (Option.some Jvm.ClassFile.FieldType.char)).before args0 about1 = true := code_word (m := ⟨11, 1⟩) (meth := k11m1) (c := k11c1) (by decide +kernel) rfl rfl rfl (by decide +kernel)
set_option maxRecDepth 65536 in
theorem w_c16 : (Jvm.Cond.code ({ cls := "java/lang/String", name := "checkIndex", desc := "(II)V" } : Jvm.MethodName) jdk_42_method_155_code (2 : Nat) (Option.none : Option Jvm.ClassFile.FieldType)).before args0 about1 = true := code_word (m := ⟨7, 8⟩) (meth := k7m8) (c := k7c8) (by decide +kernel) rfl rfl rfl (by decide +kernel)
set_option maxRecDepth 65536 in
theorem w_c17 : (Jvm.Cond.code ({ cls := "jdk/internal/util/Preconditions", name := "checkIndex", desc := "(IILjava/util/function/BiFunction;)I" } : Jvm.MethodName) jdk_41_method_11_code (3 : Nat) (Option.some Jvm.ClassFile.FieldType.int)).before args0 about1 = true := code_word (m := ⟨12, 1⟩) (meth := k12m1) (c := k12c1) (by decide +kernel) rfl rfl rfl (by decide +kernel)
set_option maxRecDepth 65536 in
theorem w_c18 : (Jvm.Cond.code ({ cls := "com/example/strict_lock/strictlock/EntityTagsEndPinLaw", name := "ref", desc := "([CI)I" } : Jvm.MethodName) method_6_code (5 : Nat) (Option.some Jvm.ClassFile.FieldType.int)).before args0 about1 = true := code_word (m := ⟨1, 5⟩) (meth := k1m5) (c := k1c5) (by decide +kernel) rfl rfl rfl (by decide +kernel)
set_option maxRecDepth 65536 in
theorem w_c19 : (Jvm.Cond.code ({ cls := "com/example/strict_lock/strictlock/EntityTagsEndPinLaw", name := "look", desc := "([CI)I" } : Jvm.MethodName) method_5_code (2 : Nat) (Option.some Jvm.ClassFile.FieldType.int)).before args0 about1 = true := code_word (m := ⟨1, 4⟩) (meth := k1m4) (c := k1c4) (by decide +kernel) rfl rfl rfl (by decide +kernel)
set_option maxRecDepth 65536 in
theorem w_c20 : (Jvm.Cond.code ({ cls := "com/example/strict_lock/strictlock/EntityTagsEndPinLaw", name := "etagc", desc := "(C)Z" } : Jvm.MethodName) method_4_code (1 : Nat) (Option.some Jvm.ClassFile.FieldType.boolean)).before args0 about1 = true := code_word (m := ⟨1, 3⟩) (meth := k1m3) (c := k1c3) (by decide +kernel) rfl rfl rfl (by decide +kernel)
set_option maxRecDepth 65536 in
theorem w_c21 : (Jvm.Cond.code ({ cls := "java/lang/StringUTF16", name := "toBytes", desc := "([CII)[B" } : Jvm.MethodName) jdk_52_method_14_code (5 : Nat) (Option.some (Jvm.ClassFile.FieldType.array Jvm.ClassFile.FieldType.byte))).before args0 about1 = true := code_word (m := ⟨8, 6⟩) (meth := k8m6) (c := k8c6) (by decide +kernel) rfl rfl rfl (by decide +kernel)
set_option maxRecDepth 65536 in
theorem w_c22 : (Jvm.Cond.code ({ cls := "java/lang/StringUTF16", name := "newBytesFor", desc := "(I)[B" } : Jvm.MethodName) jdk_52_method_2_code (1 : Nat) (Option.some (Jvm.ClassFile.FieldType.array Jvm.ClassFile.FieldType.byte))).before args0 about1 = true := code_word (m := ⟨8, 1⟩) (meth := k8m1) (c := k8c1) (by decide +kernel) rfl rfl rfl (by decide +kernel)
set_option maxRecDepth 65536 in
theorem w_c23 : (Jvm.Cond.code ({ cls := "java/lang/StringUTF16", name := "newBytesLength", desc := "(I)I" } : Jvm.MethodName) jdk_52_method_3_code (1 : Nat) (Option.some Jvm.ClassFile.FieldType.int)).before args0 about1 = true := code_word (m := ⟨8, 2⟩) (meth := k8m2) (c := k8c2) (by decide +kernel) rfl rfl rfl (by decide +kernel)
set_option maxRecDepth 65536 in
theorem w_c24 : (Jvm.Cond.code ({ cls := "java/lang/StringUTF16", name := "putChar", desc := "([BII)V" } : Jvm.MethodName) jdk_52_method_4_code (3 : Nat) (Option.none : Option Jvm.ClassFile.FieldType)).before args0 about1 = true := code_word (m := ⟨8, 3⟩) (meth := k8m3) (c := k8c3) (by decide +kernel) rfl rfl rfl (by decide +kernel)
set_option maxRecDepth 65536 in
theorem w_c25 : (Jvm.Cond.code ({ cls := "java/lang/StringUTF16", name := "getChar", desc := "([BI)C" } : Jvm.MethodName) jdk_52_method_5_code (2 : Nat) (Option.some Jvm.ClassFile.FieldType.char)).before args0 about1 = true := code_word (m := ⟨8, 4⟩) (meth := k8m4) (c := k8c4) (by decide +kernel) rfl rfl rfl (by decide +kernel)
set_option maxRecDepth 65536 in
theorem w_c26 : (Jvm.Cond.code ({ cls := "java/lang/StringUTF16", name := "charAt", desc := "([BI)C" } : Jvm.MethodName) jdk_52_method_83_code (2 : Nat) (Option.some Jvm.ClassFile.FieldType.char)).before args0 about1 = true := code_word (m := ⟨8, 10⟩) (meth := k8m10) (c := k8c10) (by decide +kernel) rfl rfl rfl (by decide +kernel)
set_option maxRecDepth 65536 in
theorem w_c27 : (Jvm.Cond.code ({ cls := "java/lang/StringUTF16", name := "checkIndex", desc := "(I[B)V" } : Jvm.MethodName) jdk_52_method_91_code (2 : Nat) (Option.none : Option Jvm.ClassFile.FieldType)).before args0 about1 = true := code_word (m := ⟨8, 11⟩) (meth := k8m11) (c := k8c11) (by decide +kernel) rfl rfl rfl (by decide +kernel)
set_option maxRecDepth 65536 in
theorem w_c28 : (Jvm.Cond.code ({ cls := "java/lang/StringUTF16", name := "length", desc := "([B)I" } : Jvm.MethodName) jdk_52_method_6_code (1 : Nat) (Option.some Jvm.ClassFile.FieldType.int)).before args0 about1 = true := code_word (m := ⟨8, 5⟩) (meth := k8m5) (c := k8c5) (by decide +kernel) rfl rfl rfl (by decide +kernel)
def codes1 : List Jvm.Cond := [Jvm.Cond.code x code maxLocals ret, Jvm.Cond.code ({ cls := "com/example/strict_lock/strictlock/EntityTagsEndPinLaw", name := "pick", desc := "(I)C" } : Jvm.MethodName) method_3_code (2 : Nat) (Option.some Jvm.ClassFile.FieldType.char), Jvm.Cond.code ({ cls := "java/lang/String", name := "<init>", desc := "([C)V" } : Jvm.MethodName) jdk_42_method_3_code (2 : Nat) (Option.none : Option Jvm.ClassFile.FieldType), Jvm.Cond.code ({ cls := "java/lang/String", name := "<init>", desc := "([CIILjava/lang/Void;)V" } : Jvm.MethodName) jdk_42_method_149_code (6 : Nat) (Option.none : Option Jvm.ClassFile.FieldType), Jvm.Cond.code ({ cls := "java/lang/Object", name := "<init>", desc := "()V" } : Jvm.MethodName) object_method_1_code (1 : Nat) (Option.none : Option Jvm.ClassFile.FieldType), Jvm.Cond.code ({ cls := "java/lang/StringUTF16", name := "compress", desc := "([CII)[B" } : Jvm.MethodName) jdk_52_method_16_code (6 : Nat) (Option.some (Jvm.ClassFile.FieldType.array Jvm.ClassFile.FieldType.byte)), Jvm.Cond.code ({ cls := "java/lang/StringUTF16", name := "compress", desc := "([CI[BII)I" } : Jvm.MethodName) jdk_52_method_21_code (7 : Nat) (Option.some Jvm.ClassFile.FieldType.int), Jvm.Cond.code ({ cls := "java/lang/StringUTF16", name := "coderFromArrayLen", desc := "([BI)B" } : Jvm.MethodName) jdk_52_method_15_code (2 : Nat) (Option.some Jvm.ClassFile.FieldType.byte), Jvm.Cond.code ({ cls := "com/example/strict_lock/strictlock/EntityTags", name := "end", desc := "(Ljava/lang/String;I)I" } : Jvm.MethodName) prog_3_method_2_code (4 : Nat) (Option.some Jvm.ClassFile.FieldType.int), Jvm.Cond.code ({ cls := "java/lang/String", name := "startsWith", desc := "(Ljava/lang/String;I)Z" } : Jvm.MethodName) jdk_42_method_75_code (8 : Nat) (Option.some Jvm.ClassFile.FieldType.boolean), Jvm.Cond.code ({ cls := "java/lang/String", name := "length", desc := "()I" } : Jvm.MethodName) jdk_42_method_54_code (1 : Nat) (Option.some Jvm.ClassFile.FieldType.int), Jvm.Cond.code ({ cls := "java/lang/String", name := "coder", desc := "()B" } : Jvm.MethodName) jdk_42_method_152_code (1 : Nat) (Option.some Jvm.ClassFile.FieldType.byte), Jvm.Cond.code ({ cls := "jdk/internal/util/ArraysSupport", name := "mismatch", desc := "([BI[BII)I" } : Jvm.MethodName) jdk_48_method_14_code (8 : Nat) (Option.some Jvm.ClassFile.FieldType.int), Jvm.Cond.code ({ cls := "java/lang/String", name := "charAt", desc := "(I)C" } : Jvm.MethodName) jdk_42_method_56_code (2 : Nat) (Option.some Jvm.ClassFile.FieldType.char), Jvm.Cond.code ({ cls := "java/lang/String", name := "isLatin1", desc := "()Z" } : Jvm.MethodName) jdk_42_method_154_code (1 : Nat) (Option.some Jvm.ClassFile.FieldType.boolean), Jvm.Cond.code ({ cls := "java/lang/StringLatin1", name := "charAt", desc := "([BI)C" } : Jvm.MethodName) jdk_43_method_2_code (2 : Nat) (Option.some Jvm.ClassFile.FieldType.char), Jvm.Cond.code ({ cls := "java/lang/String", name := "checkIndex", desc := "(II)V" } : Jvm.MethodName) jdk_42_method_155_code (2 : Nat) (Option.none : Option Jvm.ClassFile.FieldType), Jvm.Cond.code ({ cls := "jdk/internal/util/Preconditions", name := "checkIndex", desc := "(IILjava/util/function/BiFunction;)I" } : Jvm.MethodName) jdk_41_method_11_code (3 : Nat) (Option.some Jvm.ClassFile.FieldType.int), Jvm.Cond.code ({ cls := "com/example/strict_lock/strictlock/EntityTagsEndPinLaw", name := "ref", desc := "([CI)I" } : Jvm.MethodName) method_6_code (5 : Nat) (Option.some Jvm.ClassFile.FieldType.int), Jvm.Cond.code ({ cls := "com/example/strict_lock/strictlock/EntityTagsEndPinLaw", name := "look", desc := "([CI)I" } : Jvm.MethodName) method_5_code (2 : Nat) (Option.some Jvm.ClassFile.FieldType.int), Jvm.Cond.code ({ cls := "com/example/strict_lock/strictlock/EntityTagsEndPinLaw", name := "etagc", desc := "(C)Z" } : Jvm.MethodName) method_4_code (1 : Nat) (Option.some Jvm.ClassFile.FieldType.boolean), Jvm.Cond.code ({ cls := "java/lang/StringUTF16", name := "toBytes", desc := "([CII)[B" } : Jvm.MethodName) jdk_52_method_14_code (5 : Nat) (Option.some (Jvm.ClassFile.FieldType.array Jvm.ClassFile.FieldType.byte)), Jvm.Cond.code ({ cls := "java/lang/StringUTF16", name := "newBytesFor", desc := "(I)[B" } : Jvm.MethodName) jdk_52_method_2_code (1 : Nat) (Option.some (Jvm.ClassFile.FieldType.array Jvm.ClassFile.FieldType.byte)), Jvm.Cond.code ({ cls := "java/lang/StringUTF16", name := "newBytesLength", desc := "(I)I" } : Jvm.MethodName) jdk_52_method_3_code (1 : Nat) (Option.some Jvm.ClassFile.FieldType.int), Jvm.Cond.code ({ cls := "java/lang/StringUTF16", name := "putChar", desc := "([BII)V" } : Jvm.MethodName) jdk_52_method_4_code (3 : Nat) (Option.none : Option Jvm.ClassFile.FieldType), Jvm.Cond.code ({ cls := "java/lang/StringUTF16", name := "getChar", desc := "([BI)C" } : Jvm.MethodName) jdk_52_method_5_code (2 : Nat) (Option.some Jvm.ClassFile.FieldType.char), Jvm.Cond.code ({ cls := "java/lang/StringUTF16", name := "charAt", desc := "([BI)C" } : Jvm.MethodName) jdk_52_method_83_code (2 : Nat) (Option.some Jvm.ClassFile.FieldType.char), Jvm.Cond.code ({ cls := "java/lang/StringUTF16", name := "checkIndex", desc := "(I[B)V" } : Jvm.MethodName) jdk_52_method_91_code (2 : Nat) (Option.none : Option Jvm.ClassFile.FieldType), Jvm.Cond.code ({ cls := "java/lang/StringUTF16", name := "length", desc := "([B)I" } : Jvm.MethodName) jdk_52_method_6_code (1 : Nat) (Option.some Jvm.ClassFile.FieldType.int)]
set_option maxRecDepth 65536 in
theorem codes_eq : words1.filter isCode = codes1 := rfl
theorem w_codes : ∀ c ∈ words1.filter isCode, c.before args0 about1 = true := by
  rw [codes_eq]
  intro c hc
  simp only [codes1, List.mem_cons, List.not_mem_nil, or_false] at hc
  rcases hc with rfl | rfl | rfl | rfl | rfl | rfl | rfl | rfl | rfl | rfl | rfl | rfl | rfl | rfl | rfl | rfl | rfl | rfl | rfl | rfl | rfl | rfl | rfl | rfl | rfl | rfl | rfl | rfl | rfl
  · exact w_c0
  · exact w_c1
  · exact w_c2
  · exact w_c3
  · exact w_c4
  · exact w_c5
  · exact w_c6
  · exact w_c7
  · exact w_c8
  · exact w_c9
  · exact w_c10
  · exact w_c11
  · exact w_c12
  · exact w_c13
  · exact w_c14
  · exact w_c15
  · exact w_c16
  · exact w_c17
  · exact w_c18
  · exact w_c19
  · exact w_c20
  · exact w_c21
  · exact w_c22
  · exact w_c23
  · exact w_c24
  · exact w_c25
  · exact w_c26
  · exact w_c27
  · exact w_c28
set_option maxRecDepth 65536 in
theorem w_t1 : (words1.take 24).all (fun c => isCode c || c.before args0 about1) = true := by decide +kernel
set_option maxRecDepth 65536 in
theorem w_t2 : ((words1.drop 24).take 24).all (fun c => isCode c || c.before args0 about1) = true := by decide +kernel
set_option maxRecDepth 65536 in
theorem w_t3 : (((words1.drop 24).drop 24).take 24).all (fun c => isCode c || c.before args0 about1) = true := by decide +kernel
set_option maxRecDepth 65536 in
theorem w_t4 : ((((words1.drop 24).drop 24).drop 24).take 24).all (fun c => isCode c || c.before args0 about1) = true := by decide +kernel
set_option maxRecDepth 65536 in
theorem w_t5 : (((((words1.drop 24).drop 24).drop 24).drop 24).take 24).all (fun c => isCode c || c.before args0 about1) = true := by decide +kernel
set_option maxRecDepth 65536 in
theorem w_t6 : (((((words1.drop 24).drop 24).drop 24).drop 24).drop 24).all (fun c => isCode c || c.before args0 about1) = true := by decide +kernel
theorem w_tables : (allAtoms (Jvm.Cond.code x code maxLocals ret :: tables_1)).before args0 about1 = true := by
  rw [allAtoms_all]
  show words1.all (fun c => c.before args0 about1) = true
  refine all_split ?_ w_codes
  rw [← List.take_append_drop 24 words1, List.all_append, w_t1, ← List.take_append_drop 24 (words1.drop 24), List.all_append, w_t2, ← List.take_append_drop 24 ((words1.drop 24).drop 24), List.all_append, w_t3, ← List.take_append_drop 24 (((words1.drop 24).drop 24).drop 24), List.all_append, w_t4, ← List.take_append_drop 24 ((((words1.drop 24).drop 24).drop 24).drop 24), List.all_append, w_t5, w_t6]
  rfl
set_option maxRecDepth 65536 in
theorem w_rest : rest_1_c.before args0 about1 = true := by decide +kernel
set_option maxRecDepth 65536 in
theorem w_case : (Jvm.Cond.and given_1 narrow_1).before args0 about1 = true := by decide +kernel
set_option maxRecDepth 65536 in
theorem w_consts : constsHeld consts_1 about1 := Jvm.Lit.constsHeldB_iff.mp (by decide +kernel)
theorem w_applies : (headSpec (Jvm.Cond.code x code maxLocals ret :: tables_1) room_1).applies x e0.platform about1 = true :=
  (Spec.applies_iff w_frames).mpr ⟨w_running, w_runnable, w_alone, w_named, w_hears, w_ripe, w_room, w_tables⟩
theorem atStart : AtStart classFile x code maxLocals ret World_1 tables_1 room_1 Calls_1 rest_1 Pre_1 launch0 p0 e0 about1 theMethod args0 below0 :=
  ⟨lists_1, trivial, launch0.admits_env _ _ _, launch0.least_env, fairChoices_fair.cas, fairChoices_fair.clock, w_frames, w_args, w_heap, w_applies, ⟨w_consts, trivial⟩, w_rest, w_case⟩
end start1
theorem witness_1 : WitnessClaimed_1 := ⟨start1.p0, start1.e0, start1.about1, start1.theMethod, start1.args0, start1.below0, start1.atStart⟩
end Jvm.Pilot.@@N@@
