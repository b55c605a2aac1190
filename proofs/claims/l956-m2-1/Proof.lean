import JvmDerived
import JvmDerived.Pilot.@@N@@Statement
import JvmDerived.Pilot.@@N@@Code
set_option linter.unusedVariables false
set_option linter.unusedSimpArgs false
namespace Jvm.Pilot.@@N@@
open Jvm Jvm.ClassFile Sem Op Lib Jvm.Free Jvm.Stand Jvm.LawKit Jvm.RoadKit Bundle Jvm.Pilot.@@N@@.Jvm.D
section OwnKit
variable {Z : State} {p : Program} {l : Launch} {e : Env} {R : Room} {s : State} {m : MethodId} {args : Array Value} {below : List Frame} {meth : Method} {c : Code} {T : State} {h : Heap} {n0 C S cells slots : Nat} {Q : Option Value → Heap → Prop} {own nm : String} {bytes : ByteArray} {ml : Nat} {rt : Option FieldType} {a0 : Array Value}
/-- the walk's constant facts -/
def Cx (Z : State) (p : Program) (s : State) (m : MethodId) (meth : Method) (c : Code) (own : String) (bytes : ByteArray) (ml : Nat) (rt : Option FieldType) (nm : String) : Prop :=
  p.tables.exec = Jvm.exec ∧ Z.Warmed39 s.vm ∧ c.code = bytes ∧ c.maxLocals = ml ∧ s.vm.findClass own = some m.cls ∧ meth.sig.returnType = rt ∧ meth.locks = false ∧ meth.name = nm
/-- where the walk stands: state T, heap h -/
def Wk (Z : State) (own : String) (p : Program) (l : Launch) (e : Env) (R : Room) (s : State) (m : MethodId) (args : Array Value) (below : List Frame) (meth : Method) (c : Code) (n0 : Nat) (T : State) (h : Heap) (cells slots : Nat) : Prop :=
  ∃ locs vm0 k0, Stand p l e R (s.setVm vm0) m args below meth c T locs cells slots ∧ T.heap = h ∧ Fr n0 locs ∧ n0 ≤ h.size ∧ s.Since vm0 k0 ∧ k0 ≤ h.size ∧ Z.Warmed39 (s.setVm vm0).vm ∧ (s.setVm vm0).vm.findClass own = some m.cls
theorem Wk.z (X : Wk Z own p l e R s m args below meth c n0 T h cells slots) : n0 ≤ h.size := by
  obtain ⟨_, _, _, _, _, _, q, _⟩ := X
  exact q
/-- from t0 the body comes to its end with Q -/
def Fi (p : Program) (e : Env) (below : List Frame) (s : State) (n0 C S : Nat) (Q : Option Value → Heap → Prop) (t0 : State) : Prop :=
  ∃ s₂ o, Steps p.tables e below t0 s₂ ∧ s₂.status = .running ∧ Ended s₂ below o ∧ ∃ v L, o = .returned v ∧ (Q v s₂.heap ∧ Fr n0 L) ∧ ReturnedEndW s o s₂ L C S
theorem Fi.of {t t0 : State} (st : ∀ target, Steps p.tables e below t target → Steps p.tables e below t0 target) (k : Fi p e below s n0 C S Q t) : Fi p e below s n0 C S Q t0 := by
  obtain ⟨s₂, o, h1, r⟩ := k
  exact ⟨s₂, o, st _ h1, r⟩
theorem Fi.weak {Q' : Option Value → Heap → Prop} {t0 : State} (hq : ∀ v h, Q v h → Q' v h) (k : Fi p e below s n0 C S Q t0) : Fi p e below s n0 C S Q' t0 := by
  obtain ⟨s₂, o, h1, h2, h3, v, L, h4, ⟨h5, h6⟩, h7⟩ := k
  exact ⟨s₂, o, h1, h2, h3, v, L, h4, ⟨hq _ _ h5, h6⟩, h7⟩
/-- a method's contract -/
def Mt (l : Launch) (Z : State) (y : MethodName) (bytes : ByteArray) (ml : Nat) (rt : Option FieldType) (rm : Room) (as' : Array Value) (h : Heap) (n0 : Nat) (Q : Option Value → Heap → Prop) : Prop :=
  ∀ ws : List Jvm.Cond, MetFree l y (head1 (Jvm.Cond.code y bytes ml rt :: ws) rm) (fun a U => a = as' ∧ Z.Warmed39 U.vm ∧ U.heap = h) (fun _ _ _ _ _ => True) (fun _ U o U' => ∃ v L, o = .returned v ∧ (Q v U'.heap ∧ Fr n0 L) ∧ ReturnedEndW U o U' L rm.cells rm.slots)
theorem Mt.of {y : MethodName} {rm : Room} {as' : Array Value} {Ls : Array Slot} (ho : y.cls = own) (hnm : y.name = nm) (pn : plainFor y = true) (hn : n0 ≤ h.size) (ef : ∀ m, entryFrame m as' ml = mkF m 0 Ls [])
    (body : ∀ (p : Program) (e : Env) (s : State) (m : MethodId) (below : List Frame) (meth : Method) (c : Code) (T : State), Cx Z p s m meth c own bytes ml rt nm → Wk Z own p l e rm s m as' below meth c n0 T h 0 0 → Fi p e below s n0 rm.cells rm.slots Q (T.setTop (mkF m 0 Ls []))) :
    Mt l Z y bytes ml rt rm as' h n0 Q := by
  intro ws
  subst ho hnm
  refine MetFree.of_bodySF pn hisR ?_
  intro p e s m args below meth c s₁ Bd hml0 hP hK
  obtain ⟨rfl, hZ, hh⟩ := hP
  obtain ⟨s₂, o, h1, h2, h3, h4⟩ := body p e s m below meth c s₁ ⟨Bd.exec, hZ, Bd.bytes, hml0, findClass_of_methodNamed Bd.named, Bd.returns, Bd.notSynchronized, (name_of_methodNamed Bd.named Bd.method).1⟩ ⟨[], s.vm, h.size, Stand.of_body Bd, by rw [← hh, Bd.state]; rfl, Fr.nil n0, hn, (State.WarmedH.refl s).since _, Nat.le_refl _, hZ, findClass_of_methodNamed Bd.named⟩
  exact ⟨s₂, o, castTop (ef m) h1, h2, h3, h4⟩
/-! shifts and narrowings by name -/
def jushr (x y : Int32) : Int32 := (x.toUInt32 >>> (y &&& 31).toUInt32).toInt32
def jshr (x y : Int32) : Int32 := x >>> (y &&& 31)
def jshl (x y : Int32) : Int32 := x <<< (y &&& 31)
def jushrL (x : Int64) (y : Int32) : Int64 := (x.toUInt64 >>> (y &&& 0x3f).toInt64.toUInt64).toInt64
def jshrL (x : Int64) (y : Int32) : Int64 := x >>> (y &&& 0x3f).toInt64
def jshlL (x : Int64) (y : Int32) : Int64 := x <<< (y &&& 0x3f).toInt64
def jb (x : Int32) : Int32 := x.toInt8.toInt32
def jc (x : Int32) : Int32 := x.toUInt32.toUInt16.toUInt32.toInt32
def js (x : Int32) : Int32 := x.toInt16.toInt32
theorem g_iloadN (K : Cx Z p s m meth c own bytes ml rt nm) (X : Wk Z own p l e R s m args below meth c n0 T h cells slots) {pc pc' : Nat} {L : Array Slot} {st : List Value} {k : Fin 4} {v : Int32} (hd : decode bytes pc = .ok (.iload_n k, 1)) (hp : pc + 1 = pc') (hl : L[k.val]? = some (.val (.int v))) (r : Fi p e below s n0 C S Q (T.setTop (mkF m pc' L (.int v :: st)))) : Fi p e below s n0 C S Q (T.setTop (mkF m pc L (st))) := by
  obtain ⟨locs, vm0, k0, Y, hh, hF, hn, hSv, hkv, hZv, hov⟩ := X
  subst hp
  exact Fi.of (fun _ q => XS.iloadN Y.here K.1 rfl (hb K.2.2.1 hd) hl q) r
theorem g_iload (K : Cx Z p s m meth c own bytes ml rt nm) (X : Wk Z own p l e R s m args below meth c n0 T h cells slots) {pc pc' : Nat} {L : Array Slot} {st : List Value} {k : Nat} {v : Int32} (hd : decode bytes pc = .ok (.iload k, 2)) (hp : pc + 2 = pc') (hl : L[k]? = some (.val (.int v))) (r : Fi p e below s n0 C S Q (T.setTop (mkF m pc' L (.int v :: st)))) : Fi p e below s n0 C S Q (T.setTop (mkF m pc L (st))) := by
  obtain ⟨locs, vm0, k0, Y, hh, hF, hn, hSv, hkv, hZv, hov⟩ := X
  subst hp
  exact Fi.of (fun _ q => XS.iload Y.here K.1 rfl (hb K.2.2.1 hd) hl q) r
theorem g_istoreN (K : Cx Z p s m meth c own bytes ml rt nm) (X : Wk Z own p l e R s m args below meth c n0 T h cells slots) {pc pc' : Nat} {L : Array Slot} {st : List Value} {k : Fin 4} {v : Int32} {L' : Array Slot} (hd : decode bytes pc = .ok (.istore_n k, 1)) (hp : pc + 1 = pc') (hl : storeLocals L k.val (.int v) = some L') (r : Fi p e below s n0 C S Q (T.setTop (mkF m pc' L' (st)))) : Fi p e below s n0 C S Q (T.setTop (mkF m pc L (.int v :: st))) := by
  obtain ⟨locs, vm0, k0, Y, hh, hF, hn, hSv, hkv, hZv, hov⟩ := X
  subst hp
  exact Fi.of (fun _ q => XS.istoreN Y.here K.1 rfl (hb K.2.2.1 hd) rfl hl q) r
theorem g_istore (K : Cx Z p s m meth c own bytes ml rt nm) (X : Wk Z own p l e R s m args below meth c n0 T h cells slots) {pc pc' : Nat} {L : Array Slot} {st : List Value} {k : Nat} {v : Int32} {L' : Array Slot} (hd : decode bytes pc = .ok (.istore k, 2)) (hp : pc + 2 = pc') (hl : storeLocals L k (.int v) = some L') (r : Fi p e below s n0 C S Q (T.setTop (mkF m pc' L' (st)))) : Fi p e below s n0 C S Q (T.setTop (mkF m pc L (.int v :: st))) := by
  obtain ⟨locs, vm0, k0, Y, hh, hF, hn, hSv, hkv, hZv, hov⟩ := X
  subst hp
  exact Fi.of (fun _ q => XS.istore Y.here K.1 rfl (hb K.2.2.1 hd) rfl hl q) r
theorem g_lloadN (K : Cx Z p s m meth c own bytes ml rt nm) (X : Wk Z own p l e R s m args below meth c n0 T h cells slots) {pc pc' : Nat} {L : Array Slot} {st : List Value} {k : Fin 4} {v : Int64} (hd : decode bytes pc = .ok (.lload_n k, 1)) (hp : pc + 1 = pc') (hl : L[k.val]? = some (.val (.long v))) (r : Fi p e below s n0 C S Q (T.setTop (mkF m pc' L (.long v :: st)))) : Fi p e below s n0 C S Q (T.setTop (mkF m pc L (st))) := by
  obtain ⟨locs, vm0, k0, Y, hh, hF, hn, hSv, hkv, hZv, hov⟩ := X
  subst hp
  exact Fi.of (fun _ q => XS.lloadN Y.here K.1 rfl (hb K.2.2.1 hd) hl q) r
theorem g_lload (K : Cx Z p s m meth c own bytes ml rt nm) (X : Wk Z own p l e R s m args below meth c n0 T h cells slots) {pc pc' : Nat} {L : Array Slot} {st : List Value} {k : Nat} {v : Int64} (hd : decode bytes pc = .ok (.lload k, 2)) (hp : pc + 2 = pc') (hl : L[k]? = some (.val (.long v))) (r : Fi p e below s n0 C S Q (T.setTop (mkF m pc' L (.long v :: st)))) : Fi p e below s n0 C S Q (T.setTop (mkF m pc L (st))) := by
  obtain ⟨locs, vm0, k0, Y, hh, hF, hn, hSv, hkv, hZv, hov⟩ := X
  subst hp
  exact Fi.of (fun _ q => XS.lload Y.here K.1 rfl (hb K.2.2.1 hd) hl q) r
theorem g_lstoreN (K : Cx Z p s m meth c own bytes ml rt nm) (X : Wk Z own p l e R s m args below meth c n0 T h cells slots) {pc pc' : Nat} {L : Array Slot} {st : List Value} {k : Fin 4} {v : Int64} {L' : Array Slot} (hd : decode bytes pc = .ok (.lstore_n k, 1)) (hp : pc + 1 = pc') (hl : storeLocals L k.val (.long v) = some L') (r : Fi p e below s n0 C S Q (T.setTop (mkF m pc' L' (st)))) : Fi p e below s n0 C S Q (T.setTop (mkF m pc L (.long v :: st))) := by
  obtain ⟨locs, vm0, k0, Y, hh, hF, hn, hSv, hkv, hZv, hov⟩ := X
  subst hp
  exact Fi.of (fun _ q => XS.lstoreN Y.here K.1 rfl (hb K.2.2.1 hd) rfl hl q) r
theorem g_lstore (K : Cx Z p s m meth c own bytes ml rt nm) (X : Wk Z own p l e R s m args below meth c n0 T h cells slots) {pc pc' : Nat} {L : Array Slot} {st : List Value} {k : Nat} {v : Int64} {L' : Array Slot} (hd : decode bytes pc = .ok (.lstore k, 2)) (hp : pc + 2 = pc') (hl : storeLocals L k (.long v) = some L') (r : Fi p e below s n0 C S Q (T.setTop (mkF m pc' L' (st)))) : Fi p e below s n0 C S Q (T.setTop (mkF m pc L (.long v :: st))) := by
  obtain ⟨locs, vm0, k0, Y, hh, hF, hn, hSv, hkv, hZv, hov⟩ := X
  subst hp
  exact Fi.of (fun _ q => XS.lstore Y.here K.1 rfl (hb K.2.2.1 hd) rfl hl q) r
theorem g_aloadN (K : Cx Z p s m meth c own bytes ml rt nm) (X : Wk Z own p l e R s m args below meth c n0 T h cells slots) {pc pc' : Nat} {L : Array Slot} {st : List Value} {k : Fin 4} {v : Value} (hd : decode bytes pc = .ok (.aload_n k, 1)) (hp : pc + 1 = pc') (hl : L[k.val]? = some (.val v)) (hv : v.isRef = true) (r : Fi p e below s n0 C S Q (T.setTop (mkF m pc' L (v :: st)))) : Fi p e below s n0 C S Q (T.setTop (mkF m pc L (st))) := by
  obtain ⟨locs, vm0, k0, Y, hh, hF, hn, hSv, hkv, hZv, hov⟩ := X
  subst hp
  exact Fi.of (fun _ q => XS.aloadN Y.here K.1 rfl (hb K.2.2.1 hd) hl hv q) r
theorem g_aload (K : Cx Z p s m meth c own bytes ml rt nm) (X : Wk Z own p l e R s m args below meth c n0 T h cells slots) {pc pc' : Nat} {L : Array Slot} {st : List Value} {k : Nat} {v : Value} (hd : decode bytes pc = .ok (.aload k, 2)) (hp : pc + 2 = pc') (hl : L[k]? = some (.val v)) (hv : v.isRef = true) (r : Fi p e below s n0 C S Q (T.setTop (mkF m pc' L (v :: st)))) : Fi p e below s n0 C S Q (T.setTop (mkF m pc L (st))) := by
  obtain ⟨locs, vm0, k0, Y, hh, hF, hn, hSv, hkv, hZv, hov⟩ := X
  subst hp
  exact Fi.of (fun _ q => XS.aload Y.here K.1 rfl (hb K.2.2.1 hd) hl hv q) r
theorem g_astoreN (K : Cx Z p s m meth c own bytes ml rt nm) (X : Wk Z own p l e R s m args below meth c n0 T h cells slots) {pc pc' : Nat} {L : Array Slot} {st : List Value} {k : Fin 4} {v : Value} {L' : Array Slot} (hd : decode bytes pc = .ok (.astore_n k, 1)) (hp : pc + 1 = pc') (hv : v.isRef = true) (hl : storeLocals L k.val v = some L') (r : Fi p e below s n0 C S Q (T.setTop (mkF m pc' L' (st)))) : Fi p e below s n0 C S Q (T.setTop (mkF m pc L (v :: st))) := by
  obtain ⟨locs, vm0, k0, Y, hh, hF, hn, hSv, hkv, hZv, hov⟩ := X
  subst hp
  exact Fi.of (fun _ q => XS.astoreN Y.here K.1 rfl (hb K.2.2.1 hd) rfl hv hl q) r
theorem g_astore (K : Cx Z p s m meth c own bytes ml rt nm) (X : Wk Z own p l e R s m args below meth c n0 T h cells slots) {pc pc' : Nat} {L : Array Slot} {st : List Value} {k : Nat} {v : Value} {L' : Array Slot} (hd : decode bytes pc = .ok (.astore k, 2)) (hp : pc + 2 = pc') (hv : v.isRef = true) (hl : storeLocals L k v = some L') (r : Fi p e below s n0 C S Q (T.setTop (mkF m pc' L' (st)))) : Fi p e below s n0 C S Q (T.setTop (mkF m pc L (v :: st))) := by
  obtain ⟨locs, vm0, k0, Y, hh, hF, hn, hSv, hkv, hZv, hov⟩ := X
  subst hp
  exact Fi.of (fun _ q => XS.astore Y.here K.1 rfl (hb K.2.2.1 hd) rfl hv hl q) r
theorem g_iconst (K : Cx Z p s m meth c own bytes ml rt nm) (X : Wk Z own p l e R s m args below meth c n0 T h cells slots) {pc pc' : Nat} {L : Array Slot} {st : List Value} {i : Int} {v : Int32} (hd : decode bytes pc = .ok (.iconst i, 1)) (hp : pc + 1 = pc') (hv : Int32.ofInt i = v) (r : Fi p e below s n0 C S Q (T.setTop (mkF m pc' L (.int v :: st)))) : Fi p e below s n0 C S Q (T.setTop (mkF m pc L (st))) := by
  obtain ⟨locs, vm0, k0, Y, hh, hF, hn, hSv, hkv, hZv, hov⟩ := X
  subst hp
  subst hv
  exact Fi.of (fun _ q => XS.iconst Y.here K.1 rfl (hb K.2.2.1 hd) q) r
theorem g_bipush (K : Cx Z p s m meth c own bytes ml rt nm) (X : Wk Z own p l e R s m args below meth c n0 T h cells slots) {pc pc' : Nat} {L : Array Slot} {st : List Value} {i : Int} {v : Int32} (hd : decode bytes pc = .ok (.bipush i, 2)) (hp : pc + 2 = pc') (hv : (Int8.ofInt i).toInt32 = v) (r : Fi p e below s n0 C S Q (T.setTop (mkF m pc' L (.int v :: st)))) : Fi p e below s n0 C S Q (T.setTop (mkF m pc L (st))) := by
  obtain ⟨locs, vm0, k0, Y, hh, hF, hn, hSv, hkv, hZv, hov⟩ := X
  subst hp
  subst hv
  exact Fi.of (fun _ q => XS.bipush Y.here K.1 rfl (hb K.2.2.1 hd) q) r
theorem g_sipush (K : Cx Z p s m meth c own bytes ml rt nm) (X : Wk Z own p l e R s m args below meth c n0 T h cells slots) {pc pc' : Nat} {L : Array Slot} {st : List Value} {i : Int} {v : Int32} (hd : decode bytes pc = .ok (.sipush i, 3)) (hp : pc + 3 = pc') (hv : (Int16.ofInt i).toInt32 = v) (r : Fi p e below s n0 C S Q (T.setTop (mkF m pc' L (.int v :: st)))) : Fi p e below s n0 C S Q (T.setTop (mkF m pc L (st))) := by
  obtain ⟨locs, vm0, k0, Y, hh, hF, hn, hSv, hkv, hZv, hov⟩ := X
  subst hp
  subst hv
  exact Fi.of (fun _ q => XS.sipush Y.here K.1 rfl (hb K.2.2.1 hd) q) r
theorem g_lconst (K : Cx Z p s m meth c own bytes ml rt nm) (X : Wk Z own p l e R s m args below meth c n0 T h cells slots) {pc pc' : Nat} {L : Array Slot} {st : List Value} {k : Fin 2} {v : Int64} (hd : decode bytes pc = .ok (.lconst k, 1)) (hp : pc + 1 = pc') (hv : Int64.ofNat k = v) (r : Fi p e below s n0 C S Q (T.setTop (mkF m pc' L (.long v :: st)))) : Fi p e below s n0 C S Q (T.setTop (mkF m pc L (st))) := by
  obtain ⟨locs, vm0, k0, Y, hh, hF, hn, hSv, hkv, hZv, hov⟩ := X
  subst hp
  subst hv
  exact Fi.of (fun _ q => XS.lconst Y.here K.1 rfl (hb K.2.2.1 hd) q) r
theorem g_ldcI (K : Cx Z p s m meth c own bytes ml rt nm) (X : Wk Z own p l e R s m args below meth c n0 T h cells slots) {pc pc' : Nat} {L : Array Slot} {st : List Value} {index : Nat} {v : Int32} (hd : decode bytes pc = .ok (.ldc index, 2)) (hp : pc + 2 = pc') (w : (Cond.constant own index v).before a0 Z = true) (r : Fi p e below s n0 C S Q (T.setTop (mkF m pc' L (.int v :: st)))) : Fi p e below s n0 C S Q (T.setTop (mkF m pc L (st))) := by
  obtain ⟨locs, vm0, k0, Y, hh, hF, hn, hSv, hkv, hZv, hov⟩ := X
  subst hp
  exact Fi.of (fun _ q => Y.ldcInt K.1 hov (mvT hZv w) (g := mkF m pc L st) rfl (hb K.2.2.1 hd) _ q) r
theorem g_ldc2J (K : Cx Z p s m meth c own bytes ml rt nm) (X : Wk Z own p l e R s m args below meth c n0 T h cells slots) {pc pc' : Nat} {L : Array Slot} {st : List Value} {index : Nat} {v : Int64} (hd : decode bytes pc = .ok (.ldc2_w index, 3)) (hp : pc + 3 = pc') (w : (Cond.constantLong own index v).before a0 Z = true) (r : Fi p e below s n0 C S Q (T.setTop (mkF m pc' L (.long v :: st)))) : Fi p e below s n0 C S Q (T.setTop (mkF m pc L (st))) := by
  obtain ⟨locs, vm0, k0, Y, hh, hF, hn, hSv, hkv, hZv, hov⟩ := X
  subst hp
  exact Fi.of (fun _ q => Y.ldc2Long K.1 hov (mvT hZv w) (g := mkF m pc L st) rfl (hb K.2.2.1 hd) _ q) r
theorem g_iadd (K : Cx Z p s m meth c own bytes ml rt nm) (X : Wk Z own p l e R s m args below meth c n0 T h cells slots) {pc pc' : Nat} {L : Array Slot} {st : List Value} {x y : Int32} (hd : decode bytes pc = .ok (.iadd, 1)) (hp : pc + 1 = pc')  (r : Fi p e below s n0 C S Q (T.setTop (mkF m pc' L (.int (x + y) :: st)))) : Fi p e below s n0 C S Q (T.setTop (mkF m pc L (.int y :: .int x :: st))) := by
  obtain ⟨locs, vm0, k0, Y, hh, hF, hn, hSv, hkv, hZv, hov⟩ := X
  subst hp
  exact Fi.of (fun _ q => XS.iadd Y.here K.1 rfl (hb K.2.2.1 hd) rfl q) r
theorem g_ladd (K : Cx Z p s m meth c own bytes ml rt nm) (X : Wk Z own p l e R s m args below meth c n0 T h cells slots) {pc pc' : Nat} {L : Array Slot} {st : List Value} {x y : Int64} (hd : decode bytes pc = .ok (.ladd, 1)) (hp : pc + 1 = pc')  (r : Fi p e below s n0 C S Q (T.setTop (mkF m pc' L (.long (x + y) :: st)))) : Fi p e below s n0 C S Q (T.setTop (mkF m pc L (.long y :: .long x :: st))) := by
  obtain ⟨locs, vm0, k0, Y, hh, hF, hn, hSv, hkv, hZv, hov⟩ := X
  subst hp
  exact Fi.of (fun _ q => XS.ladd Y.here K.1 rfl (hb K.2.2.1 hd) rfl q) r
theorem g_isub (K : Cx Z p s m meth c own bytes ml rt nm) (X : Wk Z own p l e R s m args below meth c n0 T h cells slots) {pc pc' : Nat} {L : Array Slot} {st : List Value} {x y : Int32} (hd : decode bytes pc = .ok (.isub, 1)) (hp : pc + 1 = pc')  (r : Fi p e below s n0 C S Q (T.setTop (mkF m pc' L (.int (x - y) :: st)))) : Fi p e below s n0 C S Q (T.setTop (mkF m pc L (.int y :: .int x :: st))) := by
  obtain ⟨locs, vm0, k0, Y, hh, hF, hn, hSv, hkv, hZv, hov⟩ := X
  subst hp
  exact Fi.of (fun _ q => XS.isub Y.here K.1 rfl (hb K.2.2.1 hd) rfl q) r
theorem g_lsub (K : Cx Z p s m meth c own bytes ml rt nm) (X : Wk Z own p l e R s m args below meth c n0 T h cells slots) {pc pc' : Nat} {L : Array Slot} {st : List Value} {x y : Int64} (hd : decode bytes pc = .ok (.lsub, 1)) (hp : pc + 1 = pc')  (r : Fi p e below s n0 C S Q (T.setTop (mkF m pc' L (.long (x - y) :: st)))) : Fi p e below s n0 C S Q (T.setTop (mkF m pc L (.long y :: .long x :: st))) := by
  obtain ⟨locs, vm0, k0, Y, hh, hF, hn, hSv, hkv, hZv, hov⟩ := X
  subst hp
  exact Fi.of (fun _ q => XS.lsub Y.here K.1 rfl (hb K.2.2.1 hd) rfl q) r
theorem g_imul (K : Cx Z p s m meth c own bytes ml rt nm) (X : Wk Z own p l e R s m args below meth c n0 T h cells slots) {pc pc' : Nat} {L : Array Slot} {st : List Value} {x y : Int32} (hd : decode bytes pc = .ok (.imul, 1)) (hp : pc + 1 = pc')  (r : Fi p e below s n0 C S Q (T.setTop (mkF m pc' L (.int (x * y) :: st)))) : Fi p e below s n0 C S Q (T.setTop (mkF m pc L (.int y :: .int x :: st))) := by
  obtain ⟨locs, vm0, k0, Y, hh, hF, hn, hSv, hkv, hZv, hov⟩ := X
  subst hp
  exact Fi.of (fun _ q => XS.imul Y.here K.1 rfl (hb K.2.2.1 hd) rfl q) r
theorem g_lmul (K : Cx Z p s m meth c own bytes ml rt nm) (X : Wk Z own p l e R s m args below meth c n0 T h cells slots) {pc pc' : Nat} {L : Array Slot} {st : List Value} {x y : Int64} (hd : decode bytes pc = .ok (.lmul, 1)) (hp : pc + 1 = pc')  (r : Fi p e below s n0 C S Q (T.setTop (mkF m pc' L (.long (x * y) :: st)))) : Fi p e below s n0 C S Q (T.setTop (mkF m pc L (.long y :: .long x :: st))) := by
  obtain ⟨locs, vm0, k0, Y, hh, hF, hn, hSv, hkv, hZv, hov⟩ := X
  subst hp
  exact Fi.of (fun _ q => XS.lmul Y.here K.1 rfl (hb K.2.2.1 hd) rfl q) r
theorem g_iand (K : Cx Z p s m meth c own bytes ml rt nm) (X : Wk Z own p l e R s m args below meth c n0 T h cells slots) {pc pc' : Nat} {L : Array Slot} {st : List Value} {x y : Int32} (hd : decode bytes pc = .ok (.iand, 1)) (hp : pc + 1 = pc')  (r : Fi p e below s n0 C S Q (T.setTop (mkF m pc' L (.int (x &&& y) :: st)))) : Fi p e below s n0 C S Q (T.setTop (mkF m pc L (.int y :: .int x :: st))) := by
  obtain ⟨locs, vm0, k0, Y, hh, hF, hn, hSv, hkv, hZv, hov⟩ := X
  subst hp
  exact Fi.of (fun _ q => XS.iand Y.here K.1 rfl (hb K.2.2.1 hd) rfl q) r
theorem g_land (K : Cx Z p s m meth c own bytes ml rt nm) (X : Wk Z own p l e R s m args below meth c n0 T h cells slots) {pc pc' : Nat} {L : Array Slot} {st : List Value} {x y : Int64} (hd : decode bytes pc = .ok (.land, 1)) (hp : pc + 1 = pc')  (r : Fi p e below s n0 C S Q (T.setTop (mkF m pc' L (.long (x &&& y) :: st)))) : Fi p e below s n0 C S Q (T.setTop (mkF m pc L (.long y :: .long x :: st))) := by
  obtain ⟨locs, vm0, k0, Y, hh, hF, hn, hSv, hkv, hZv, hov⟩ := X
  subst hp
  exact Fi.of (fun _ q => XS.land Y.here K.1 rfl (hb K.2.2.1 hd) rfl q) r
theorem g_ior (K : Cx Z p s m meth c own bytes ml rt nm) (X : Wk Z own p l e R s m args below meth c n0 T h cells slots) {pc pc' : Nat} {L : Array Slot} {st : List Value} {x y : Int32} (hd : decode bytes pc = .ok (.ior, 1)) (hp : pc + 1 = pc')  (r : Fi p e below s n0 C S Q (T.setTop (mkF m pc' L (.int (x ||| y) :: st)))) : Fi p e below s n0 C S Q (T.setTop (mkF m pc L (.int y :: .int x :: st))) := by
  obtain ⟨locs, vm0, k0, Y, hh, hF, hn, hSv, hkv, hZv, hov⟩ := X
  subst hp
  exact Fi.of (fun _ q => XS.ior Y.here K.1 rfl (hb K.2.2.1 hd) rfl q) r
theorem g_lor (K : Cx Z p s m meth c own bytes ml rt nm) (X : Wk Z own p l e R s m args below meth c n0 T h cells slots) {pc pc' : Nat} {L : Array Slot} {st : List Value} {x y : Int64} (hd : decode bytes pc = .ok (.lor, 1)) (hp : pc + 1 = pc')  (r : Fi p e below s n0 C S Q (T.setTop (mkF m pc' L (.long (x ||| y) :: st)))) : Fi p e below s n0 C S Q (T.setTop (mkF m pc L (.long y :: .long x :: st))) := by
  obtain ⟨locs, vm0, k0, Y, hh, hF, hn, hSv, hkv, hZv, hov⟩ := X
  subst hp
  exact Fi.of (fun _ q => XS.lor Y.here K.1 rfl (hb K.2.2.1 hd) rfl q) r
theorem g_ixor (K : Cx Z p s m meth c own bytes ml rt nm) (X : Wk Z own p l e R s m args below meth c n0 T h cells slots) {pc pc' : Nat} {L : Array Slot} {st : List Value} {x y : Int32} (hd : decode bytes pc = .ok (.ixor, 1)) (hp : pc + 1 = pc')  (r : Fi p e below s n0 C S Q (T.setTop (mkF m pc' L (.int (x ^^^ y) :: st)))) : Fi p e below s n0 C S Q (T.setTop (mkF m pc L (.int y :: .int x :: st))) := by
  obtain ⟨locs, vm0, k0, Y, hh, hF, hn, hSv, hkv, hZv, hov⟩ := X
  subst hp
  exact Fi.of (fun _ q => XS.ixor Y.here K.1 rfl (hb K.2.2.1 hd) rfl q) r
theorem g_lxor (K : Cx Z p s m meth c own bytes ml rt nm) (X : Wk Z own p l e R s m args below meth c n0 T h cells slots) {pc pc' : Nat} {L : Array Slot} {st : List Value} {x y : Int64} (hd : decode bytes pc = .ok (.lxor, 1)) (hp : pc + 1 = pc')  (r : Fi p e below s n0 C S Q (T.setTop (mkF m pc' L (.long (x ^^^ y) :: st)))) : Fi p e below s n0 C S Q (T.setTop (mkF m pc L (.long y :: .long x :: st))) := by
  obtain ⟨locs, vm0, k0, Y, hh, hF, hn, hSv, hkv, hZv, hov⟩ := X
  subst hp
  exact Fi.of (fun _ q => XS.lxor Y.here K.1 rfl (hb K.2.2.1 hd) rfl q) r
theorem g_ishl (K : Cx Z p s m meth c own bytes ml rt nm) (X : Wk Z own p l e R s m args below meth c n0 T h cells slots) {pc pc' : Nat} {L : Array Slot} {st : List Value} {x y : Int32} (hd : decode bytes pc = .ok (.ishl, 1)) (hp : pc + 1 = pc')  (r : Fi p e below s n0 C S Q (T.setTop (mkF m pc' L (.int (jshl x y) :: st)))) : Fi p e below s n0 C S Q (T.setTop (mkF m pc L (.int y :: .int x :: st))) := by
  obtain ⟨locs, vm0, k0, Y, hh, hF, hn, hSv, hkv, hZv, hov⟩ := X
  subst hp
  exact Fi.of (fun _ q => XS.ishl Y.here K.1 rfl (hb K.2.2.1 hd) rfl q) r
theorem g_lshl (K : Cx Z p s m meth c own bytes ml rt nm) (X : Wk Z own p l e R s m args below meth c n0 T h cells slots) {pc pc' : Nat} {L : Array Slot} {st : List Value} {x : Int64} {y : Int32} (hd : decode bytes pc = .ok (.lshl, 1)) (hp : pc + 1 = pc')  (r : Fi p e below s n0 C S Q (T.setTop (mkF m pc' L (.long (jshlL x y) :: st)))) : Fi p e below s n0 C S Q (T.setTop (mkF m pc L (.int y :: .long x :: st))) := by
  obtain ⟨locs, vm0, k0, Y, hh, hF, hn, hSv, hkv, hZv, hov⟩ := X
  subst hp
  exact Fi.of (fun _ q => XS.lshl Y.here K.1 rfl (hb K.2.2.1 hd) rfl q) r
theorem g_ishr (K : Cx Z p s m meth c own bytes ml rt nm) (X : Wk Z own p l e R s m args below meth c n0 T h cells slots) {pc pc' : Nat} {L : Array Slot} {st : List Value} {x y : Int32} (hd : decode bytes pc = .ok (.ishr, 1)) (hp : pc + 1 = pc')  (r : Fi p e below s n0 C S Q (T.setTop (mkF m pc' L (.int (jshr x y) :: st)))) : Fi p e below s n0 C S Q (T.setTop (mkF m pc L (.int y :: .int x :: st))) := by
  obtain ⟨locs, vm0, k0, Y, hh, hF, hn, hSv, hkv, hZv, hov⟩ := X
  subst hp
  exact Fi.of (fun _ q => XS.ishr Y.here K.1 rfl (hb K.2.2.1 hd) rfl q) r
theorem g_lshr (K : Cx Z p s m meth c own bytes ml rt nm) (X : Wk Z own p l e R s m args below meth c n0 T h cells slots) {pc pc' : Nat} {L : Array Slot} {st : List Value} {x : Int64} {y : Int32} (hd : decode bytes pc = .ok (.lshr, 1)) (hp : pc + 1 = pc')  (r : Fi p e below s n0 C S Q (T.setTop (mkF m pc' L (.long (jshrL x y) :: st)))) : Fi p e below s n0 C S Q (T.setTop (mkF m pc L (.int y :: .long x :: st))) := by
  obtain ⟨locs, vm0, k0, Y, hh, hF, hn, hSv, hkv, hZv, hov⟩ := X
  subst hp
  exact Fi.of (fun _ q => XS.lshr Y.here K.1 rfl (hb K.2.2.1 hd) rfl q) r
theorem g_iushr (K : Cx Z p s m meth c own bytes ml rt nm) (X : Wk Z own p l e R s m args below meth c n0 T h cells slots) {pc pc' : Nat} {L : Array Slot} {st : List Value} {x y : Int32} (hd : decode bytes pc = .ok (.iushr, 1)) (hp : pc + 1 = pc')  (r : Fi p e below s n0 C S Q (T.setTop (mkF m pc' L (.int (jushr x y) :: st)))) : Fi p e below s n0 C S Q (T.setTop (mkF m pc L (.int y :: .int x :: st))) := by
  obtain ⟨locs, vm0, k0, Y, hh, hF, hn, hSv, hkv, hZv, hov⟩ := X
  subst hp
  exact Fi.of (fun _ q => XS.iushr Y.here K.1 rfl (hb K.2.2.1 hd) rfl q) r
theorem g_lushr (K : Cx Z p s m meth c own bytes ml rt nm) (X : Wk Z own p l e R s m args below meth c n0 T h cells slots) {pc pc' : Nat} {L : Array Slot} {st : List Value} {x : Int64} {y : Int32} (hd : decode bytes pc = .ok (.lushr, 1)) (hp : pc + 1 = pc')  (r : Fi p e below s n0 C S Q (T.setTop (mkF m pc' L (.long (jushrL x y) :: st)))) : Fi p e below s n0 C S Q (T.setTop (mkF m pc L (.int y :: .long x :: st))) := by
  obtain ⟨locs, vm0, k0, Y, hh, hF, hn, hSv, hkv, hZv, hov⟩ := X
  subst hp
  exact Fi.of (fun _ q => XS.lushr Y.here K.1 rfl (hb K.2.2.1 hd) rfl q) r
theorem g_i2b (K : Cx Z p s m meth c own bytes ml rt nm) (X : Wk Z own p l e R s m args below meth c n0 T h cells slots) {pc pc' : Nat} {L : Array Slot} {st : List Value} {x : Int32} (hd : decode bytes pc = .ok (.i2b, 1)) (hp : pc + 1 = pc')  (r : Fi p e below s n0 C S Q (T.setTop (mkF m pc' L (.int (jb x) :: st)))) : Fi p e below s n0 C S Q (T.setTop (mkF m pc L (.int x :: st))) := by
  obtain ⟨locs, vm0, k0, Y, hh, hF, hn, hSv, hkv, hZv, hov⟩ := X
  subst hp
  exact Fi.of (fun _ q => XS.i2b Y.here K.1 rfl (hb K.2.2.1 hd) rfl q) r
theorem g_i2c (K : Cx Z p s m meth c own bytes ml rt nm) (X : Wk Z own p l e R s m args below meth c n0 T h cells slots) {pc pc' : Nat} {L : Array Slot} {st : List Value} {x : Int32} (hd : decode bytes pc = .ok (.i2c, 1)) (hp : pc + 1 = pc')  (r : Fi p e below s n0 C S Q (T.setTop (mkF m pc' L (.int (jc x) :: st)))) : Fi p e below s n0 C S Q (T.setTop (mkF m pc L (.int x :: st))) := by
  obtain ⟨locs, vm0, k0, Y, hh, hF, hn, hSv, hkv, hZv, hov⟩ := X
  subst hp
  exact Fi.of (fun _ q => XS.i2c Y.here K.1 rfl (hb K.2.2.1 hd) rfl q) r
theorem g_i2s (K : Cx Z p s m meth c own bytes ml rt nm) (X : Wk Z own p l e R s m args below meth c n0 T h cells slots) {pc pc' : Nat} {L : Array Slot} {st : List Value} {x : Int32} (hd : decode bytes pc = .ok (.i2s, 1)) (hp : pc + 1 = pc')  (r : Fi p e below s n0 C S Q (T.setTop (mkF m pc' L (.int (js x) :: st)))) : Fi p e below s n0 C S Q (T.setTop (mkF m pc L (.int x :: st))) := by
  obtain ⟨locs, vm0, k0, Y, hh, hF, hn, hSv, hkv, hZv, hov⟩ := X
  subst hp
  exact Fi.of (fun _ q => XS.i2s Y.here K.1 rfl (hb K.2.2.1 hd) rfl q) r
theorem g_i2l (K : Cx Z p s m meth c own bytes ml rt nm) (X : Wk Z own p l e R s m args below meth c n0 T h cells slots) {pc pc' : Nat} {L : Array Slot} {st : List Value} {x : Int32} (hd : decode bytes pc = .ok (.i2l, 1)) (hp : pc + 1 = pc')  (r : Fi p e below s n0 C S Q (T.setTop (mkF m pc' L (.long (x.toInt64) :: st)))) : Fi p e below s n0 C S Q (T.setTop (mkF m pc L (.int x :: st))) := by
  obtain ⟨locs, vm0, k0, Y, hh, hF, hn, hSv, hkv, hZv, hov⟩ := X
  subst hp
  exact Fi.of (fun _ q => XS.i2l Y.here K.1 rfl (hb K.2.2.1 hd) rfl q) r
theorem g_l2i (K : Cx Z p s m meth c own bytes ml rt nm) (X : Wk Z own p l e R s m args below meth c n0 T h cells slots) {pc pc' : Nat} {L : Array Slot} {st : List Value} {x : Int64} (hd : decode bytes pc = .ok (.l2i, 1)) (hp : pc + 1 = pc')  (r : Fi p e below s n0 C S Q (T.setTop (mkF m pc' L (.int (x.toInt32) :: st)))) : Fi p e below s n0 C S Q (T.setTop (mkF m pc L (.long x :: st))) := by
  obtain ⟨locs, vm0, k0, Y, hh, hF, hn, hSv, hkv, hZv, hov⟩ := X
  subst hp
  exact Fi.of (fun _ q => XS.l2i Y.here K.1 rfl (hb K.2.2.1 hd) rfl q) r
theorem g_ineg (K : Cx Z p s m meth c own bytes ml rt nm) (X : Wk Z own p l e R s m args below meth c n0 T h cells slots) {pc pc' : Nat} {L : Array Slot} {st : List Value} {x : Int32} (hd : decode bytes pc = .ok (.ineg, 1)) (hp : pc + 1 = pc')  (r : Fi p e below s n0 C S Q (T.setTop (mkF m pc' L (.int (-x) :: st)))) : Fi p e below s n0 C S Q (T.setTop (mkF m pc L (.int x :: st))) := by
  obtain ⟨locs, vm0, k0, Y, hh, hF, hn, hSv, hkv, hZv, hov⟩ := X
  subst hp
  exact Fi.of (fun _ q => XS.ineg Y.here K.1 rfl (hb K.2.2.1 hd) rfl q) r
theorem g_lneg (K : Cx Z p s m meth c own bytes ml rt nm) (X : Wk Z own p l e R s m args below meth c n0 T h cells slots) {pc pc' : Nat} {L : Array Slot} {st : List Value} {x : Int64} (hd : decode bytes pc = .ok (.lneg, 1)) (hp : pc + 1 = pc')  (r : Fi p e below s n0 C S Q (T.setTop (mkF m pc' L (.long (-x) :: st)))) : Fi p e below s n0 C S Q (T.setTop (mkF m pc L (.long x :: st))) := by
  obtain ⟨locs, vm0, k0, Y, hh, hF, hn, hSv, hkv, hZv, hov⟩ := X
  subst hp
  exact Fi.of (fun _ q => XS.lneg Y.here K.1 rfl (hb K.2.2.1 hd) rfl q) r
theorem g_idiv (K : Cx Z p s m meth c own bytes ml rt nm) (X : Wk Z own p l e R s m args below meth c n0 T h cells slots) {pc pc' : Nat} {L : Array Slot} {st : List Value} {x y : Int32} (hd : decode bytes pc = .ok (.idiv, 1)) (hp : pc + 1 = pc') (hy : y ≠ 0) (r : Fi p e below s n0 C S Q (T.setTop (mkF m pc' L (.int (x / y) :: st)))) : Fi p e below s n0 C S Q (T.setTop (mkF m pc L (.int y :: .int x :: st))) := by
  obtain ⟨locs, vm0, k0, Y, hh, hF, hn, hSv, hkv, hZv, hov⟩ := X
  subst hp
  exact Fi.of (fun _ q => XS.idiv Y.here K.1 rfl (hb K.2.2.1 hd) rfl hy q) r
theorem g_ldiv (K : Cx Z p s m meth c own bytes ml rt nm) (X : Wk Z own p l e R s m args below meth c n0 T h cells slots) {pc pc' : Nat} {L : Array Slot} {st : List Value} {x y : Int64} (hd : decode bytes pc = .ok (.ldiv, 1)) (hp : pc + 1 = pc') (hy : y ≠ 0) (r : Fi p e below s n0 C S Q (T.setTop (mkF m pc' L (.long (x / y) :: st)))) : Fi p e below s n0 C S Q (T.setTop (mkF m pc L (.long y :: .long x :: st))) := by
  obtain ⟨locs, vm0, k0, Y, hh, hF, hn, hSv, hkv, hZv, hov⟩ := X
  subst hp
  exact Fi.of (fun _ q => XS.ldiv Y.here K.1 rfl (hb K.2.2.1 hd) rfl hy q) r
theorem g_irem (K : Cx Z p s m meth c own bytes ml rt nm) (X : Wk Z own p l e R s m args below meth c n0 T h cells slots) {pc pc' : Nat} {L : Array Slot} {st : List Value} {x y : Int32} (hd : decode bytes pc = .ok (.irem, 1)) (hp : pc + 1 = pc') (hy : y ≠ 0) (r : Fi p e below s n0 C S Q (T.setTop (mkF m pc' L (.int (x % y) :: st)))) : Fi p e below s n0 C S Q (T.setTop (mkF m pc L (.int y :: .int x :: st))) := by
  obtain ⟨locs, vm0, k0, Y, hh, hF, hn, hSv, hkv, hZv, hov⟩ := X
  subst hp
  exact Fi.of (fun _ q => iremM Y K.1 rfl (hb K.2.2.1 hd) rfl hy q) r
theorem g_lrem (K : Cx Z p s m meth c own bytes ml rt nm) (X : Wk Z own p l e R s m args below meth c n0 T h cells slots) {pc pc' : Nat} {L : Array Slot} {st : List Value} {x y : Int64} (hd : decode bytes pc = .ok (.lrem, 1)) (hp : pc + 1 = pc') (hy : y ≠ 0) (r : Fi p e below s n0 C S Q (T.setTop (mkF m pc' L (.long (x % y) :: st)))) : Fi p e below s n0 C S Q (T.setTop (mkF m pc L (.long y :: .long x :: st))) := by
  obtain ⟨locs, vm0, k0, Y, hh, hF, hn, hSv, hkv, hZv, hov⟩ := X
  subst hp
  exact Fi.of (fun _ q => XS.lrem Y.here K.1 rfl (hb K.2.2.1 hd) rfl hy (by rw [lrem_mod]; exact q)) r
theorem g_iinc (K : Cx Z p s m meth c own bytes ml rt nm) (X : Wk Z own p l e R s m args below meth c n0 T h cells slots) {pc pc' : Nat} {L : Array Slot} {st : List Value} {k : Nat} {cst : Int} {x z : Int32} {L' : Array Slot} (hd : decode bytes pc = .ok (.iinc k cst, 3)) (hp : pc + 3 = pc') (hl : L[k]? = some (.val (.int x))) (hz : x + Int32.ofInt cst = z) (hl' : storeLocals L k (.int z) = some L') (r : Fi p e below s n0 C S Q (T.setTop (mkF m pc' L' (st)))) : Fi p e below s n0 C S Q (T.setTop (mkF m pc L (st))) := by
  obtain ⟨locs, vm0, k0, Y, hh, hF, hn, hSv, hkv, hZv, hov⟩ := X
  subst hp
  subst hz
  exact Fi.of (fun _ q => XS.iinc Y.here K.1 rfl (hb K.2.2.1 hd) hl hl' q) r
theorem g_dup (K : Cx Z p s m meth c own bytes ml rt nm) (X : Wk Z own p l e R s m args below meth c n0 T h cells slots) {pc pc' : Nat} {L : Array Slot} {st : List Value} {v : Value} (hd : decode bytes pc = .ok (.dup, 1)) (hp : pc + 1 = pc') (hv : v.category = 1) (r : Fi p e below s n0 C S Q (T.setTop (mkF m pc' L (v :: v :: st)))) : Fi p e below s n0 C S Q (T.setTop (mkF m pc L (v :: st))) := by
  obtain ⟨locs, vm0, k0, Y, hh, hF, hn, hSv, hkv, hZv, hov⟩ := X
  subst hp
  exact Fi.of (fun _ q => XS.dup Y.here K.1 rfl (hb K.2.2.1 hd) rfl hv q) r
theorem g_pop (K : Cx Z p s m meth c own bytes ml rt nm) (X : Wk Z own p l e R s m args below meth c n0 T h cells slots) {pc pc' : Nat} {L : Array Slot} {st : List Value} {v : Value} (hd : decode bytes pc = .ok (.pop, 1)) (hp : pc + 1 = pc') (hv : v.category = 1) (r : Fi p e below s n0 C S Q (T.setTop (mkF m pc' L (st)))) : Fi p e below s n0 C S Q (T.setTop (mkF m pc L (v :: st))) := by
  obtain ⟨locs, vm0, k0, Y, hh, hF, hn, hSv, hkv, hZv, hov⟩ := X
  subst hp
  exact Fi.of (fun _ q => XS.pop Y.here K.1 rfl (hb K.2.2.1 hd) rfl hv q) r
theorem g_goto (K : Cx Z p s m meth c own bytes ml rt nm) (X : Wk Z own p l e R s m args below meth c n0 T h cells slots) {pc pc' : Nat} {L : Array Slot} {st : List Value} {o : Int} (hd : decode bytes pc = .ok (.goto o, 3)) (hp : (pc : Int) + o = (pc' : Int)) (r : Fi p e below s n0 C S Q (T.setTop (mkF m pc' L (st)))) : Fi p e below s n0 C S Q (T.setTop (mkF m pc L (st))) := by
  obtain ⟨locs, vm0, k0, Y, hh, hF, hn, hSv, hkv, hZv, hov⟩ := X
  exact Fi.of (fun _ q => XS.goto Y.here K.1 rfl (pc0 := pc) (pc' := pc') rfl (hb K.2.2.1 hd) (by omega) (by omega) q) r
theorem i32_eq {x y : Int32} : x = y ↔ x.toInt = y.toInt := Int32.toInt_inj.symm
theorem i64_eq {x y : Int64} : x = y ↔ x.toInt = y.toInt := Int64.toInt_inj.symm
theorem h_icmp_eq {x y : Int32} : if_icmp.holds .eq x y = true ↔ x.toInt = y.toInt := by
  simp only [if_icmp.holds, decide_eq_true_eq, bne_iff_ne, beq_iff_eq, ne_eq, i32_eq, Int32.lt_iff_toInt_lt, Int32.le_iff_toInt_le, GT.gt, GE.ge]
theorem h_icmp_ne {x y : Int32} : if_icmp.holds .ne x y = true ↔ x.toInt ≠ y.toInt := by
  simp only [if_icmp.holds, decide_eq_true_eq, bne_iff_ne, beq_iff_eq, ne_eq, i32_eq, Int32.lt_iff_toInt_lt, Int32.le_iff_toInt_le, GT.gt, GE.ge]
theorem h_icmp_lt {x y : Int32} : if_icmp.holds .lt x y = true ↔ x.toInt < y.toInt := by
  simp only [if_icmp.holds, decide_eq_true_eq, bne_iff_ne, beq_iff_eq, ne_eq, i32_eq, Int32.lt_iff_toInt_lt, Int32.le_iff_toInt_le, GT.gt, GE.ge]
theorem h_icmp_ge {x y : Int32} : if_icmp.holds .ge x y = true ↔ x.toInt ≥ y.toInt := by
  simp only [if_icmp.holds, decide_eq_true_eq, bne_iff_ne, beq_iff_eq, ne_eq, i32_eq, Int32.lt_iff_toInt_lt, Int32.le_iff_toInt_le, GT.gt, GE.ge]
theorem h_icmp_gt {x y : Int32} : if_icmp.holds .gt x y = true ↔ x.toInt > y.toInt := by
  simp only [if_icmp.holds, decide_eq_true_eq, bne_iff_ne, beq_iff_eq, ne_eq, i32_eq, Int32.lt_iff_toInt_lt, Int32.le_iff_toInt_le, GT.gt, GE.ge]
theorem h_icmp_le {x y : Int32} : if_icmp.holds .le x y = true ↔ x.toInt ≤ y.toInt := by
  simp only [if_icmp.holds, decide_eq_true_eq, bne_iff_ne, beq_iff_eq, ne_eq, i32_eq, Int32.lt_iff_toInt_lt, Int32.le_iff_toInt_le, GT.gt, GE.ge]
theorem g_icmp_eq (K : Cx Z p s m meth c own bytes ml rt nm) (X : Wk Z own p l e R s m args below meth c n0 T h cells slots) {pc pc' pc'' : Nat} {L : Array Slot} {st : List Value} {x y : Int32} {o : Int} (xv yv : Int) (hd : decode bytes pc = .ok (.if_icmp .eq o, 3)) (hp : (pc : Int) + o = (pc' : Int)) (hp' : pc + 3 = pc'') (hxv : x.toInt = xv) (hyv : y.toInt = yv) (r1 : xv = yv → Fi p e below s n0 C S Q (T.setTop (mkF m pc' L (st)))) (r2 : xv ≠ yv → Fi p e below s n0 C S Q (T.setTop (mkF m pc'' L (st)))) : Fi p e below s n0 C S Q (T.setTop (mkF m pc L (.int y :: .int x :: st))) := by
  obtain ⟨locs, vm0, k0, Y, hh, hF, hn, hSv, hkv, hZv, hov⟩ := X
  subst hxv hyv hp'
  by_cases hq : if_icmp.holds .eq x y = true
  · exact Fi.of (fun _ q => XS.icmpYes Y.here K.1 rfl (pc0 := pc) (pc' := pc') rfl (hb K.2.2.1 hd) rfl hq (by omega) (by omega) q) (r1 (h_icmp_eq.mp hq))
  · exact Fi.of (fun _ q => XS.icmpNo Y.here K.1 rfl (hb K.2.2.1 hd) rfl (Bool.eq_false_iff.mpr hq) q) (r2 (by have := mt h_icmp_eq.mpr hq; omega))
theorem g_if_eq (K : Cx Z p s m meth c own bytes ml rt nm) (X : Wk Z own p l e R s m args below meth c n0 T h cells slots) {pc pc' pc'' : Nat} {L : Array Slot} {st : List Value} {x : Int32} {o : Int} (xv : Int) (hd : decode bytes pc = .ok (.ifCond .eq o, 3)) (hp : (pc : Int) + o = (pc' : Int)) (hp' : pc + 3 = pc'') (hxv : x.toInt = xv) (r1 : xv = 0 → Fi p e below s n0 C S Q (T.setTop (mkF m pc' L (st)))) (r2 : xv ≠ 0 → Fi p e below s n0 C S Q (T.setTop (mkF m pc'' L (st)))) : Fi p e below s n0 C S Q (T.setTop (mkF m pc L (.int x :: st))) := by
  obtain ⟨locs, vm0, k0, Y, hh, hF, hn, hSv, hkv, hZv, hov⟩ := X
  subst hxv hp'
  have z0 : (0 : Int32).toInt = 0 := rfl
  by_cases hq : if_icmp.holds .eq x 0 = true
  · exact Fi.of (fun _ q => XS.ifYes Y.here K.1 rfl (pc0 := pc) (pc' := pc') rfl (hb K.2.2.1 hd) rfl ((if0 _ _).trans hq) (by omega) (by omega) q) (r1 (by have := h_icmp_eq.mp hq; omega))
  · exact Fi.of (fun _ q => XS.ifNo Y.here K.1 rfl (hb K.2.2.1 hd) rfl ((if0 _ _).trans (Bool.eq_false_iff.mpr hq)) q) (r2 (by have := mt h_icmp_eq.mpr hq; omega))
theorem g_lcmp_eq (K : Cx Z p s m meth c own bytes ml rt nm) (X : Wk Z own p l e R s m args below meth c n0 T h cells slots) {pc pc1 pc' pc'' : Nat} {L : Array Slot} {st : List Value} {x y : Int64} {o : Int} (xv yv : Int) (hd : decode bytes pc = .ok (.lcmp, 1)) (hp1 : pc + 1 = pc1) (hd1 : decode bytes pc1 = .ok (.ifCond .eq o, 3)) (hp : (pc1 : Int) + o = (pc' : Int)) (hp' : pc1 + 3 = pc'') (hxv : x.toInt = xv) (hyv : y.toInt = yv) (r1 : xv = yv → Fi p e below s n0 C S Q (T.setTop (mkF m pc' L (st)))) (r2 : xv ≠ yv → Fi p e below s n0 C S Q (T.setTop (mkF m pc'' L (st)))) : Fi p e below s n0 C S Q (T.setTop (mkF m pc L (.long y :: .long x :: st))) := by
  obtain ⟨locs, vm0, k0, Y, hh, hF, hn, hSv, hkv, hZv, hov⟩ := X
  subst hxv hyv hp' hp1
  have hs : ∀ t, Steps p.tables e below (T.setTop (mkF m (pc + 1) L (.int (XT.cmpL x y) :: st))) t → Steps p.tables e below (T.setTop (mkF m pc L (.long y :: .long x :: st))) t := fun _ q => XS.lcmp Y.here K.1 rfl (hb K.2.2.1 hd) rfl q
  by_cases hq : x.toInt = y.toInt
  · exact Fi.of (fun _ q => hs _ (XS.ifYes Y.here K.1 rfl (pc0 := pc + 1) (pc' := pc') rfl (hb K.2.2.1 hd1) rfl (XT.ll_eq_t (by simpa only [ge_iff_le, gt_iff_lt, ne_eq, i64_eq, Int64.lt_iff_toInt_lt, Int64.le_iff_toInt_le, Int.not_lt] using hq)) (by omega) (by omega) q)) (r1 hq)
  · exact Fi.of (fun _ q => hs _ (XS.ifNo Y.here K.1 rfl (hb K.2.2.1 hd1) rfl (XT.ll_eq_f (by simpa only [ge_iff_le, gt_iff_lt, ne_eq, Decidable.not_not, i64_eq, Int64.lt_iff_toInt_lt, Int64.le_iff_toInt_le, Int.not_lt, Int.not_le] using hq)) q)) (r2 (by omega))
theorem g_icmp_ne (K : Cx Z p s m meth c own bytes ml rt nm) (X : Wk Z own p l e R s m args below meth c n0 T h cells slots) {pc pc' pc'' : Nat} {L : Array Slot} {st : List Value} {x y : Int32} {o : Int} (xv yv : Int) (hd : decode bytes pc = .ok (.if_icmp .ne o, 3)) (hp : (pc : Int) + o = (pc' : Int)) (hp' : pc + 3 = pc'') (hxv : x.toInt = xv) (hyv : y.toInt = yv) (r1 : xv ≠ yv → Fi p e below s n0 C S Q (T.setTop (mkF m pc' L (st)))) (r2 : xv = yv → Fi p e below s n0 C S Q (T.setTop (mkF m pc'' L (st)))) : Fi p e below s n0 C S Q (T.setTop (mkF m pc L (.int y :: .int x :: st))) := by
  obtain ⟨locs, vm0, k0, Y, hh, hF, hn, hSv, hkv, hZv, hov⟩ := X
  subst hxv hyv hp'
  by_cases hq : if_icmp.holds .ne x y = true
  · exact Fi.of (fun _ q => XS.icmpYes Y.here K.1 rfl (pc0 := pc) (pc' := pc') rfl (hb K.2.2.1 hd) rfl hq (by omega) (by omega) q) (r1 (h_icmp_ne.mp hq))
  · exact Fi.of (fun _ q => XS.icmpNo Y.here K.1 rfl (hb K.2.2.1 hd) rfl (Bool.eq_false_iff.mpr hq) q) (r2 (by have := mt h_icmp_ne.mpr hq; omega))
theorem g_if_ne (K : Cx Z p s m meth c own bytes ml rt nm) (X : Wk Z own p l e R s m args below meth c n0 T h cells slots) {pc pc' pc'' : Nat} {L : Array Slot} {st : List Value} {x : Int32} {o : Int} (xv : Int) (hd : decode bytes pc = .ok (.ifCond .ne o, 3)) (hp : (pc : Int) + o = (pc' : Int)) (hp' : pc + 3 = pc'') (hxv : x.toInt = xv) (r1 : xv ≠ 0 → Fi p e below s n0 C S Q (T.setTop (mkF m pc' L (st)))) (r2 : xv = 0 → Fi p e below s n0 C S Q (T.setTop (mkF m pc'' L (st)))) : Fi p e below s n0 C S Q (T.setTop (mkF m pc L (.int x :: st))) := by
  obtain ⟨locs, vm0, k0, Y, hh, hF, hn, hSv, hkv, hZv, hov⟩ := X
  subst hxv hp'
  have z0 : (0 : Int32).toInt = 0 := rfl
  by_cases hq : if_icmp.holds .ne x 0 = true
  · exact Fi.of (fun _ q => XS.ifYes Y.here K.1 rfl (pc0 := pc) (pc' := pc') rfl (hb K.2.2.1 hd) rfl ((if0 _ _).trans hq) (by omega) (by omega) q) (r1 (by have := h_icmp_ne.mp hq; omega))
  · exact Fi.of (fun _ q => XS.ifNo Y.here K.1 rfl (hb K.2.2.1 hd) rfl ((if0 _ _).trans (Bool.eq_false_iff.mpr hq)) q) (r2 (by have := mt h_icmp_ne.mpr hq; omega))
theorem g_lcmp_ne (K : Cx Z p s m meth c own bytes ml rt nm) (X : Wk Z own p l e R s m args below meth c n0 T h cells slots) {pc pc1 pc' pc'' : Nat} {L : Array Slot} {st : List Value} {x y : Int64} {o : Int} (xv yv : Int) (hd : decode bytes pc = .ok (.lcmp, 1)) (hp1 : pc + 1 = pc1) (hd1 : decode bytes pc1 = .ok (.ifCond .ne o, 3)) (hp : (pc1 : Int) + o = (pc' : Int)) (hp' : pc1 + 3 = pc'') (hxv : x.toInt = xv) (hyv : y.toInt = yv) (r1 : xv ≠ yv → Fi p e below s n0 C S Q (T.setTop (mkF m pc' L (st)))) (r2 : xv = yv → Fi p e below s n0 C S Q (T.setTop (mkF m pc'' L (st)))) : Fi p e below s n0 C S Q (T.setTop (mkF m pc L (.long y :: .long x :: st))) := by
  obtain ⟨locs, vm0, k0, Y, hh, hF, hn, hSv, hkv, hZv, hov⟩ := X
  subst hxv hyv hp' hp1
  have hs : ∀ t, Steps p.tables e below (T.setTop (mkF m (pc + 1) L (.int (XT.cmpL x y) :: st))) t → Steps p.tables e below (T.setTop (mkF m pc L (.long y :: .long x :: st))) t := fun _ q => XS.lcmp Y.here K.1 rfl (hb K.2.2.1 hd) rfl q
  by_cases hq : x.toInt ≠ y.toInt
  · exact Fi.of (fun _ q => hs _ (XS.ifYes Y.here K.1 rfl (pc0 := pc + 1) (pc' := pc') rfl (hb K.2.2.1 hd1) rfl (XT.ll_ne_t (by simpa only [ge_iff_le, gt_iff_lt, ne_eq, i64_eq, Int64.lt_iff_toInt_lt, Int64.le_iff_toInt_le, Int.not_lt] using hq)) (by omega) (by omega) q)) (r1 hq)
  · exact Fi.of (fun _ q => hs _ (XS.ifNo Y.here K.1 rfl (hb K.2.2.1 hd1) rfl (XT.ll_ne_f (by simpa only [ge_iff_le, gt_iff_lt, ne_eq, Decidable.not_not, i64_eq, Int64.lt_iff_toInt_lt, Int64.le_iff_toInt_le, Int.not_lt, Int.not_le] using hq)) q)) (r2 (by omega))
theorem g_icmp_lt (K : Cx Z p s m meth c own bytes ml rt nm) (X : Wk Z own p l e R s m args below meth c n0 T h cells slots) {pc pc' pc'' : Nat} {L : Array Slot} {st : List Value} {x y : Int32} {o : Int} (xv yv : Int) (hd : decode bytes pc = .ok (.if_icmp .lt o, 3)) (hp : (pc : Int) + o = (pc' : Int)) (hp' : pc + 3 = pc'') (hxv : x.toInt = xv) (hyv : y.toInt = yv) (r1 : xv < yv → Fi p e below s n0 C S Q (T.setTop (mkF m pc' L (st)))) (r2 : xv ≥ yv → Fi p e below s n0 C S Q (T.setTop (mkF m pc'' L (st)))) : Fi p e below s n0 C S Q (T.setTop (mkF m pc L (.int y :: .int x :: st))) := by
  obtain ⟨locs, vm0, k0, Y, hh, hF, hn, hSv, hkv, hZv, hov⟩ := X
  subst hxv hyv hp'
  by_cases hq : if_icmp.holds .lt x y = true
  · exact Fi.of (fun _ q => XS.icmpYes Y.here K.1 rfl (pc0 := pc) (pc' := pc') rfl (hb K.2.2.1 hd) rfl hq (by omega) (by omega) q) (r1 (h_icmp_lt.mp hq))
  · exact Fi.of (fun _ q => XS.icmpNo Y.here K.1 rfl (hb K.2.2.1 hd) rfl (Bool.eq_false_iff.mpr hq) q) (r2 (by have := mt h_icmp_lt.mpr hq; omega))
theorem g_if_lt (K : Cx Z p s m meth c own bytes ml rt nm) (X : Wk Z own p l e R s m args below meth c n0 T h cells slots) {pc pc' pc'' : Nat} {L : Array Slot} {st : List Value} {x : Int32} {o : Int} (xv : Int) (hd : decode bytes pc = .ok (.ifCond .lt o, 3)) (hp : (pc : Int) + o = (pc' : Int)) (hp' : pc + 3 = pc'') (hxv : x.toInt = xv) (r1 : xv < 0 → Fi p e below s n0 C S Q (T.setTop (mkF m pc' L (st)))) (r2 : xv ≥ 0 → Fi p e below s n0 C S Q (T.setTop (mkF m pc'' L (st)))) : Fi p e below s n0 C S Q (T.setTop (mkF m pc L (.int x :: st))) := by
  obtain ⟨locs, vm0, k0, Y, hh, hF, hn, hSv, hkv, hZv, hov⟩ := X
  subst hxv hp'
  have z0 : (0 : Int32).toInt = 0 := rfl
  by_cases hq : if_icmp.holds .lt x 0 = true
  · exact Fi.of (fun _ q => XS.ifYes Y.here K.1 rfl (pc0 := pc) (pc' := pc') rfl (hb K.2.2.1 hd) rfl ((if0 _ _).trans hq) (by omega) (by omega) q) (r1 (by have := h_icmp_lt.mp hq; omega))
  · exact Fi.of (fun _ q => XS.ifNo Y.here K.1 rfl (hb K.2.2.1 hd) rfl ((if0 _ _).trans (Bool.eq_false_iff.mpr hq)) q) (r2 (by have := mt h_icmp_lt.mpr hq; omega))
theorem g_lcmp_lt (K : Cx Z p s m meth c own bytes ml rt nm) (X : Wk Z own p l e R s m args below meth c n0 T h cells slots) {pc pc1 pc' pc'' : Nat} {L : Array Slot} {st : List Value} {x y : Int64} {o : Int} (xv yv : Int) (hd : decode bytes pc = .ok (.lcmp, 1)) (hp1 : pc + 1 = pc1) (hd1 : decode bytes pc1 = .ok (.ifCond .lt o, 3)) (hp : (pc1 : Int) + o = (pc' : Int)) (hp' : pc1 + 3 = pc'') (hxv : x.toInt = xv) (hyv : y.toInt = yv) (r1 : xv < yv → Fi p e below s n0 C S Q (T.setTop (mkF m pc' L (st)))) (r2 : xv ≥ yv → Fi p e below s n0 C S Q (T.setTop (mkF m pc'' L (st)))) : Fi p e below s n0 C S Q (T.setTop (mkF m pc L (.long y :: .long x :: st))) := by
  obtain ⟨locs, vm0, k0, Y, hh, hF, hn, hSv, hkv, hZv, hov⟩ := X
  subst hxv hyv hp' hp1
  have hs : ∀ t, Steps p.tables e below (T.setTop (mkF m (pc + 1) L (.int (XT.cmpL x y) :: st))) t → Steps p.tables e below (T.setTop (mkF m pc L (.long y :: .long x :: st))) t := fun _ q => XS.lcmp Y.here K.1 rfl (hb K.2.2.1 hd) rfl q
  by_cases hq : x.toInt < y.toInt
  · exact Fi.of (fun _ q => hs _ (XS.ifYes Y.here K.1 rfl (pc0 := pc + 1) (pc' := pc') rfl (hb K.2.2.1 hd1) rfl (XT.ll_lt_t (by simpa only [ge_iff_le, gt_iff_lt, ne_eq, i64_eq, Int64.lt_iff_toInt_lt, Int64.le_iff_toInt_le, Int.not_lt] using hq)) (by omega) (by omega) q)) (r1 hq)
  · exact Fi.of (fun _ q => hs _ (XS.ifNo Y.here K.1 rfl (hb K.2.2.1 hd1) rfl (XT.ll_lt_f (by simpa only [ge_iff_le, gt_iff_lt, ne_eq, Decidable.not_not, i64_eq, Int64.lt_iff_toInt_lt, Int64.le_iff_toInt_le, Int.not_lt, Int.not_le] using hq)) q)) (r2 (by omega))
theorem g_icmp_ge (K : Cx Z p s m meth c own bytes ml rt nm) (X : Wk Z own p l e R s m args below meth c n0 T h cells slots) {pc pc' pc'' : Nat} {L : Array Slot} {st : List Value} {x y : Int32} {o : Int} (xv yv : Int) (hd : decode bytes pc = .ok (.if_icmp .ge o, 3)) (hp : (pc : Int) + o = (pc' : Int)) (hp' : pc + 3 = pc'') (hxv : x.toInt = xv) (hyv : y.toInt = yv) (r1 : xv ≥ yv → Fi p e below s n0 C S Q (T.setTop (mkF m pc' L (st)))) (r2 : xv < yv → Fi p e below s n0 C S Q (T.setTop (mkF m pc'' L (st)))) : Fi p e below s n0 C S Q (T.setTop (mkF m pc L (.int y :: .int x :: st))) := by
  obtain ⟨locs, vm0, k0, Y, hh, hF, hn, hSv, hkv, hZv, hov⟩ := X
  subst hxv hyv hp'
  by_cases hq : if_icmp.holds .ge x y = true
  · exact Fi.of (fun _ q => XS.icmpYes Y.here K.1 rfl (pc0 := pc) (pc' := pc') rfl (hb K.2.2.1 hd) rfl hq (by omega) (by omega) q) (r1 (h_icmp_ge.mp hq))
  · exact Fi.of (fun _ q => XS.icmpNo Y.here K.1 rfl (hb K.2.2.1 hd) rfl (Bool.eq_false_iff.mpr hq) q) (r2 (by have := mt h_icmp_ge.mpr hq; omega))
theorem g_if_ge (K : Cx Z p s m meth c own bytes ml rt nm) (X : Wk Z own p l e R s m args below meth c n0 T h cells slots) {pc pc' pc'' : Nat} {L : Array Slot} {st : List Value} {x : Int32} {o : Int} (xv : Int) (hd : decode bytes pc = .ok (.ifCond .ge o, 3)) (hp : (pc : Int) + o = (pc' : Int)) (hp' : pc + 3 = pc'') (hxv : x.toInt = xv) (r1 : xv ≥ 0 → Fi p e below s n0 C S Q (T.setTop (mkF m pc' L (st)))) (r2 : xv < 0 → Fi p e below s n0 C S Q (T.setTop (mkF m pc'' L (st)))) : Fi p e below s n0 C S Q (T.setTop (mkF m pc L (.int x :: st))) := by
  obtain ⟨locs, vm0, k0, Y, hh, hF, hn, hSv, hkv, hZv, hov⟩ := X
  subst hxv hp'
  have z0 : (0 : Int32).toInt = 0 := rfl
  by_cases hq : if_icmp.holds .ge x 0 = true
  · exact Fi.of (fun _ q => XS.ifYes Y.here K.1 rfl (pc0 := pc) (pc' := pc') rfl (hb K.2.2.1 hd) rfl ((if0 _ _).trans hq) (by omega) (by omega) q) (r1 (by have := h_icmp_ge.mp hq; omega))
  · exact Fi.of (fun _ q => XS.ifNo Y.here K.1 rfl (hb K.2.2.1 hd) rfl ((if0 _ _).trans (Bool.eq_false_iff.mpr hq)) q) (r2 (by have := mt h_icmp_ge.mpr hq; omega))
theorem g_lcmp_ge (K : Cx Z p s m meth c own bytes ml rt nm) (X : Wk Z own p l e R s m args below meth c n0 T h cells slots) {pc pc1 pc' pc'' : Nat} {L : Array Slot} {st : List Value} {x y : Int64} {o : Int} (xv yv : Int) (hd : decode bytes pc = .ok (.lcmp, 1)) (hp1 : pc + 1 = pc1) (hd1 : decode bytes pc1 = .ok (.ifCond .ge o, 3)) (hp : (pc1 : Int) + o = (pc' : Int)) (hp' : pc1 + 3 = pc'') (hxv : x.toInt = xv) (hyv : y.toInt = yv) (r1 : xv ≥ yv → Fi p e below s n0 C S Q (T.setTop (mkF m pc' L (st)))) (r2 : xv < yv → Fi p e below s n0 C S Q (T.setTop (mkF m pc'' L (st)))) : Fi p e below s n0 C S Q (T.setTop (mkF m pc L (.long y :: .long x :: st))) := by
  obtain ⟨locs, vm0, k0, Y, hh, hF, hn, hSv, hkv, hZv, hov⟩ := X
  subst hxv hyv hp' hp1
  have hs : ∀ t, Steps p.tables e below (T.setTop (mkF m (pc + 1) L (.int (XT.cmpL x y) :: st))) t → Steps p.tables e below (T.setTop (mkF m pc L (.long y :: .long x :: st))) t := fun _ q => XS.lcmp Y.here K.1 rfl (hb K.2.2.1 hd) rfl q
  by_cases hq : x.toInt ≥ y.toInt
  · exact Fi.of (fun _ q => hs _ (XS.ifYes Y.here K.1 rfl (pc0 := pc + 1) (pc' := pc') rfl (hb K.2.2.1 hd1) rfl (XT.ll_ge_t (by simpa only [ge_iff_le, gt_iff_lt, ne_eq, i64_eq, Int64.lt_iff_toInt_lt, Int64.le_iff_toInt_le, Int.not_lt] using hq)) (by omega) (by omega) q)) (r1 hq)
  · exact Fi.of (fun _ q => hs _ (XS.ifNo Y.here K.1 rfl (hb K.2.2.1 hd1) rfl (XT.ll_ge_f (by simpa only [ge_iff_le, gt_iff_lt, ne_eq, Decidable.not_not, i64_eq, Int64.lt_iff_toInt_lt, Int64.le_iff_toInt_le, Int.not_lt, Int.not_le] using hq)) q)) (r2 (by omega))
theorem g_icmp_gt (K : Cx Z p s m meth c own bytes ml rt nm) (X : Wk Z own p l e R s m args below meth c n0 T h cells slots) {pc pc' pc'' : Nat} {L : Array Slot} {st : List Value} {x y : Int32} {o : Int} (xv yv : Int) (hd : decode bytes pc = .ok (.if_icmp .gt o, 3)) (hp : (pc : Int) + o = (pc' : Int)) (hp' : pc + 3 = pc'') (hxv : x.toInt = xv) (hyv : y.toInt = yv) (r1 : xv > yv → Fi p e below s n0 C S Q (T.setTop (mkF m pc' L (st)))) (r2 : xv ≤ yv → Fi p e below s n0 C S Q (T.setTop (mkF m pc'' L (st)))) : Fi p e below s n0 C S Q (T.setTop (mkF m pc L (.int y :: .int x :: st))) := by
  obtain ⟨locs, vm0, k0, Y, hh, hF, hn, hSv, hkv, hZv, hov⟩ := X
  subst hxv hyv hp'
  by_cases hq : if_icmp.holds .gt x y = true
  · exact Fi.of (fun _ q => XS.icmpYes Y.here K.1 rfl (pc0 := pc) (pc' := pc') rfl (hb K.2.2.1 hd) rfl hq (by omega) (by omega) q) (r1 (h_icmp_gt.mp hq))
  · exact Fi.of (fun _ q => XS.icmpNo Y.here K.1 rfl (hb K.2.2.1 hd) rfl (Bool.eq_false_iff.mpr hq) q) (r2 (by have := mt h_icmp_gt.mpr hq; omega))
theorem g_if_gt (K : Cx Z p s m meth c own bytes ml rt nm) (X : Wk Z own p l e R s m args below meth c n0 T h cells slots) {pc pc' pc'' : Nat} {L : Array Slot} {st : List Value} {x : Int32} {o : Int} (xv : Int) (hd : decode bytes pc = .ok (.ifCond .gt o, 3)) (hp : (pc : Int) + o = (pc' : Int)) (hp' : pc + 3 = pc'') (hxv : x.toInt = xv) (r1 : xv > 0 → Fi p e below s n0 C S Q (T.setTop (mkF m pc' L (st)))) (r2 : xv ≤ 0 → Fi p e below s n0 C S Q (T.setTop (mkF m pc'' L (st)))) : Fi p e below s n0 C S Q (T.setTop (mkF m pc L (.int x :: st))) := by
  obtain ⟨locs, vm0, k0, Y, hh, hF, hn, hSv, hkv, hZv, hov⟩ := X
  subst hxv hp'
  have z0 : (0 : Int32).toInt = 0 := rfl
  by_cases hq : if_icmp.holds .gt x 0 = true
  · exact Fi.of (fun _ q => XS.ifYes Y.here K.1 rfl (pc0 := pc) (pc' := pc') rfl (hb K.2.2.1 hd) rfl ((if0 _ _).trans hq) (by omega) (by omega) q) (r1 (by have := h_icmp_gt.mp hq; omega))
  · exact Fi.of (fun _ q => XS.ifNo Y.here K.1 rfl (hb K.2.2.1 hd) rfl ((if0 _ _).trans (Bool.eq_false_iff.mpr hq)) q) (r2 (by have := mt h_icmp_gt.mpr hq; omega))
theorem g_lcmp_gt (K : Cx Z p s m meth c own bytes ml rt nm) (X : Wk Z own p l e R s m args below meth c n0 T h cells slots) {pc pc1 pc' pc'' : Nat} {L : Array Slot} {st : List Value} {x y : Int64} {o : Int} (xv yv : Int) (hd : decode bytes pc = .ok (.lcmp, 1)) (hp1 : pc + 1 = pc1) (hd1 : decode bytes pc1 = .ok (.ifCond .gt o, 3)) (hp : (pc1 : Int) + o = (pc' : Int)) (hp' : pc1 + 3 = pc'') (hxv : x.toInt = xv) (hyv : y.toInt = yv) (r1 : xv > yv → Fi p e below s n0 C S Q (T.setTop (mkF m pc' L (st)))) (r2 : xv ≤ yv → Fi p e below s n0 C S Q (T.setTop (mkF m pc'' L (st)))) : Fi p e below s n0 C S Q (T.setTop (mkF m pc L (.long y :: .long x :: st))) := by
  obtain ⟨locs, vm0, k0, Y, hh, hF, hn, hSv, hkv, hZv, hov⟩ := X
  subst hxv hyv hp' hp1
  have hs : ∀ t, Steps p.tables e below (T.setTop (mkF m (pc + 1) L (.int (XT.cmpL x y) :: st))) t → Steps p.tables e below (T.setTop (mkF m pc L (.long y :: .long x :: st))) t := fun _ q => XS.lcmp Y.here K.1 rfl (hb K.2.2.1 hd) rfl q
  by_cases hq : x.toInt > y.toInt
  · exact Fi.of (fun _ q => hs _ (XS.ifYes Y.here K.1 rfl (pc0 := pc + 1) (pc' := pc') rfl (hb K.2.2.1 hd1) rfl (XT.ll_gt_t (by simpa only [ge_iff_le, gt_iff_lt, ne_eq, i64_eq, Int64.lt_iff_toInt_lt, Int64.le_iff_toInt_le, Int.not_lt] using hq)) (by omega) (by omega) q)) (r1 hq)
  · exact Fi.of (fun _ q => hs _ (XS.ifNo Y.here K.1 rfl (hb K.2.2.1 hd1) rfl (XT.ll_gt_f (by simpa only [ge_iff_le, gt_iff_lt, ne_eq, Decidable.not_not, i64_eq, Int64.lt_iff_toInt_lt, Int64.le_iff_toInt_le, Int.not_lt, Int.not_le] using hq)) q)) (r2 (by omega))
theorem g_icmp_le (K : Cx Z p s m meth c own bytes ml rt nm) (X : Wk Z own p l e R s m args below meth c n0 T h cells slots) {pc pc' pc'' : Nat} {L : Array Slot} {st : List Value} {x y : Int32} {o : Int} (xv yv : Int) (hd : decode bytes pc = .ok (.if_icmp .le o, 3)) (hp : (pc : Int) + o = (pc' : Int)) (hp' : pc + 3 = pc'') (hxv : x.toInt = xv) (hyv : y.toInt = yv) (r1 : xv ≤ yv → Fi p e below s n0 C S Q (T.setTop (mkF m pc' L (st)))) (r2 : xv > yv → Fi p e below s n0 C S Q (T.setTop (mkF m pc'' L (st)))) : Fi p e below s n0 C S Q (T.setTop (mkF m pc L (.int y :: .int x :: st))) := by
  obtain ⟨locs, vm0, k0, Y, hh, hF, hn, hSv, hkv, hZv, hov⟩ := X
  subst hxv hyv hp'
  by_cases hq : if_icmp.holds .le x y = true
  · exact Fi.of (fun _ q => XS.icmpYes Y.here K.1 rfl (pc0 := pc) (pc' := pc') rfl (hb K.2.2.1 hd) rfl hq (by omega) (by omega) q) (r1 (h_icmp_le.mp hq))
  · exact Fi.of (fun _ q => XS.icmpNo Y.here K.1 rfl (hb K.2.2.1 hd) rfl (Bool.eq_false_iff.mpr hq) q) (r2 (by have := mt h_icmp_le.mpr hq; omega))
theorem g_if_le (K : Cx Z p s m meth c own bytes ml rt nm) (X : Wk Z own p l e R s m args below meth c n0 T h cells slots) {pc pc' pc'' : Nat} {L : Array Slot} {st : List Value} {x : Int32} {o : Int} (xv : Int) (hd : decode bytes pc = .ok (.ifCond .le o, 3)) (hp : (pc : Int) + o = (pc' : Int)) (hp' : pc + 3 = pc'') (hxv : x.toInt = xv) (r1 : xv ≤ 0 → Fi p e below s n0 C S Q (T.setTop (mkF m pc' L (st)))) (r2 : xv > 0 → Fi p e below s n0 C S Q (T.setTop (mkF m pc'' L (st)))) : Fi p e below s n0 C S Q (T.setTop (mkF m pc L (.int x :: st))) := by
  obtain ⟨locs, vm0, k0, Y, hh, hF, hn, hSv, hkv, hZv, hov⟩ := X
  subst hxv hp'
  have z0 : (0 : Int32).toInt = 0 := rfl
  by_cases hq : if_icmp.holds .le x 0 = true
  · exact Fi.of (fun _ q => XS.ifYes Y.here K.1 rfl (pc0 := pc) (pc' := pc') rfl (hb K.2.2.1 hd) rfl ((if0 _ _).trans hq) (by omega) (by omega) q) (r1 (by have := h_icmp_le.mp hq; omega))
  · exact Fi.of (fun _ q => XS.ifNo Y.here K.1 rfl (hb K.2.2.1 hd) rfl ((if0 _ _).trans (Bool.eq_false_iff.mpr hq)) q) (r2 (by have := mt h_icmp_le.mpr hq; omega))
theorem g_lcmp_le (K : Cx Z p s m meth c own bytes ml rt nm) (X : Wk Z own p l e R s m args below meth c n0 T h cells slots) {pc pc1 pc' pc'' : Nat} {L : Array Slot} {st : List Value} {x y : Int64} {o : Int} (xv yv : Int) (hd : decode bytes pc = .ok (.lcmp, 1)) (hp1 : pc + 1 = pc1) (hd1 : decode bytes pc1 = .ok (.ifCond .le o, 3)) (hp : (pc1 : Int) + o = (pc' : Int)) (hp' : pc1 + 3 = pc'') (hxv : x.toInt = xv) (hyv : y.toInt = yv) (r1 : xv ≤ yv → Fi p e below s n0 C S Q (T.setTop (mkF m pc' L (st)))) (r2 : xv > yv → Fi p e below s n0 C S Q (T.setTop (mkF m pc'' L (st)))) : Fi p e below s n0 C S Q (T.setTop (mkF m pc L (.long y :: .long x :: st))) := by
  obtain ⟨locs, vm0, k0, Y, hh, hF, hn, hSv, hkv, hZv, hov⟩ := X
  subst hxv hyv hp' hp1
  have hs : ∀ t, Steps p.tables e below (T.setTop (mkF m (pc + 1) L (.int (XT.cmpL x y) :: st))) t → Steps p.tables e below (T.setTop (mkF m pc L (.long y :: .long x :: st))) t := fun _ q => XS.lcmp Y.here K.1 rfl (hb K.2.2.1 hd) rfl q
  by_cases hq : x.toInt ≤ y.toInt
  · exact Fi.of (fun _ q => hs _ (XS.ifYes Y.here K.1 rfl (pc0 := pc + 1) (pc' := pc') rfl (hb K.2.2.1 hd1) rfl (XT.ll_le_t (by simpa only [ge_iff_le, gt_iff_lt, ne_eq, i64_eq, Int64.lt_iff_toInt_lt, Int64.le_iff_toInt_le, Int.not_lt] using hq)) (by omega) (by omega) q)) (r1 hq)
  · exact Fi.of (fun _ q => hs _ (XS.ifNo Y.here K.1 rfl (hb K.2.2.1 hd1) rfl (XT.ll_le_f (by simpa only [ge_iff_le, gt_iff_lt, ne_eq, Decidable.not_not, i64_eq, Int64.lt_iff_toInt_lt, Int64.le_iff_toInt_le, Int.not_lt, Int.not_le] using hq)) q)) (r2 (by omega))
theorem g_leave (K : Cx Z p s m meth c own bytes ml rt nm) (X : Wk Z own p l e R s m args below meth c n0 T h cells slots) {v : Option Value} {t0 : State} (hv : rt = none → v = none) (hc : cells ≤ C) (hs : slots ≤ S) (hq : Q v h)
    (st : ∀ fs, (∀ (f : JFrame) (acts : List Action), f.method = m → f.locked = none → f.entered = [] → (doReturn e (T.setTop f) acts v).1 = T.setFrames fs) → Steps p.tables e below t0 (T.setFrames fs)) : Fi p e below s n0 C S Q t0 := by
  obtain ⟨locs, vm0, k0, Y, rfl, hF, -, hSv, hkv, -, -⟩ := X
  obtain ⟨fs, hr, hrun, hended, hE⟩ := Y.leaveW hSv hkv (v := v) (fun q => hv (K.2.2.2.2.2.1.symm.trans q)) K.2.2.2.2.2.2.1
  exact ⟨_, _, st fs hr, hrun, hended, v, locs, rfl, ⟨hq, hF⟩, hE.1, hE.2.1, hE.2.2.1, hE.2.2.2.mono hc hs⟩
theorem g_retN {t : FieldType} (K : Cx Z p s m meth c own bytes ml (some t) nm) (X : Wk Z own p l e R s m args below meth c n0 T h cells slots) {pc : Nat} {L : Array Slot} {z : Int32} {rest : List Value} (hd : decode bytes pc = .ok (.ireturn, 1)) (ht : t = .boolean ∨ t = .byte ∨ t = .char ∨ t = .short) (hc : cells ≤ C) (hs : slots ≤ S) (hq : Q (some (.int (nar t z))) h) : Fi p e below s n0 C S Q (T.setTop (mkF m pc L (.int z :: rest))) := by
  refine g_leave K X (v := some (.int (nar t z))) (fun q => by cases q) hc hs hq (fun fs hr => ?_)
  obtain ⟨locs, vm0, k0, Y, hh, hF, hn, hSv, hkv, hZv, hov⟩ := X
  exact retN Y K.1 (t := t) K.2.2.2.2.2.1 ht (hb K.2.2.1 hd) hr
theorem g_retI (K : Cx Z p s m meth c own bytes ml (some .int) nm) (X : Wk Z own p l e R s m args below meth c n0 T h cells slots) {pc : Nat} {L : Array Slot} {z : Int32} {rest : List Value} (hd : decode bytes pc = .ok (.ireturn, 1)) (hc : cells ≤ C) (hs : slots ≤ S) (hq : Q (some (.int z)) h) : Fi p e below s n0 C S Q (T.setTop (mkF m pc L (.int z :: rest))) := by
  refine g_leave K X (v := some (.int z)) (fun q => by cases q) hc hs hq (fun fs hr => ?_)
  obtain ⟨locs, vm0, k0, Y, hh, hF, hn, hSv, hkv, hZv, hov⟩ := X
  exact retOut Y K.1 K.2.2.2.2.2.1 rfl (Or.inl ⟨rfl, Or.inl rfl, _, rfl⟩) (hb K.2.2.1 hd) hr
theorem g_retL (K : Cx Z p s m meth c own bytes ml (some .long) nm) (X : Wk Z own p l e R s m args below meth c n0 T h cells slots) {pc : Nat} {L : Array Slot} {z : Int64} {rest : List Value} (hd : decode bytes pc = .ok (.lreturn, 1)) (hc : cells ≤ C) (hs : slots ≤ S) (hq : Q (some (.long z)) h) : Fi p e below s n0 C S Q (T.setTop (mkF m pc L (.long z :: rest))) := by
  refine g_leave K X (v := some (.long z)) (fun q => by cases q) hc hs hq (fun fs hr => ?_)
  obtain ⟨locs, vm0, k0, Y, hh, hF, hn, hSv, hkv, hZv, hov⟩ := X
  exact retOut Y K.1 K.2.2.2.2.2.1 rfl (Or.inr (Or.inl ⟨rfl, rfl, _, rfl⟩)) (hb K.2.2.1 hd) hr
theorem g_retA {t : FieldType} (K : Cx Z p s m meth c own bytes ml (some t) nm) (X : Wk Z own p l e R s m args below meth c n0 T h cells slots) {pc : Nat} {L : Array Slot} {a : Addr} {rest : List Value} (hd : decode bytes pc = .ok (.areturn, 1)) (ht : t.isReference = true) (hnw : narrow t (.ref a) = .ref a) (hc : cells ≤ C) (hs : slots ≤ S) (hq : Q (some (.ref a)) h) : Fi p e below s n0 C S Q (T.setTop (mkF m pc L (.ref a :: rest))) := by
  refine g_leave K X (v := some (.ref a)) (fun q => by cases q) hc hs hq (fun fs hr => ?_)
  obtain ⟨locs, vm0, k0, Y, hh, hF, hn, hSv, hkv, hZv, hov⟩ := X
  exact retOut Y K.1 K.2.2.2.2.2.1 hnw (Or.inr (Or.inr (Or.inr (Or.inr ⟨rfl, ht, rfl⟩)))) (hb K.2.2.1 hd) hr
theorem g_ret0 (K : Cx Z p s m meth c own bytes ml none nm) (X : Wk Z own p l e R s m args below meth c n0 T h cells slots) {pc : Nat} {L : Array Slot} (hd : decode bytes pc = .ok (.return_, 1)) (hc : cells ≤ C) (hs : slots ≤ S) (hq : Q none h) : Fi p e below s n0 C S Q (T.setTop (mkF m pc L [])) := by
  refine g_leave K X (v := none) (fun q => rfl) hc hs hq (fun fs hr => ?_)
  obtain ⟨locs, vm0, k0, Y, hh, hF, hn, hSv, hkv, hZv, hov⟩ := X
  exact Y.returnOut K.1 K.2.2.2.2.2.1 (hb K.2.2.1 hd) hr
theorem keep_same {h0 h1 h2 : Heap} {ws : List Addr} (K1 : Keep h0 h1 ws) (K2 : Keep h1 h2 ws) : Keep h0 h2 ws := K1.trans K2 (fun x hx => Or.inl hx)
/-! arrays by a function of the place -/
def upd {α : Type} (f : Nat → α) (i : Nat) (v : α) : Nat → α := fun j => if j = i then v else f j
theorem upd_hit {α : Type} (f : Nat → α) (i : Nat) (v : α) : upd f i v i = v := by simp [upd]
theorem upd_miss {α : Type} (f : Nat → α) {i j : Nat} (v : α) (hn : j ≠ i) : upd f i v j = f j := by simp [upd, hn]
def AN (Z : State) (h : Heap) (a : Addr) (ty : FieldType) (n : Nat) (f : Nat → Int32) : Prop := ∃ c : Cell, Arr Z h a c ty ∧ c.slots.size = n ∧ n < 2147483648 ∧ ∀ i, i < n → c.slots[i]? = some (.int (f i))
def AL (Z : State) (h : Heap) (a : Addr) (n : Nat) (f : Nat → Int64) : Prop := ∃ c : Cell, Arr Z h a c .long ∧ c.slots.size = n ∧ n < 2147483648 ∧ ∀ i, i < n → c.slots[i]? = some (.long (f i))
theorem j_in {j : Int32} {i n : Nat} (hj : j.toInt = (i : Int)) (hi : i < n) : ¬ (j < 0 ∨ n ≤ j.toNatClampNeg) ∧ j.toNatClampNeg = i := by
  have h1 : j.toNatClampNeg = i := by
    show j.toInt.toNat = i
    omega
  have h2 : ¬ j < 0 := by rw [Int32.lt_iff_toInt_lt]; show ¬ j.toInt < 0; omega
  exact ⟨fun q => q.elim h2 (by omega), h1⟩
theorem AN.lt {a : Addr} {ty : FieldType} {n : Nat} {f : Nat → Int32} (A : AN Z h a ty n f) : a < h.size := by obtain ⟨c, A, -⟩ := A; exact A.lt
theorem AN.ext {h' : Heap} {a : Addr} {ty : FieldType} {n : Nat} {f : Nat → Int32} (A : AN Z h a ty n f) (E : Ext h h') : AN Z h' a ty n f := by obtain ⟨c, A, r⟩ := A; exact ⟨c, A.ext E, r⟩
theorem AN.keep {h' : Heap} {ws : List Addr} {a : Addr} {ty : FieldType} {n : Nat} {f : Nat → Int32} (A : AN Z h a ty n f) (K : Keep h h' ws) (q : a ∉ ws) : AN Z h' a ty n f := by obtain ⟨c, A, r⟩ := A; exact ⟨c, ⟨K.2.1 a c A.1 q, A.2⟩, r⟩
theorem AN.congr {a : Addr} {ty : FieldType} {n : Nat} {f f' : Nat → Int32} (A : AN Z h a ty n f) (q : ∀ i, i < n → f i = f' i) : AN Z h a ty n f' := by obtain ⟨c, A, r1, r2, r3⟩ := A; exact ⟨c, A, r1, r2, fun i hi => by rw [← q i hi]; exact r3 i hi⟩
theorem AN.set {h' : Heap} {a : Addr} {ty : FieldType} {n i : Nat} {f : Nat → Int32} {v : Int32} {c : Cell} (A : Arr Z h a c ty) (q1 : c.slots.size = n) (q2 : n < 2147483648) (q3 : ∀ i, i < n → c.slots[i]? = some (.int (f i))) (hi : i < n) (W : Wr h h' a i (.int v)) : AN Z h' a ty n (upd f i v) := by
  refine ⟨_, A.same W, ?_, q2, fun k hk => ?_⟩
  · rw [sz_set]; exact q1
  · by_cases hki : k = i
    · subst hki
      simp [Cell.setSlot, upd, q1, hi]
    · have : ¬ i = k := fun q => hki q.symm
      simp [Cell.setSlot, upd, hki, this, q3 k hk, Array.getElem?_setIfInBounds]
theorem AL.lt {a : Addr} {n : Nat} {f : Nat → Int64} (A : AL Z h a n f) : a < h.size := by obtain ⟨c, A, -⟩ := A; exact A.lt
theorem AL.ext {h' : Heap} {a : Addr} {n : Nat} {f : Nat → Int64} (A : AL Z h a n f) (E : Ext h h') : AL Z h' a n f := by obtain ⟨c, A, r⟩ := A; exact ⟨c, A.ext E, r⟩
theorem AL.keep {h' : Heap} {ws : List Addr} {a : Addr} {n : Nat} {f : Nat → Int64} (A : AL Z h a n f) (K : Keep h h' ws) (q : a ∉ ws) : AL Z h' a n f := by obtain ⟨c, A, r⟩ := A; exact ⟨c, ⟨K.2.1 a c A.1 q, A.2⟩, r⟩
theorem AL.congr {a : Addr} {n : Nat} {f f' : Nat → Int64} (A : AL Z h a n f) (q : ∀ i, i < n → f i = f' i) : AL Z h a n f' := by obtain ⟨c, A, r1, r2, r3⟩ := A; exact ⟨c, A, r1, r2, fun i hi => by rw [← q i hi]; exact r3 i hi⟩
theorem AL.set {h' : Heap} {a : Addr} {n i : Nat} {f : Nat → Int64} {v : Int64} {c : Cell} (A : Arr Z h a c .long) (q1 : c.slots.size = n) (q2 : n < 2147483648) (q3 : ∀ i, i < n → c.slots[i]? = some (.long (f i))) (hi : i < n) (W : Wr h h' a i (.long v)) : AL Z h' a n (upd f i v) := by
  refine ⟨_, A.same W, ?_, q2, fun k hk => ?_⟩
  · rw [sz_set]; exact q1
  · by_cases hki : k = i
    · subst hki
      simp [Cell.setSlot, upd, q1, hi]
    · have : ¬ i = k := fun q => hki q.symm
      simp [Cell.setSlot, upd, hki, this, q3 k hk, Array.getElem?_setIfInBounds]
theorem AN.len {a : Addr} {ty : FieldType} {n : Nat} {f : Nat → Int32} (A : AN Z h a ty n f) : (Int32.ofNat n).toInt = (n : Int) := by
  obtain ⟨c, _, _, q2, _⟩ := A
  exact Int32.toInt_ofNat_of_lt q2
theorem jb_rng (x : Int32) : (jb x).toInt % 256 = x.toInt % 256 ∧ -128 ≤ (jb x).toInt ∧ (jb x).toInt < 128 := by
  have := c_i2b x
  unfold jb
  omega
theorem jb_id {x : Int32} (h1 : -128 ≤ x.toInt) (h2 : x.toInt < 128) : jb x = x := by
  have := jb_rng x
  rw [i32_eq]; omega
theorem jb_jb (x : Int32) : jb (jb x) = jb x := by
  have := jb_rng x
  exact jb_id (by omega) (by omega)
theorem jc_rng (x : Int32) : (jc x).toInt % 65536 = x.toInt % 65536 ∧ 0 ≤ (jc x).toInt ∧ (jc x).toInt < 65536 := by
  have := c_i2c x
  unfold jc
  omega
theorem jc_id {x : Int32} (h1 : 0 ≤ x.toInt) (h2 : x.toInt < 65536) : jc x = x := by
  have := jc_rng x
  rw [i32_eq]; omega
theorem nar_c (x : Int32) : nar .char x = jc x := rfl
theorem nar_b (x : Int32) : nar .byte x = jb x := rfl
theorem g_baload (K : Cx Z p s m meth c own bytes ml rt nm) (X : Wk Z own p l e R s m args below meth c n0 T h cells slots) {pc pc' : Nat} {L : Array Slot} {st : List Value} {j : Int32} {a : Addr} {i n : Nat} {f : Nat → Int32} (hd : decode bytes pc = .ok (.baload, 1)) (hp : pc + 1 = pc') (A : AN Z h a .byte n f) (hj : j.toInt = (i : Int)) (hi : i < n) (r : Fi p e below s n0 C S Q (T.setTop (mkF m pc' L (.int (f i) :: st)))) : Fi p e below s n0 C S Q (T.setTop (mkF m pc L (.int j :: .ref a :: st))) := by
  obtain ⟨locs, vm0, k0, Y, hh, hF, hn, hSv, hkv, hZv, hov⟩ := X
  subst hp
  obtain ⟨cl, B, rfl, q2, q3⟩ := A
  obtain ⟨hin, e⟩ := j_in hj hi
  exact Fi.of (fun _ q => Y.baloadBytes K.1 (j := j) (v := .int (f i)) (by rw [hh]; exact B.1) (State.isArrayOf_alike hZv.alike B.2.1) B.2.2 hin (by rw [e]; exact q3 i hi) (g := mkF m pc L (.int j :: .ref a :: st)) rfl rfl (hb K.2.2.1 hd) _ q) r
theorem g_iaload (K : Cx Z p s m meth c own bytes ml rt nm) (X : Wk Z own p l e R s m args below meth c n0 T h cells slots) {pc pc' : Nat} {L : Array Slot} {st : List Value} {j : Int32} {a : Addr} {i n : Nat} {f : Nat → Int32} (hd : decode bytes pc = .ok (.iaload, 1)) (hp : pc + 1 = pc') (A : AN Z h a .int n f) (hj : j.toInt = (i : Int)) (hi : i < n) (r : Fi p e below s n0 C S Q (T.setTop (mkF m pc' L (.int (f i) :: st)))) : Fi p e below s n0 C S Q (T.setTop (mkF m pc L (.int j :: .ref a :: st))) := by
  obtain ⟨locs, vm0, k0, Y, hh, hF, hn, hSv, hkv, hZv, hov⟩ := X
  subst hp
  obtain ⟨cl, B, rfl, q2, q3⟩ := A
  obtain ⟨hin, e⟩ := j_in hj hi
  exact Fi.of (fun _ q => Y.iaload K.1 (j := j) (v := .int (f i)) (by rw [hh]; exact B.1) (State.isArrayOf_alike hZv.alike B.2.1) B.2.2 hin (by rw [e]; exact q3 i hi) (g := mkF m pc L (.int j :: .ref a :: st)) rfl rfl (hb K.2.2.1 hd) _ q) r
theorem g_laload (K : Cx Z p s m meth c own bytes ml rt nm) (X : Wk Z own p l e R s m args below meth c n0 T h cells slots) {pc pc' : Nat} {L : Array Slot} {st : List Value} {j : Int32} {a : Addr} {i n : Nat} {f : Nat → Int64} (hd : decode bytes pc = .ok (.laload, 1)) (hp : pc + 1 = pc') (A : AL Z h a n f) (hj : j.toInt = (i : Int)) (hi : i < n) (r : Fi p e below s n0 C S Q (T.setTop (mkF m pc' L (.long (f i) :: st)))) : Fi p e below s n0 C S Q (T.setTop (mkF m pc L (.int j :: .ref a :: st))) := by
  obtain ⟨locs, vm0, k0, Y, hh, hF, hn, hSv, hkv, hZv, hov⟩ := X
  subst hp
  obtain ⟨cl, B, rfl, q2, q3⟩ := A
  obtain ⟨hin, e⟩ := j_in hj hi
  exact Fi.of (fun _ q => Y.laload K.1 (j := j) (v := .long (f i)) (by rw [hh]; exact B.1) (State.isArrayOf_alike hZv.alike B.2.1) B.2.2 hin (by rw [e]; exact q3 i hi) (g := mkF m pc L (.int j :: .ref a :: st)) rfl rfl (hb K.2.2.1 hd) _ q) r
theorem g_bastore (K : Cx Z p s m meth c own bytes ml rt nm) (X : Wk Z own p l e R s m args below meth c n0 T h cells slots) {pc pc' : Nat} {L : Array Slot} {st : List Value} {j : Int32} {x : Int32} {a : Addr} {i n : Nat} {f : Nat → Int32} (hd : decode bytes pc = .ok (.bastore, 1)) (hp : pc + 1 = pc') (A : AN Z h a .byte n f) (ha : n0 ≤ a) (hj : j.toInt = (i : Int)) (hi : i < n)
    (r : ∀ T' h', Wk Z own p l e R s m args below meth c n0 T' h' cells slots → Keep h h' [a] → AN Z h' a .byte n (upd f i (jb x)) → Fi p e below s n0 C S Q (T'.setTop (mkF m pc' L (st)))) : Fi p e below s n0 C S Q (T.setTop (mkF m pc L (.int x :: .int j :: .ref a :: st))) := by
  obtain ⟨locs, vm0, k0, Y, hh, hF, hn, hSv, hkv, hZv, hov⟩ := X
  subst hp
  obtain ⟨cl, B, rfl, q2, q3⟩ := A
  obtain ⟨hin, e1⟩ := j_in hj hi
  obtain ⟨T', h', X', e', W, st'⟩ := stB Y K.1 hZv hh B (j := j) hin (g := mkF m pc L (.int x :: .int j :: .ref a :: st)) rfl rfl (hb K.2.2.1 hd)
  rw [e1] at W
  exact Fi.of st' (r T' h' ⟨_, vm0, k0, X', e', Fr.snoc X' hF ha, by rw [W.size]; exact hn, hSv, by rw [W.size]; exact hkv, hZv, hov⟩ (Keep.of_wr W) (AN.set B rfl q2 q3 hi W))
theorem g_iastore (K : Cx Z p s m meth c own bytes ml rt nm) (X : Wk Z own p l e R s m args below meth c n0 T h cells slots) {pc pc' : Nat} {L : Array Slot} {st : List Value} {j : Int32} {x : Int32} {a : Addr} {i n : Nat} {f : Nat → Int32} (hd : decode bytes pc = .ok (.iastore, 1)) (hp : pc + 1 = pc') (A : AN Z h a .int n f) (ha : n0 ≤ a) (hj : j.toInt = (i : Int)) (hi : i < n)
    (r : ∀ T' h', Wk Z own p l e R s m args below meth c n0 T' h' cells slots → Keep h h' [a] → AN Z h' a .int n (upd f i x) → Fi p e below s n0 C S Q (T'.setTop (mkF m pc' L (st)))) : Fi p e below s n0 C S Q (T.setTop (mkF m pc L (.int x :: .int j :: .ref a :: st))) := by
  obtain ⟨locs, vm0, k0, Y, hh, hF, hn, hSv, hkv, hZv, hov⟩ := X
  subst hp
  obtain ⟨cl, B, rfl, q2, q3⟩ := A
  obtain ⟨hin, e1⟩ := j_in hj hi
  obtain ⟨T', h', X', e', W, st'⟩ := stI Y K.1 hZv hh B (j := j) hin (g := mkF m pc L (.int x :: .int j :: .ref a :: st)) rfl rfl (hb K.2.2.1 hd)
  rw [e1] at W
  exact Fi.of st' (r T' h' ⟨_, vm0, k0, X', e', Fr.snoc X' hF ha, by rw [W.size]; exact hn, hSv, by rw [W.size]; exact hkv, hZv, hov⟩ (Keep.of_wr W) (AN.set B rfl q2 q3 hi W))
theorem g_lastore (K : Cx Z p s m meth c own bytes ml rt nm) (X : Wk Z own p l e R s m args below meth c n0 T h cells slots) {pc pc' : Nat} {L : Array Slot} {st : List Value} {j : Int32} {x : Int64} {a : Addr} {i n : Nat} {f : Nat → Int64} (hd : decode bytes pc = .ok (.lastore, 1)) (hp : pc + 1 = pc') (A : AL Z h a n f) (ha : n0 ≤ a) (hj : j.toInt = (i : Int)) (hi : i < n)
    (r : ∀ T' h', Wk Z own p l e R s m args below meth c n0 T' h' cells slots → Keep h h' [a] → AL Z h' a n (upd f i x) → Fi p e below s n0 C S Q (T'.setTop (mkF m pc' L (st)))) : Fi p e below s n0 C S Q (T.setTop (mkF m pc L (.long x :: .int j :: .ref a :: st))) := by
  obtain ⟨locs, vm0, k0, Y, hh, hF, hn, hSv, hkv, hZv, hov⟩ := X
  subst hp
  obtain ⟨cl, B, rfl, q2, q3⟩ := A
  obtain ⟨hin, e1⟩ := j_in hj hi
  obtain ⟨T', h', X', e', W, st'⟩ := stJ Y K.1 hZv hh B (j := j) hin (g := mkF m pc L (.long x :: .int j :: .ref a :: st)) rfl rfl (hb K.2.2.1 hd)
  rw [e1] at W
  exact Fi.of st' (r T' h' ⟨_, vm0, k0, X', e', Fr.snoc X' hF ha, by rw [W.size]; exact hn, hSv, by rw [W.size]; exact hkv, hZv, hov⟩ (Keep.of_wr W) (AL.set B rfl q2 q3 hi W))
theorem g_arraylength (K : Cx Z p s m meth c own bytes ml rt nm) (X : Wk Z own p l e R s m args below meth c n0 T h cells slots) {pc pc' : Nat} {L : Array Slot} {st : List Value} {v : Int32} {a : Addr} {n : Nat} {ty : FieldType} {f : Nat → Int32} (hd : decode bytes pc = .ok (.arraylength, 1)) (hp : pc + 1 = pc') (A : AN Z h a ty n f) (hv : v.toInt = (n : Int)) (r : Fi p e below s n0 C S Q (T.setTop (mkF m pc' L (.int v :: st)))) : Fi p e below s n0 C S Q (T.setTop (mkF m pc L (.ref a :: st))) := by
  obtain ⟨locs, vm0, k0, Y, hh, hF, hn, hSv, hkv, hZv, hov⟩ := X
  subst hp
  obtain ⟨cl, B, e1, q2, q3⟩ := A
  have e2 : cl.slots.size.toInt32 = v := by
    rw [i32_eq, hv, e1]
    exact Int32.toInt_ofNat_of_lt q2
  exact Fi.of (fun _ q => Y.arraylength K.1 (by rw [hh]; exact B.1) (State.isArrayOf_alike hZv.alike B.2.1) (g := mkF m pc L (.ref a :: st)) rfl rfl (hb K.2.2.1 hd) _ (by rw [e2]; exact q)) r
theorem cnt_of {z : Int32} {n : Nat} (hz : z.toInt = (n : Int)) : ¬ z < 0 ∧ z.toNatClampNeg = n ∧ n < 2147483648 := by
  have h2 : ¬ z < 0 := by rw [Int32.lt_iff_toInt_lt]; show ¬ z.toInt < 0; omega
  have h3 := z.toInt_lt
  exact ⟨h2, by show z.toInt.toNat = n; omega, by omega⟩
theorem g_newarray_byte (K : Cx Z p s m meth c own bytes ml rt nm) (X : Wk Z own p l e R s m args below meth c n0 T h cells slots) {pc pc' : Nat} {L : Array Slot} {st : List Value} {z : Int32} {n : Nat} (cap : Nat) (hd : decode bytes pc = .ok (.newarray .byte, 2)) (hp : pc + 2 = pc') (w : (Cond.arrayClass .byte).before a0 Z = true) (hz : z.toInt = (n : Int)) (hcap : n ≤ cap) (hbnd : cap * 8 ≤ 536870912) (hc : cells + 1 ≤ R.cells) (hs : slots + cap ≤ R.slots)
    (r : ∀ T' h' a, Wk Z own p l e R s m args below meth c n0 T' h' (cells + 1) (slots + cap) → Ext h h' → a = h.size → n0 ≤ a → AN Z h' a .byte n (fun _ => (0 : Int32)) → Fi p e below s n0 C S Q (T'.setTop (mkF m pc' L (.ref a :: st)))) : Fi p e below s n0 C S Q (T.setTop (mkF m pc L (.int z :: st))) := by
  obtain ⟨locs, vm0, k0, Y, hh, hF, hn, hSv, hkv, hZv, hov⟩ := X
  subst hp
  obtain ⟨z1, z2, z3⟩ := cnt_of hz
  obtain ⟨T', h', k, X', e', E, A, st'⟩ := newP Y K.1 hZv (aty := .byte) w hh (g := mkF m pc L (.int z :: st)) rfl (hb K.2.2.1 hd) rfl z1 (cap := cap) (by rw [z2]; exact hcap) hbnd hc hs
  refine Fi.of st' (r T' h' _ ⟨_, vm0, k0, X', e', hF, Nat.le_trans hn E.1, hSv, Nat.le_trans hkv E.1, hZv, hov⟩ E rfl hn ⟨_, A, ?_, z3, fun i hi => ?_⟩)
  · rw [sz_new]; exact z2
  · simp [newA, z2, hi, newarray.typeOf, defaultValue]
theorem g_newarray_int (K : Cx Z p s m meth c own bytes ml rt nm) (X : Wk Z own p l e R s m args below meth c n0 T h cells slots) {pc pc' : Nat} {L : Array Slot} {st : List Value} {z : Int32} {n : Nat} (cap : Nat) (hd : decode bytes pc = .ok (.newarray .int, 2)) (hp : pc + 2 = pc') (w : (Cond.arrayClass .int).before a0 Z = true) (hz : z.toInt = (n : Int)) (hcap : n ≤ cap) (hbnd : cap * 8 ≤ 536870912) (hc : cells + 1 ≤ R.cells) (hs : slots + cap ≤ R.slots)
    (r : ∀ T' h' a, Wk Z own p l e R s m args below meth c n0 T' h' (cells + 1) (slots + cap) → Ext h h' → a = h.size → n0 ≤ a → AN Z h' a .int n (fun _ => (0 : Int32)) → Fi p e below s n0 C S Q (T'.setTop (mkF m pc' L (.ref a :: st)))) : Fi p e below s n0 C S Q (T.setTop (mkF m pc L (.int z :: st))) := by
  obtain ⟨locs, vm0, k0, Y, hh, hF, hn, hSv, hkv, hZv, hov⟩ := X
  subst hp
  obtain ⟨z1, z2, z3⟩ := cnt_of hz
  obtain ⟨T', h', k, X', e', E, A, st'⟩ := newP Y K.1 hZv (aty := .int) w hh (g := mkF m pc L (.int z :: st)) rfl (hb K.2.2.1 hd) rfl z1 (cap := cap) (by rw [z2]; exact hcap) hbnd hc hs
  refine Fi.of st' (r T' h' _ ⟨_, vm0, k0, X', e', hF, Nat.le_trans hn E.1, hSv, Nat.le_trans hkv E.1, hZv, hov⟩ E rfl hn ⟨_, A, ?_, z3, fun i hi => ?_⟩)
  · rw [sz_new]; exact z2
  · simp [newA, z2, hi, newarray.typeOf, defaultValue]
theorem g_newarray_long (K : Cx Z p s m meth c own bytes ml rt nm) (X : Wk Z own p l e R s m args below meth c n0 T h cells slots) {pc pc' : Nat} {L : Array Slot} {st : List Value} {z : Int32} {n : Nat} (cap : Nat) (hd : decode bytes pc = .ok (.newarray .long, 2)) (hp : pc + 2 = pc') (w : (Cond.arrayClass .long).before a0 Z = true) (hz : z.toInt = (n : Int)) (hcap : n ≤ cap) (hbnd : cap * 8 ≤ 536870912) (hc : cells + 1 ≤ R.cells) (hs : slots + cap ≤ R.slots)
    (r : ∀ T' h' a, Wk Z own p l e R s m args below meth c n0 T' h' (cells + 1) (slots + cap) → Ext h h' → a = h.size → n0 ≤ a → AL Z h' a n (fun _ => (0 : Int64)) → Fi p e below s n0 C S Q (T'.setTop (mkF m pc' L (.ref a :: st)))) : Fi p e below s n0 C S Q (T.setTop (mkF m pc L (.int z :: st))) := by
  obtain ⟨locs, vm0, k0, Y, hh, hF, hn, hSv, hkv, hZv, hov⟩ := X
  subst hp
  obtain ⟨z1, z2, z3⟩ := cnt_of hz
  obtain ⟨T', h', k, X', e', E, A, st'⟩ := newP Y K.1 hZv (aty := .long) w hh (g := mkF m pc L (.int z :: st)) rfl (hb K.2.2.1 hd) rfl z1 (cap := cap) (by rw [z2]; exact hcap) hbnd hc hs
  refine Fi.of st' (r T' h' _ ⟨_, vm0, k0, X', e', hF, Nat.le_trans hn E.1, hSv, Nat.le_trans hkv E.1, hZv, hov⟩ E rfl hn ⟨_, A, ?_, z3, fun i hi => ?_⟩)
  · rw [sz_new]; exact z2
  · simp [newA, z2, hi, newarray.typeOf, defaultValue]
theorem g_new (K : Cx Z p s m meth c own bytes ml rt nm) (X : Wk Z own p l e R s m args below meth c n0 T h cells slots) {pc pc' : Nat} {L : Array Slot} {st : List Value} {index n : Nat} {Cl : String} (hd : decode bytes pc = .ok (.new index, 3)) (hp : pc + 3 = pc') (w1 : (Cond.classLink own index Cl).before a0 Z = true) (w2 : (Cond.instantiable Cl n).before a0 Z = true) (w3 : (Cond.initialized Cl).before a0 Z = true) (hc : cells + 1 ≤ R.cells) (hs : slots + n ≤ R.slots)
    (r : ∀ T' h' a, Wk Z own p l e R s m args below meth c n0 T' h' (cells + 1) (slots + n) → Ext h h' → a = h.size → n0 ≤ a → Exa Z h' a Cl → (∀ {O nm d : String} {ty : FieldType}, Laid Z a0 Cl O nm d → parseFieldDescriptor d = some ty → Fld Z h' a O nm d (defaultValue ty)) → Fi p e below s n0 C S Q (T'.setTop (mkF m pc' L (.ref a :: st)))) : Fi p e below s n0 C S Q (T.setTop (mkF m pc L (st))) := by
  obtain ⟨locs, vm0, k0, Y, hh, hF, hn, hSv, hkv, hZv, hov⟩ := X
  subst hp
  obtain ⟨T', h', X', e', E, A, D, -, st'⟩ := newO Y K.1 hZv hov w1 w2 w3 hh (g := mkF m pc L st) rfl (hb K.2.2.1 hd) hc hs
  exact Fi.of st' (r T' h' _ ⟨_, vm0, k0, X', e', hF, Nat.le_trans hn E.1, hSv, Nat.le_trans hkv E.1, hZv, hov⟩ E rfl hn A D)
theorem g_getfield (K : Cx Z p s m meth c own bytes ml rt nm) (X : Wk Z own p l e R s m args below meth c n0 T h cells slots) {pc pc' : Nat} {L : Array Slot} {st : List Value} {index : Nat} {O n d : String} {a : Addr} {v : Value} (hd : decode bytes pc = .ok (.getfield index, 3)) (hp : pc + 3 = pc') (w : (Cond.fieldLink own index O n d).before a0 Z = true) (F : Fld Z h a O n d v)
    (r : ∀ T', Wk Z own p l e R s m args below meth c n0 T' h cells slots → Fi p e below s n0 C S Q (T'.setTop (mkF m pc' L (v :: st)))) : Fi p e below s n0 C S Q (T.setTop (mkF m pc L (.ref a :: st))) := by
  obtain ⟨locs, vm0, k0, Y, hh, hF, hn, hSv, hkv, hZv, hov⟩ := X
  subst hp
  obtain ⟨T', X', e', st'⟩ := getF Y K.1 hZv hov (host := "") (Or.inl w) Via.refl hh F (g := mkF m pc L (.ref a :: st)) rfl rfl (hb K.2.2.1 hd)
  exact Fi.of st' (r T' ⟨_, vm0, k0, X', e', hF, hn, hSv, hkv, hZv, hov⟩)
theorem g_putfield (K : Cx Z p s m meth c own bytes ml rt nm) (X : Wk Z own p l e R s m args below meth c n0 T h cells slots) {pc pc' : Nat} {L : Array Slot} {st : List Value} {index kk : Nat} {O n d Cl : String} {ty : FieldType} {a : Addr} {v ov : Value} (hd : decode bytes pc = .ok (.putfield index, 3)) (hp : pc + 3 = pc') (w : (Cond.fieldLink own index O n d).before a0 Z = true) (F : Fld Z h a O n d ov) (E : Exa Z h a Cl) (Ly : (Cond.lays Cl O n d).before a0 Z = true ∨ ((Cond.laysFinal Cl O n d).before a0 Z = true ∧ own = O ∧ nm = "<init>")) (wi : (Cond.instantiable Cl kk).before a0 Z = true) (hty : parseFieldDescriptor d = some ty) (hnr : narrow ty v = v) (hft : fits ty v = true) (ha : n0 ≤ a)
    (r : ∀ T' h', Wk Z own p l e R s m args below meth c n0 T' h' cells slots → Wr h h' a (RoadKit.slotOf Z O n d) v → Keep h h' [a] → Exa Z h' a Cl → Fld Z h' a O n d v → Fi p e below s n0 C S Q (T'.setTop (mkF m pc' L (st)))) : Fi p e below s n0 C S Q (T.setTop (mkF m pc L (v :: .ref a :: st))) := by
  obtain ⟨locs, vm0, k0, Y, hh, hF, hn, hSv, hkv, hZv, hov⟩ := X
  subst hp
  obtain ⟨T', h', X', e', W, st'⟩ := putF Y K.1 hZv hov (host := "") (Or.inl w) Via.refl hh F E (Ly.imp id fun q => ⟨q.1, q.2.1, by rw [K.2.2.2.2.2.2.2]; exact q.2.2⟩) wi hty hnr hft (g := mkF m pc L (v :: .ref a :: st)) rfl rfl (hb K.2.2.1 hd)
  exact Fi.of st' (r T' h' ⟨_, vm0, k0, X', e', Fr.snoc X' hF ha, by rw [W.size]; exact hn, hSv, by rw [W.size]; exact hkv, hZv, hov⟩ W (Keep.of_wr W) (E.wr W) (F.same W))
theorem g_objinit (K : Cx Z p s m meth c own bytes ml rt nm) (X : Wk Z own p l e R s m args below meth c n0 T h cells slots) {pc pc' : Nat} {L : Array Slot} {st : List Value} {index : Nat} {a : Addr} (hd : decode bytes pc = .ok (.invokespecial index, 3)) (hp : pc + 3 = pc') (w1 : (Cond.methodLink own index Lib.objectInit).before a0 Z = true) (w2 : (Cond.instanceMethod Lib.objectInit).before a0 Z = true) (w3 : (Cond.code Lib.objectInit object_method_1_code 1 none).before a0 Z = true) (hL : L.size = ml) (W : Nat) (hf : 1 ≤ R.frames) (hW : (st.map fun v => v.category).sum ≤ W) (hl : W + 12 ≤ R.locals)
    (r : ∀ T', Wk Z own p l e R s m args below meth c n0 T' h cells slots → Fi p e below s n0 C S Q (T'.setTop (mkF m pc' L (st)))) : Fi p e below s n0 C S Q (T.setTop (mkF m pc L (.ref a :: st))) := by
  obtain ⟨locs, vm0, k0, Y, hh, hF, hn, hSv, hkv, hZv, hov⟩ := X
  subst hp
  obtain ⟨T', X', e', st'⟩ := initO Y K.1 hZv hov w1 w2 w3 hh (g := mkF m pc L (.ref a :: st)) rfl (by rw [K.2.2.2.1]; exact hL) rfl (hb K.2.2.1 hd) hf (W := W) (by show 2 * 0 + _ ≤ _; omega) hl
  exact Fi.of st' (r T' ⟨_, vm0, k0, X', e', hF, hn, hSv, hkv, hZv, hov⟩)
theorem g_callS (K : Cx Z p s m meth c own bytes ml rt nm) (X : Wk Z own p l e R s m args below meth c n0 T h cells slots) {pc pc' : Nat} {L : Array Slot} {st rest argsL : List Value} {index : Nat} {y : MethodName} {yb : ByteArray} {yml : Nat} {yrt : Option FieldType} {rm : Room} {Q' : Option Value → Heap → Prop} (W : Nat) (hd : decode bytes pc = .ok (.invokestatic index, 3)) (hp : pc + 3 = pc') (w1 : (Cond.methodLink own index y).before a0 Z = true) (w2 : (Cond.static y).before a0 Z = true) (w3 : (Cond.initialized y.cls).before a0 Z = true) (w4 : (Cond.code y yb yml yrt).before a0 Z = true) (hy : y.cls ≠ "java/lang/invoke/MethodHandle" ∧ y.cls ≠ "java/lang/invoke/VarHandle")
    (hM : Mt l Z y yb yml yrt rm argsL.toArray h n0 Q') (hfr : rm.frames + 1 ≤ R.frames) (hlo : W + (yml + 11) + rm.locals ≤ R.locals) (hc : cells + rm.cells ≤ R.cells) (hs : slots + rm.slots ≤ R.slots) (hlen : ∀ sig, parseMethodDescriptor y.desc = some sig → argsL.length = sig.parameters.length) (hL : L.size = ml) (hst : st = argsL.reverse ++ rest) (hW : (rest.map fun v => v.category).sum ≤ W)
    (r : ∀ v T' h', Wk Z own p l e R s m args below meth c n0 T' h' (cells + rm.cells) (slots + rm.slots) → Q' v h' → Fi p e below s n0 C S Q (T'.setTop (mkF m pc' L (v.toList ++ rest)))) (hgrow : ∀ v h', Q' v h' → h.size ≤ h'.size) : Fi p e below s n0 C S Q (T.setTop (mkF m pc L (st))) := by
  obtain ⟨locs, vm0, k0, Y, hh, hF, hn, hSv, hkv, hZv, hov⟩ := X
  subst hp
  obtain ⟨v, vm1, ⟨T', L', k', n'⟩, -, X', hS2, hgr, ⟨Lc, ⟨hQ, hN⟩, l1, l2, l3⟩, st'⟩ := callSS Y K.1 (y := y) hov (mvT hZv w1) (mvT hZv w2) (mvT hZv w3) (mvT hZv w4) hy (backOfS (W := W) (Q := fun v h L => Q' v h ∧ Fr n0 L) (hM []) hZv w4 w3 hfr hlo) (g := mkF m pc L st) rfl (by rw [K.2.2.2.1]; exact hL) (argsL := argsL) (rest := rest) hlen hst (by show 2 * 0 + _ ≤ _; omega) (hb K.2.2.1 hd) (fun _ _ => ⟨rfl, hh, hc, hs⟩)
  dsimp only [Pt.U, Pt.locs, Pt.cells, Pt.slots] at X' l1 l2 l3 st' hQ hS2 hgr
  subst l1 l2 l3
  obtain ⟨X'', hS3, hZ3, ho3⟩ := rebS hSv (by rw [hh]; exact hkv) X' hS2 hgr hZv hov
  exact Fi.of (fun _ q => st'.trans q) (r v T' _ ⟨_, _, _, X'', rfl, Fr.app hF hN, Nat.le_trans hn (hgrow _ _ hQ), hS3, Nat.le_refl _, hZ3, ho3⟩ hQ)
theorem g_special (K : Cx Z p s m meth c own bytes ml rt nm) (X : Wk Z own p l e R s m args below meth c n0 T h cells slots) {pc pc' : Nat} {L : Array Slot} {st rest argsL : List Value} {index : Nat} {a : Addr} {y : MethodName} {yb : ByteArray} {yml : Nat} {rm : Room} {Q' : Option Value → Heap → Prop} (W : Nat) (hd : decode bytes pc = .ok (.invokespecial index, 3)) (hp : pc + 3 = pc') (w1 : (Cond.methodLink own index y).before a0 Z = true) (w2 : (Cond.instanceMethod y).before a0 Z = true) (w3 : (Cond.initialized y.cls).before a0 Z = true) (w4 : (Cond.code y yb yml none).before a0 Z = true) (hi : y.name = "<init>") (hy : y.cls ≠ "java/lang/invoke/MethodHandle" ∧ y.cls ≠ "java/lang/invoke/VarHandle")
    (hM : Mt l Z y yb yml none rm (.ref a :: argsL).toArray h n0 Q') (hfr : rm.frames + 1 ≤ R.frames) (hlo : W + (yml + 11) + rm.locals ≤ R.locals) (hc : cells + rm.cells ≤ R.cells) (hs : slots + rm.slots ≤ R.slots) (hlen : ∀ sig, parseMethodDescriptor y.desc = some sig → argsL.length = sig.parameters.length) (hL : L.size = ml) (hst : st = argsL.reverse ++ .ref a :: rest) (hW : (rest.map fun v => v.category).sum ≤ W)
    (r : ∀ v T' h', Wk Z own p l e R s m args below meth c n0 T' h' (cells + rm.cells) (slots + rm.slots) → Q' v h' → Fi p e below s n0 C S Q (T'.setTop (mkF m pc' L (v.toList ++ rest)))) (hgrow : ∀ v h', Q' v h' → h.size ≤ h'.size) : Fi p e below s n0 C S Q (T.setTop (mkF m pc L (st))) := by
  obtain ⟨locs, vm0, k0, Y, hh, hF, hn, hSv, hkv, hZv, hov⟩ := X
  subst hp
  obtain ⟨v, vm1, ⟨T', L', k', n'⟩, -, X', hS2, hgr, ⟨Lc, ⟨hQ, hN⟩, l1, l2, l3⟩, st'⟩ := Y.specialBackS K.1 (y := y) hi hov (mvT hZv w1) (mvT hZv w2) (mvT hZv w4) hy (backOfS (W := W) (Q := fun v h L => Q' v h ∧ Fr n0 L) (hM []) hZv w4 w3 hfr hlo) (g := mkF m pc L st) rfl (by rw [K.2.2.2.1]; exact hL) (Steps.refl _) (a := a) (argsL := argsL) (rest := rest) hlen hst (by show 2 * 0 + _ ≤ _; omega) (hb K.2.2.1 hd) (fun _ _ => ⟨rfl, hh, hc, hs⟩)
  dsimp only [Pt.U, Pt.locs, Pt.cells, Pt.slots] at X' l1 l2 l3 st' hQ hS2 hgr
  subst l1 l2 l3
  obtain ⟨X'', hS3, hZ3, ho3⟩ := rebS hSv (by rw [hh]; exact hkv) X' hS2 hgr hZv hov
  exact Fi.of (fun _ q => st'.trans q) (r v T' _ ⟨_, _, _, X'', rfl, Fr.app hF hN, Nat.le_trans hn (hgrow _ _ hQ), hS3, Nat.le_refl _, hZ3, ho3⟩ hQ)
theorem g_virtual (K : Cx Z p s m meth c own bytes ml rt nm) (X : Wk Z own p l e R s m args below meth c n0 T h cells slots) {pc pc' : Nat} {L : Array Slot} {st rest argsL : List Value} {index : Nat} {a : Addr} {Cl : String} {y : MethodName} {yb : ByteArray} {yml : Nat} {yrt : Option FieldType} {rm : Room} {Q' : Option Value → Heap → Prop} (W : Nat) (hd : decode bytes pc = .ok (.invokevirtual index, 3)) (hp : pc + 3 = pc') (w1 : (Cond.methodLink own index y).before a0 Z = true) (w2 : (Cond.declares y).before a0 Z = true) (w5 : (Cond.selects Cl y y).before a0 Z = true) (w6 : (Cond.instanceMethod y).before a0 Z = true) (w3 : (Cond.initialized y.cls).before a0 Z = true) (w4 : (Cond.code y yb yml yrt).before a0 Z = true) (hy : y.cls ≠ "java/lang/invoke/MethodHandle" ∧ y.cls ≠ "java/lang/invoke/VarHandle") (E : Exa Z h a Cl)
    (hM : Mt l Z y yb yml yrt rm (.ref a :: argsL).toArray h n0 Q') (hfr : rm.frames + 1 ≤ R.frames) (hlo : W + (yml + 11) + rm.locals ≤ R.locals) (hc : cells + rm.cells ≤ R.cells) (hs : slots + rm.slots ≤ R.slots) (hlen : ∀ sig, parseMethodDescriptor y.desc = some sig → argsL.length = sig.parameters.length) (hL : L.size = ml) (hst : st = argsL.reverse ++ .ref a :: rest) (hW : (rest.map fun v => v.category).sum ≤ W)
    (r : ∀ v T' h', Wk Z own p l e R s m args below meth c n0 T' h' (cells + rm.cells) (slots + rm.slots) → Q' v h' → Fi p e below s n0 C S Q (T'.setTop (mkF m pc' L (v.toList ++ rest)))) (hgrow : ∀ v h', Q' v h' → h.size ≤ h'.size) : Fi p e below s n0 C S Q (T.setTop (mkF m pc L (st))) := by
  obtain ⟨locs, vm0, k0, Y, hh, hF, hn, hSv, hkv, hZv, hov⟩ := X
  subst hp
  obtain ⟨cB, kB, qa, -, qc⟩ := isOf hZv hh E
  obtain ⟨v, vm1, ⟨T', L', k', n'⟩, -, X', hS2, hgr, ⟨Lc, ⟨hQ, hN⟩, l1, l2, l3⟩, st'⟩ := Y.virtualBackS K.1 (y := y) (z := y) hov (mvT hZv w1) (mvT hZv w2) (notFace_of_selects (args := #[]) (mvT hZv w5)) (mvT hZv w5) (mvT hZv w6) hy (backOfS (W := W) (Q := fun v h L => Q' v h ∧ Fr n0 L) (hM []) hZv w4 w3 hfr hlo) qa qc (g := mkF m pc L st) rfl (by rw [K.2.2.2.1]; exact hL) (Steps.refl _) (argsL := argsL) (rest := rest) hlen hst (by show 2 * 0 + _ ≤ _; omega) (hb K.2.2.1 hd) (fun _ _ => ⟨rfl, hh, hc, hs⟩)
  dsimp only [Pt.U, Pt.locs, Pt.cells, Pt.slots] at X' l1 l2 l3 st' hQ hS2 hgr
  subst l1 l2 l3
  obtain ⟨X'', hS3, hZ3, ho3⟩ := rebS hSv (by rw [hh]; exact hkv) X' hS2 hgr hZv hov
  exact Fi.of (fun _ q => st'.trans q) (r v T' _ ⟨_, _, _, X'', rfl, Fr.app hF hN, Nat.le_trans hn (hgrow _ _ hQ), hS3, Nat.le_refl _, hZ3, ho3⟩ hQ)
def PureI (h : Heap) (P : Int32 → Prop) : Option Value → Heap → Prop := fun v h' => ∃ r, v = some (.int r) ∧ P r ∧ h = h'
def PureJ (h : Heap) (P : Int64 → Prop) : Option Value → Heap → Prop := fun v h' => ∃ r, v = some (.long r) ∧ P r ∧ h = h'
def KeepI (h : Heap) (ws : List Addr) (P : Int32 → Heap → Prop) : Option Value → Heap → Prop := fun v h' => ∃ r, v = some (.int r) ∧ Keep h h' ws ∧ P r h'
def KeepA (h : Heap) (ws : List Addr) (P : Addr → Heap → Prop) : Option Value → Heap → Prop := fun v h' => ∃ r, v = some (.ref r) ∧ Keep h h' ws ∧ P r h'
def Keep0 (h : Heap) (ws : List Addr) (P : Heap → Prop) : Option Value → Heap → Prop := fun v h' => v = none ∧ Keep h h' ws ∧ P h'

theorem g_callSI (K : Cx Z p s m meth c own bytes ml rt nm) (X : Wk Z own p l e R s m args below meth c n0 T h cells slots) {pc pc' : Nat} {L : Array Slot} {st rest argsL : List Value} {index : Nat} {y : MethodName} {yb : ByteArray} {yml : Nat} {yrt : Option FieldType} {rm : Room} {P : Int32 → Prop} (W : Nat) (hd : decode bytes pc = .ok (.invokestatic index, 3)) (hp : pc + 3 = pc') (w1 : (Cond.methodLink own index y).before a0 Z = true) (w2 : (Cond.static y).before a0 Z = true) (w3 : (Cond.initialized y.cls).before a0 Z = true) (w4 : (Cond.code y yb yml yrt).before a0 Z = true) (hy : y.cls ≠ "java/lang/invoke/MethodHandle" ∧ y.cls ≠ "java/lang/invoke/VarHandle")
    (hM : Mt l Z y yb yml yrt rm argsL.toArray h n0 (PureI h P)) (hfr : rm.frames + 1 ≤ R.frames) (hlo : W + (yml + 11) + rm.locals ≤ R.locals) (hc : cells + rm.cells ≤ R.cells) (hs : slots + rm.slots ≤ R.slots) (hlen : ∀ sig, parseMethodDescriptor y.desc = some sig → argsL.length = sig.parameters.length) (hL : L.size = ml) (hst : st = argsL.reverse ++ rest) (hW : (rest.map fun v => v.category).sum ≤ W)
    (kont : ∀ r T', Wk Z own p l e R s m args below meth c n0 T' h (cells + rm.cells) (slots + rm.slots) → P r → Fi p e below s n0 C S Q (T'.setTop (mkF m pc' L (.int r :: rest)))) : Fi p e below s n0 C S Q (T.setTop (mkF m pc L (st))) := by
  refine g_callS K X (argsL := argsL) (rest := rest) W hd hp w1 w2 w3 w4 hy hM hfr hlo hc hs hlen hL hst hW (fun v T' h' X' hq => ?_) (fun _ _ q => by obtain ⟨_, _, _, rfl⟩ := q; exact Nat.le_refl _)
  obtain ⟨r, rfl, hP, rfl⟩ := hq
  exact kont r T' X' hP
theorem g_callSJ (K : Cx Z p s m meth c own bytes ml rt nm) (X : Wk Z own p l e R s m args below meth c n0 T h cells slots) {pc pc' : Nat} {L : Array Slot} {st rest argsL : List Value} {index : Nat} {y : MethodName} {yb : ByteArray} {yml : Nat} {yrt : Option FieldType} {rm : Room} {P : Int64 → Prop} (W : Nat) (hd : decode bytes pc = .ok (.invokestatic index, 3)) (hp : pc + 3 = pc') (w1 : (Cond.methodLink own index y).before a0 Z = true) (w2 : (Cond.static y).before a0 Z = true) (w3 : (Cond.initialized y.cls).before a0 Z = true) (w4 : (Cond.code y yb yml yrt).before a0 Z = true) (hy : y.cls ≠ "java/lang/invoke/MethodHandle" ∧ y.cls ≠ "java/lang/invoke/VarHandle")
    (hM : Mt l Z y yb yml yrt rm argsL.toArray h n0 (PureJ h P)) (hfr : rm.frames + 1 ≤ R.frames) (hlo : W + (yml + 11) + rm.locals ≤ R.locals) (hc : cells + rm.cells ≤ R.cells) (hs : slots + rm.slots ≤ R.slots) (hlen : ∀ sig, parseMethodDescriptor y.desc = some sig → argsL.length = sig.parameters.length) (hL : L.size = ml) (hst : st = argsL.reverse ++ rest) (hW : (rest.map fun v => v.category).sum ≤ W)
    (kont : ∀ r T', Wk Z own p l e R s m args below meth c n0 T' h (cells + rm.cells) (slots + rm.slots) → P r → Fi p e below s n0 C S Q (T'.setTop (mkF m pc' L (.long r :: rest)))) : Fi p e below s n0 C S Q (T.setTop (mkF m pc L (st))) := by
  refine g_callS K X (argsL := argsL) (rest := rest) W hd hp w1 w2 w3 w4 hy hM hfr hlo hc hs hlen hL hst hW (fun v T' h' X' hq => ?_) (fun _ _ q => by obtain ⟨_, _, _, rfl⟩ := q; exact Nat.le_refl _)
  obtain ⟨r, rfl, hP, rfl⟩ := hq
  exact kont r T' X' hP
theorem g_callSKI (K : Cx Z p s m meth c own bytes ml rt nm) (X : Wk Z own p l e R s m args below meth c n0 T h cells slots) {pc pc' : Nat} {L : Array Slot} {st rest argsL : List Value} {index : Nat} {y : MethodName} {yb : ByteArray} {yml : Nat} {yrt : Option FieldType} {rm : Room} {P : Int32 → Heap → Prop} {ws : List Addr} (W : Nat) (hd : decode bytes pc = .ok (.invokestatic index, 3)) (hp : pc + 3 = pc') (w1 : (Cond.methodLink own index y).before a0 Z = true) (w2 : (Cond.static y).before a0 Z = true) (w3 : (Cond.initialized y.cls).before a0 Z = true) (w4 : (Cond.code y yb yml yrt).before a0 Z = true) (hy : y.cls ≠ "java/lang/invoke/MethodHandle" ∧ y.cls ≠ "java/lang/invoke/VarHandle")
    (hM : Mt l Z y yb yml yrt rm argsL.toArray h n0 (KeepI h ws P)) (hfr : rm.frames + 1 ≤ R.frames) (hlo : W + (yml + 11) + rm.locals ≤ R.locals) (hc : cells + rm.cells ≤ R.cells) (hs : slots + rm.slots ≤ R.slots) (hlen : ∀ sig, parseMethodDescriptor y.desc = some sig → argsL.length = sig.parameters.length) (hL : L.size = ml) (hst : st = argsL.reverse ++ rest) (hW : (rest.map fun v => v.category).sum ≤ W)
    (kont : ∀ r T' h', Wk Z own p l e R s m args below meth c n0 T' h' (cells + rm.cells) (slots + rm.slots) → Keep h h' ws → P r h' → Fi p e below s n0 C S Q (T'.setTop (mkF m pc' L (.int r :: rest)))) : Fi p e below s n0 C S Q (T.setTop (mkF m pc L (st))) := by
  refine g_callS K X (argsL := argsL) (rest := rest) W hd hp w1 w2 w3 w4 hy hM hfr hlo hc hs hlen hL hst hW (fun v T' h' X' hq => ?_) (fun _ _ q => by obtain ⟨_, _, k, _⟩ := q; exact k.1)
  obtain ⟨r, rfl, hK, hP⟩ := hq
  exact kont r T' h' X' hK hP
theorem g_callSKA (K : Cx Z p s m meth c own bytes ml rt nm) (X : Wk Z own p l e R s m args below meth c n0 T h cells slots) {pc pc' : Nat} {L : Array Slot} {st rest argsL : List Value} {index : Nat} {y : MethodName} {yb : ByteArray} {yml : Nat} {yrt : Option FieldType} {rm : Room} {P : Addr → Heap → Prop} {ws : List Addr} (W : Nat) (hd : decode bytes pc = .ok (.invokestatic index, 3)) (hp : pc + 3 = pc') (w1 : (Cond.methodLink own index y).before a0 Z = true) (w2 : (Cond.static y).before a0 Z = true) (w3 : (Cond.initialized y.cls).before a0 Z = true) (w4 : (Cond.code y yb yml yrt).before a0 Z = true) (hy : y.cls ≠ "java/lang/invoke/MethodHandle" ∧ y.cls ≠ "java/lang/invoke/VarHandle")
    (hM : Mt l Z y yb yml yrt rm argsL.toArray h n0 (KeepA h ws P)) (hfr : rm.frames + 1 ≤ R.frames) (hlo : W + (yml + 11) + rm.locals ≤ R.locals) (hc : cells + rm.cells ≤ R.cells) (hs : slots + rm.slots ≤ R.slots) (hlen : ∀ sig, parseMethodDescriptor y.desc = some sig → argsL.length = sig.parameters.length) (hL : L.size = ml) (hst : st = argsL.reverse ++ rest) (hW : (rest.map fun v => v.category).sum ≤ W)
    (kont : ∀ r T' h', Wk Z own p l e R s m args below meth c n0 T' h' (cells + rm.cells) (slots + rm.slots) → Keep h h' ws → P r h' → Fi p e below s n0 C S Q (T'.setTop (mkF m pc' L (.ref r :: rest)))) : Fi p e below s n0 C S Q (T.setTop (mkF m pc L (st))) := by
  refine g_callS K X (argsL := argsL) (rest := rest) W hd hp w1 w2 w3 w4 hy hM hfr hlo hc hs hlen hL hst hW (fun v T' h' X' hq => ?_) (fun _ _ q => by obtain ⟨_, _, k, _⟩ := q; exact k.1)
  obtain ⟨r, rfl, hK, hP⟩ := hq
  exact kont r T' h' X' hK hP
theorem g_callSK0 (K : Cx Z p s m meth c own bytes ml rt nm) (X : Wk Z own p l e R s m args below meth c n0 T h cells slots) {pc pc' : Nat} {L : Array Slot} {st rest argsL : List Value} {index : Nat} {y : MethodName} {yb : ByteArray} {yml : Nat} {yrt : Option FieldType} {rm : Room} {P : Heap → Prop} {ws : List Addr} (W : Nat) (hd : decode bytes pc = .ok (.invokestatic index, 3)) (hp : pc + 3 = pc') (w1 : (Cond.methodLink own index y).before a0 Z = true) (w2 : (Cond.static y).before a0 Z = true) (w3 : (Cond.initialized y.cls).before a0 Z = true) (w4 : (Cond.code y yb yml yrt).before a0 Z = true) (hy : y.cls ≠ "java/lang/invoke/MethodHandle" ∧ y.cls ≠ "java/lang/invoke/VarHandle")
    (hM : Mt l Z y yb yml yrt rm argsL.toArray h n0 (Keep0 h ws P)) (hfr : rm.frames + 1 ≤ R.frames) (hlo : W + (yml + 11) + rm.locals ≤ R.locals) (hc : cells + rm.cells ≤ R.cells) (hs : slots + rm.slots ≤ R.slots) (hlen : ∀ sig, parseMethodDescriptor y.desc = some sig → argsL.length = sig.parameters.length) (hL : L.size = ml) (hst : st = argsL.reverse ++ rest) (hW : (rest.map fun v => v.category).sum ≤ W)
    (kont : ∀ T' h', Wk Z own p l e R s m args below meth c n0 T' h' (cells + rm.cells) (slots + rm.slots) → Keep h h' ws → P h' → Fi p e below s n0 C S Q (T'.setTop (mkF m pc' L (rest)))) : Fi p e below s n0 C S Q (T.setTop (mkF m pc L (st))) := by
  refine g_callS K X (argsL := argsL) (rest := rest) W hd hp w1 w2 w3 w4 hy hM hfr hlo hc hs hlen hL hst hW (fun v T' h' X' hq => ?_) (fun _ _ q => q.2.1.1)
  obtain ⟨rfl, hK, hP⟩ := hq
  exact kont T' h' X' hK hP
theorem g_specialK0 (K : Cx Z p s m meth c own bytes ml rt nm) (X : Wk Z own p l e R s m args below meth c n0 T h cells slots) {pc pc' : Nat} {L : Array Slot} {st rest argsL : List Value} {index : Nat} {a : Addr} {y : MethodName} {yb : ByteArray} {yml : Nat} {rm : Room} {P : Heap → Prop} {ws : List Addr} (W : Nat) (hd : decode bytes pc = .ok (.invokespecial index, 3)) (hp : pc + 3 = pc') (w1 : (Cond.methodLink own index y).before a0 Z = true) (w2 : (Cond.instanceMethod y).before a0 Z = true) (w3 : (Cond.initialized y.cls).before a0 Z = true) (w4 : (Cond.code y yb yml none).before a0 Z = true) (hi : y.name = "<init>") (hy : y.cls ≠ "java/lang/invoke/MethodHandle" ∧ y.cls ≠ "java/lang/invoke/VarHandle")
    (hM : Mt l Z y yb yml none rm (.ref a :: argsL).toArray h n0 (Keep0 h ws P)) (hfr : rm.frames + 1 ≤ R.frames) (hlo : W + (yml + 11) + rm.locals ≤ R.locals) (hc : cells + rm.cells ≤ R.cells) (hs : slots + rm.slots ≤ R.slots) (hlen : ∀ sig, parseMethodDescriptor y.desc = some sig → argsL.length = sig.parameters.length) (hL : L.size = ml) (hst : st = argsL.reverse ++ .ref a :: rest) (hW : (rest.map fun v => v.category).sum ≤ W)
    (kont : ∀ T' h', Wk Z own p l e R s m args below meth c n0 T' h' (cells + rm.cells) (slots + rm.slots) → Keep h h' ws → P h' → Fi p e below s n0 C S Q (T'.setTop (mkF m pc' L (rest)))) : Fi p e below s n0 C S Q (T.setTop (mkF m pc L (st))) := by
  refine g_special K X (a := a) (argsL := argsL) (rest := rest) W hd hp w1 w2 w3 w4 hi hy hM hfr hlo hc hs hlen hL hst hW (fun v T' h' X' hq => ?_) (fun _ _ q => q.2.1.1)
  obtain ⟨rfl, hK, hP⟩ := hq
  exact kont T' h' X' hK hP
theorem g_virtualI (K : Cx Z p s m meth c own bytes ml rt nm) (X : Wk Z own p l e R s m args below meth c n0 T h cells slots) {pc pc' : Nat} {L : Array Slot} {st rest argsL : List Value} {index : Nat} {a : Addr} {Cl : String} {y : MethodName} {yb : ByteArray} {yml : Nat} {yrt : Option FieldType} {rm : Room} {P : Int32 → Prop} (W : Nat) (hd : decode bytes pc = .ok (.invokevirtual index, 3)) (hp : pc + 3 = pc') (w1 : (Cond.methodLink own index y).before a0 Z = true) (w2 : (Cond.declares y).before a0 Z = true) (w5 : (Cond.selects Cl y y).before a0 Z = true) (w6 : (Cond.instanceMethod y).before a0 Z = true) (w3 : (Cond.initialized y.cls).before a0 Z = true) (w4 : (Cond.code y yb yml yrt).before a0 Z = true) (hy : y.cls ≠ "java/lang/invoke/MethodHandle" ∧ y.cls ≠ "java/lang/invoke/VarHandle") (E : Exa Z h a Cl)
    (hM : Mt l Z y yb yml yrt rm (.ref a :: argsL).toArray h n0 (PureI h P)) (hfr : rm.frames + 1 ≤ R.frames) (hlo : W + (yml + 11) + rm.locals ≤ R.locals) (hc : cells + rm.cells ≤ R.cells) (hs : slots + rm.slots ≤ R.slots) (hlen : ∀ sig, parseMethodDescriptor y.desc = some sig → argsL.length = sig.parameters.length) (hL : L.size = ml) (hst : st = argsL.reverse ++ .ref a :: rest) (hW : (rest.map fun v => v.category).sum ≤ W)
    (kont : ∀ r T', Wk Z own p l e R s m args below meth c n0 T' h (cells + rm.cells) (slots + rm.slots) → P r → Fi p e below s n0 C S Q (T'.setTop (mkF m pc' L (.int r :: rest)))) : Fi p e below s n0 C S Q (T.setTop (mkF m pc L (st))) := by
  refine g_virtual K X (a := a) (argsL := argsL) (rest := rest) W hd hp w1 w2 w5 w6 w3 w4 hy E hM hfr hlo hc hs hlen hL hst hW (fun v T' h' X' hq => ?_) (fun _ _ q => by obtain ⟨_, _, _, rfl⟩ := q; exact Nat.le_refl _)
  obtain ⟨r, rfl, hP, rfl⟩ := hq
  exact kont r T' X' hP
theorem g_virtualJ (K : Cx Z p s m meth c own bytes ml rt nm) (X : Wk Z own p l e R s m args below meth c n0 T h cells slots) {pc pc' : Nat} {L : Array Slot} {st rest argsL : List Value} {index : Nat} {a : Addr} {Cl : String} {y : MethodName} {yb : ByteArray} {yml : Nat} {yrt : Option FieldType} {rm : Room} {P : Int64 → Prop} (W : Nat) (hd : decode bytes pc = .ok (.invokevirtual index, 3)) (hp : pc + 3 = pc') (w1 : (Cond.methodLink own index y).before a0 Z = true) (w2 : (Cond.declares y).before a0 Z = true) (w5 : (Cond.selects Cl y y).before a0 Z = true) (w6 : (Cond.instanceMethod y).before a0 Z = true) (w3 : (Cond.initialized y.cls).before a0 Z = true) (w4 : (Cond.code y yb yml yrt).before a0 Z = true) (hy : y.cls ≠ "java/lang/invoke/MethodHandle" ∧ y.cls ≠ "java/lang/invoke/VarHandle") (E : Exa Z h a Cl)
    (hM : Mt l Z y yb yml yrt rm (.ref a :: argsL).toArray h n0 (PureJ h P)) (hfr : rm.frames + 1 ≤ R.frames) (hlo : W + (yml + 11) + rm.locals ≤ R.locals) (hc : cells + rm.cells ≤ R.cells) (hs : slots + rm.slots ≤ R.slots) (hlen : ∀ sig, parseMethodDescriptor y.desc = some sig → argsL.length = sig.parameters.length) (hL : L.size = ml) (hst : st = argsL.reverse ++ .ref a :: rest) (hW : (rest.map fun v => v.category).sum ≤ W)
    (kont : ∀ r T', Wk Z own p l e R s m args below meth c n0 T' h (cells + rm.cells) (slots + rm.slots) → P r → Fi p e below s n0 C S Q (T'.setTop (mkF m pc' L (.long r :: rest)))) : Fi p e below s n0 C S Q (T.setTop (mkF m pc L (st))) := by
  refine g_virtual K X (a := a) (argsL := argsL) (rest := rest) W hd hp w1 w2 w5 w6 w3 w4 hy E hM hfr hlo hc hs hlen hL hst hW (fun v T' h' X' hq => ?_) (fun _ _ q => by obtain ⟨_, _, _, rfl⟩ := q; exact Nat.le_refl _)
  obtain ⟨r, rfl, hP, rfl⟩ := hq
  exact kont r T' X' hP
theorem g_virtualKI (K : Cx Z p s m meth c own bytes ml rt nm) (X : Wk Z own p l e R s m args below meth c n0 T h cells slots) {pc pc' : Nat} {L : Array Slot} {st rest argsL : List Value} {index : Nat} {a : Addr} {Cl : String} {y : MethodName} {yb : ByteArray} {yml : Nat} {yrt : Option FieldType} {rm : Room} {P : Int32 → Heap → Prop} {ws : List Addr} (W : Nat) (hd : decode bytes pc = .ok (.invokevirtual index, 3)) (hp : pc + 3 = pc') (w1 : (Cond.methodLink own index y).before a0 Z = true) (w2 : (Cond.declares y).before a0 Z = true) (w5 : (Cond.selects Cl y y).before a0 Z = true) (w6 : (Cond.instanceMethod y).before a0 Z = true) (w3 : (Cond.initialized y.cls).before a0 Z = true) (w4 : (Cond.code y yb yml yrt).before a0 Z = true) (hy : y.cls ≠ "java/lang/invoke/MethodHandle" ∧ y.cls ≠ "java/lang/invoke/VarHandle") (E : Exa Z h a Cl)
    (hM : Mt l Z y yb yml yrt rm (.ref a :: argsL).toArray h n0 (KeepI h ws P)) (hfr : rm.frames + 1 ≤ R.frames) (hlo : W + (yml + 11) + rm.locals ≤ R.locals) (hc : cells + rm.cells ≤ R.cells) (hs : slots + rm.slots ≤ R.slots) (hlen : ∀ sig, parseMethodDescriptor y.desc = some sig → argsL.length = sig.parameters.length) (hL : L.size = ml) (hst : st = argsL.reverse ++ .ref a :: rest) (hW : (rest.map fun v => v.category).sum ≤ W)
    (kont : ∀ r T' h', Wk Z own p l e R s m args below meth c n0 T' h' (cells + rm.cells) (slots + rm.slots) → Keep h h' ws → P r h' → Fi p e below s n0 C S Q (T'.setTop (mkF m pc' L (.int r :: rest)))) : Fi p e below s n0 C S Q (T.setTop (mkF m pc L (st))) := by
  refine g_virtual K X (a := a) (argsL := argsL) (rest := rest) W hd hp w1 w2 w5 w6 w3 w4 hy E hM hfr hlo hc hs hlen hL hst hW (fun v T' h' X' hq => ?_) (fun _ _ q => by obtain ⟨_, _, k, _⟩ := q; exact k.1)
  obtain ⟨r, rfl, hK, hP⟩ := hq
  exact kont r T' h' X' hK hP
theorem g_virtualKA (K : Cx Z p s m meth c own bytes ml rt nm) (X : Wk Z own p l e R s m args below meth c n0 T h cells slots) {pc pc' : Nat} {L : Array Slot} {st rest argsL : List Value} {index : Nat} {a : Addr} {Cl : String} {y : MethodName} {yb : ByteArray} {yml : Nat} {yrt : Option FieldType} {rm : Room} {P : Addr → Heap → Prop} {ws : List Addr} (W : Nat) (hd : decode bytes pc = .ok (.invokevirtual index, 3)) (hp : pc + 3 = pc') (w1 : (Cond.methodLink own index y).before a0 Z = true) (w2 : (Cond.declares y).before a0 Z = true) (w5 : (Cond.selects Cl y y).before a0 Z = true) (w6 : (Cond.instanceMethod y).before a0 Z = true) (w3 : (Cond.initialized y.cls).before a0 Z = true) (w4 : (Cond.code y yb yml yrt).before a0 Z = true) (hy : y.cls ≠ "java/lang/invoke/MethodHandle" ∧ y.cls ≠ "java/lang/invoke/VarHandle") (E : Exa Z h a Cl)
    (hM : Mt l Z y yb yml yrt rm (.ref a :: argsL).toArray h n0 (KeepA h ws P)) (hfr : rm.frames + 1 ≤ R.frames) (hlo : W + (yml + 11) + rm.locals ≤ R.locals) (hc : cells + rm.cells ≤ R.cells) (hs : slots + rm.slots ≤ R.slots) (hlen : ∀ sig, parseMethodDescriptor y.desc = some sig → argsL.length = sig.parameters.length) (hL : L.size = ml) (hst : st = argsL.reverse ++ .ref a :: rest) (hW : (rest.map fun v => v.category).sum ≤ W)
    (kont : ∀ r T' h', Wk Z own p l e R s m args below meth c n0 T' h' (cells + rm.cells) (slots + rm.slots) → Keep h h' ws → P r h' → Fi p e below s n0 C S Q (T'.setTop (mkF m pc' L (.ref r :: rest)))) : Fi p e below s n0 C S Q (T.setTop (mkF m pc L (st))) := by
  refine g_virtual K X (a := a) (argsL := argsL) (rest := rest) W hd hp w1 w2 w5 w6 w3 w4 hy E hM hfr hlo hc hs hlen hL hst hW (fun v T' h' X' hq => ?_) (fun _ _ q => by obtain ⟨_, _, k, _⟩ := q; exact k.1)
  obtain ⟨r, rfl, hK, hP⟩ := hq
  exact kont r T' h' X' hK hP
theorem g_virtualK0 (K : Cx Z p s m meth c own bytes ml rt nm) (X : Wk Z own p l e R s m args below meth c n0 T h cells slots) {pc pc' : Nat} {L : Array Slot} {st rest argsL : List Value} {index : Nat} {a : Addr} {Cl : String} {y : MethodName} {yb : ByteArray} {yml : Nat} {yrt : Option FieldType} {rm : Room} {P : Heap → Prop} {ws : List Addr} (W : Nat) (hd : decode bytes pc = .ok (.invokevirtual index, 3)) (hp : pc + 3 = pc') (w1 : (Cond.methodLink own index y).before a0 Z = true) (w2 : (Cond.declares y).before a0 Z = true) (w5 : (Cond.selects Cl y y).before a0 Z = true) (w6 : (Cond.instanceMethod y).before a0 Z = true) (w3 : (Cond.initialized y.cls).before a0 Z = true) (w4 : (Cond.code y yb yml yrt).before a0 Z = true) (hy : y.cls ≠ "java/lang/invoke/MethodHandle" ∧ y.cls ≠ "java/lang/invoke/VarHandle") (E : Exa Z h a Cl)
    (hM : Mt l Z y yb yml yrt rm (.ref a :: argsL).toArray h n0 (Keep0 h ws P)) (hfr : rm.frames + 1 ≤ R.frames) (hlo : W + (yml + 11) + rm.locals ≤ R.locals) (hc : cells + rm.cells ≤ R.cells) (hs : slots + rm.slots ≤ R.slots) (hlen : ∀ sig, parseMethodDescriptor y.desc = some sig → argsL.length = sig.parameters.length) (hL : L.size = ml) (hst : st = argsL.reverse ++ .ref a :: rest) (hW : (rest.map fun v => v.category).sum ≤ W)
    (kont : ∀ T' h', Wk Z own p l e R s m args below meth c n0 T' h' (cells + rm.cells) (slots + rm.slots) → Keep h h' ws → P h' → Fi p e below s n0 C S Q (T'.setTop (mkF m pc' L (rest)))) : Fi p e below s n0 C S Q (T.setTop (mkF m pc L (st))) := by
  refine g_virtual K X (a := a) (argsL := argsL) (rest := rest) W hd hp w1 w2 w5 w6 w3 w4 hy E hM hfr hlo hc hs hlen hL hst hW (fun v T' h' X' hq => ?_) (fun _ _ q => q.2.1.1)
  obtain ⟨rfl, hK, hP⟩ := hq
  exact kont T' h' X' hK hP
theorem g_ldcS (K : Cx Z p s m meth c own bytes ml rt nm) (X : Wk Z own p l e R s m args below meth c n0 T h cells slots) {pc pc' : Nat} {L : Array Slot} {st : List Value} {index : Nat} {text : String} (nn : Nat) (hd : decode bytes pc = .ok (.ldc index, 2)) (hp : pc + 2 = pc') (w : (Cond.stringLink own index text).before a0 Z = true) (wS : ∀ a ∈ Bundle.stringAtoms, a.before a0 Z = true) (hnn : 4 * text.toList.length ≤ nn) (hbig : nn ≤ 536870912) (hc : cells + 2 ≤ R.cells) (hs : slots + (nn + 4) ≤ R.slots)
    (r : ∀ T' h' a, Wk Z own p l e R s m args below meth c n0 T' h' (cells + 2) (slots + (nn + 4)) → Ext h h' → Fi p e below s n0 C S Q (T'.setTop (mkF m pc' L (.ref a :: st)))) : Fi p e below s n0 C S Q (T.setTop (mkF m pc L (st))) := by
  obtain ⟨locs, vm0, k0, Y, hh, hF, hn, hSv, hkv, hZv, hov⟩ := X
  subst hp
  obtain ⟨a, T', h', k1, X', e', E, hS', hk', hZ', ho', st'⟩ := ldcS Y K.1 hZv hov w wS hh hSv hkv (g := mkF m pc L st) rfl (hb K.2.2.1 hd) hnn hbig hc hs
  exact Fi.of st' (r T' h' a ⟨_, _, k1, X', e', hF, Nat.le_trans hn E.1, hS', hk', hZ', ho'⟩ E)
end OwnKit
theorem pn_0 : plainName "com/example/kilnwright/kilnwright/ReadingLimitsWithDepthPinLaw" = true := by first | (simp [plainName, overriddenIn]; done) | decide +kernel
theorem pn_1 : plainName "com/example/kilnwright/kilnwright/ReadingLimits" = true := by first | (simp [plainName, overriddenIn]; done) | decide +kernel
theorem pn_2 : plainName "java/lang/Record" = true := by first | (simp [plainName, overriddenIn]; done) | decide +kernel
theorem pd_0 : parseMethodDescriptor "(II)I" = some ⟨[.int, .int], some .int⟩ := by decide +kernel
theorem pd_1 : parseMethodDescriptor "()V" = some ⟨[], none⟩ := by decide +kernel
theorem pd_2 : parseMethodDescriptor "(Ljava/lang/String;I)V" = some ⟨[(.object "java/lang/String"), .int], none⟩ := by decide +kernel
theorem pd_3 : parseMethodDescriptor "(III)V" = some ⟨[.int, .int, .int], none⟩ := by decide +kernel
theorem pd_4 : parseMethodDescriptor "(I)I" = some ⟨[.int], some .int⟩ := by decide +kernel
theorem pd_5 : parseMethodDescriptor "(I)Lcom/example/kilnwright/kilnwright/ReadingLimits;" = some ⟨[.int], some (.object "com/example/kilnwright/kilnwright/ReadingLimits")⟩ := by decide +kernel
theorem pd_6 : parseMethodDescriptor "()I" = some ⟨[], some .int⟩ := by decide +kernel
theorem wS {Z : State} {a0 : Array Value} (hw : ∀ d ∈ tables_1, d.before a0 Z = true) : ∀ a ∈ Bundle.stringAtoms, a.before a0 Z = true := by
  intro d hd
  simp only [Bundle.stringAtoms, List.mem_cons, List.not_mem_nil, or_false] at hd
  rcases hd with rfl | rfl | rfl | rfl | rfl | rfl | rfl
  · exact hw _ (List.mem_of_getElem? (i := 24) rfl)
  · exact hw _ (List.mem_of_getElem? (i := 25) rfl)
  · exact hw _ (List.mem_of_getElem? (i := 26) rfl)
  · exact hw _ (List.mem_of_getElem? (i := 27) rfl)
  · exact hw _ (List.mem_of_getElem? (i := 28) rfl)
  · exact hw _ (List.mem_of_getElem? (i := 29) rfl)
  · exact hw _ (List.mem_of_getElem? (i := 30) rfl)
def RL (Z : State) (h : Heap) (a : Addr) (d n v : Int32) : Prop := Exa Z h a "com/example/kilnwright/kilnwright/ReadingLimits" ∧ Fld Z h a "com/example/kilnwright/kilnwright/ReadingLimits" "depth" "I" (.int d) ∧ Fld Z h a "com/example/kilnwright/kilnwright/ReadingLimits" "length" "I" (.int n) ∧ Fld Z h a "com/example/kilnwright/kilnwright/ReadingLimits" "values" "I" (.int v)
theorem d2_0 : decode jdk_29_method_65_code 0 = .ok (.iload_n 0, 1) := by decide +kernel
theorem d2_1 : decode jdk_29_method_65_code 1 = .ok (.iload_n 1, 1) := by decide +kernel
theorem d2_2 : decode jdk_29_method_65_code 2 = .ok (.if_icmp .lt 7, 3) := by decide +kernel
theorem d2_5 : decode jdk_29_method_65_code 5 = .ok (.iload_n 0, 1) := by decide +kernel
theorem d2_6 : decode jdk_29_method_65_code 6 = .ok (.goto 4, 3) := by decide +kernel
theorem d2_9 : decode jdk_29_method_65_code 9 = .ok (.iload_n 1, 1) := by decide +kernel
theorem d2_10 : decode jdk_29_method_65_code 10 = .ok (.ireturn, 1) := by decide +kernel
theorem ef_2 (m : MethodId) (x0 : Int32) (x1 : Int32) : entryFrame m #[.int x0, .int x1] 2 = mkF m 0 #[.val (.int x0), .val (.int x1)] [] := by first | (simp [entryFrame, mkF, argsToLocals, Value.category, maxLocals]; done) | rfl
set_option maxRecDepth 65536 in
set_option maxHeartbeats 40000000 in
theorem rm_max (l : Launch) (Z : State) (a0 : Array Value) (hw : ∀ d ∈ tables_1, d.before a0 Z = true) (p1 p2 : Int32) (h : Heap) (n0 : Nat) (Z0 : n0 ≤ h.size)  :
    Mt l Z (⟨"java/lang/Math", "max", "(II)I"⟩ : MethodName) jdk_29_method_65_code 2 (some .int) ({ frames := 0, cells := 0, slots := 0, locals := 0 } : Room) #[.int p1, .int p2] h n0 (PureI h (fun r => (p1.toInt < p2.toInt → r = p2) ∧ (p2.toInt ≤ p1.toInt → r = p1))) := by
  refine Mt.of (own := "java/lang/Math") (nm := "max") (Ls := #[.val (.int p1), .val (.int p2)]) rfl rfl (Jvm.Free.JP.mathPlain rfl (by decide +kernel)) Z0 (fun m => ef_2 m p1 p2) ?_
  intro p e s m below meth c T K X
  refine g_iloadN K X (pc' := 1) d2_0 rfl rfl ?_
  refine g_iloadN K X (pc' := 2) d2_1 rfl rfl ?_
  refine g_icmp_lt K X (pc' := 9) (pc'' := 5) p1.toInt p2.toInt d2_2 (by decide) rfl rfl rfl ?_ ?_
  · intro b2
    refine g_iloadN K X (pc' := 10) d2_9 rfl rfl ?_
    exact g_retI K X d2_10 (by decide) (by decide) ⟨_, rfl, ⟨fun q => by first | rfl | omega, fun q => by first | rfl | omega⟩, rfl⟩
  · intro b2
    refine g_iloadN K X (pc' := 6) d2_5 rfl rfl ?_
    refine g_goto K X (pc' := 10) d2_6 (by decide) ?_
    exact g_retI K X d2_10 (by decide) (by decide) ⟨_, rfl, ⟨fun q => by first | rfl | omega, fun q => by first | rfl | omega⟩, rfl⟩

theorem own_alo {p1 r : Int32} (hM : ((p1 &&& (2147483647 : Int32)).toInt < (1 : Int32).toInt → r = (1 : Int32)) ∧ ((1 : Int32).toInt ≤ (p1 &&& (2147483647 : Int32)).toInt → r = (p1 &&& (2147483647 : Int32)))) : 1 ≤ r.toInt := by
  have z1 : (1 : Int32).toInt = 1 := rfl
  by_cases q : (p1 &&& (2147483647 : Int32)).toInt < (1 : Int32).toInt
  · rw [hM.1 q]; omega
  · rw [hM.2 (by omega)]; omega
theorem d1_0 : decode method_2_code 0 = .ok (.iload_n 0, 1) := by decide +kernel
theorem d1_1 : decode method_2_code 1 = .ok (.ldc 7, 2) := by decide +kernel
theorem d1_3 : decode method_2_code 3 = .ok (.iand, 1) := by decide +kernel
theorem d1_4 : decode method_2_code 4 = .ok (.iconst 1, 1) := by decide +kernel
theorem d1_5 : decode method_2_code 5 = .ok (.invokestatic 8, 3) := by decide +kernel
theorem d1_8 : decode method_2_code 8 = .ok (.ireturn, 1) := by decide +kernel
theorem ef_1 (m : MethodId) (x0 : Int32) : entryFrame m #[.int x0] 1 = mkF m 0 #[.val (.int x0)] [] := by first | (simp [entryFrame, mkF, argsToLocals, Value.category, maxLocals]; done) | rfl
set_option maxRecDepth 65536 in
set_option maxHeartbeats 40000000 in
theorem rm_alo (l : Launch) (Z : State) (a0 : Array Value) (hw : ∀ d ∈ tables_1, d.before a0 Z = true) (p1 : Int32) (h : Heap) (n0 : Nat) (Z0 : n0 ≤ h.size)  :
    Mt l Z (⟨"com/example/kilnwright/kilnwright/ReadingLimitsWithDepthPinLaw", "atLeastOne", "(I)I"⟩ : MethodName) method_2_code 1 (some .int) ({ frames := 1, cells := 0, slots := 0, locals := 13 } : Room) #[.int p1] h n0 (PureI h (fun r => 1 ≤ r.toInt)) := by
  refine Mt.of (own := "com/example/kilnwright/kilnwright/ReadingLimitsWithDepthPinLaw") (nm := "atLeastOne") (Ls := #[.val (.int p1)]) rfl rfl (plainFor_of_name pn_0) Z0 (fun m => ef_1 m p1) ?_
  intro p e s m below meth c T K X
  refine g_iloadN K X (pc' := 1) d1_0 rfl rfl ?_
  refine g_ldcI K X (pc' := 3) (v := (2147483647 : Int32)) d1_1 rfl (hw _ (List.mem_of_getElem? (i := 4) rfl)) ?_
  refine g_iand K X (pc' := 4) d1_3 rfl ?_
  refine g_iconst K X (pc' := 5) (v := (1 : Int32)) d1_4 rfl rfl ?_
  refine g_callSI K X (pc' := 8) (argsL := [.int (p1 &&& (2147483647 : Int32)), .int (1 : Int32)]) (rest := []) 0 d1_5 rfl (hw _ (List.mem_of_getElem? (i := 5) rfl)) (hw _ (List.mem_of_getElem? (i := 6) rfl)) (hw _ (List.mem_of_getElem? (i := 7) rfl)) (hw _ (List.mem_of_getElem? (i := 8) rfl)) (by decide) (rm_max l Z a0 hw (p1 &&& (2147483647 : Int32)) (1 : Int32) h n0 X.z) (by decide) (by decide) (by decide) (by decide) (lenOf pd_0 rfl) rfl rfl (Nat.le_of_ble_eq_true rfl) (fun r T1 X2 hM => ?_)
  exact g_retI K X2 d1_8 (by decide) (by decide) ⟨_, rfl, own_alo hM, rfl⟩

theorem d4_0 : decode jdk_30_method_1_code 0 = .ok (.aload_n 0, 1) := by decide +kernel
theorem d4_1 : decode jdk_30_method_1_code 1 = .ok (.invokespecial 1, 3) := by decide +kernel
theorem d4_4 : decode jdk_30_method_1_code 4 = .ok (.return_, 1) := by decide +kernel
theorem ef_4 (m : MethodId) (x0 : Addr) : entryFrame m #[.ref x0] 1 = mkF m 0 #[.val (.ref x0)] [] := by first | (simp [entryFrame, mkF, argsToLocals, Value.category, maxLocals]; done) | rfl
set_option maxRecDepth 65536 in
set_option maxHeartbeats 40000000 in
theorem rm_rec (l : Launch) (Z : State) (a0 : Array Value) (hw : ∀ d ∈ tables_1, d.before a0 Z = true) (a1 : Addr) (h : Heap) (n0 : Nat) (Z0 : n0 ≤ h.size)  :
    Mt l Z (⟨"java/lang/Record", "<init>", "()V"⟩ : MethodName) jdk_30_method_1_code 1 none ({ frames := 1, cells := 0, slots := 0, locals := 12 } : Room) #[.ref a1] h n0 (Keep0 h [] (fun _ => True)) := by
  refine Mt.of (own := "java/lang/Record") (nm := "<init>") (Ls := #[.val (.ref a1)]) rfl rfl (plainFor_of_name pn_2) Z0 (fun m => ef_4 m a1) ?_
  intro p e s m below meth c T K X
  refine g_aloadN K X (pc' := 1) d4_0 rfl rfl rfl ?_
  refine g_objinit K X (pc' := 4) d4_1 rfl (hw _ (List.mem_of_getElem? (i := 20) rfl)) (hw _ (List.mem_of_getElem? (i := 21) rfl)) (hw _ (List.mem_of_getElem? (i := 22) rfl)) rfl 0 (by decide) (Nat.le_of_ble_eq_true rfl) (by decide) (fun T1 X2 => ?_)
  exact g_ret0 K X2 d4_4 (by decide) (by decide) ⟨rfl, Keep.refl _ _, trivial⟩

theorem d6_0 : decode prog_10_method_5_code 0 = .ok (.iload_n 1, 1) := by decide +kernel
theorem d6_1 : decode prog_10_method_5_code 1 = .ok (.iconst 1, 1) := by decide +kernel
theorem d6_2 : decode prog_10_method_5_code 2 = .ok (.if_icmp .ge 18, 3) := by decide +kernel
theorem d6_5 : decode prog_10_method_5_code 5 = .ok (.new 32, 3) := by decide +kernel
theorem d6_8 : decode prog_10_method_5_code 8 = .ok (.dup, 1) := by decide +kernel
theorem d6_9 : decode prog_10_method_5_code 9 = .ok (.aload_n 0, 1) := by decide +kernel
theorem d6_10 : decode prog_10_method_5_code 10 = .ok (.iload_n 1, 1) := by decide +kernel
theorem d6_11 : decode prog_10_method_5_code 11 = .ok (.invokedynamic 34, 5) := by decide +kernel
theorem d6_16 : decode prog_10_method_5_code 16 = .ok (.invokespecial 38, 3) := by decide +kernel
theorem d6_19 : decode prog_10_method_5_code 19 = .ok (.athrow, 1) := by decide +kernel
theorem d6_20 : decode prog_10_method_5_code 20 = .ok (.return_, 1) := by decide +kernel
theorem ef_6 (m : MethodId) (x0 : Addr) (x1 : Int32) : entryFrame m #[.ref x0, .int x1] 2 = mkF m 0 #[.val (.ref x0), .val (.int x1)] [] := by first | (simp [entryFrame, mkF, argsToLocals, Value.category, maxLocals]; done) | rfl
set_option maxRecDepth 65536 in
set_option maxHeartbeats 40000000 in
theorem rm_req (l : Launch) (Z : State) (a0 : Array Value) (hw : ∀ d ∈ tables_1, d.before a0 Z = true) (b1 : Addr) (p2 : Int32) (h : Heap) (n0 : Nat) (Z0 : n0 ≤ h.size) (h1 : 1 ≤ p2.toInt) :
    Mt l Z (⟨"com/example/kilnwright/kilnwright/ReadingLimits", "requireAtLeastOne", "(Ljava/lang/String;I)V"⟩ : MethodName) prog_10_method_5_code 2 none ({ frames := 0, cells := 0, slots := 0, locals := 0 } : Room) #[.ref b1, .int p2] h n0 (Keep0 h [] (fun _ => True)) := by
  refine Mt.of (own := "com/example/kilnwright/kilnwright/ReadingLimits") (nm := "requireAtLeastOne") (Ls := #[.val (.ref b1), .val (.int p2)]) rfl rfl (plainFor_of_name pn_1) Z0 (fun m => ef_6 m b1 p2) ?_
  intro p e s m below meth c T K X
  refine g_iloadN K X (pc' := 1) d6_0 rfl rfl ?_
  refine g_iconst K X (pc' := 2) (v := (1 : Int32)) d6_1 rfl rfl ?_
  refine g_icmp_ge K X (pc' := 20) (pc'' := 5) p2.toInt 1 d6_2 (by decide) rfl rfl rfl ?_ ?_
  · intro b2
    exact g_ret0 K X d6_20 (by decide) (by decide) ⟨rfl, Keep.refl _ _, trivial⟩
  · intro b2
    omega

theorem d3_0 : decode prog_10_method_1_code 0 = .ok (.aload_n 0, 1) := by decide +kernel
theorem d3_1 : decode prog_10_method_1_code 1 = .ok (.invokespecial 1, 3) := by decide +kernel
theorem d3_4 : decode prog_10_method_1_code 4 = .ok (.ldc 7, 2) := by decide +kernel
theorem d3_6 : decode prog_10_method_1_code 6 = .ok (.iload_n 1, 1) := by decide +kernel
theorem d3_7 : decode prog_10_method_1_code 7 = .ok (.invokestatic 9, 3) := by decide +kernel
theorem d3_10 : decode prog_10_method_1_code 10 = .ok (.ldc 15, 2) := by decide +kernel
theorem d3_12 : decode prog_10_method_1_code 12 = .ok (.iload_n 2, 1) := by decide +kernel
theorem d3_13 : decode prog_10_method_1_code 13 = .ok (.invokestatic 9, 3) := by decide +kernel
theorem d3_16 : decode prog_10_method_1_code 16 = .ok (.ldc 17, 2) := by decide +kernel
theorem d3_18 : decode prog_10_method_1_code 18 = .ok (.iload_n 3, 1) := by decide +kernel
theorem d3_19 : decode prog_10_method_1_code 19 = .ok (.invokestatic 9, 3) := by decide +kernel
theorem d3_22 : decode prog_10_method_1_code 22 = .ok (.aload_n 0, 1) := by decide +kernel
theorem d3_23 : decode prog_10_method_1_code 23 = .ok (.iload_n 1, 1) := by decide +kernel
theorem d3_24 : decode prog_10_method_1_code 24 = .ok (.putfield 19, 3) := by decide +kernel
theorem d3_27 : decode prog_10_method_1_code 27 = .ok (.aload_n 0, 1) := by decide +kernel
theorem d3_28 : decode prog_10_method_1_code 28 = .ok (.iload_n 2, 1) := by decide +kernel
theorem d3_29 : decode prog_10_method_1_code 29 = .ok (.putfield 23, 3) := by decide +kernel
theorem d3_32 : decode prog_10_method_1_code 32 = .ok (.aload_n 0, 1) := by decide +kernel
theorem d3_33 : decode prog_10_method_1_code 33 = .ok (.iload_n 3, 1) := by decide +kernel
theorem d3_34 : decode prog_10_method_1_code 34 = .ok (.putfield 26, 3) := by decide +kernel
theorem d3_37 : decode prog_10_method_1_code 37 = .ok (.return_, 1) := by decide +kernel
theorem ef_3 (m : MethodId) (x0 : Addr) (x1 : Int32) (x2 : Int32) (x3 : Int32) : entryFrame m #[.ref x0, .int x1, .int x2, .int x3] 4 = mkF m 0 #[.val (.ref x0), .val (.int x1), .val (.int x2), .val (.int x3)] [] := by first | (simp [entryFrame, mkF, argsToLocals, Value.category, maxLocals]; done) | rfl
set_option maxRecDepth 65536 in
set_option maxHeartbeats 40000000 in
theorem rm_init (l : Launch) (Z : State) (a0 : Array Value) (hw : ∀ d ∈ tables_1, d.before a0 Z = true) (a1 : Addr) (p2 p3 p4 : Int32) (h : Heap) (n0 : Nat) (Z0 : n0 ≤ h.size) (g1 : n0 ≤ a1) (A : RL Z h a1 0 0 0) (hp2 : 1 ≤ p2.toInt) (hp3 : 1 ≤ p3.toInt) (hp4 : 1 ≤ p4.toInt) :
    Mt l Z (⟨"com/example/kilnwright/kilnwright/ReadingLimits", "<init>", "(III)V"⟩ : MethodName) prog_10_method_1_code 4 none ({ frames := 2, cells := 6, slots := 76, locals := 40 } : Room) #[.ref a1, .int p2, .int p3, .int p4] h n0 (Keep0 h [a1] (fun h' => RL Z h' a1 p2 p3 p4)) := by
  refine Mt.of (own := "com/example/kilnwright/kilnwright/ReadingLimits") (nm := "<init>") (Ls := #[.val (.ref a1), .val (.int p2), .val (.int p3), .val (.int p4)]) rfl rfl (plainFor_of_name pn_1) Z0 (fun m => ef_3 m a1 p2 p3 p4) ?_
  intro p e s m below meth c T K X
  refine g_aloadN K X (pc' := 1) d3_0 rfl rfl rfl ?_
  refine g_specialK0 K X (pc' := 4) (a := a1) (argsL := []) (rest := []) 0 d3_1 rfl (hw _ (List.mem_of_getElem? (i := 15) rfl)) (hw _ (List.mem_of_getElem? (i := 16) rfl)) (hw _ (List.mem_of_getElem? (i := 18) rfl)) (hw _ (List.mem_of_getElem? (i := 19) rfl)) rfl (by decide) (rm_rec l Z a0 hw a1 h n0 X.z) (by decide) (by decide) (by decide) (by decide) (lenOf pd_1 rfl) rfl rfl (Nat.le_of_ble_eq_true rfl) (fun T1 h3 X2 Kp4 _ => ?_)
  have f5 := Exa.keep A.1 Kp4
  have f6 := Fld.keep A.2.1 Kp4 nin0
  have f7 := Fld.keep A.2.2.1 Kp4 nin0
  have f8 := Fld.keep A.2.2.2 Kp4 nin0
  have KK9 := (Keep.refl h [a1]).trans Kp4 all0
  refine g_ldcS K X2 (pc' := 6) 20 d3_4 rfl (hw _ (List.mem_of_getElem? (i := 23) rfl)) (wS hw) (by decide) (by decide) (by decide) (by decide) (fun T10 h11 b12 X13 E14 => ?_)
  have f15 := Exa.ext E14 f5
  have f16 := Fld.ext E14 f6
  have f17 := Fld.ext E14 f7
  have f18 := Fld.ext E14 f8
  have KK19 := KK9.ext E14
  refine g_iloadN K X13 (pc' := 7) d3_6 rfl rfl ?_
  refine g_callSK0 K X13 (pc' := 10) (argsL := [.ref b12, .int p2]) (rest := []) 0 d3_7 rfl (hw _ (List.mem_of_getElem? (i := 31) rfl)) (hw _ (List.mem_of_getElem? (i := 32) rfl)) (hw _ (List.mem_of_getElem? (i := 11) rfl)) (hw _ (List.mem_of_getElem? (i := 33) rfl)) (by decide) (rm_req l Z a0 hw b12 p2 h11 n0 X13.z hp2) (by decide) (by decide) (by decide) (by decide) (lenOf pd_2 rfl) rfl rfl (Nat.le_of_ble_eq_true rfl) (fun T20 h22 X21 Kp23 _ => ?_)
  have f24 := Exa.keep f15 Kp23
  have f25 := Fld.keep f16 Kp23 nin0
  have f26 := Fld.keep f17 Kp23 nin0
  have f27 := Fld.keep f18 Kp23 nin0
  have KK28 := KK19.trans Kp23 all0
  refine g_ldcS K X21 (pc' := 12) 24 d3_10 rfl (hw _ (List.mem_of_getElem? (i := 34) rfl)) (wS hw) (by decide) (by decide) (by decide) (by decide) (fun T29 h30 b31 X32 E33 => ?_)
  have f34 := Exa.ext E33 f24
  have f35 := Fld.ext E33 f25
  have f36 := Fld.ext E33 f26
  have f37 := Fld.ext E33 f27
  have KK38 := KK28.ext E33
  refine g_iloadN K X32 (pc' := 13) d3_12 rfl rfl ?_
  refine g_callSK0 K X32 (pc' := 16) (argsL := [.ref b31, .int p3]) (rest := []) 0 d3_13 rfl (hw _ (List.mem_of_getElem? (i := 31) rfl)) (hw _ (List.mem_of_getElem? (i := 32) rfl)) (hw _ (List.mem_of_getElem? (i := 11) rfl)) (hw _ (List.mem_of_getElem? (i := 33) rfl)) (by decide) (rm_req l Z a0 hw b31 p3 h30 n0 X32.z hp3) (by decide) (by decide) (by decide) (by decide) (lenOf pd_2 rfl) rfl rfl (Nat.le_of_ble_eq_true rfl) (fun T39 h41 X40 Kp42 _ => ?_)
  have f43 := Exa.keep f34 Kp42
  have f44 := Fld.keep f35 Kp42 nin0
  have f45 := Fld.keep f36 Kp42 nin0
  have f46 := Fld.keep f37 Kp42 nin0
  have KK47 := KK38.trans Kp42 all0
  refine g_ldcS K X40 (pc' := 18) 20 d3_16 rfl (hw _ (List.mem_of_getElem? (i := 35) rfl)) (wS hw) (by decide) (by decide) (by decide) (by decide) (fun T48 h49 b50 X51 E52 => ?_)
  have f53 := Exa.ext E52 f43
  have f54 := Fld.ext E52 f44
  have f55 := Fld.ext E52 f45
  have f56 := Fld.ext E52 f46
  have KK57 := KK47.ext E52
  refine g_iloadN K X51 (pc' := 19) d3_18 rfl rfl ?_
  refine g_callSK0 K X51 (pc' := 22) (argsL := [.ref b50, .int p4]) (rest := []) 0 d3_19 rfl (hw _ (List.mem_of_getElem? (i := 31) rfl)) (hw _ (List.mem_of_getElem? (i := 32) rfl)) (hw _ (List.mem_of_getElem? (i := 11) rfl)) (hw _ (List.mem_of_getElem? (i := 33) rfl)) (by decide) (rm_req l Z a0 hw b50 p4 h49 n0 X51.z hp4) (by decide) (by decide) (by decide) (by decide) (lenOf pd_2 rfl) rfl rfl (Nat.le_of_ble_eq_true rfl) (fun T58 h60 X59 Kp61 _ => ?_)
  have f62 := Exa.keep f53 Kp61
  have f63 := Fld.keep f54 Kp61 nin0
  have f64 := Fld.keep f55 Kp61 nin0
  have f65 := Fld.keep f56 Kp61 nin0
  have KK66 := KK57.trans Kp61 all0
  refine g_aloadN K X59 (pc' := 23) d3_22 rfl rfl rfl ?_
  refine g_iloadN K X59 (pc' := 24) d3_23 rfl rfl ?_
  refine g_putfield K X59 (pc' := 27) d3_24 rfl (hw _ (List.mem_of_getElem? (i := 36) rfl)) f63 f62 (Or.inr ⟨(hw _ (List.mem_of_getElem? (i := 37) rfl)), rfl, rfl⟩) (hw _ (List.mem_of_getElem? (i := 10) rfl)) (ty := .int) (by decide) rfl rfl g1 (fun T67 h68 X69 W70 Kp71 E72 F73 => ?_)
  have f74 := Fld.other W70 f64 (Or.inr (slot_ne (C := "com/example/kilnwright/kilnwright/ReadingLimits") (Or.inr (hw _ (List.mem_of_getElem? (i := 39) rfl))) (Or.inr (hw _ (List.mem_of_getElem? (i := 37) rfl))) (by decide) (t := .int) (by decide) (t' := .int) (by decide)))
  have f75 := Fld.other W70 f65 (Or.inr (slot_ne (C := "com/example/kilnwright/kilnwright/ReadingLimits") (Or.inr (hw _ (List.mem_of_getElem? (i := 41) rfl))) (Or.inr (hw _ (List.mem_of_getElem? (i := 37) rfl))) (by decide) (t := .int) (by decide) (t' := .int) (by decide)))
  have f76 := Exa.keep f62 Kp71
  have KK77 := KK66.trans Kp71 (allS (Or.inl (by simp)) all0)
  refine g_aloadN K X69 (pc' := 28) d3_27 rfl rfl rfl ?_
  refine g_iloadN K X69 (pc' := 29) d3_28 rfl rfl ?_
  refine g_putfield K X69 (pc' := 32) d3_29 rfl (hw _ (List.mem_of_getElem? (i := 38) rfl)) f74 E72 (Or.inr ⟨(hw _ (List.mem_of_getElem? (i := 39) rfl)), rfl, rfl⟩) (hw _ (List.mem_of_getElem? (i := 10) rfl)) (ty := .int) (by decide) rfl rfl g1 (fun T78 h79 X80 W81 Kp82 E83 F84 => ?_)
  have f85 := Fld.other W81 f75 (Or.inr (slot_ne (C := "com/example/kilnwright/kilnwright/ReadingLimits") (Or.inr (hw _ (List.mem_of_getElem? (i := 41) rfl))) (Or.inr (hw _ (List.mem_of_getElem? (i := 39) rfl))) (by decide) (t := .int) (by decide) (t' := .int) (by decide)))
  have f86 := Fld.other W81 F73 (Or.inr (slot_ne (C := "com/example/kilnwright/kilnwright/ReadingLimits") (Or.inr (hw _ (List.mem_of_getElem? (i := 37) rfl))) (Or.inr (hw _ (List.mem_of_getElem? (i := 39) rfl))) (by decide) (t := .int) (by decide) (t' := .int) (by decide)))
  have f87 := Exa.keep E72 Kp82
  have KK88 := KK77.trans Kp82 (allS (Or.inl (by simp)) all0)
  refine g_aloadN K X80 (pc' := 33) d3_32 rfl rfl rfl ?_
  refine g_iloadN K X80 (pc' := 34) d3_33 rfl rfl ?_
  refine g_putfield K X80 (pc' := 37) d3_34 rfl (hw _ (List.mem_of_getElem? (i := 40) rfl)) f85 E83 (Or.inr ⟨(hw _ (List.mem_of_getElem? (i := 41) rfl)), rfl, rfl⟩) (hw _ (List.mem_of_getElem? (i := 10) rfl)) (ty := .int) (by decide) rfl rfl g1 (fun T89 h90 X91 W92 Kp93 E94 F95 => ?_)
  have f96 := Fld.other W92 f86 (Or.inr (slot_ne (C := "com/example/kilnwright/kilnwright/ReadingLimits") (Or.inr (hw _ (List.mem_of_getElem? (i := 37) rfl))) (Or.inr (hw _ (List.mem_of_getElem? (i := 41) rfl))) (by decide) (t := .int) (by decide) (t' := .int) (by decide)))
  have f97 := Fld.other W92 F84 (Or.inr (slot_ne (C := "com/example/kilnwright/kilnwright/ReadingLimits") (Or.inr (hw _ (List.mem_of_getElem? (i := 39) rfl))) (Or.inr (hw _ (List.mem_of_getElem? (i := 41) rfl))) (by decide) (t := .int) (by decide) (t' := .int) (by decide)))
  have f98 := Exa.keep E83 Kp93
  have KK99 := KK88.trans Kp93 (allS (Or.inl (by simp)) all0)
  exact g_ret0 K X91 d3_37 (by decide) (by decide) ⟨rfl, KK99, ⟨E94, f96, f97, F95⟩⟩

theorem d8_0 : decode prog_10_method_9_code 0 = .ok (.aload_n 0, 1) := by decide +kernel
theorem d8_1 : decode prog_10_method_9_code 1 = .ok (.getfield 19, 3) := by decide +kernel
theorem d8_4 : decode prog_10_method_9_code 4 = .ok (.ireturn, 1) := by decide +kernel
theorem ef_8 (m : MethodId) (x0 : Addr) : entryFrame m #[.ref x0] 1 = mkF m 0 #[.val (.ref x0)] [] := by first | (simp [entryFrame, mkF, argsToLocals, Value.category, maxLocals]; done) | rfl
set_option maxRecDepth 65536 in
set_option maxHeartbeats 40000000 in
theorem rm_depth (l : Launch) (Z : State) (a0 : Array Value) (hw : ∀ d ∈ tables_1, d.before a0 Z = true) (a1 : Addr) (d n v : Int32) (h : Heap) (n0 : Nat) (Z0 : n0 ≤ h.size) (A : RL Z h a1 d n v) :
    Mt l Z (⟨"com/example/kilnwright/kilnwright/ReadingLimits", "depth", "()I"⟩ : MethodName) prog_10_method_9_code 1 (some .int) ({ frames := 0, cells := 0, slots := 0, locals := 0 } : Room) #[.ref a1] h n0 (PureI h (fun r => r = d)) := by
  refine Mt.of (own := "com/example/kilnwright/kilnwright/ReadingLimits") (nm := "depth") (Ls := #[.val (.ref a1)]) rfl rfl (plainFor_of_name pn_1) Z0 (fun m => ef_8 m a1) ?_
  intro p e s m below meth c T K X
  refine g_aloadN K X (pc' := 1) d8_0 rfl rfl rfl ?_
  refine g_getfield K X (pc' := 4) d8_1 rfl (hw _ (List.mem_of_getElem? (i := 36) rfl)) A.2.1 (fun T1 X2 => ?_)
  exact g_retI K X2 d8_4 (by decide) (by decide) ⟨_, rfl, rfl, rfl⟩

theorem d9_0 : decode prog_10_method_10_code 0 = .ok (.aload_n 0, 1) := by decide +kernel
theorem d9_1 : decode prog_10_method_10_code 1 = .ok (.getfield 23, 3) := by decide +kernel
theorem d9_4 : decode prog_10_method_10_code 4 = .ok (.ireturn, 1) := by decide +kernel
theorem ef_9 (m : MethodId) (x0 : Addr) : entryFrame m #[.ref x0] 1 = mkF m 0 #[.val (.ref x0)] [] := by first | (simp [entryFrame, mkF, argsToLocals, Value.category, maxLocals]; done) | rfl
set_option maxRecDepth 65536 in
set_option maxHeartbeats 40000000 in
theorem rm_length (l : Launch) (Z : State) (a0 : Array Value) (hw : ∀ d ∈ tables_1, d.before a0 Z = true) (a1 : Addr) (d n v : Int32) (h : Heap) (n0 : Nat) (Z0 : n0 ≤ h.size) (A : RL Z h a1 d n v) :
    Mt l Z (⟨"com/example/kilnwright/kilnwright/ReadingLimits", "length", "()I"⟩ : MethodName) prog_10_method_10_code 1 (some .int) ({ frames := 0, cells := 0, slots := 0, locals := 0 } : Room) #[.ref a1] h n0 (PureI h (fun r => r = n)) := by
  refine Mt.of (own := "com/example/kilnwright/kilnwright/ReadingLimits") (nm := "length") (Ls := #[.val (.ref a1)]) rfl rfl (plainFor_of_name pn_1) Z0 (fun m => ef_9 m a1) ?_
  intro p e s m below meth c T K X
  refine g_aloadN K X (pc' := 1) d9_0 rfl rfl rfl ?_
  refine g_getfield K X (pc' := 4) d9_1 rfl (hw _ (List.mem_of_getElem? (i := 38) rfl)) A.2.2.1 (fun T1 X2 => ?_)
  exact g_retI K X2 d9_4 (by decide) (by decide) ⟨_, rfl, rfl, rfl⟩

theorem d10_0 : decode prog_10_method_11_code 0 = .ok (.aload_n 0, 1) := by decide +kernel
theorem d10_1 : decode prog_10_method_11_code 1 = .ok (.getfield 26, 3) := by decide +kernel
theorem d10_4 : decode prog_10_method_11_code 4 = .ok (.ireturn, 1) := by decide +kernel
theorem ef_10 (m : MethodId) (x0 : Addr) : entryFrame m #[.ref x0] 1 = mkF m 0 #[.val (.ref x0)] [] := by first | (simp [entryFrame, mkF, argsToLocals, Value.category, maxLocals]; done) | rfl
set_option maxRecDepth 65536 in
set_option maxHeartbeats 40000000 in
theorem rm_values (l : Launch) (Z : State) (a0 : Array Value) (hw : ∀ d ∈ tables_1, d.before a0 Z = true) (a1 : Addr) (d n v : Int32) (h : Heap) (n0 : Nat) (Z0 : n0 ≤ h.size) (A : RL Z h a1 d n v) :
    Mt l Z (⟨"com/example/kilnwright/kilnwright/ReadingLimits", "values", "()I"⟩ : MethodName) prog_10_method_11_code 1 (some .int) ({ frames := 0, cells := 0, slots := 0, locals := 0 } : Room) #[.ref a1] h n0 (PureI h (fun r => r = v)) := by
  refine Mt.of (own := "com/example/kilnwright/kilnwright/ReadingLimits") (nm := "values") (Ls := #[.val (.ref a1)]) rfl rfl (plainFor_of_name pn_1) Z0 (fun m => ef_10 m a1) ?_
  intro p e s m below meth c T K X
  refine g_aloadN K X (pc' := 1) d10_0 rfl rfl rfl ?_
  refine g_getfield K X (pc' := 4) d10_1 rfl (hw _ (List.mem_of_getElem? (i := 40) rfl)) A.2.2.2 (fun T1 X2 => ?_)
  exact g_retI K X2 d10_4 (by decide) (by decide) ⟨_, rfl, rfl, rfl⟩

theorem d7_0 : decode prog_10_method_2_code 0 = .ok (.new 10, 3) := by decide +kernel
theorem d7_3 : decode prog_10_method_2_code 3 = .ok (.dup, 1) := by decide +kernel
theorem d7_4 : decode prog_10_method_2_code 4 = .ok (.iload_n 1, 1) := by decide +kernel
theorem d7_5 : decode prog_10_method_2_code 5 = .ok (.aload_n 0, 1) := by decide +kernel
theorem d7_6 : decode prog_10_method_2_code 6 = .ok (.getfield 23, 3) := by decide +kernel
theorem d7_9 : decode prog_10_method_2_code 9 = .ok (.aload_n 0, 1) := by decide +kernel
theorem d7_10 : decode prog_10_method_2_code 10 = .ok (.getfield 26, 3) := by decide +kernel
theorem d7_13 : decode prog_10_method_2_code 13 = .ok (.invokespecial 29, 3) := by decide +kernel
theorem d7_16 : decode prog_10_method_2_code 16 = .ok (.areturn, 1) := by decide +kernel
theorem ef_7 (m : MethodId) (x0 : Addr) (x1 : Int32) : entryFrame m #[.ref x0, .int x1] 2 = mkF m 0 #[.val (.ref x0), .val (.int x1)] [] := by first | (simp [entryFrame, mkF, argsToLocals, Value.category, maxLocals]; done) | rfl
set_option maxRecDepth 65536 in
set_option maxHeartbeats 40000000 in
theorem rm_with (l : Launch) (Z : State) (a0 : Array Value) (hw : ∀ d ∈ tables_1, d.before a0 Z = true) (a1 : Addr) (q d n v : Int32) (h : Heap) (n0 : Nat) (Z0 : n0 ≤ h.size) (A : RL Z h a1 d n v) (hq : 1 ≤ q.toInt) (hd : 1 ≤ d.toInt) (hn : 1 ≤ n.toInt) (hv : 1 ≤ v.toInt) :
    Mt l Z (⟨"com/example/kilnwright/kilnwright/ReadingLimits", "withDepth", "(I)Lcom/example/kilnwright/kilnwright/ReadingLimits;"⟩ : MethodName) prog_10_method_2_code 2 (some (.object "com/example/kilnwright/kilnwright/ReadingLimits")) ({ frames := 3, cells := 7, slots := 79, locals := 60 } : Room) #[.ref a1, .int q] h n0 (KeepA h [] (fun r h' => n0 ≤ r ∧ RL Z h' r q n v)) := by
  refine Mt.of (own := "com/example/kilnwright/kilnwright/ReadingLimits") (nm := "withDepth") (Ls := #[.val (.ref a1), .val (.int q)]) rfl rfl (plainFor_of_name pn_1) Z0 (fun m => ef_7 m a1 q) ?_
  intro p e s m below meth c T K X
  refine g_new K X (pc' := 3) d7_0 rfl (hw _ (List.mem_of_getElem? (i := 47) rfl)) (hw _ (List.mem_of_getElem? (i := 10) rfl)) (hw _ (List.mem_of_getElem? (i := 11) rfl)) (by decide) (by decide) (fun T1 h2 a3 X4 E5 ga6 na7 A8 Dn9 => ?_)
  have ne_a1_a3 : a1 ≠ a3 := Nat.ne_of_lt (by rw [ga6]; exact A.1.lt)
  have f10 := Exa.ext E5 A.1
  have f11 := Fld.ext E5 A.2.1
  have f12 := Fld.ext E5 A.2.2.1
  have f13 := Fld.ext E5 A.2.2.2
  have fg15 : h.size ≤ a3 := by rw [ga6]; exact (Keep.refl h []).1
  have KK14 := (Keep.refl h []).ext E5
  have F16 := Dn9 (Or.inr (hw _ (List.mem_of_getElem? (i := 37) rfl))) (ty := .int) (by decide)
  have F16 : Fld Z h2 a3 "com/example/kilnwright/kilnwright/ReadingLimits" "depth" "I" (.int (0 : Int32)) := F16
  have F17 := Dn9 (Or.inr (hw _ (List.mem_of_getElem? (i := 39) rfl))) (ty := .int) (by decide)
  have F17 : Fld Z h2 a3 "com/example/kilnwright/kilnwright/ReadingLimits" "length" "I" (.int (0 : Int32)) := F17
  have F18 := Dn9 (Or.inr (hw _ (List.mem_of_getElem? (i := 41) rfl))) (ty := .int) (by decide)
  have F18 : Fld Z h2 a3 "com/example/kilnwright/kilnwright/ReadingLimits" "values" "I" (.int (0 : Int32)) := F18
  refine g_dup K X4 (pc' := 4) d7_3 rfl rfl ?_
  refine g_iloadN K X4 (pc' := 5) d7_4 rfl rfl ?_
  refine g_aloadN K X4 (pc' := 6) d7_5 rfl rfl rfl ?_
  refine g_getfield K X4 (pc' := 9) d7_6 rfl (hw _ (List.mem_of_getElem? (i := 38) rfl)) f12 (fun T19 X20 => ?_)
  refine g_aloadN K X20 (pc' := 10) d7_9 rfl rfl rfl ?_
  refine g_getfield K X20 (pc' := 13) d7_10 rfl (hw _ (List.mem_of_getElem? (i := 40) rfl)) f13 (fun T21 X22 => ?_)
  refine g_specialK0 K X22 (pc' := 16) (a := a3) (argsL := [.int q, .int n, .int v]) (rest := [.ref a3]) 1 d7_13 rfl (hw _ (List.mem_of_getElem? (i := 48) rfl)) (hw _ (List.mem_of_getElem? (i := 13) rfl)) (hw _ (List.mem_of_getElem? (i := 11) rfl)) (hw _ (List.mem_of_getElem? (i := 14) rfl)) rfl (by decide) (rm_init l Z a0 hw a3 q n v h2 n0 X22.z na7 ⟨A8, F16, F17, F18⟩ hq hn hv) (by decide) (by decide) (by decide) (by decide) (lenOf pd_3 rfl) rfl rfl (Nat.le_of_ble_eq_true rfl) (fun T24 h26 X25 Kp27 hP23 => ?_)
  have f28 := Exa.keep f10 Kp27
  have f29 := Fld.keep f11 Kp27 (ninS ne_a1_a3 nin0)
  have f30 := Fld.keep f12 Kp27 (ninS ne_a1_a3 nin0)
  have f31 := Fld.keep f13 Kp27 (ninS ne_a1_a3 nin0)
  have f32 := Exa.keep A8 Kp27
  have KK33 := KK14.trans Kp27 (allS (Or.inr fg15) all0)
  obtain ⟨e34, u35, u36, u37⟩ := hP23
  exact g_retA K X25 d7_16 rfl rfl (by decide) (by decide) ⟨_, rfl, KK33, na7, ⟨e34, u35, u36, u37⟩⟩

theorem ef_0 (m : MethodId) (x0 : Int32) (x1 : Int32) (x2 : Int32) (x3 : Int32) : entryFrame m #[.int x0, .int x1, .int x2, .int x3] maxLocals = mkF m 0 #[.val (.int x0), .val (.int x1), .val (.int x2), .val (.int x3), .unset, .unset, .unset, .unset, .unset, .unset, .unset, .unset] [] := by first | (simp [entryFrame, mkF, argsToLocals, Value.category, maxLocals]; done) | rfl
set_option maxRecDepth 65536 in
set_option maxHeartbeats 40000000 in
theorem rm0 (l : Launch) (Z : State) (a0 : Array Value) (hw : ∀ d ∈ tables_1, d.before a0 Z = true) (p1 p2 p3 p4 : Int32) (h : Heap) (n0 : Nat) (Z0 : n0 ≤ h.size)  :
    Mt l Z x code maxLocals ret room_1 #[.int p1, .int p2, .int p3, .int p4] h n0 (fun v _ => v = some (.int 1)) := by
  refine Mt.of (own := "com/example/kilnwright/kilnwright/ReadingLimitsWithDepthPinLaw") (nm := "law") (Ls := #[.val (.int p1), .val (.int p2), .val (.int p3), .val (.int p4), .unset, .unset, .unset, .unset, .unset, .unset, .unset, .unset]) rfl rfl (plainFor_of_name pn_0) Z0 (fun m => ef_0 m p1 p2 p3 p4) ?_
  intro p e s m below meth c T K X
  refine g_iloadN K X (pc' := 1) at_0 rfl rfl ?_
  refine g_callSI K X (pc' := 4) (argsL := [.int p1]) (rest := []) 0 at_1 rfl (hw _ (List.mem_of_getElem? (i := 0) rfl)) (hw _ (List.mem_of_getElem? (i := 1) rfl)) (hw _ (List.mem_of_getElem? (i := 2) rfl)) (hw _ (List.mem_of_getElem? (i := 3) rfl)) (by decide) (rm_alo l Z a0 hw p1 h n0 X.z) (by decide) (by decide) (by decide) (by decide) (lenOf pd_4 rfl) rfl rfl (Nat.le_of_ble_eq_true rfl) (fun d T1 X2 hd => ?_)
  refine g_istore K X2 (pc' := 6) (L' := #[.val (.int p1), .val (.int p2), .val (.int p3), .val (.int p4), .val (.int d), .unset, .unset, .unset, .unset, .unset, .unset, .unset]) at_4 rfl rfl ?_
  refine g_iloadN K X2 (pc' := 7) at_6 rfl rfl ?_
  refine g_callSI K X2 (pc' := 10) (argsL := [.int p2]) (rest := []) 0 at_7 rfl (hw _ (List.mem_of_getElem? (i := 0) rfl)) (hw _ (List.mem_of_getElem? (i := 1) rfl)) (hw _ (List.mem_of_getElem? (i := 2) rfl)) (hw _ (List.mem_of_getElem? (i := 3) rfl)) (by decide) (rm_alo l Z a0 hw p2 h n0 X2.z) (by decide) (by decide) (by decide) (by decide) (lenOf pd_4 rfl) rfl rfl (Nat.le_of_ble_eq_true rfl) (fun n T3 X4 hn => ?_)
  refine g_istore K X4 (pc' := 12) (L' := #[.val (.int p1), .val (.int p2), .val (.int p3), .val (.int p4), .val (.int d), .val (.int n), .unset, .unset, .unset, .unset, .unset, .unset]) at_10 rfl rfl ?_
  refine g_iloadN K X4 (pc' := 13) at_12 rfl rfl ?_
  refine g_callSI K X4 (pc' := 16) (argsL := [.int p3]) (rest := []) 0 at_13 rfl (hw _ (List.mem_of_getElem? (i := 0) rfl)) (hw _ (List.mem_of_getElem? (i := 1) rfl)) (hw _ (List.mem_of_getElem? (i := 2) rfl)) (hw _ (List.mem_of_getElem? (i := 3) rfl)) (by decide) (rm_alo l Z a0 hw p3 h n0 X4.z) (by decide) (by decide) (by decide) (by decide) (lenOf pd_4 rfl) rfl rfl (Nat.le_of_ble_eq_true rfl) (fun v T5 X6 hv => ?_)
  refine g_istore K X6 (pc' := 18) (L' := #[.val (.int p1), .val (.int p2), .val (.int p3), .val (.int p4), .val (.int d), .val (.int n), .val (.int v), .unset, .unset, .unset, .unset, .unset]) at_16 rfl rfl ?_
  refine g_iloadN K X6 (pc' := 19) at_18 rfl rfl ?_
  refine g_callSI K X6 (pc' := 22) (argsL := [.int p4]) (rest := []) 0 at_19 rfl (hw _ (List.mem_of_getElem? (i := 0) rfl)) (hw _ (List.mem_of_getElem? (i := 1) rfl)) (hw _ (List.mem_of_getElem? (i := 2) rfl)) (hw _ (List.mem_of_getElem? (i := 3) rfl)) (by decide) (rm_alo l Z a0 hw p4 h n0 X6.z) (by decide) (by decide) (by decide) (by decide) (lenOf pd_4 rfl) rfl rfl (Nat.le_of_ble_eq_true rfl) (fun q T7 X8 hq => ?_)
  refine g_istore K X8 (pc' := 24) (L' := #[.val (.int p1), .val (.int p2), .val (.int p3), .val (.int p4), .val (.int d), .val (.int n), .val (.int v), .val (.int q), .unset, .unset, .unset, .unset]) at_22 rfl rfl ?_
  refine g_new K X8 (pc' := 27) at_24 rfl (hw _ (List.mem_of_getElem? (i := 9) rfl)) (hw _ (List.mem_of_getElem? (i := 10) rfl)) (hw _ (List.mem_of_getElem? (i := 11) rfl)) (by decide) (by decide) (fun T9 h10 a11 X12 E13 ga14 na15 A16 Dn17 => ?_)
  have F18 := Dn17 (Or.inr (hw _ (List.mem_of_getElem? (i := 37) rfl))) (ty := .int) (by decide)
  have F18 : Fld Z h10 a11 "com/example/kilnwright/kilnwright/ReadingLimits" "depth" "I" (.int (0 : Int32)) := F18
  have F19 := Dn17 (Or.inr (hw _ (List.mem_of_getElem? (i := 39) rfl))) (ty := .int) (by decide)
  have F19 : Fld Z h10 a11 "com/example/kilnwright/kilnwright/ReadingLimits" "length" "I" (.int (0 : Int32)) := F19
  have F20 := Dn17 (Or.inr (hw _ (List.mem_of_getElem? (i := 41) rfl))) (ty := .int) (by decide)
  have F20 : Fld Z h10 a11 "com/example/kilnwright/kilnwright/ReadingLimits" "values" "I" (.int (0 : Int32)) := F20
  refine g_dup K X12 (pc' := 28) at_27 rfl rfl ?_
  refine g_iload K X12 (pc' := 30) at_28 rfl rfl ?_
  refine g_iload K X12 (pc' := 32) at_30 rfl rfl ?_
  refine g_iload K X12 (pc' := 34) at_32 rfl rfl ?_
  refine g_specialK0 K X12 (pc' := 37) (a := a11) (argsL := [.int d, .int n, .int v]) (rest := [.ref a11]) 1 at_34 rfl (hw _ (List.mem_of_getElem? (i := 12) rfl)) (hw _ (List.mem_of_getElem? (i := 13) rfl)) (hw _ (List.mem_of_getElem? (i := 11) rfl)) (hw _ (List.mem_of_getElem? (i := 14) rfl)) rfl (by decide) (rm_init l Z a0 hw a11 d n v h10 n0 X12.z na15 ⟨A16, F18, F19, F20⟩ hd hn hv) (by decide) (by decide) (by decide) (by decide) (lenOf pd_3 rfl) rfl rfl (Nat.le_of_ble_eq_true rfl) (fun T22 h24 X23 Kp25 hP21 => ?_)
  have f26 := Exa.keep A16 Kp25
  obtain ⟨e27, u28, u29, u30⟩ := hP21
  refine g_astore K X23 (pc' := 39) (L' := #[.val (.int p1), .val (.int p2), .val (.int p3), .val (.int p4), .val (.int d), .val (.int n), .val (.int v), .val (.int q), .val (.ref a11), .unset, .unset, .unset]) at_37 rfl rfl rfl ?_
  refine g_aload K X23 (pc' := 41) at_39 rfl rfl rfl ?_
  refine g_iload K X23 (pc' := 43) at_41 rfl rfl ?_
  refine g_virtualKA K X23 (pc' := 46) (a := a11) (argsL := [.int q]) (rest := []) 0 at_43 rfl (hw _ (List.mem_of_getElem? (i := 42) rfl)) (hw _ (List.mem_of_getElem? (i := 43) rfl)) (hw _ (List.mem_of_getElem? (i := 45) rfl)) (hw _ (List.mem_of_getElem? (i := 44) rfl)) (hw _ (List.mem_of_getElem? (i := 11) rfl)) (hw _ (List.mem_of_getElem? (i := 46) rfl)) (by decide) e27 (rm_with l Z a0 hw a11 q d n v h24 n0 X23.z ⟨e27, u28, u29, u30⟩ hq hd hn hv) (by decide) (by decide) (by decide) (by decide) (lenOf pd_5 rfl) rfl rfl (Nat.le_of_ble_eq_true rfl) (fun a32 T33 h35 X34 Kp36 hP31 => ?_)
  have f37 := Exa.keep e27 Kp36
  have f38 := Fld.keep u28 Kp36 nin0
  have f39 := Fld.keep u29 Kp36 nin0
  have f40 := Fld.keep u30 Kp36 nin0
  obtain ⟨g41, e42, u43, u44, u45⟩ := hP31
  refine g_astore K X34 (pc' := 48) (L' := #[.val (.int p1), .val (.int p2), .val (.int p3), .val (.int p4), .val (.int d), .val (.int n), .val (.int v), .val (.int q), .val (.ref a11), .val (.ref a32), .unset, .unset]) at_46 rfl rfl rfl ?_
  refine g_aload K X34 (pc' := 50) at_48 rfl rfl rfl ?_
  refine g_virtualI K X34 (pc' := 53) (a := a32) (argsL := []) (rest := []) 0 at_50 rfl (hw _ (List.mem_of_getElem? (i := 49) rfl)) (hw _ (List.mem_of_getElem? (i := 50) rfl)) (hw _ (List.mem_of_getElem? (i := 52) rfl)) (hw _ (List.mem_of_getElem? (i := 51) rfl)) (hw _ (List.mem_of_getElem? (i := 11) rfl)) (hw _ (List.mem_of_getElem? (i := 53) rfl)) (by decide) e42 (rm_depth l Z a0 hw a32 q n v h35 n0 X34.z ⟨e42, u43, u44, u45⟩) (by decide) (by decide) (by decide) (by decide) (lenOf pd_6 rfl) rfl rfl (Nat.le_of_ble_eq_true rfl) (fun r46 T48 X49 hP47 => ?_)
  refine g_iload K X49 (pc' := 55) at_53 rfl rfl ?_
  refine g_icmp_ne K X49 (pc' := 82) (pc'' := 58) r46.toInt q.toInt at_55 (by decide) rfl rfl rfl ?_ ?_
  · intro b55
    exact absurd (congrArg Int32.toInt hP47) b55
  · intro b55
    refine g_aload K X49 (pc' := 60) at_58 rfl rfl rfl ?_
    refine g_virtualI K X49 (pc' := 63) (a := a32) (argsL := []) (rest := []) 0 at_60 rfl (hw _ (List.mem_of_getElem? (i := 54) rfl)) (hw _ (List.mem_of_getElem? (i := 55) rfl)) (hw _ (List.mem_of_getElem? (i := 57) rfl)) (hw _ (List.mem_of_getElem? (i := 56) rfl)) (hw _ (List.mem_of_getElem? (i := 11) rfl)) (hw _ (List.mem_of_getElem? (i := 58) rfl)) (by decide) e42 (rm_length l Z a0 hw a32 q n v h35 n0 X49.z ⟨e42, u43, u44, u45⟩) (by decide) (by decide) (by decide) (by decide) (lenOf pd_6 rfl) rfl rfl (Nat.le_of_ble_eq_true rfl) (fun r50 T52 X53 hP51 => ?_)
    refine g_iload K X53 (pc' := 65) at_63 rfl rfl ?_
    refine g_icmp_ne K X53 (pc' := 82) (pc'' := 68) r50.toInt n.toInt at_65 (by decide) rfl rfl rfl ?_ ?_
    · intro b65
      exact absurd (congrArg Int32.toInt hP51) b65
    · intro b65
      refine g_aload K X53 (pc' := 70) at_68 rfl rfl rfl ?_
      refine g_virtualI K X53 (pc' := 73) (a := a32) (argsL := []) (rest := []) 0 at_70 rfl (hw _ (List.mem_of_getElem? (i := 59) rfl)) (hw _ (List.mem_of_getElem? (i := 60) rfl)) (hw _ (List.mem_of_getElem? (i := 62) rfl)) (hw _ (List.mem_of_getElem? (i := 61) rfl)) (hw _ (List.mem_of_getElem? (i := 11) rfl)) (hw _ (List.mem_of_getElem? (i := 63) rfl)) (by decide) e42 (rm_values l Z a0 hw a32 q n v h35 n0 X53.z ⟨e42, u43, u44, u45⟩) (by decide) (by decide) (by decide) (by decide) (lenOf pd_6 rfl) rfl rfl (Nat.le_of_ble_eq_true rfl) (fun r54 T56 X57 hP55 => ?_)
      refine g_iload K X57 (pc' := 75) at_73 rfl rfl ?_
      refine g_icmp_ne K X57 (pc' := 82) (pc'' := 78) r54.toInt v.toInt at_75 (by decide) rfl rfl rfl ?_ ?_
      · intro b75
        exact absurd (congrArg Int32.toInt hP55) b75
      · intro b75
        refine g_iconst K X57 (pc' := 79) (v := (1 : Int32)) at_78 rfl rfl ?_
        refine g_goto K X57 (pc' := 83) at_79 (by decide) ?_
        refine g_istore K X57 (pc' := 85) (L' := #[.val (.int p1), .val (.int p2), .val (.int p3), .val (.int p4), .val (.int d), .val (.int n), .val (.int v), .val (.int q), .val (.ref a11), .val (.ref a32), .val (.int (1 : Int32)), .unset]) at_83 rfl rfl ?_
        refine g_aload K X57 (pc' := 87) at_85 rfl rfl rfl ?_
        refine g_virtualI K X57 (pc' := 90) (a := a11) (argsL := []) (rest := []) 0 at_87 rfl (hw _ (List.mem_of_getElem? (i := 49) rfl)) (hw _ (List.mem_of_getElem? (i := 50) rfl)) (hw _ (List.mem_of_getElem? (i := 52) rfl)) (hw _ (List.mem_of_getElem? (i := 51) rfl)) (hw _ (List.mem_of_getElem? (i := 11) rfl)) (hw _ (List.mem_of_getElem? (i := 53) rfl)) (by decide) f37 (rm_depth l Z a0 hw a11 d n v h35 n0 X57.z ⟨f37, f38, f39, f40⟩) (by decide) (by decide) (by decide) (by decide) (lenOf pd_6 rfl) rfl rfl (Nat.le_of_ble_eq_true rfl) (fun r58 T60 X61 hP59 => ?_)
        refine g_iload K X61 (pc' := 92) at_90 rfl rfl ?_
        refine g_icmp_ne K X61 (pc' := 119) (pc'' := 95) r58.toInt d.toInt at_92 (by decide) rfl rfl rfl ?_ ?_
        · intro b92
          exact absurd (congrArg Int32.toInt hP59) b92
        · intro b92
          refine g_aload K X61 (pc' := 97) at_95 rfl rfl rfl ?_
          refine g_virtualI K X61 (pc' := 100) (a := a11) (argsL := []) (rest := []) 0 at_97 rfl (hw _ (List.mem_of_getElem? (i := 54) rfl)) (hw _ (List.mem_of_getElem? (i := 55) rfl)) (hw _ (List.mem_of_getElem? (i := 57) rfl)) (hw _ (List.mem_of_getElem? (i := 56) rfl)) (hw _ (List.mem_of_getElem? (i := 11) rfl)) (hw _ (List.mem_of_getElem? (i := 58) rfl)) (by decide) f37 (rm_length l Z a0 hw a11 d n v h35 n0 X61.z ⟨f37, f38, f39, f40⟩) (by decide) (by decide) (by decide) (by decide) (lenOf pd_6 rfl) rfl rfl (Nat.le_of_ble_eq_true rfl) (fun r62 T64 X65 hP63 => ?_)
          refine g_iload K X65 (pc' := 102) at_100 rfl rfl ?_
          refine g_icmp_ne K X65 (pc' := 119) (pc'' := 105) r62.toInt n.toInt at_102 (by decide) rfl rfl rfl ?_ ?_
          · intro b102
            exact absurd (congrArg Int32.toInt hP63) b102
          · intro b102
            refine g_aload K X65 (pc' := 107) at_105 rfl rfl rfl ?_
            refine g_virtualI K X65 (pc' := 110) (a := a11) (argsL := []) (rest := []) 0 at_107 rfl (hw _ (List.mem_of_getElem? (i := 59) rfl)) (hw _ (List.mem_of_getElem? (i := 60) rfl)) (hw _ (List.mem_of_getElem? (i := 62) rfl)) (hw _ (List.mem_of_getElem? (i := 61) rfl)) (hw _ (List.mem_of_getElem? (i := 11) rfl)) (hw _ (List.mem_of_getElem? (i := 63) rfl)) (by decide) f37 (rm_values l Z a0 hw a11 d n v h35 n0 X65.z ⟨f37, f38, f39, f40⟩) (by decide) (by decide) (by decide) (by decide) (lenOf pd_6 rfl) rfl rfl (Nat.le_of_ble_eq_true rfl) (fun r66 T68 X69 hP67 => ?_)
            refine g_iload K X69 (pc' := 112) at_110 rfl rfl ?_
            refine g_icmp_ne K X69 (pc' := 119) (pc'' := 115) r66.toInt v.toInt at_112 (by decide) rfl rfl rfl ?_ ?_
            · intro b112
              exact absurd (congrArg Int32.toInt hP67) b112
            · intro b112
              refine g_iconst K X69 (pc' := 116) (v := (1 : Int32)) at_115 rfl rfl ?_
              refine g_goto K X69 (pc' := 120) at_116 (by decide) ?_
              refine g_istore K X69 (pc' := 122) (L' := #[.val (.int p1), .val (.int p2), .val (.int p3), .val (.int p4), .val (.int d), .val (.int n), .val (.int v), .val (.int q), .val (.ref a11), .val (.ref a32), .val (.int (1 : Int32)), .val (.int (1 : Int32))]) at_120 rfl rfl ?_
              refine g_iload K X69 (pc' := 124) at_122 rfl rfl ?_
              refine g_if_eq K X69 (pc' := 136) (pc'' := 127) 1 at_124 (by decide) rfl rfl ?_ ?_
              · intro b124
                omega
              · intro b124
                refine g_iload K X69 (pc' := 129) at_127 rfl rfl ?_
                refine g_if_eq K X69 (pc' := 136) (pc'' := 132) 1 at_129 (by decide) rfl rfl ?_ ?_
                · intro b129
                  omega
                · intro b129
                  refine g_iconst K X69 (pc' := 133) (v := (1 : Int32)) at_132 rfl rfl ?_
                  refine g_goto K X69 (pc' := 137) at_133 (by decide) ?_
                  exact g_retN K X69 at_137 (by simp) (by decide) (by decide) rfl

set_option maxRecDepth 65536 in
set_option maxHeartbeats 40000000 in
theorem comes_1 {Post : Tables → Env → Array Value → State → Outcome → State → Prop} (hpost : ∀ tb e args s v u, (limb_1_1.after args s (.returned v) u = true ∧ limb_1_2.after args s (.returned v) u = true ∧ True) → ReturnedEndW s (.returned v) u (Jvm.fieldLocs frame_1_writes args s ++ Jvm.arrayLocs frame_1_arrays args s ++ Jvm.staticLocs frame_1_statics s) 24 3200 → Post tb e args s (.returned v) u) :
    ArmFor flags0 classFile x code maxLocals ret World_1 tables_1 room_1 Calls_1 rest_1 Pre_1 Post := by
  intro l hfl _ _ p e ha hc hk s m args below hf hA hF happ hP
  obtain ⟨hcalls, hrest, hpre⟩ := hP
  obtain ⟨-, -, -, hnamed, -, -, -, hat⟩ := (Spec.applies_iff hf).mp happ
  obtain ⟨hg, hn⟩ := and_e (Cond.before_iff.mp (show (Jvm.Cond.and given_1 narrow_1).before args s = true from hpre))
  obtain ⟨g0, r0⟩ := and_e hg
  obtain ⟨g1, r1⟩ := and_e r0
  obtain ⟨g2, r2⟩ := and_e r1
  obtain ⟨g3, r3⟩ := and_e r2
  obtain ⟨w0, w1, w2, w3, rfl⟩ : ∃ w0 w1 w2 w3 : Value, args = #[w0, w1, w2, w3] := by
    have hs : args.size = 4 := by simpa [Cond.value, given_1] using g0
    obtain ⟨L⟩ := args
    match L, hs with
    | [w0, w1, w2, w3], _ => exact ⟨w0, w1, w2, w3, rfl⟩
  have hw := fun d (hd : d ∈ tables_1) => atoms_spec (ws := Jvm.Cond.code x code maxLocals ret :: tables_1) hat d (List.mem_cons_of_mem _ hd)
  obtain ⟨i0, ei0⟩ := is_v g1
  obtain rfl : w0 = (.int i0) := Option.some.inj ei0
  obtain ⟨i1, ei1⟩ := is_v g2
  obtain rfl : w1 = (.int i1) := Option.some.inj ei1
  obtain ⟨i2, ei2⟩ := is_v g3
  obtain rfl : w2 = (.int i2) := Option.some.inj ei2
  obtain ⟨i3, ei3⟩ := is_v r3
  obtain rfl : w3 = (.int i3) := Option.some.inj ei3
  obtain ⟨n, o, h1, h2, h3, _, L, rfl, ⟨rfl, N⟩, hq⟩ := rm0 l s _ hw i0 i1 i2 i3 s.heap s.heap.size (Nat.le_refl _) tables_1 p e ha hc hk s m _ below hf ((Spec.applies_iff_loose hf).mp happ).1 ⟨rfl, State.Warmed39.refl s, rfl⟩ trivial
  refine ⟨n, _, h1, h2, h3, hpost _ _ _ _ _ _ ⟨Cond.after_iff.mpr rfl, Cond.after_iff.mpr (eq_i res_at (Term.int_eval (1)) rfl), trivial⟩ ⟨hq.1, hq.2.1, hq.2.2.1, (hq.2.2.2.sift fun y hy => Or.inr (N y hy)).mono (by decide) (by decide)⟩⟩
theorem main_1_1 : Claimed_1_1 := comes_1 fun _ _ _ _ _ _ h hF => ⟨h.1, hF⟩
theorem main_1_2 : Claimed_1_2 := comes_1 fun _ _ _ _ _ _ h hF => ⟨h.2.1, hF⟩
end Jvm.Pilot.@@N@@
namespace Jvm.Pilot.@@N@@
open Jvm Jvm.ClassFile Sem Op Lib Jvm.Free Jvm.Stand Jvm.Pilot.@@N@@.Jvm.D
/-! MADE BY PROGRAM (witnessworld.py) out of the Statement's table words and the real class files: 16 classes; the members and pool entries that the words name. The judged class is class 1, her method 2. -/
namespace start1
open Jvm.ClassFile
def u (s : String) : CpInfo := .utf8 (stringToUtf16 s)
/-- a pool by its gaps: so many unusable entries, then the entry; so many at the end -/
def gap : Nat → List CpInfo → List CpInfo
  | 0, r => r
  | n + 1, r => .unusable :: gap n r
def poolList (es : List (Nat × CpInfo)) (last : Nat) : List CpInfo := es.foldr (fun e r => gap e.1 (e.2 :: r)) (gap last [])
def pool (es : List (Nat × CpInfo)) (last : Nat) : Array CpInfo := ⟨poolList es last⟩
def fileOf (pool : Array CpInfo) (this : Nat) (attrs : Array Attribute := #[]) (ms : Array MethodInfo := #[]) (fl : Nat := 33) (sup : Nat := 0) (ifs : Array Nat := #[]) (fds : Array FieldInfo := #[]) : ClassFile where
  minorVersion := 0
  majorVersion := 65
  constantPool := pool
  accessFlags := fl
  thisClass := this
  superClass := sup
  interfaces := ifs
  fields := fds
  methods := ms
  attributes := attrs
def plain (name : String) (sup : Option ClassId) : Class where
  name := name
  kind := .ordinary
  loader := none
  accessFlags := 33
  super := sup
  interfaces := #[]
  cf := none
  fields := #[]
  methods := #[]
  instanceTypes := #[]
  staticTypes := #[]
  resolved := #[]
  callSites := []
  init := .initialized
  statics := none
  mirror := none

def pool0 : Array CpInfo := pool [(5, u "<init>"), (0, u "()V"), (1, .class_ 10), (1, u "java/lang/Object")] 113

def k0c0 : Code := { maxStack := 0, maxLocals := 1, code := object_method_1_code, exceptionTable := #[], attributes := #[] }
def k0m0 : Method := { name := "<init>", desc := "()V", sig := { parameters := [], returnType := none }, accessFlags := 1, code := some k0c0 }
/-- java/lang/Object -/
def k0 : Class := { plain "java/lang/Object" none with
  accessFlags := 33
  interfaces := #[]
  cf := some (fileOf pool0 8 #[] #[{ accessFlags := 1, nameIndex := 5, descriptorIndex := 6, attributes := #[] }] 33 0 #[] #[])
  fields := #[]
  methods := #[k0m0]
  instanceTypes := #[]
  staticTypes := #[]
  resolved := Array.replicate 124 none
  statics := none }

def pool1 : Array CpInfo := pool [(2, .class_ 4), (1, u "java/lang/Object"), (0, u "<init>"), (0, u "()V"), (0, .integer 2147483647), (0, .methodref 9 10), (0, .class_ 11), (0, .nameAndType 12 13), (0, u "java/lang/Math"), (0, u "max"), (0, u "(II)I"), (0, .methodref 15 16), (0, .class_ 17), (0, .nameAndType 18 19), (0, u "com/example/kilnwright/kilnwright/ReadingLimitsWithDepthPinLaw"), (0, u "atLeastOne"), (0, u "(I)I"), (0, .class_ 21), (0, u "com/example/kilnwright/kilnwright/ReadingLimits"), (0, .methodref 20 23), (0, .nameAndType 5 24), (0, u "(III)V"), (0, .methodref 20 26), (0, .nameAndType 27 28), (0, u "withDepth"), (0, u "(I)Lcom/example/kilnwright/kilnwright/ReadingLimits;"), (0, .methodref 20 30), (0, .nameAndType 31 32), (0, u "depth"), (0, u "()I"), (0, .methodref 20 34), (0, .nameAndType 35 32), (0, u "length"), (0, .methodref 20 37), (0, .nameAndType 38 32), (0, u "values"), (2, u "law"), (0, u "(IIII)Z")] 3

def k1m0 : Method := { name := "<init>", desc := "()V", sig := { parameters := [], returnType := none }, accessFlags := 1, code := none }
def k1c1 : Code := { maxStack := 2, maxLocals := 1, code := method_2_code, exceptionTable := #[], attributes := #[] }
def k1m1 : Method := { name := "atLeastOne", desc := "(I)I", sig := { parameters := [.int], returnType := some .int }, accessFlags := 10, code := some k1c1 }
def k1c2 : Code := { maxStack := 5, maxLocals := 12, code := code, exceptionTable := #[], attributes := #[] }
def k1m2 : Method := { name := "law", desc := "(IIII)Z", sig := { parameters := [.int, .int, .int, .int], returnType := some .boolean }, accessFlags := 9, code := some k1c2 }
/-- com/example/kilnwright/kilnwright/ReadingLimitsWithDepthPinLaw -/
def k1 : Class := { plain "com/example/kilnwright/kilnwright/ReadingLimitsWithDepthPinLaw" (some 0) with
  accessFlags := 49
  interfaces := #[]
  cf := some (fileOf pool1 15 #[] #[{ accessFlags := 1, nameIndex := 5, descriptorIndex := 6, attributes := #[] }, { accessFlags := 10, nameIndex := 18, descriptorIndex := 19, attributes := #[] }, { accessFlags := 9, nameIndex := 41, descriptorIndex := 42, attributes := #[] }] 49 2 #[] #[])
  fields := #[]
  methods := #[k1m0, k1m1, k1m2]
  instanceTypes := #[]
  staticTypes := #[]
  resolved := Array.replicate 46 none
  statics := none }

def pool2 : Array CpInfo := pool [(1, .class_ 2), (0, u "java/lang/Math"), (1, .class_ 6), (1, u "java/lang/Object"), (0, u "<init>"), (0, u "()V"), (89, .class_ 100), (1, u "java/lang/Math$RandomNumberGeneratorHolder"), (71, u "negativeZeroFloatBits"), (0, u "J"), (2, u "negativeZeroDoubleBits"), (21, u "max"), (46, u "$assertionsDisabled"), (0, u "Z"), (88, u "(II)I"), (2, u "twoToTheDoubleScaleDown"), (0, u "D"), (4, u "twoToTheDoubleScaleUp"), (9, u "E"), (3, u "PI"), (2, u "TAU"), (2, u "DEGREES_TO_RADIANS"), (0, u "RADIANS_TO_DEGREES")] 94

def k2m0 : Method := { name := "<init>", desc := "()V", sig := { parameters := [], returnType := none }, accessFlags := 2, code := none }
def k2c1 : Code := { maxStack := 2, maxLocals := 2, code := jdk_29_method_65_code, exceptionTable := #[], attributes := #[] }
def k2m1 : Method := { name := "max", desc := "(II)I", sig := { parameters := [.int, .int], returnType := some .int }, accessFlags := 9, code := some k2c1 }
/-- java/lang/Math -/
def k2 : Class := { plain "java/lang/Math" (some 0) with
  accessFlags := 49
  interfaces := #[]
  cf := some (fileOf pool2 1 #[.nestMembers #[98]] #[{ accessFlags := 2, nameIndex := 7, descriptorIndex := 8, attributes := #[] }, { accessFlags := 9, nameIndex := 198, descriptorIndex := 335, attributes := #[] }] 49 4 #[] #[{ accessFlags := 25, nameIndex := 354, descriptorIndex := 339, attributes := #[] }, { accessFlags := 25, nameIndex := 358, descriptorIndex := 339, attributes := #[] }, { accessFlags := 25, nameIndex := 361, descriptorIndex := 339, attributes := #[] }, { accessFlags := 26, nameIndex := 364, descriptorIndex := 339, attributes := #[] }, { accessFlags := 26, nameIndex := 365, descriptorIndex := 339, attributes := #[] }, { accessFlags := 26, nameIndex := 172, descriptorIndex := 173, attributes := #[] }, { accessFlags := 26, nameIndex := 176, descriptorIndex := 173, attributes := #[] }, { accessFlags := 8, nameIndex := 344, descriptorIndex := 339, attributes := #[] }, { accessFlags := 8, nameIndex := 338, descriptorIndex := 339, attributes := #[] }, { accessFlags := 4120, nameIndex := 245, descriptorIndex := 246, attributes := #[] }])
  fields := #[{ name := "E", type := .double, accessFlags := 25, slot := 0, constantValue := 0 }, { name := "PI", type := .double, accessFlags := 25, slot := 1, constantValue := 0 }, { name := "TAU", type := .double, accessFlags := 25, slot := 2, constantValue := 0 }, { name := "DEGREES_TO_RADIANS", type := .double, accessFlags := 26, slot := 3, constantValue := 0 }, { name := "RADIANS_TO_DEGREES", type := .double, accessFlags := 26, slot := 4, constantValue := 0 }, { name := "negativeZeroFloatBits", type := .long, accessFlags := 26, slot := 5, constantValue := 0 }, { name := "negativeZeroDoubleBits", type := .long, accessFlags := 26, slot := 6, constantValue := 0 }, { name := "twoToTheDoubleScaleUp", type := .double, accessFlags := 8, slot := 7, constantValue := 0 }, { name := "twoToTheDoubleScaleDown", type := .double, accessFlags := 8, slot := 8, constantValue := 0 }, { name := "$assertionsDisabled", type := .boolean, accessFlags := 4120, slot := 9, constantValue := 0 }]
  methods := #[k2m0, k2m1]
  instanceTypes := #[]
  staticTypes := #[.double, .double, .double, .double, .double, .long, .long, .double, .double, .boolean]
  resolved := Array.replicate 460 none
  statics := none }

def pool3 : Array CpInfo := pool [(1, .methodref 2 3), (0, .class_ 4), (0, .nameAndType 5 6), (0, u "java/lang/Object"), (0, u "<init>"), (0, u "()V"), (0, .class_ 8), (0, u "java/lang/Record")] 13

def k3c0 : Code := { maxStack := 1, maxLocals := 1, code := jdk_30_method_1_code, exceptionTable := #[], attributes := #[] }
def k3m0 : Method := { name := "<init>", desc := "()V", sig := { parameters := [], returnType := none }, accessFlags := 4, code := some k3c0 }
/-- java/lang/Record -/
def k3 : Class := { plain "java/lang/Record" (some 0) with
  accessFlags := 1057
  interfaces := #[]
  cf := some (fileOf pool3 7 #[] #[{ accessFlags := 4, nameIndex := 5, descriptorIndex := 6, attributes := #[] }] 1057 2 #[] #[])
  fields := #[]
  methods := #[k3m0]
  instanceTypes := #[]
  staticTypes := #[]
  resolved := Array.replicate 22 none
  statics := none }

def pool4 : Array CpInfo := pool [(1, .methodref 2 3), (0, .class_ 4), (0, .nameAndType 5 6), (0, u "java/lang/Record"), (0, u "<init>"), (0, u "()V"), (0, .string 8), (0, u "Depth"), (0, .methodref 10 11), (0, .class_ 12), (0, .nameAndType 13 14), (0, u "com/example/kilnwright/kilnwright/ReadingLimits"), (0, u "requireAtLeastOne"), (0, u "(Ljava/lang/String;I)V"), (0, .string 16), (0, u "Length"), (0, .string 18), (0, u "Value"), (0, .fieldref 10 20), (0, .nameAndType 21 22), (0, u "depth"), (0, u "I"), (0, .fieldref 10 24), (0, .nameAndType 25 22), (0, u "length"), (0, .fieldref 10 27), (0, .nameAndType 28 22), (0, u "values"), (0, .methodref 10 30), (0, .nameAndType 5 31), (0, u "(III)V"), (25, u "DEFAULTS"), (0, u "Lcom/example/kilnwright/kilnwright/ReadingLimits;"), (3, u "withDepth"), (0, u "(I)Lcom/example/kilnwright/kilnwright/ReadingLimits;"), (4, u "()I")] 32

def k4c0 : Code := { maxStack := 2, maxLocals := 4, code := prog_10_method_1_code, exceptionTable := #[], attributes := #[] }
def k4m0 : Method := { name := "<init>", desc := "(III)V", sig := { parameters := [.int, .int, .int], returnType := none }, accessFlags := 0, code := some k4c0 }
def k4c1 : Code := { maxStack := 5, maxLocals := 2, code := prog_10_method_2_code, exceptionTable := #[], attributes := #[] }
def k4m1 : Method := { name := "withDepth", desc := "(I)Lcom/example/kilnwright/kilnwright/ReadingLimits;", sig := { parameters := [.int], returnType := some (.object "com/example/kilnwright/kilnwright/ReadingLimits") }, accessFlags := 0, code := some k4c1 }
def k4c2 : Code := { maxStack := 4, maxLocals := 2, code := prog_10_method_5_code, exceptionTable := #[], attributes := #[] }
def k4m2 : Method := { name := "requireAtLeastOne", desc := "(Ljava/lang/String;I)V", sig := { parameters := [(.object "java/lang/String"), .int], returnType := none }, accessFlags := 10, code := some k4c2 }
def k4c3 : Code := { maxStack := 1, maxLocals := 1, code := prog_10_method_9_code, exceptionTable := #[], attributes := #[] }
def k4m3 : Method := { name := "depth", desc := "()I", sig := { parameters := [], returnType := some .int }, accessFlags := 1, code := some k4c3 }
def k4c4 : Code := { maxStack := 1, maxLocals := 1, code := prog_10_method_10_code, exceptionTable := #[], attributes := #[] }
def k4m4 : Method := { name := "length", desc := "()I", sig := { parameters := [], returnType := some .int }, accessFlags := 1, code := some k4c4 }
def k4c5 : Code := { maxStack := 1, maxLocals := 1, code := prog_10_method_11_code, exceptionTable := #[], attributes := #[] }
def k4m5 : Method := { name := "values", desc := "()I", sig := { parameters := [], returnType := some .int }, accessFlags := 1, code := some k4c5 }
/-- com/example/kilnwright/kilnwright/ReadingLimits -/
def k4 : Class := { plain "com/example/kilnwright/kilnwright/ReadingLimits" (some 3) with
  accessFlags := 48
  interfaces := #[]
  cf := some (fileOf pool4 10 #[] #[{ accessFlags := 0, nameIndex := 5, descriptorIndex := 31, attributes := #[] }, { accessFlags := 0, nameIndex := 62, descriptorIndex := 63, attributes := #[] }, { accessFlags := 10, nameIndex := 13, descriptorIndex := 14, attributes := #[] }, { accessFlags := 1, nameIndex := 21, descriptorIndex := 68, attributes := #[] }, { accessFlags := 1, nameIndex := 25, descriptorIndex := 68, attributes := #[] }, { accessFlags := 1, nameIndex := 28, descriptorIndex := 68, attributes := #[] }] 48 2 #[] #[{ accessFlags := 18, nameIndex := 21, descriptorIndex := 22, attributes := #[] }, { accessFlags := 18, nameIndex := 25, descriptorIndex := 22, attributes := #[] }, { accessFlags := 18, nameIndex := 28, descriptorIndex := 22, attributes := #[] }, { accessFlags := 24, nameIndex := 57, descriptorIndex := 58, attributes := #[] }])
  fields := #[{ name := "depth", type := .int, accessFlags := 18, slot := 0, constantValue := 0 }, { name := "length", type := .int, accessFlags := 18, slot := 1, constantValue := 0 }, { name := "values", type := .int, accessFlags := 18, slot := 2, constantValue := 0 }, { name := "DEFAULTS", type := (.object "com/example/kilnwright/kilnwright/ReadingLimits"), accessFlags := 24, slot := 0, constantValue := 0 }]
  methods := #[k4m0, k4m1, k4m2, k4m3, k4m4, k4m5]
  instanceTypes := #[.int, .int, .int]
  staticTypes := #[(.object "com/example/kilnwright/kilnwright/ReadingLimits")]
  resolved := Array.replicate 101 none
  statics := none }

def pool5 : Array CpInfo := pool [(1, .class_ 2), (0, u "java/io/Serializable"), (0, .class_ 4), (0, u "java/lang/Object")] 2

/-- java/io/Serializable -/
def k5 : Class := { plain "java/io/Serializable" (some 0) with
  accessFlags := 1537
  interfaces := #[]
  cf := some (fileOf pool5 1 #[] #[] 1537 3 #[] #[])
  fields := #[]
  methods := #[]
  instanceTypes := #[]
  staticTypes := #[]
  resolved := Array.replicate 7 none
  statics := none }

def pool6 : Array CpInfo := pool [(1, .class_ 2), (0, u "java/lang/Comparable"), (0, .class_ 4), (0, u "java/lang/Object")] 7

/-- java/lang/Comparable -/
def k6 : Class := { plain "java/lang/Comparable" (some 0) with
  accessFlags := 1537
  interfaces := #[]
  cf := some (fileOf pool6 1 #[] #[] 1537 3 #[] #[])
  fields := #[]
  methods := #[]
  instanceTypes := #[]
  staticTypes := #[]
  resolved := Array.replicate 12 none
  statics := none }

def pool7 : Array CpInfo := pool [(2, .class_ 4), (1, u "java/lang/CharSequence"), (42, .class_ 48), (0, u "java/lang/CharSequence$1CodePointIterator"), (10, .class_ 60), (0, u "java/lang/CharSequence$1CharIterator"), (5, .class_ 67), (0, u "java/lang/Object")] 63

/-- java/lang/CharSequence -/
def k7 : Class := { plain "java/lang/CharSequence" (some 0) with
  accessFlags := 1537
  interfaces := #[]
  cf := some (fileOf pool7 2 #[.nestMembers #[47, 59]] #[] 1537 66 #[] #[])
  fields := #[]
  methods := #[]
  instanceTypes := #[]
  staticTypes := #[]
  resolved := Array.replicate 131 none
  statics := none }

def pool8 : Array CpInfo := pool [(1, .class_ 2), (0, u "java/lang/constant/Constable"), (0, .class_ 4), (0, u "java/lang/Object")] 6

/-- java/lang/constant/Constable -/
def k8 : Class := { plain "java/lang/constant/Constable" (some 0) with
  accessFlags := 1537
  interfaces := #[]
  cf := some (fileOf pool8 1 #[] #[] 1537 3 #[] #[])
  fields := #[]
  methods := #[]
  instanceTypes := #[]
  staticTypes := #[]
  resolved := Array.replicate 11 none
  statics := none }

def pool9 : Array CpInfo := pool [(1, .class_ 2), (0, u "java/lang/constant/ConstantDesc"), (0, .class_ 4), (0, u "java/lang/Object")] 32

/-- java/lang/constant/ConstantDesc -/
def k9 : Class := { plain "java/lang/constant/ConstantDesc" (some 0) with
  accessFlags := 1537
  interfaces := #[]
  cf := some (fileOf pool9 1 #[] #[] 1537 3 #[] #[])
  fields := #[]
  methods := #[]
  instanceTypes := #[]
  staticTypes := #[]
  resolved := Array.replicate 37 none
  statics := none }

def pool10 : Array CpInfo := pool [(2, .class_ 4), (1, u "java/lang/Object"), (0, u "<init>"), (0, u "()V"), (3, .class_ 12), (1, u "java/lang/String"), (0, u "value"), (0, u "[B"), (2, u "coder"), (0, u "B"), (2, u "hash"), (0, u "I"), (2, u "hashIsZero"), (0, u "Z"), (13, u "COMPACT_STRINGS"), (534, .class_ 576), (0, u "java/lang/CharSequence"), (22, u "CASE_INSENSITIVE_ORDER"), (0, u "Ljava/util/Comparator;"), (500, u "serialPersistentFields"), (0, u "[Ljava/io/ObjectStreamField;"), (0, .class_ 1104), (0, u "java/lang/String$CaseInsensitiveComparator"), (1, .class_ 1107), (0, u "java/io/Serializable"), (0, .class_ 1109), (0, u "java/lang/Comparable"), (0, .class_ 1111), (0, u "java/lang/constant/Constable"), (0, .class_ 1113), (0, u "java/lang/constant/ConstantDesc"), (2, u "serialVersionUID"), (0, u "J"), (3, u "REPL"), (0, u "C"), (2, u "LATIN1"), (1, u "UTF16")] 323

def k10m0 : Method := { name := "<init>", desc := "()V", sig := { parameters := [], returnType := none }, accessFlags := 1, code := none }
/-- java/lang/String -/
def k10 : Class := { plain "java/lang/String" (some 0) with
  accessFlags := 49
  interfaces := #[5, 6, 7, 8, 9]
  cf := some (fileOf pool10 10 #[.nestMembers #[1103]] #[{ accessFlags := 1, nameIndex := 5, descriptorIndex := 6, attributes := #[] }] 49 2 #[1106, 1108, 575, 1110, 1112] #[{ accessFlags := 18, nameIndex := 13, descriptorIndex := 14, attributes := #[] }, { accessFlags := 18, nameIndex := 17, descriptorIndex := 18, attributes := #[] }, { accessFlags := 2, nameIndex := 21, descriptorIndex := 22, attributes := #[] }, { accessFlags := 2, nameIndex := 25, descriptorIndex := 26, attributes := #[] }, { accessFlags := 26, nameIndex := 1116, descriptorIndex := 1117, attributes := #[] }, { accessFlags := 24, nameIndex := 40, descriptorIndex := 26, attributes := #[] }, { accessFlags := 26, nameIndex := 1101, descriptorIndex := 1102, attributes := #[] }, { accessFlags := 26, nameIndex := 1121, descriptorIndex := 1122, attributes := #[] }, { accessFlags := 25, nameIndex := 599, descriptorIndex := 600, attributes := #[] }, { accessFlags := 24, nameIndex := 1125, descriptorIndex := 18, attributes := #[] }, { accessFlags := 24, nameIndex := 1127, descriptorIndex := 18, attributes := #[] }])
  fields := #[{ name := "value", type := (.array .byte), accessFlags := 18, slot := 0, constantValue := 0 }, { name := "coder", type := .byte, accessFlags := 18, slot := 1, constantValue := 0 }, { name := "hash", type := .int, accessFlags := 2, slot := 2, constantValue := 0 }, { name := "hashIsZero", type := .boolean, accessFlags := 2, slot := 3, constantValue := 0 }, { name := "serialVersionUID", type := .long, accessFlags := 26, slot := 0, constantValue := 0 }, { name := "COMPACT_STRINGS", type := .boolean, accessFlags := 24, slot := 1, constantValue := 0 }, { name := "serialPersistentFields", type := (.array (.object "java/io/ObjectStreamField")), accessFlags := 26, slot := 2, constantValue := 0 }, { name := "REPL", type := .char, accessFlags := 26, slot := 3, constantValue := 0 }, { name := "CASE_INSENSITIVE_ORDER", type := (.object "java/util/Comparator"), accessFlags := 25, slot := 4, constantValue := 0 }, { name := "LATIN1", type := .byte, accessFlags := 24, slot := 5, constantValue := 0 }, { name := "UTF16", type := .byte, accessFlags := 24, slot := 6, constantValue := 0 }]
  methods := #[k10m0]
  instanceTypes := #[(.array .byte), .byte, .int, .boolean]
  staticTypes := #[.long, .boolean, (.array (.object "java/io/ObjectStreamField")), .char, (.object "java/util/Comparator"), .byte, .byte]
  resolved := Array.replicate 1451 none
  statics := none }

def pool11 : Array CpInfo := pool [(1, u "java/lang/Cloneable"), (0, .class_ 1), (0, u "java/lang/Object"), (0, .class_ 3)] 3

/-- java/lang/Cloneable -/
def k11 : Class := { plain "java/lang/Cloneable" (some 0) with
  accessFlags := 1537
  interfaces := #[]
  cf := some (fileOf pool11 2 #[] #[] 1537 4 #[] #[])
  fields := #[]
  methods := #[]
  instanceTypes := #[]
  staticTypes := #[]
  resolved := Array.replicate 8 none
  statics := none }

/-- the primitive byte -/
def k12 : Class := { plain "byte" none with kind := .primitive 'B', accessFlags := 0x411 }
/-- [B -/
def k13 : Class := { plain "[B" (some 0) with kind := .array 12 .byte, interfaces := #[11, 5], accessFlags := 1041 }

/-- the primitive int -/
def k14 : Class := { plain "int" none with kind := .primitive 'I', accessFlags := 0x411 }
/-- [I -/
def k15 : Class := { plain "[I" (some 0) with kind := .array 14 .int, interfaces := #[11, 5], accessFlags := 1041 }

def heap : Heap := #[]
def classes : Array Class := #[k0, k1, k2, k3, k4, k5, k6, k7, k8, k9, k10, k11, k12, k13, k14, k15]
def interned : List (Array UInt16 × Addr) := []
def slotsUsed : Nat := 0
def theMethod : MethodId := ⟨1, 2⟩
def args0 : Array Value := #[.int 5, .int 7, .int 3, .int 2]
def aboutOver (below : List Frame) : State where
  vm := { classes := classes, interned := interned.toArray }
  heap := heap
  slotsUsed := slotsUsed
  threads := #[{ frames := .invoking theMethod args0 :: below }]
def below0 : List Frame := [.native { method := ⟨0, 0⟩, args := #[] }]
def about1 : State := aboutOver below0
def p0 : Program := .bare "" "" ""
def e0 : Env := launch0.env 0 0 0
theorem w_frames : about1.frames = Frame.invoking theMethod args0 :: below0 := rfl
set_option maxRecDepth 65536 in
theorem w_args : argsFit about1.vm theMethod args0 = true := by decide +kernel
set_option maxRecDepth 65536 in
theorem w_heap : heapFits about1 = true := by decide +kernel
set_option maxRecDepth 65536 in
theorem w_runnable : about1.curStatus? = some .runnable := by decide +kernel
set_option maxRecDepth 65536 in
theorem w_alone : about1.alone = true := by decide +kernel
set_option maxRecDepth 65536 in
theorem w_named : about1.methodNamed? x = some theMethod := by decide +kernel
set_option maxRecDepth 65536 in
theorem w_hears : about1.hears theMethod below0 = true := by decide +kernel
set_option maxRecDepth 65536 in
theorem w_ripe : about1.ripe theMethod args0 below0 = true := by decide +kernel
theorem w_running : about1.status = .running := rfl
set_option maxRecDepth 65536 in
theorem w_room : about1.hasRoom e0.platform room_1 = true :=
  launch0.hasRoom_least _ room_1 (by decide +kernel) (by decide +kernel) (by decide +kernel) (by decide +kernel) (by decide +kernel) (by decide +kernel)
theorem allAtoms_all (ts : List Jvm.Cond) (a : Array Jvm.Value) (st : Jvm.State) : (allAtoms ts).before a st = ts.all (fun c => c.before a st) := by
  induction ts with
  | nil => rfl
  | cons c t ih =>
    show (Jvm.Cond.and c (allAtoms t)).before a st = _
    rw [Jvm.Cond.before_and, ih, List.all_cons]
def words1 : List Jvm.Cond := Jvm.Cond.code x code maxLocals ret :: tables_1
/-- a 'code' word, met by the world's own term for the bytes: nothing is compared byte by byte -/
theorem code_word {y : MethodName} {bytes : ByteArray} {mx : Nat} {rt : Option FieldType} {a : Array Value} {s : State} {m : MethodId} {meth : Method} {c : Code} (h1 : s.methodNamed? y = some m) (h2 : s.vm.method? m = some meth) (h3 : meth.code = some c) (h4 : c.code = bytes)
    (h5 : (c.maxLocals == mx && c.exceptionTable.isEmpty && decide (c.maxStack ≤ mostOperands) && decide (meth.sig.returnType = rt) && !meth.locks && decide (parseMethodDescriptor y.desc = some meth.sig)) = true) : (Jvm.Cond.code y bytes mx rt).before a s = true := by
  simp only [Bool.and_eq_true, beq_iff_eq, Bool.not_eq_true', decide_eq_true_eq] at h5
  obtain ⟨⟨⟨⟨⟨g1, g2⟩, g3⟩, g4⟩, g5⟩, g6⟩ := h5
  simp [Cond.before, Cond.holds, Cond.value, h1, h2, h3, h4, g1, g2, g3, g4, g5, g6]
def isCode : Jvm.Cond → Bool
  | .code _ _ _ _ => true
  | _ => false
theorem all_split {L : List Jvm.Cond} {P : Jvm.Cond → Bool} (h1 : L.all (fun c => isCode c || P c) = true) (h2 : ∀ c ∈ L.filter isCode, P c = true) : L.all P = true := by
  refine List.all_eq_true.mpr fun c hc => ?_
  have h := List.all_eq_true.mp h1 c hc
  rcases Bool.eq_false_or_eq_true (isCode c) with hi | hi
  · exact h2 c (List.mem_filter.mpr ⟨hc, hi⟩)
  · simpa [hi] using h
set_option maxRecDepth 65536 in
theorem w_c0 : (Jvm.Cond.code x code maxLocals ret).before args0 about1 = true := code_word (m := ⟨1, 2⟩) (meth := k1m2) (c := k1c2) (by decide +kernel) rfl rfl rfl (by decide +kernel)
set_option maxRecDepth 65536 in
theorem w_c1 : (Jvm.Cond.code ({ cls := "com/example/kilnwright/kilnwright/ReadingLimitsWithDepthPinLaw", name := "atLeastOne", desc := "(I)I" } : Jvm.MethodName) method_2_code (1 : Nat) (Option.some Jvm.ClassFile.FieldType.int)).before args0 about1 = true := code_word (m := ⟨1, 1⟩) (meth := k1m1) (c := k1c1) (by decide +kernel) rfl rfl rfl (by decide +kernel)
set_option maxRecDepth 65536 in
theorem w_c2 : (Jvm.Cond.code ({ cls := "java/lang/Math", name := "max", desc := "(II)I" } : Jvm.MethodName) jdk_29_method_65_code (2 : Nat) (Option.some Jvm.ClassFile.FieldType.int)).before args0 about1 = true := code_word (m := ⟨2, 1⟩) (meth := k2m1) (c := k2c1) (by decide +kernel) rfl rfl rfl (by decide +kernel)
set_option maxRecDepth 65536 in
theorem w_c3 : (Jvm.Cond.code ({ cls := "com/example/kilnwright/kilnwright/ReadingLimits", name := "<init>", desc := "(III)V" } : Jvm.MethodName) prog_10_method_1_code (4 : Nat) (Option.none : Option Jvm.ClassFile.FieldType)).before args0 about1 = true := code_word (m := ⟨4, 0⟩) (meth := k4m0) (c := k4c0) (by decide +kernel) rfl rfl rfl (by decide +kernel)
set_option maxRecDepth 65536 in
theorem w_c4 : (Jvm.Cond.code ({ cls := "java/lang/Record", name := "<init>", desc := "()V" } : Jvm.MethodName) jdk_30_method_1_code (1 : Nat) (Option.none : Option Jvm.ClassFile.FieldType)).before args0 about1 = true := code_word (m := ⟨3, 0⟩) (meth := k3m0) (c := k3c0) (by decide +kernel) rfl rfl rfl (by decide +kernel)
set_option maxRecDepth 65536 in
theorem w_c5 : (Jvm.Cond.code ({ cls := "java/lang/Object", name := "<init>", desc := "()V" } : Jvm.MethodName) object_method_1_code (1 : Nat) (Option.none : Option Jvm.ClassFile.FieldType)).before args0 about1 = true := code_word (m := ⟨0, 0⟩) (meth := k0m0) (c := k0c0) (by decide +kernel) rfl rfl rfl (by decide +kernel)
set_option maxRecDepth 65536 in
theorem w_c6 : (Jvm.Cond.code ({ cls := "com/example/kilnwright/kilnwright/ReadingLimits", name := "requireAtLeastOne", desc := "(Ljava/lang/String;I)V" } : Jvm.MethodName) prog_10_method_5_code (2 : Nat) (Option.none : Option Jvm.ClassFile.FieldType)).before args0 about1 = true := code_word (m := ⟨4, 2⟩) (meth := k4m2) (c := k4c2) (by decide +kernel) rfl rfl rfl (by decide +kernel)
set_option maxRecDepth 65536 in
theorem w_c7 : (Jvm.Cond.code ({ cls := "com/example/kilnwright/kilnwright/ReadingLimits", name := "withDepth", desc := "(I)Lcom/example/kilnwright/kilnwright/ReadingLimits;" } : Jvm.MethodName) prog_10_method_2_code (2 : Nat) (Option.some (Jvm.ClassFile.FieldType.object "com/example/kilnwright/kilnwright/ReadingLimits"))).before args0 about1 = true := code_word (m := ⟨4, 1⟩) (meth := k4m1) (c := k4c1) (by decide +kernel) rfl rfl rfl (by decide +kernel)
set_option maxRecDepth 65536 in
theorem w_c8 : (Jvm.Cond.code ({ cls := "com/example/kilnwright/kilnwright/ReadingLimits", name := "depth", desc := "()I" } : Jvm.MethodName) prog_10_method_9_code (1 : Nat) (Option.some Jvm.ClassFile.FieldType.int)).before args0 about1 = true := code_word (m := ⟨4, 3⟩) (meth := k4m3) (c := k4c3) (by decide +kernel) rfl rfl rfl (by decide +kernel)
set_option maxRecDepth 65536 in
theorem w_c9 : (Jvm.Cond.code ({ cls := "com/example/kilnwright/kilnwright/ReadingLimits", name := "length", desc := "()I" } : Jvm.MethodName) prog_10_method_10_code (1 : Nat) (Option.some Jvm.ClassFile.FieldType.int)).before args0 about1 = true := code_word (m := ⟨4, 4⟩) (meth := k4m4) (c := k4c4) (by decide +kernel) rfl rfl rfl (by decide +kernel)
set_option maxRecDepth 65536 in
theorem w_c10 : (Jvm.Cond.code ({ cls := "com/example/kilnwright/kilnwright/ReadingLimits", name := "values", desc := "()I" } : Jvm.MethodName) prog_10_method_11_code (1 : Nat) (Option.some Jvm.ClassFile.FieldType.int)).before args0 about1 = true := code_word (m := ⟨4, 5⟩) (meth := k4m5) (c := k4c5) (by decide +kernel) rfl rfl rfl (by decide +kernel)
def codes1 : List Jvm.Cond := [Jvm.Cond.code x code maxLocals ret, Jvm.Cond.code ({ cls := "com/example/kilnwright/kilnwright/ReadingLimitsWithDepthPinLaw", name := "atLeastOne", desc := "(I)I" } : Jvm.MethodName) method_2_code (1 : Nat) (Option.some Jvm.ClassFile.FieldType.int), Jvm.Cond.code ({ cls := "java/lang/Math", name := "max", desc := "(II)I" } : Jvm.MethodName) jdk_29_method_65_code (2 : Nat) (Option.some Jvm.ClassFile.FieldType.int), Jvm.Cond.code ({ cls := "com/example/kilnwright/kilnwright/ReadingLimits", name := "<init>", desc := "(III)V" } : Jvm.MethodName) prog_10_method_1_code (4 : Nat) (Option.none : Option Jvm.ClassFile.FieldType), Jvm.Cond.code ({ cls := "java/lang/Record", name := "<init>", desc := "()V" } : Jvm.MethodName) jdk_30_method_1_code (1 : Nat) (Option.none : Option Jvm.ClassFile.FieldType), Jvm.Cond.code ({ cls := "java/lang/Object", name := "<init>", desc := "()V" } : Jvm.MethodName) object_method_1_code (1 : Nat) (Option.none : Option Jvm.ClassFile.FieldType), Jvm.Cond.code ({ cls := "com/example/kilnwright/kilnwright/ReadingLimits", name := "requireAtLeastOne", desc := "(Ljava/lang/String;I)V" } : Jvm.MethodName) prog_10_method_5_code (2 : Nat) (Option.none : Option Jvm.ClassFile.FieldType), Jvm.Cond.code ({ cls := "com/example/kilnwright/kilnwright/ReadingLimits", name := "withDepth", desc := "(I)Lcom/example/kilnwright/kilnwright/ReadingLimits;" } : Jvm.MethodName) prog_10_method_2_code (2 : Nat) (Option.some (Jvm.ClassFile.FieldType.object "com/example/kilnwright/kilnwright/ReadingLimits")), Jvm.Cond.code ({ cls := "com/example/kilnwright/kilnwright/ReadingLimits", name := "depth", desc := "()I" } : Jvm.MethodName) prog_10_method_9_code (1 : Nat) (Option.some Jvm.ClassFile.FieldType.int), Jvm.Cond.code ({ cls := "com/example/kilnwright/kilnwright/ReadingLimits", name := "length", desc := "()I" } : Jvm.MethodName) prog_10_method_10_code (1 : Nat) (Option.some Jvm.ClassFile.FieldType.int), Jvm.Cond.code ({ cls := "com/example/kilnwright/kilnwright/ReadingLimits", name := "values", desc := "()I" } : Jvm.MethodName) prog_10_method_11_code (1 : Nat) (Option.some Jvm.ClassFile.FieldType.int)]
set_option maxRecDepth 65536 in
theorem codes_eq : words1.filter isCode = codes1 := rfl
theorem w_codes : ∀ c ∈ words1.filter isCode, c.before args0 about1 = true := by
  rw [codes_eq]
  intro c hc
  simp only [codes1, List.mem_cons, List.not_mem_nil, or_false] at hc
  rcases hc with rfl | rfl | rfl | rfl | rfl | rfl | rfl | rfl | rfl | rfl | rfl
  · exact w_c0
  · exact w_c1
  · exact w_c2
  · exact w_c3
  · exact w_c4
  · exact w_c5
  · exact w_c6
  · exact w_c7
  · exact w_c8
  · exact w_c9
  · exact w_c10
set_option maxRecDepth 65536 in
theorem w_t1 : (words1.take 24).all (fun c => isCode c || c.before args0 about1) = true := by decide +kernel
set_option maxRecDepth 65536 in
theorem w_t2 : ((words1.drop 24).take 24).all (fun c => isCode c || c.before args0 about1) = true := by decide +kernel
set_option maxRecDepth 65536 in
theorem w_t3 : ((words1.drop 24).drop 24).all (fun c => isCode c || c.before args0 about1) = true := by decide +kernel
theorem w_tables : (allAtoms (Jvm.Cond.code x code maxLocals ret :: tables_1)).before args0 about1 = true := by
  rw [allAtoms_all]
  show words1.all (fun c => c.before args0 about1) = true
  refine all_split ?_ w_codes
  rw [← List.take_append_drop 24 words1, List.all_append, w_t1, ← List.take_append_drop 24 (words1.drop 24), List.all_append, w_t2, w_t3]
  rfl
set_option maxRecDepth 65536 in
theorem w_case : (Jvm.Cond.and given_1 narrow_1).before args0 about1 = true := by decide +kernel
theorem w_applies : (headSpec (Jvm.Cond.code x code maxLocals ret :: tables_1) room_1).applies x e0.platform about1 = true :=
  (Spec.applies_iff w_frames).mpr ⟨w_running, w_runnable, w_alone, w_named, w_hears, w_ripe, w_room, w_tables⟩
theorem atStart : AtStart classFile x code maxLocals ret World_1 tables_1 room_1 Calls_1 rest_1 Pre_1 launch0 p0 e0 about1 theMethod args0 below0 :=
  ⟨lists_1, trivial, launch0.admits_env _ _ _, launch0.least_env, fairChoices_fair.cas, fairChoices_fair.clock, w_frames, w_args, w_heap, w_applies, trivial, trivial, w_case⟩
end start1
theorem witness_1 : WitnessClaimed_1 := ⟨start1.p0, start1.e0, start1.about1, start1.theMethod, start1.args0, start1.below0, start1.atStart⟩
end Jvm.Pilot.@@N@@
