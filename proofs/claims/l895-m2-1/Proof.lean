import JvmDerived
import JvmDerived.Pilot.@@N@@Statement
import JvmDerived.Pilot.@@N@@Code
set_option linter.unusedVariables false
set_option linter.unusedSimpArgs false
namespace Jvm.Pilot.@@N@@
open Jvm Jvm.ClassFile Sem Op Lib Jvm.Free Jvm.Stand Jvm.LawKit Jvm.RoadKit Bundle Jvm.Pilot.@@N@@.Jvm.D
section OwnKit
variable {Z : State} {p : Program} {l : Launch} {e : Env} {R : Room} {s : State} {m : MethodId} {args : Array Value} {below : List Frame} {meth : Method} {c : Code} {T : State} {h : Heap} {n0 C S cells slots : Nat} {Q : Option Value → Heap → Prop} {own nm : String} {bytes : ByteArray} {ml : Nat} {rt : Option FieldType} {a0 : Array Value}
/-- the walk's constant facts -/
def Cx (Z : State) (p : Program) (s : State) (m : MethodId) (meth : Method) (c : Code) (own : String) (bytes : ByteArray) (ml : Nat) (rt : Option FieldType) (nm : String) : Prop :=
  p.tables.exec = Jvm.exec ∧ Z.Warmed39 s.vm ∧ c.code = bytes ∧ c.maxLocals = ml ∧ s.vm.findClass own = some m.cls ∧ meth.sig.returnType = rt ∧ meth.locks = false ∧ meth.name = nm
/-- where the walk stands: state T, heap h -/
def Wk (p : Program) (l : Launch) (e : Env) (R : Room) (s : State) (m : MethodId) (args : Array Value) (below : List Frame) (meth : Method) (c : Code) (n0 : Nat) (T : State) (h : Heap) (cells slots : Nat) : Prop :=
  ∃ locs, Stand p l e R s m args below meth c T locs cells slots ∧ T.heap = h ∧ Fr n0 locs ∧ n0 ≤ h.size
theorem Wk.z (X : Wk p l e R s m args below meth c n0 T h cells slots) : n0 ≤ h.size := by
  obtain ⟨_, _, _, _, q⟩ := X
  exact q
/-- from t0 the body comes to its end with Q -/
def Fi (p : Program) (e : Env) (below : List Frame) (s : State) (n0 C S : Nat) (Q : Option Value → Heap → Prop) (t0 : State) : Prop :=
  ∃ s₂ o, Steps p.tables e below t0 s₂ ∧ s₂.status = .running ∧ Ended s₂ below o ∧ ∃ v L, o = .returned v ∧ (Q v s₂.heap ∧ Fr n0 L) ∧ FrameEnd s o s₂ L C S
theorem Fi.of {t t0 : State} (st : ∀ target, Steps p.tables e below t target → Steps p.tables e below t0 target) (k : Fi p e below s n0 C S Q t) : Fi p e below s n0 C S Q t0 := by
  obtain ⟨s₂, o, h1, r⟩ := k
  exact ⟨s₂, o, st _ h1, r⟩
theorem Fi.weak {Q' : Option Value → Heap → Prop} {t0 : State} (hq : ∀ v h, Q v h → Q' v h) (k : Fi p e below s n0 C S Q t0) : Fi p e below s n0 C S Q' t0 := by
  obtain ⟨s₂, o, h1, h2, h3, v, L, h4, ⟨h5, h6⟩, h7⟩ := k
  exact ⟨s₂, o, h1, h2, h3, v, L, h4, ⟨hq _ _ h5, h6⟩, h7⟩
/-- a method's contract -/
def Mt (l : Launch) (Z : State) (y : MethodName) (bytes : ByteArray) (ml : Nat) (rt : Option FieldType) (rm : Room) (as' : Array Value) (h : Heap) (n0 : Nat) (Q : Option Value → Heap → Prop) : Prop :=
  ∀ ws : List Jvm.Cond, MetFree l y (head1 (Jvm.Cond.code y bytes ml rt :: ws) rm) (fun a U => a = as' ∧ Z.Warmed39 U.vm ∧ U.heap = h) (fun _ _ _ _ _ => True) (fun _ U o U' => ∃ v L, o = .returned v ∧ (Q v U'.heap ∧ Fr n0 L) ∧ FrameEnd U o U' L rm.cells rm.slots)
theorem Mt.of {y : MethodName} {rm : Room} {as' : Array Value} {Ls : Array Slot} (ho : y.cls = own) (hnm : y.name = nm) (pn : plainFor y = true) (hn : n0 ≤ h.size) (ef : ∀ m, entryFrame m as' ml = mkF m 0 Ls [])
    (body : ∀ (p : Program) (e : Env) (s : State) (m : MethodId) (below : List Frame) (meth : Method) (c : Code) (T : State), Cx Z p s m meth c own bytes ml rt nm → Wk p l e rm s m as' below meth c n0 T h 0 0 → Fi p e below s n0 rm.cells rm.slots Q (T.setTop (mkF m 0 Ls []))) :
    Mt l Z y bytes ml rt rm as' h n0 Q := by
  intro ws
  subst ho hnm
  refine MetFree.of_bodySF pn hisR ?_
  intro p e s m args below meth c s₁ Bd hml0 hP hK
  obtain ⟨rfl, hZ, hh⟩ := hP
  obtain ⟨s₂, o, h1, h2, h3, h4⟩ := body p e s m below meth c s₁ ⟨Bd.exec, hZ, Bd.bytes, hml0, findClass_of_methodNamed Bd.named, Bd.returns, Bd.notSynchronized, (name_of_methodNamed Bd.named Bd.method).1⟩ ⟨[], Stand.of_body Bd, by rw [← hh, Bd.state]; rfl, Fr.nil n0, hn⟩
  exact ⟨s₂, o, castTop (ef m) h1, h2, h3, h4⟩
/-! shifts and narrowings by name -/
def jushr (x y : Int32) : Int32 := (x.toUInt32 >>> (y &&& 31).toUInt32).toInt32
def jshr (x y : Int32) : Int32 := x >>> (y &&& 31)
def jshl (x y : Int32) : Int32 := x <<< (y &&& 31)
def jushrL (x : Int64) (y : Int32) : Int64 := (x.toUInt64 >>> (y &&& 0x3f).toInt64.toUInt64).toInt64
def jshrL (x : Int64) (y : Int32) : Int64 := x >>> (y &&& 0x3f).toInt64
def jshlL (x : Int64) (y : Int32) : Int64 := x <<< (y &&& 0x3f).toInt64
def jb (x : Int32) : Int32 := x.toInt8.toInt32
def jc (x : Int32) : Int32 := x.toUInt32.toUInt16.toUInt32.toInt32
def js (x : Int32) : Int32 := x.toInt16.toInt32
theorem g_iloadN (K : Cx Z p s m meth c own bytes ml rt nm) (X : Wk p l e R s m args below meth c n0 T h cells slots) {pc pc' : Nat} {L : Array Slot} {st : List Value} {k : Fin 4} {v : Int32} (hd : decode bytes pc = .ok (.iload_n k, 1)) (hp : pc + 1 = pc') (hl : L[k.val]? = some (.val (.int v))) (r : Fi p e below s n0 C S Q (T.setTop (mkF m pc' L (.int v :: st)))) : Fi p e below s n0 C S Q (T.setTop (mkF m pc L (st))) := by
  obtain ⟨locs, Y, -⟩ := X
  subst hp
  exact Fi.of (fun _ q => XS.iloadN Y.here K.1 rfl (hb K.2.2.1 hd) hl q) r
theorem g_iload (K : Cx Z p s m meth c own bytes ml rt nm) (X : Wk p l e R s m args below meth c n0 T h cells slots) {pc pc' : Nat} {L : Array Slot} {st : List Value} {k : Nat} {v : Int32} (hd : decode bytes pc = .ok (.iload k, 2)) (hp : pc + 2 = pc') (hl : L[k]? = some (.val (.int v))) (r : Fi p e below s n0 C S Q (T.setTop (mkF m pc' L (.int v :: st)))) : Fi p e below s n0 C S Q (T.setTop (mkF m pc L (st))) := by
  obtain ⟨locs, Y, -⟩ := X
  subst hp
  exact Fi.of (fun _ q => XS.iload Y.here K.1 rfl (hb K.2.2.1 hd) hl q) r
theorem g_istoreN (K : Cx Z p s m meth c own bytes ml rt nm) (X : Wk p l e R s m args below meth c n0 T h cells slots) {pc pc' : Nat} {L : Array Slot} {st : List Value} {k : Fin 4} {v : Int32} {L' : Array Slot} (hd : decode bytes pc = .ok (.istore_n k, 1)) (hp : pc + 1 = pc') (hl : storeLocals L k.val (.int v) = some L') (r : Fi p e below s n0 C S Q (T.setTop (mkF m pc' L' (st)))) : Fi p e below s n0 C S Q (T.setTop (mkF m pc L (.int v :: st))) := by
  obtain ⟨locs, Y, -⟩ := X
  subst hp
  exact Fi.of (fun _ q => XS.istoreN Y.here K.1 rfl (hb K.2.2.1 hd) rfl hl q) r
theorem g_istore (K : Cx Z p s m meth c own bytes ml rt nm) (X : Wk p l e R s m args below meth c n0 T h cells slots) {pc pc' : Nat} {L : Array Slot} {st : List Value} {k : Nat} {v : Int32} {L' : Array Slot} (hd : decode bytes pc = .ok (.istore k, 2)) (hp : pc + 2 = pc') (hl : storeLocals L k (.int v) = some L') (r : Fi p e below s n0 C S Q (T.setTop (mkF m pc' L' (st)))) : Fi p e below s n0 C S Q (T.setTop (mkF m pc L (.int v :: st))) := by
  obtain ⟨locs, Y, -⟩ := X
  subst hp
  exact Fi.of (fun _ q => XS.istore Y.here K.1 rfl (hb K.2.2.1 hd) rfl hl q) r
theorem g_lloadN (K : Cx Z p s m meth c own bytes ml rt nm) (X : Wk p l e R s m args below meth c n0 T h cells slots) {pc pc' : Nat} {L : Array Slot} {st : List Value} {k : Fin 4} {v : Int64} (hd : decode bytes pc = .ok (.lload_n k, 1)) (hp : pc + 1 = pc') (hl : L[k.val]? = some (.val (.long v))) (r : Fi p e below s n0 C S Q (T.setTop (mkF m pc' L (.long v :: st)))) : Fi p e below s n0 C S Q (T.setTop (mkF m pc L (st))) := by
  obtain ⟨locs, Y, -⟩ := X
  subst hp
  exact Fi.of (fun _ q => XS.lloadN Y.here K.1 rfl (hb K.2.2.1 hd) hl q) r
theorem g_lload (K : Cx Z p s m meth c own bytes ml rt nm) (X : Wk p l e R s m args below meth c n0 T h cells slots) {pc pc' : Nat} {L : Array Slot} {st : List Value} {k : Nat} {v : Int64} (hd : decode bytes pc = .ok (.lload k, 2)) (hp : pc + 2 = pc') (hl : L[k]? = some (.val (.long v))) (r : Fi p e below s n0 C S Q (T.setTop (mkF m pc' L (.long v :: st)))) : Fi p e below s n0 C S Q (T.setTop (mkF m pc L (st))) := by
  obtain ⟨locs, Y, -⟩ := X
  subst hp
  exact Fi.of (fun _ q => XS.lload Y.here K.1 rfl (hb K.2.2.1 hd) hl q) r
theorem g_lstoreN (K : Cx Z p s m meth c own bytes ml rt nm) (X : Wk p l e R s m args below meth c n0 T h cells slots) {pc pc' : Nat} {L : Array Slot} {st : List Value} {k : Fin 4} {v : Int64} {L' : Array Slot} (hd : decode bytes pc = .ok (.lstore_n k, 1)) (hp : pc + 1 = pc') (hl : storeLocals L k.val (.long v) = some L') (r : Fi p e below s n0 C S Q (T.setTop (mkF m pc' L' (st)))) : Fi p e below s n0 C S Q (T.setTop (mkF m pc L (.long v :: st))) := by
  obtain ⟨locs, Y, -⟩ := X
  subst hp
  exact Fi.of (fun _ q => XS.lstoreN Y.here K.1 rfl (hb K.2.2.1 hd) rfl hl q) r
theorem g_lstore (K : Cx Z p s m meth c own bytes ml rt nm) (X : Wk p l e R s m args below meth c n0 T h cells slots) {pc pc' : Nat} {L : Array Slot} {st : List Value} {k : Nat} {v : Int64} {L' : Array Slot} (hd : decode bytes pc = .ok (.lstore k, 2)) (hp : pc + 2 = pc') (hl : storeLocals L k (.long v) = some L') (r : Fi p e below s n0 C S Q (T.setTop (mkF m pc' L' (st)))) : Fi p e below s n0 C S Q (T.setTop (mkF m pc L (.long v :: st))) := by
  obtain ⟨locs, Y, -⟩ := X
  subst hp
  exact Fi.of (fun _ q => XS.lstore Y.here K.1 rfl (hb K.2.2.1 hd) rfl hl q) r
theorem g_aloadN (K : Cx Z p s m meth c own bytes ml rt nm) (X : Wk p l e R s m args below meth c n0 T h cells slots) {pc pc' : Nat} {L : Array Slot} {st : List Value} {k : Fin 4} {v : Value} (hd : decode bytes pc = .ok (.aload_n k, 1)) (hp : pc + 1 = pc') (hl : L[k.val]? = some (.val v)) (hv : v.isRef = true) (r : Fi p e below s n0 C S Q (T.setTop (mkF m pc' L (v :: st)))) : Fi p e below s n0 C S Q (T.setTop (mkF m pc L (st))) := by
  obtain ⟨locs, Y, -⟩ := X
  subst hp
  exact Fi.of (fun _ q => XS.aloadN Y.here K.1 rfl (hb K.2.2.1 hd) hl hv q) r
theorem g_aload (K : Cx Z p s m meth c own bytes ml rt nm) (X : Wk p l e R s m args below meth c n0 T h cells slots) {pc pc' : Nat} {L : Array Slot} {st : List Value} {k : Nat} {v : Value} (hd : decode bytes pc = .ok (.aload k, 2)) (hp : pc + 2 = pc') (hl : L[k]? = some (.val v)) (hv : v.isRef = true) (r : Fi p e below s n0 C S Q (T.setTop (mkF m pc' L (v :: st)))) : Fi p e below s n0 C S Q (T.setTop (mkF m pc L (st))) := by
  obtain ⟨locs, Y, -⟩ := X
  subst hp
  exact Fi.of (fun _ q => XS.aload Y.here K.1 rfl (hb K.2.2.1 hd) hl hv q) r
theorem g_astoreN (K : Cx Z p s m meth c own bytes ml rt nm) (X : Wk p l e R s m args below meth c n0 T h cells slots) {pc pc' : Nat} {L : Array Slot} {st : List Value} {k : Fin 4} {v : Value} {L' : Array Slot} (hd : decode bytes pc = .ok (.astore_n k, 1)) (hp : pc + 1 = pc') (hv : v.isRef = true) (hl : storeLocals L k.val v = some L') (r : Fi p e below s n0 C S Q (T.setTop (mkF m pc' L' (st)))) : Fi p e below s n0 C S Q (T.setTop (mkF m pc L (v :: st))) := by
  obtain ⟨locs, Y, -⟩ := X
  subst hp
  exact Fi.of (fun _ q => XS.astoreN Y.here K.1 rfl (hb K.2.2.1 hd) rfl hv hl q) r
theorem g_astore (K : Cx Z p s m meth c own bytes ml rt nm) (X : Wk p l e R s m args below meth c n0 T h cells slots) {pc pc' : Nat} {L : Array Slot} {st : List Value} {k : Nat} {v : Value} {L' : Array Slot} (hd : decode bytes pc = .ok (.astore k, 2)) (hp : pc + 2 = pc') (hv : v.isRef = true) (hl : storeLocals L k v = some L') (r : Fi p e below s n0 C S Q (T.setTop (mkF m pc' L' (st)))) : Fi p e below s n0 C S Q (T.setTop (mkF m pc L (v :: st))) := by
  obtain ⟨locs, Y, -⟩ := X
  subst hp
  exact Fi.of (fun _ q => XS.astore Y.here K.1 rfl (hb K.2.2.1 hd) rfl hv hl q) r
theorem g_iconst (K : Cx Z p s m meth c own bytes ml rt nm) (X : Wk p l e R s m args below meth c n0 T h cells slots) {pc pc' : Nat} {L : Array Slot} {st : List Value} {i : Int} {v : Int32} (hd : decode bytes pc = .ok (.iconst i, 1)) (hp : pc + 1 = pc') (hv : Int32.ofInt i = v) (r : Fi p e below s n0 C S Q (T.setTop (mkF m pc' L (.int v :: st)))) : Fi p e below s n0 C S Q (T.setTop (mkF m pc L (st))) := by
  obtain ⟨locs, Y, -⟩ := X
  subst hp
  subst hv
  exact Fi.of (fun _ q => XS.iconst Y.here K.1 rfl (hb K.2.2.1 hd) q) r
theorem g_bipush (K : Cx Z p s m meth c own bytes ml rt nm) (X : Wk p l e R s m args below meth c n0 T h cells slots) {pc pc' : Nat} {L : Array Slot} {st : List Value} {i : Int} {v : Int32} (hd : decode bytes pc = .ok (.bipush i, 2)) (hp : pc + 2 = pc') (hv : (Int8.ofInt i).toInt32 = v) (r : Fi p e below s n0 C S Q (T.setTop (mkF m pc' L (.int v :: st)))) : Fi p e below s n0 C S Q (T.setTop (mkF m pc L (st))) := by
  obtain ⟨locs, Y, -⟩ := X
  subst hp
  subst hv
  exact Fi.of (fun _ q => XS.bipush Y.here K.1 rfl (hb K.2.2.1 hd) q) r
theorem g_sipush (K : Cx Z p s m meth c own bytes ml rt nm) (X : Wk p l e R s m args below meth c n0 T h cells slots) {pc pc' : Nat} {L : Array Slot} {st : List Value} {i : Int} {v : Int32} (hd : decode bytes pc = .ok (.sipush i, 3)) (hp : pc + 3 = pc') (hv : (Int16.ofInt i).toInt32 = v) (r : Fi p e below s n0 C S Q (T.setTop (mkF m pc' L (.int v :: st)))) : Fi p e below s n0 C S Q (T.setTop (mkF m pc L (st))) := by
  obtain ⟨locs, Y, -⟩ := X
  subst hp
  subst hv
  exact Fi.of (fun _ q => XS.sipush Y.here K.1 rfl (hb K.2.2.1 hd) q) r
theorem g_lconst (K : Cx Z p s m meth c own bytes ml rt nm) (X : Wk p l e R s m args below meth c n0 T h cells slots) {pc pc' : Nat} {L : Array Slot} {st : List Value} {k : Fin 2} {v : Int64} (hd : decode bytes pc = .ok (.lconst k, 1)) (hp : pc + 1 = pc') (hv : Int64.ofNat k = v) (r : Fi p e below s n0 C S Q (T.setTop (mkF m pc' L (.long v :: st)))) : Fi p e below s n0 C S Q (T.setTop (mkF m pc L (st))) := by
  obtain ⟨locs, Y, -⟩ := X
  subst hp
  subst hv
  exact Fi.of (fun _ q => XS.lconst Y.here K.1 rfl (hb K.2.2.1 hd) q) r
theorem g_ldcI (K : Cx Z p s m meth c own bytes ml rt nm) (X : Wk p l e R s m args below meth c n0 T h cells slots) {pc pc' : Nat} {L : Array Slot} {st : List Value} {index : Nat} {v : Int32} (hd : decode bytes pc = .ok (.ldc index, 2)) (hp : pc + 2 = pc') (w : (Cond.constant own index v).before a0 Z = true) (r : Fi p e below s n0 C S Q (T.setTop (mkF m pc' L (.int v :: st)))) : Fi p e below s n0 C S Q (T.setTop (mkF m pc L (st))) := by
  obtain ⟨locs, Y, -⟩ := X
  subst hp
  exact Fi.of (fun _ q => Y.ldcInt K.1 K.2.2.2.2.1 (mvT K.2.1 w) (g := mkF m pc L st) rfl (hb K.2.2.1 hd) _ q) r
theorem g_ldc2J (K : Cx Z p s m meth c own bytes ml rt nm) (X : Wk p l e R s m args below meth c n0 T h cells slots) {pc pc' : Nat} {L : Array Slot} {st : List Value} {index : Nat} {v : Int64} (hd : decode bytes pc = .ok (.ldc2_w index, 3)) (hp : pc + 3 = pc') (w : (Cond.constantLong own index v).before a0 Z = true) (r : Fi p e below s n0 C S Q (T.setTop (mkF m pc' L (.long v :: st)))) : Fi p e below s n0 C S Q (T.setTop (mkF m pc L (st))) := by
  obtain ⟨locs, Y, -⟩ := X
  subst hp
  exact Fi.of (fun _ q => Y.ldc2Long K.1 K.2.2.2.2.1 (mvT K.2.1 w) (g := mkF m pc L st) rfl (hb K.2.2.1 hd) _ q) r
theorem g_iadd (K : Cx Z p s m meth c own bytes ml rt nm) (X : Wk p l e R s m args below meth c n0 T h cells slots) {pc pc' : Nat} {L : Array Slot} {st : List Value} {x y : Int32} (hd : decode bytes pc = .ok (.iadd, 1)) (hp : pc + 1 = pc')  (r : Fi p e below s n0 C S Q (T.setTop (mkF m pc' L (.int (x + y) :: st)))) : Fi p e below s n0 C S Q (T.setTop (mkF m pc L (.int y :: .int x :: st))) := by
  obtain ⟨locs, Y, -⟩ := X
  subst hp
  exact Fi.of (fun _ q => XS.iadd Y.here K.1 rfl (hb K.2.2.1 hd) rfl q) r
theorem g_ladd (K : Cx Z p s m meth c own bytes ml rt nm) (X : Wk p l e R s m args below meth c n0 T h cells slots) {pc pc' : Nat} {L : Array Slot} {st : List Value} {x y : Int64} (hd : decode bytes pc = .ok (.ladd, 1)) (hp : pc + 1 = pc')  (r : Fi p e below s n0 C S Q (T.setTop (mkF m pc' L (.long (x + y) :: st)))) : Fi p e below s n0 C S Q (T.setTop (mkF m pc L (.long y :: .long x :: st))) := by
  obtain ⟨locs, Y, -⟩ := X
  subst hp
  exact Fi.of (fun _ q => XS.ladd Y.here K.1 rfl (hb K.2.2.1 hd) rfl q) r
theorem g_isub (K : Cx Z p s m meth c own bytes ml rt nm) (X : Wk p l e R s m args below meth c n0 T h cells slots) {pc pc' : Nat} {L : Array Slot} {st : List Value} {x y : Int32} (hd : decode bytes pc = .ok (.isub, 1)) (hp : pc + 1 = pc')  (r : Fi p e below s n0 C S Q (T.setTop (mkF m pc' L (.int (x - y) :: st)))) : Fi p e below s n0 C S Q (T.setTop (mkF m pc L (.int y :: .int x :: st))) := by
  obtain ⟨locs, Y, -⟩ := X
  subst hp
  exact Fi.of (fun _ q => XS.isub Y.here K.1 rfl (hb K.2.2.1 hd) rfl q) r
theorem g_lsub (K : Cx Z p s m meth c own bytes ml rt nm) (X : Wk p l e R s m args below meth c n0 T h cells slots) {pc pc' : Nat} {L : Array Slot} {st : List Value} {x y : Int64} (hd : decode bytes pc = .ok (.lsub, 1)) (hp : pc + 1 = pc')  (r : Fi p e below s n0 C S Q (T.setTop (mkF m pc' L (.long (x - y) :: st)))) : Fi p e below s n0 C S Q (T.setTop (mkF m pc L (.long y :: .long x :: st))) := by
  obtain ⟨locs, Y, -⟩ := X
  subst hp
  exact Fi.of (fun _ q => XS.lsub Y.here K.1 rfl (hb K.2.2.1 hd) rfl q) r
theorem g_imul (K : Cx Z p s m meth c own bytes ml rt nm) (X : Wk p l e R s m args below meth c n0 T h cells slots) {pc pc' : Nat} {L : Array Slot} {st : List Value} {x y : Int32} (hd : decode bytes pc = .ok (.imul, 1)) (hp : pc + 1 = pc')  (r : Fi p e below s n0 C S Q (T.setTop (mkF m pc' L (.int (x * y) :: st)))) : Fi p e below s n0 C S Q (T.setTop (mkF m pc L (.int y :: .int x :: st))) := by
  obtain ⟨locs, Y, -⟩ := X
  subst hp
  exact Fi.of (fun _ q => XS.imul Y.here K.1 rfl (hb K.2.2.1 hd) rfl q) r
theorem g_lmul (K : Cx Z p s m meth c own bytes ml rt nm) (X : Wk p l e R s m args below meth c n0 T h cells slots) {pc pc' : Nat} {L : Array Slot} {st : List Value} {x y : Int64} (hd : decode bytes pc = .ok (.lmul, 1)) (hp : pc + 1 = pc')  (r : Fi p e below s n0 C S Q (T.setTop (mkF m pc' L (.long (x * y) :: st)))) : Fi p e below s n0 C S Q (T.setTop (mkF m pc L (.long y :: .long x :: st))) := by
  obtain ⟨locs, Y, -⟩ := X
  subst hp
  exact Fi.of (fun _ q => XS.lmul Y.here K.1 rfl (hb K.2.2.1 hd) rfl q) r
theorem g_iand (K : Cx Z p s m meth c own bytes ml rt nm) (X : Wk p l e R s m args below meth c n0 T h cells slots) {pc pc' : Nat} {L : Array Slot} {st : List Value} {x y : Int32} (hd : decode bytes pc = .ok (.iand, 1)) (hp : pc + 1 = pc')  (r : Fi p e below s n0 C S Q (T.setTop (mkF m pc' L (.int (x &&& y) :: st)))) : Fi p e below s n0 C S Q (T.setTop (mkF m pc L (.int y :: .int x :: st))) := by
  obtain ⟨locs, Y, -⟩ := X
  subst hp
  exact Fi.of (fun _ q => XS.iand Y.here K.1 rfl (hb K.2.2.1 hd) rfl q) r
theorem g_land (K : Cx Z p s m meth c own bytes ml rt nm) (X : Wk p l e R s m args below meth c n0 T h cells slots) {pc pc' : Nat} {L : Array Slot} {st : List Value} {x y : Int64} (hd : decode bytes pc = .ok (.land, 1)) (hp : pc + 1 = pc')  (r : Fi p e below s n0 C S Q (T.setTop (mkF m pc' L (.long (x &&& y) :: st)))) : Fi p e below s n0 C S Q (T.setTop (mkF m pc L (.long y :: .long x :: st))) := by
  obtain ⟨locs, Y, -⟩ := X
  subst hp
  exact Fi.of (fun _ q => XS.land Y.here K.1 rfl (hb K.2.2.1 hd) rfl q) r
theorem g_ior (K : Cx Z p s m meth c own bytes ml rt nm) (X : Wk p l e R s m args below meth c n0 T h cells slots) {pc pc' : Nat} {L : Array Slot} {st : List Value} {x y : Int32} (hd : decode bytes pc = .ok (.ior, 1)) (hp : pc + 1 = pc')  (r : Fi p e below s n0 C S Q (T.setTop (mkF m pc' L (.int (x ||| y) :: st)))) : Fi p e below s n0 C S Q (T.setTop (mkF m pc L (.int y :: .int x :: st))) := by
  obtain ⟨locs, Y, -⟩ := X
  subst hp
  exact Fi.of (fun _ q => XS.ior Y.here K.1 rfl (hb K.2.2.1 hd) rfl q) r
theorem g_lor (K : Cx Z p s m meth c own bytes ml rt nm) (X : Wk p l e R s m args below meth c n0 T h cells slots) {pc pc' : Nat} {L : Array Slot} {st : List Value} {x y : Int64} (hd : decode bytes pc = .ok (.lor, 1)) (hp : pc + 1 = pc')  (r : Fi p e below s n0 C S Q (T.setTop (mkF m pc' L (.long (x ||| y) :: st)))) : Fi p e below s n0 C S Q (T.setTop (mkF m pc L (.long y :: .long x :: st))) := by
  obtain ⟨locs, Y, -⟩ := X
  subst hp
  exact Fi.of (fun _ q => XS.lor Y.here K.1 rfl (hb K.2.2.1 hd) rfl q) r
theorem g_ixor (K : Cx Z p s m meth c own bytes ml rt nm) (X : Wk p l e R s m args below meth c n0 T h cells slots) {pc pc' : Nat} {L : Array Slot} {st : List Value} {x y : Int32} (hd : decode bytes pc = .ok (.ixor, 1)) (hp : pc + 1 = pc')  (r : Fi p e below s n0 C S Q (T.setTop (mkF m pc' L (.int (x ^^^ y) :: st)))) : Fi p e below s n0 C S Q (T.setTop (mkF m pc L (.int y :: .int x :: st))) := by
  obtain ⟨locs, Y, -⟩ := X
  subst hp
  exact Fi.of (fun _ q => XS.ixor Y.here K.1 rfl (hb K.2.2.1 hd) rfl q) r
theorem g_lxor (K : Cx Z p s m meth c own bytes ml rt nm) (X : Wk p l e R s m args below meth c n0 T h cells slots) {pc pc' : Nat} {L : Array Slot} {st : List Value} {x y : Int64} (hd : decode bytes pc = .ok (.lxor, 1)) (hp : pc + 1 = pc')  (r : Fi p e below s n0 C S Q (T.setTop (mkF m pc' L (.long (x ^^^ y) :: st)))) : Fi p e below s n0 C S Q (T.setTop (mkF m pc L (.long y :: .long x :: st))) := by
  obtain ⟨locs, Y, -⟩ := X
  subst hp
  exact Fi.of (fun _ q => XS.lxor Y.here K.1 rfl (hb K.2.2.1 hd) rfl q) r
theorem g_ishl (K : Cx Z p s m meth c own bytes ml rt nm) (X : Wk p l e R s m args below meth c n0 T h cells slots) {pc pc' : Nat} {L : Array Slot} {st : List Value} {x y : Int32} (hd : decode bytes pc = .ok (.ishl, 1)) (hp : pc + 1 = pc')  (r : Fi p e below s n0 C S Q (T.setTop (mkF m pc' L (.int (jshl x y) :: st)))) : Fi p e below s n0 C S Q (T.setTop (mkF m pc L (.int y :: .int x :: st))) := by
  obtain ⟨locs, Y, -⟩ := X
  subst hp
  exact Fi.of (fun _ q => XS.ishl Y.here K.1 rfl (hb K.2.2.1 hd) rfl q) r
theorem g_lshl (K : Cx Z p s m meth c own bytes ml rt nm) (X : Wk p l e R s m args below meth c n0 T h cells slots) {pc pc' : Nat} {L : Array Slot} {st : List Value} {x : Int64} {y : Int32} (hd : decode bytes pc = .ok (.lshl, 1)) (hp : pc + 1 = pc')  (r : Fi p e below s n0 C S Q (T.setTop (mkF m pc' L (.long (jshlL x y) :: st)))) : Fi p e below s n0 C S Q (T.setTop (mkF m pc L (.int y :: .long x :: st))) := by
  obtain ⟨locs, Y, -⟩ := X
  subst hp
  exact Fi.of (fun _ q => XS.lshl Y.here K.1 rfl (hb K.2.2.1 hd) rfl q) r
theorem g_ishr (K : Cx Z p s m meth c own bytes ml rt nm) (X : Wk p l e R s m args below meth c n0 T h cells slots) {pc pc' : Nat} {L : Array Slot} {st : List Value} {x y : Int32} (hd : decode bytes pc = .ok (.ishr, 1)) (hp : pc + 1 = pc')  (r : Fi p e below s n0 C S Q (T.setTop (mkF m pc' L (.int (jshr x y) :: st)))) : Fi p e below s n0 C S Q (T.setTop (mkF m pc L (.int y :: .int x :: st))) := by
  obtain ⟨locs, Y, -⟩ := X
  subst hp
  exact Fi.of (fun _ q => XS.ishr Y.here K.1 rfl (hb K.2.2.1 hd) rfl q) r
theorem g_lshr (K : Cx Z p s m meth c own bytes ml rt nm) (X : Wk p l e R s m args below meth c n0 T h cells slots) {pc pc' : Nat} {L : Array Slot} {st : List Value} {x : Int64} {y : Int32} (hd : decode bytes pc = .ok (.lshr, 1)) (hp : pc + 1 = pc')  (r : Fi p e below s n0 C S Q (T.setTop (mkF m pc' L (.long (jshrL x y) :: st)))) : Fi p e below s n0 C S Q (T.setTop (mkF m pc L (.int y :: .long x :: st))) := by
  obtain ⟨locs, Y, -⟩ := X
  subst hp
  exact Fi.of (fun _ q => XS.lshr Y.here K.1 rfl (hb K.2.2.1 hd) rfl q) r
theorem g_iushr (K : Cx Z p s m meth c own bytes ml rt nm) (X : Wk p l e R s m args below meth c n0 T h cells slots) {pc pc' : Nat} {L : Array Slot} {st : List Value} {x y : Int32} (hd : decode bytes pc = .ok (.iushr, 1)) (hp : pc + 1 = pc')  (r : Fi p e below s n0 C S Q (T.setTop (mkF m pc' L (.int (jushr x y) :: st)))) : Fi p e below s n0 C S Q (T.setTop (mkF m pc L (.int y :: .int x :: st))) := by
  obtain ⟨locs, Y, -⟩ := X
  subst hp
  exact Fi.of (fun _ q => XS.iushr Y.here K.1 rfl (hb K.2.2.1 hd) rfl q) r
theorem g_lushr (K : Cx Z p s m meth c own bytes ml rt nm) (X : Wk p l e R s m args below meth c n0 T h cells slots) {pc pc' : Nat} {L : Array Slot} {st : List Value} {x : Int64} {y : Int32} (hd : decode bytes pc = .ok (.lushr, 1)) (hp : pc + 1 = pc')  (r : Fi p e below s n0 C S Q (T.setTop (mkF m pc' L (.long (jushrL x y) :: st)))) : Fi p e below s n0 C S Q (T.setTop (mkF m pc L (.int y :: .long x :: st))) := by
  obtain ⟨locs, Y, -⟩ := X
  subst hp
  exact Fi.of (fun _ q => XS.lushr Y.here K.1 rfl (hb K.2.2.1 hd) rfl q) r
theorem g_i2b (K : Cx Z p s m meth c own bytes ml rt nm) (X : Wk p l e R s m args below meth c n0 T h cells slots) {pc pc' : Nat} {L : Array Slot} {st : List Value} {x : Int32} (hd : decode bytes pc = .ok (.i2b, 1)) (hp : pc + 1 = pc')  (r : Fi p e below s n0 C S Q (T.setTop (mkF m pc' L (.int (jb x) :: st)))) : Fi p e below s n0 C S Q (T.setTop (mkF m pc L (.int x :: st))) := by
  obtain ⟨locs, Y, -⟩ := X
  subst hp
  exact Fi.of (fun _ q => XS.i2b Y.here K.1 rfl (hb K.2.2.1 hd) rfl q) r
theorem g_i2c (K : Cx Z p s m meth c own bytes ml rt nm) (X : Wk p l e R s m args below meth c n0 T h cells slots) {pc pc' : Nat} {L : Array Slot} {st : List Value} {x : Int32} (hd : decode bytes pc = .ok (.i2c, 1)) (hp : pc + 1 = pc')  (r : Fi p e below s n0 C S Q (T.setTop (mkF m pc' L (.int (jc x) :: st)))) : Fi p e below s n0 C S Q (T.setTop (mkF m pc L (.int x :: st))) := by
  obtain ⟨locs, Y, -⟩ := X
  subst hp
  exact Fi.of (fun _ q => XS.i2c Y.here K.1 rfl (hb K.2.2.1 hd) rfl q) r
theorem g_i2s (K : Cx Z p s m meth c own bytes ml rt nm) (X : Wk p l e R s m args below meth c n0 T h cells slots) {pc pc' : Nat} {L : Array Slot} {st : List Value} {x : Int32} (hd : decode bytes pc = .ok (.i2s, 1)) (hp : pc + 1 = pc')  (r : Fi p e below s n0 C S Q (T.setTop (mkF m pc' L (.int (js x) :: st)))) : Fi p e below s n0 C S Q (T.setTop (mkF m pc L (.int x :: st))) := by
  obtain ⟨locs, Y, -⟩ := X
  subst hp
  exact Fi.of (fun _ q => XS.i2s Y.here K.1 rfl (hb K.2.2.1 hd) rfl q) r
theorem g_i2l (K : Cx Z p s m meth c own bytes ml rt nm) (X : Wk p l e R s m args below meth c n0 T h cells slots) {pc pc' : Nat} {L : Array Slot} {st : List Value} {x : Int32} (hd : decode bytes pc = .ok (.i2l, 1)) (hp : pc + 1 = pc')  (r : Fi p e below s n0 C S Q (T.setTop (mkF m pc' L (.long (x.toInt64) :: st)))) : Fi p e below s n0 C S Q (T.setTop (mkF m pc L (.int x :: st))) := by
  obtain ⟨locs, Y, -⟩ := X
  subst hp
  exact Fi.of (fun _ q => XS.i2l Y.here K.1 rfl (hb K.2.2.1 hd) rfl q) r
theorem g_l2i (K : Cx Z p s m meth c own bytes ml rt nm) (X : Wk p l e R s m args below meth c n0 T h cells slots) {pc pc' : Nat} {L : Array Slot} {st : List Value} {x : Int64} (hd : decode bytes pc = .ok (.l2i, 1)) (hp : pc + 1 = pc')  (r : Fi p e below s n0 C S Q (T.setTop (mkF m pc' L (.int (x.toInt32) :: st)))) : Fi p e below s n0 C S Q (T.setTop (mkF m pc L (.long x :: st))) := by
  obtain ⟨locs, Y, -⟩ := X
  subst hp
  exact Fi.of (fun _ q => XS.l2i Y.here K.1 rfl (hb K.2.2.1 hd) rfl q) r
theorem g_ineg (K : Cx Z p s m meth c own bytes ml rt nm) (X : Wk p l e R s m args below meth c n0 T h cells slots) {pc pc' : Nat} {L : Array Slot} {st : List Value} {x : Int32} (hd : decode bytes pc = .ok (.ineg, 1)) (hp : pc + 1 = pc')  (r : Fi p e below s n0 C S Q (T.setTop (mkF m pc' L (.int (-x) :: st)))) : Fi p e below s n0 C S Q (T.setTop (mkF m pc L (.int x :: st))) := by
  obtain ⟨locs, Y, -⟩ := X
  subst hp
  exact Fi.of (fun _ q => XS.ineg Y.here K.1 rfl (hb K.2.2.1 hd) rfl q) r
theorem g_lneg (K : Cx Z p s m meth c own bytes ml rt nm) (X : Wk p l e R s m args below meth c n0 T h cells slots) {pc pc' : Nat} {L : Array Slot} {st : List Value} {x : Int64} (hd : decode bytes pc = .ok (.lneg, 1)) (hp : pc + 1 = pc')  (r : Fi p e below s n0 C S Q (T.setTop (mkF m pc' L (.long (-x) :: st)))) : Fi p e below s n0 C S Q (T.setTop (mkF m pc L (.long x :: st))) := by
  obtain ⟨locs, Y, -⟩ := X
  subst hp
  exact Fi.of (fun _ q => XS.lneg Y.here K.1 rfl (hb K.2.2.1 hd) rfl q) r
theorem g_idiv (K : Cx Z p s m meth c own bytes ml rt nm) (X : Wk p l e R s m args below meth c n0 T h cells slots) {pc pc' : Nat} {L : Array Slot} {st : List Value} {x y : Int32} (hd : decode bytes pc = .ok (.idiv, 1)) (hp : pc + 1 = pc') (hy : y ≠ 0) (r : Fi p e below s n0 C S Q (T.setTop (mkF m pc' L (.int (x / y) :: st)))) : Fi p e below s n0 C S Q (T.setTop (mkF m pc L (.int y :: .int x :: st))) := by
  obtain ⟨locs, Y, -⟩ := X
  subst hp
  exact Fi.of (fun _ q => XS.idiv Y.here K.1 rfl (hb K.2.2.1 hd) rfl hy q) r
theorem g_ldiv (K : Cx Z p s m meth c own bytes ml rt nm) (X : Wk p l e R s m args below meth c n0 T h cells slots) {pc pc' : Nat} {L : Array Slot} {st : List Value} {x y : Int64} (hd : decode bytes pc = .ok (.ldiv, 1)) (hp : pc + 1 = pc') (hy : y ≠ 0) (r : Fi p e below s n0 C S Q (T.setTop (mkF m pc' L (.long (x / y) :: st)))) : Fi p e below s n0 C S Q (T.setTop (mkF m pc L (.long y :: .long x :: st))) := by
  obtain ⟨locs, Y, -⟩ := X
  subst hp
  exact Fi.of (fun _ q => XS.ldiv Y.here K.1 rfl (hb K.2.2.1 hd) rfl hy q) r
theorem g_irem (K : Cx Z p s m meth c own bytes ml rt nm) (X : Wk p l e R s m args below meth c n0 T h cells slots) {pc pc' : Nat} {L : Array Slot} {st : List Value} {x y : Int32} (hd : decode bytes pc = .ok (.irem, 1)) (hp : pc + 1 = pc') (hy : y ≠ 0) (r : Fi p e below s n0 C S Q (T.setTop (mkF m pc' L (.int (x % y) :: st)))) : Fi p e below s n0 C S Q (T.setTop (mkF m pc L (.int y :: .int x :: st))) := by
  obtain ⟨locs, Y, -⟩ := X
  subst hp
  exact Fi.of (fun _ q => iremM Y K.1 rfl (hb K.2.2.1 hd) rfl hy q) r
theorem g_lrem (K : Cx Z p s m meth c own bytes ml rt nm) (X : Wk p l e R s m args below meth c n0 T h cells slots) {pc pc' : Nat} {L : Array Slot} {st : List Value} {x y : Int64} (hd : decode bytes pc = .ok (.lrem, 1)) (hp : pc + 1 = pc') (hy : y ≠ 0) (r : Fi p e below s n0 C S Q (T.setTop (mkF m pc' L (.long (x % y) :: st)))) : Fi p e below s n0 C S Q (T.setTop (mkF m pc L (.long y :: .long x :: st))) := by
  obtain ⟨locs, Y, -⟩ := X
  subst hp
  exact Fi.of (fun _ q => XS.lrem Y.here K.1 rfl (hb K.2.2.1 hd) rfl hy (by rw [lrem_mod]; exact q)) r
theorem g_iinc (K : Cx Z p s m meth c own bytes ml rt nm) (X : Wk p l e R s m args below meth c n0 T h cells slots) {pc pc' : Nat} {L : Array Slot} {st : List Value} {k : Nat} {cst : Int} {x z : Int32} {L' : Array Slot} (hd : decode bytes pc = .ok (.iinc k cst, 3)) (hp : pc + 3 = pc') (hl : L[k]? = some (.val (.int x))) (hz : x + Int32.ofInt cst = z) (hl' : storeLocals L k (.int z) = some L') (r : Fi p e below s n0 C S Q (T.setTop (mkF m pc' L' (st)))) : Fi p e below s n0 C S Q (T.setTop (mkF m pc L (st))) := by
  obtain ⟨locs, Y, -⟩ := X
  subst hp
  subst hz
  exact Fi.of (fun _ q => XS.iinc Y.here K.1 rfl (hb K.2.2.1 hd) hl hl' q) r
theorem g_dup (K : Cx Z p s m meth c own bytes ml rt nm) (X : Wk p l e R s m args below meth c n0 T h cells slots) {pc pc' : Nat} {L : Array Slot} {st : List Value} {v : Value} (hd : decode bytes pc = .ok (.dup, 1)) (hp : pc + 1 = pc') (hv : v.category = 1) (r : Fi p e below s n0 C S Q (T.setTop (mkF m pc' L (v :: v :: st)))) : Fi p e below s n0 C S Q (T.setTop (mkF m pc L (v :: st))) := by
  obtain ⟨locs, Y, -⟩ := X
  subst hp
  exact Fi.of (fun _ q => XS.dup Y.here K.1 rfl (hb K.2.2.1 hd) rfl hv q) r
theorem g_pop (K : Cx Z p s m meth c own bytes ml rt nm) (X : Wk p l e R s m args below meth c n0 T h cells slots) {pc pc' : Nat} {L : Array Slot} {st : List Value} {v : Value} (hd : decode bytes pc = .ok (.pop, 1)) (hp : pc + 1 = pc') (hv : v.category = 1) (r : Fi p e below s n0 C S Q (T.setTop (mkF m pc' L (st)))) : Fi p e below s n0 C S Q (T.setTop (mkF m pc L (v :: st))) := by
  obtain ⟨locs, Y, -⟩ := X
  subst hp
  exact Fi.of (fun _ q => XS.pop Y.here K.1 rfl (hb K.2.2.1 hd) rfl hv q) r
theorem g_goto (K : Cx Z p s m meth c own bytes ml rt nm) (X : Wk p l e R s m args below meth c n0 T h cells slots) {pc pc' : Nat} {L : Array Slot} {st : List Value} {o : Int} (hd : decode bytes pc = .ok (.goto o, 3)) (hp : (pc : Int) + o = (pc' : Int)) (r : Fi p e below s n0 C S Q (T.setTop (mkF m pc' L (st)))) : Fi p e below s n0 C S Q (T.setTop (mkF m pc L (st))) := by
  obtain ⟨locs, Y, -⟩ := X
  exact Fi.of (fun _ q => XS.goto Y.here K.1 rfl (pc0 := pc) (pc' := pc') rfl (hb K.2.2.1 hd) (by omega) (by omega) q) r
theorem i32_eq {x y : Int32} : x = y ↔ x.toInt = y.toInt := Int32.toInt_inj.symm
theorem i64_eq {x y : Int64} : x = y ↔ x.toInt = y.toInt := Int64.toInt_inj.symm
theorem h_icmp_eq {x y : Int32} : if_icmp.holds .eq x y = true ↔ x.toInt = y.toInt := by
  simp only [if_icmp.holds, decide_eq_true_eq, bne_iff_ne, beq_iff_eq, ne_eq, i32_eq, Int32.lt_iff_toInt_lt, Int32.le_iff_toInt_le, GT.gt, GE.ge]
theorem h_icmp_ne {x y : Int32} : if_icmp.holds .ne x y = true ↔ x.toInt ≠ y.toInt := by
  simp only [if_icmp.holds, decide_eq_true_eq, bne_iff_ne, beq_iff_eq, ne_eq, i32_eq, Int32.lt_iff_toInt_lt, Int32.le_iff_toInt_le, GT.gt, GE.ge]
theorem h_icmp_lt {x y : Int32} : if_icmp.holds .lt x y = true ↔ x.toInt < y.toInt := by
  simp only [if_icmp.holds, decide_eq_true_eq, bne_iff_ne, beq_iff_eq, ne_eq, i32_eq, Int32.lt_iff_toInt_lt, Int32.le_iff_toInt_le, GT.gt, GE.ge]
theorem h_icmp_ge {x y : Int32} : if_icmp.holds .ge x y = true ↔ x.toInt ≥ y.toInt := by
  simp only [if_icmp.holds, decide_eq_true_eq, bne_iff_ne, beq_iff_eq, ne_eq, i32_eq, Int32.lt_iff_toInt_lt, Int32.le_iff_toInt_le, GT.gt, GE.ge]
theorem h_icmp_gt {x y : Int32} : if_icmp.holds .gt x y = true ↔ x.toInt > y.toInt := by
  simp only [if_icmp.holds, decide_eq_true_eq, bne_iff_ne, beq_iff_eq, ne_eq, i32_eq, Int32.lt_iff_toInt_lt, Int32.le_iff_toInt_le, GT.gt, GE.ge]
theorem h_icmp_le {x y : Int32} : if_icmp.holds .le x y = true ↔ x.toInt ≤ y.toInt := by
  simp only [if_icmp.holds, decide_eq_true_eq, bne_iff_ne, beq_iff_eq, ne_eq, i32_eq, Int32.lt_iff_toInt_lt, Int32.le_iff_toInt_le, GT.gt, GE.ge]
theorem g_icmp_eq (K : Cx Z p s m meth c own bytes ml rt nm) (X : Wk p l e R s m args below meth c n0 T h cells slots) {pc pc' pc'' : Nat} {L : Array Slot} {st : List Value} {x y : Int32} {o : Int} (xv yv : Int) (hd : decode bytes pc = .ok (.if_icmp .eq o, 3)) (hp : (pc : Int) + o = (pc' : Int)) (hp' : pc + 3 = pc'') (hxv : x.toInt = xv) (hyv : y.toInt = yv) (r1 : xv = yv → Fi p e below s n0 C S Q (T.setTop (mkF m pc' L (st)))) (r2 : xv ≠ yv → Fi p e below s n0 C S Q (T.setTop (mkF m pc'' L (st)))) : Fi p e below s n0 C S Q (T.setTop (mkF m pc L (.int y :: .int x :: st))) := by
  obtain ⟨locs, Y, -⟩ := X
  subst hxv hyv hp'
  by_cases hq : if_icmp.holds .eq x y = true
  · exact Fi.of (fun _ q => XS.icmpYes Y.here K.1 rfl (pc0 := pc) (pc' := pc') rfl (hb K.2.2.1 hd) rfl hq (by omega) (by omega) q) (r1 (h_icmp_eq.mp hq))
  · exact Fi.of (fun _ q => XS.icmpNo Y.here K.1 rfl (hb K.2.2.1 hd) rfl (Bool.eq_false_iff.mpr hq) q) (r2 (by have := mt h_icmp_eq.mpr hq; omega))
theorem g_if_eq (K : Cx Z p s m meth c own bytes ml rt nm) (X : Wk p l e R s m args below meth c n0 T h cells slots) {pc pc' pc'' : Nat} {L : Array Slot} {st : List Value} {x : Int32} {o : Int} (xv : Int) (hd : decode bytes pc = .ok (.ifCond .eq o, 3)) (hp : (pc : Int) + o = (pc' : Int)) (hp' : pc + 3 = pc'') (hxv : x.toInt = xv) (r1 : xv = 0 → Fi p e below s n0 C S Q (T.setTop (mkF m pc' L (st)))) (r2 : xv ≠ 0 → Fi p e below s n0 C S Q (T.setTop (mkF m pc'' L (st)))) : Fi p e below s n0 C S Q (T.setTop (mkF m pc L (.int x :: st))) := by
  obtain ⟨locs, Y, -⟩ := X
  subst hxv hp'
  have z0 : (0 : Int32).toInt = 0 := rfl
  by_cases hq : if_icmp.holds .eq x 0 = true
  · exact Fi.of (fun _ q => XS.ifYes Y.here K.1 rfl (pc0 := pc) (pc' := pc') rfl (hb K.2.2.1 hd) rfl ((if0 _ _).trans hq) (by omega) (by omega) q) (r1 (by have := h_icmp_eq.mp hq; omega))
  · exact Fi.of (fun _ q => XS.ifNo Y.here K.1 rfl (hb K.2.2.1 hd) rfl ((if0 _ _).trans (Bool.eq_false_iff.mpr hq)) q) (r2 (by have := mt h_icmp_eq.mpr hq; omega))
theorem g_lcmp_eq (K : Cx Z p s m meth c own bytes ml rt nm) (X : Wk p l e R s m args below meth c n0 T h cells slots) {pc pc1 pc' pc'' : Nat} {L : Array Slot} {st : List Value} {x y : Int64} {o : Int} (xv yv : Int) (hd : decode bytes pc = .ok (.lcmp, 1)) (hp1 : pc + 1 = pc1) (hd1 : decode bytes pc1 = .ok (.ifCond .eq o, 3)) (hp : (pc1 : Int) + o = (pc' : Int)) (hp' : pc1 + 3 = pc'') (hxv : x.toInt = xv) (hyv : y.toInt = yv) (r1 : xv = yv → Fi p e below s n0 C S Q (T.setTop (mkF m pc' L (st)))) (r2 : xv ≠ yv → Fi p e below s n0 C S Q (T.setTop (mkF m pc'' L (st)))) : Fi p e below s n0 C S Q (T.setTop (mkF m pc L (.long y :: .long x :: st))) := by
  obtain ⟨locs, Y, -⟩ := X
  subst hxv hyv hp' hp1
  have hs : ∀ t, Steps p.tables e below (T.setTop (mkF m (pc + 1) L (.int (XT.cmpL x y) :: st))) t → Steps p.tables e below (T.setTop (mkF m pc L (.long y :: .long x :: st))) t := fun _ q => XS.lcmp Y.here K.1 rfl (hb K.2.2.1 hd) rfl q
  by_cases hq : x.toInt = y.toInt
  · exact Fi.of (fun _ q => hs _ (XS.ifYes Y.here K.1 rfl (pc0 := pc + 1) (pc' := pc') rfl (hb K.2.2.1 hd1) rfl (XT.ll_eq_t (by simpa only [ge_iff_le, gt_iff_lt, ne_eq, i64_eq, Int64.lt_iff_toInt_lt, Int64.le_iff_toInt_le, Int.not_lt] using hq)) (by omega) (by omega) q)) (r1 hq)
  · exact Fi.of (fun _ q => hs _ (XS.ifNo Y.here K.1 rfl (hb K.2.2.1 hd1) rfl (XT.ll_eq_f (by simpa only [ge_iff_le, gt_iff_lt, ne_eq, Decidable.not_not, i64_eq, Int64.lt_iff_toInt_lt, Int64.le_iff_toInt_le, Int.not_lt, Int.not_le] using hq)) q)) (r2 (by omega))
theorem g_icmp_ne (K : Cx Z p s m meth c own bytes ml rt nm) (X : Wk p l e R s m args below meth c n0 T h cells slots) {pc pc' pc'' : Nat} {L : Array Slot} {st : List Value} {x y : Int32} {o : Int} (xv yv : Int) (hd : decode bytes pc = .ok (.if_icmp .ne o, 3)) (hp : (pc : Int) + o = (pc' : Int)) (hp' : pc + 3 = pc'') (hxv : x.toInt = xv) (hyv : y.toInt = yv) (r1 : xv ≠ yv → Fi p e below s n0 C S Q (T.setTop (mkF m pc' L (st)))) (r2 : xv = yv → Fi p e below s n0 C S Q (T.setTop (mkF m pc'' L (st)))) : Fi p e below s n0 C S Q (T.setTop (mkF m pc L (.int y :: .int x :: st))) := by
  obtain ⟨locs, Y, -⟩ := X
  subst hxv hyv hp'
  by_cases hq : if_icmp.holds .ne x y = true
  · exact Fi.of (fun _ q => XS.icmpYes Y.here K.1 rfl (pc0 := pc) (pc' := pc') rfl (hb K.2.2.1 hd) rfl hq (by omega) (by omega) q) (r1 (h_icmp_ne.mp hq))
  · exact Fi.of (fun _ q => XS.icmpNo Y.here K.1 rfl (hb K.2.2.1 hd) rfl (Bool.eq_false_iff.mpr hq) q) (r2 (by have := mt h_icmp_ne.mpr hq; omega))
theorem g_if_ne (K : Cx Z p s m meth c own bytes ml rt nm) (X : Wk p l e R s m args below meth c n0 T h cells slots) {pc pc' pc'' : Nat} {L : Array Slot} {st : List Value} {x : Int32} {o : Int} (xv : Int) (hd : decode bytes pc = .ok (.ifCond .ne o, 3)) (hp : (pc : Int) + o = (pc' : Int)) (hp' : pc + 3 = pc'') (hxv : x.toInt = xv) (r1 : xv ≠ 0 → Fi p e below s n0 C S Q (T.setTop (mkF m pc' L (st)))) (r2 : xv = 0 → Fi p e below s n0 C S Q (T.setTop (mkF m pc'' L (st)))) : Fi p e below s n0 C S Q (T.setTop (mkF m pc L (.int x :: st))) := by
  obtain ⟨locs, Y, -⟩ := X
  subst hxv hp'
  have z0 : (0 : Int32).toInt = 0 := rfl
  by_cases hq : if_icmp.holds .ne x 0 = true
  · exact Fi.of (fun _ q => XS.ifYes Y.here K.1 rfl (pc0 := pc) (pc' := pc') rfl (hb K.2.2.1 hd) rfl ((if0 _ _).trans hq) (by omega) (by omega) q) (r1 (by have := h_icmp_ne.mp hq; omega))
  · exact Fi.of (fun _ q => XS.ifNo Y.here K.1 rfl (hb K.2.2.1 hd) rfl ((if0 _ _).trans (Bool.eq_false_iff.mpr hq)) q) (r2 (by have := mt h_icmp_ne.mpr hq; omega))
theorem g_lcmp_ne (K : Cx Z p s m meth c own bytes ml rt nm) (X : Wk p l e R s m args below meth c n0 T h cells slots) {pc pc1 pc' pc'' : Nat} {L : Array Slot} {st : List Value} {x y : Int64} {o : Int} (xv yv : Int) (hd : decode bytes pc = .ok (.lcmp, 1)) (hp1 : pc + 1 = pc1) (hd1 : decode bytes pc1 = .ok (.ifCond .ne o, 3)) (hp : (pc1 : Int) + o = (pc' : Int)) (hp' : pc1 + 3 = pc'') (hxv : x.toInt = xv) (hyv : y.toInt = yv) (r1 : xv ≠ yv → Fi p e below s n0 C S Q (T.setTop (mkF m pc' L (st)))) (r2 : xv = yv → Fi p e below s n0 C S Q (T.setTop (mkF m pc'' L (st)))) : Fi p e below s n0 C S Q (T.setTop (mkF m pc L (.long y :: .long x :: st))) := by
  obtain ⟨locs, Y, -⟩ := X
  subst hxv hyv hp' hp1
  have hs : ∀ t, Steps p.tables e below (T.setTop (mkF m (pc + 1) L (.int (XT.cmpL x y) :: st))) t → Steps p.tables e below (T.setTop (mkF m pc L (.long y :: .long x :: st))) t := fun _ q => XS.lcmp Y.here K.1 rfl (hb K.2.2.1 hd) rfl q
  by_cases hq : x.toInt ≠ y.toInt
  · exact Fi.of (fun _ q => hs _ (XS.ifYes Y.here K.1 rfl (pc0 := pc + 1) (pc' := pc') rfl (hb K.2.2.1 hd1) rfl (XT.ll_ne_t (by simpa only [ge_iff_le, gt_iff_lt, ne_eq, i64_eq, Int64.lt_iff_toInt_lt, Int64.le_iff_toInt_le, Int.not_lt] using hq)) (by omega) (by omega) q)) (r1 hq)
  · exact Fi.of (fun _ q => hs _ (XS.ifNo Y.here K.1 rfl (hb K.2.2.1 hd1) rfl (XT.ll_ne_f (by simpa only [ge_iff_le, gt_iff_lt, ne_eq, Decidable.not_not, i64_eq, Int64.lt_iff_toInt_lt, Int64.le_iff_toInt_le, Int.not_lt, Int.not_le] using hq)) q)) (r2 (by omega))
theorem g_icmp_lt (K : Cx Z p s m meth c own bytes ml rt nm) (X : Wk p l e R s m args below meth c n0 T h cells slots) {pc pc' pc'' : Nat} {L : Array Slot} {st : List Value} {x y : Int32} {o : Int} (xv yv : Int) (hd : decode bytes pc = .ok (.if_icmp .lt o, 3)) (hp : (pc : Int) + o = (pc' : Int)) (hp' : pc + 3 = pc'') (hxv : x.toInt = xv) (hyv : y.toInt = yv) (r1 : xv < yv → Fi p e below s n0 C S Q (T.setTop (mkF m pc' L (st)))) (r2 : xv ≥ yv → Fi p e below s n0 C S Q (T.setTop (mkF m pc'' L (st)))) : Fi p e below s n0 C S Q (T.setTop (mkF m pc L (.int y :: .int x :: st))) := by
  obtain ⟨locs, Y, -⟩ := X
  subst hxv hyv hp'
  by_cases hq : if_icmp.holds .lt x y = true
  · exact Fi.of (fun _ q => XS.icmpYes Y.here K.1 rfl (pc0 := pc) (pc' := pc') rfl (hb K.2.2.1 hd) rfl hq (by omega) (by omega) q) (r1 (h_icmp_lt.mp hq))
  · exact Fi.of (fun _ q => XS.icmpNo Y.here K.1 rfl (hb K.2.2.1 hd) rfl (Bool.eq_false_iff.mpr hq) q) (r2 (by have := mt h_icmp_lt.mpr hq; omega))
theorem g_if_lt (K : Cx Z p s m meth c own bytes ml rt nm) (X : Wk p l e R s m args below meth c n0 T h cells slots) {pc pc' pc'' : Nat} {L : Array Slot} {st : List Value} {x : Int32} {o : Int} (xv : Int) (hd : decode bytes pc = .ok (.ifCond .lt o, 3)) (hp : (pc : Int) + o = (pc' : Int)) (hp' : pc + 3 = pc'') (hxv : x.toInt = xv) (r1 : xv < 0 → Fi p e below s n0 C S Q (T.setTop (mkF m pc' L (st)))) (r2 : xv ≥ 0 → Fi p e below s n0 C S Q (T.setTop (mkF m pc'' L (st)))) : Fi p e below s n0 C S Q (T.setTop (mkF m pc L (.int x :: st))) := by
  obtain ⟨locs, Y, -⟩ := X
  subst hxv hp'
  have z0 : (0 : Int32).toInt = 0 := rfl
  by_cases hq : if_icmp.holds .lt x 0 = true
  · exact Fi.of (fun _ q => XS.ifYes Y.here K.1 rfl (pc0 := pc) (pc' := pc') rfl (hb K.2.2.1 hd) rfl ((if0 _ _).trans hq) (by omega) (by omega) q) (r1 (by have := h_icmp_lt.mp hq; omega))
  · exact Fi.of (fun _ q => XS.ifNo Y.here K.1 rfl (hb K.2.2.1 hd) rfl ((if0 _ _).trans (Bool.eq_false_iff.mpr hq)) q) (r2 (by have := mt h_icmp_lt.mpr hq; omega))
theorem g_lcmp_lt (K : Cx Z p s m meth c own bytes ml rt nm) (X : Wk p l e R s m args below meth c n0 T h cells slots) {pc pc1 pc' pc'' : Nat} {L : Array Slot} {st : List Value} {x y : Int64} {o : Int} (xv yv : Int) (hd : decode bytes pc = .ok (.lcmp, 1)) (hp1 : pc + 1 = pc1) (hd1 : decode bytes pc1 = .ok (.ifCond .lt o, 3)) (hp : (pc1 : Int) + o = (pc' : Int)) (hp' : pc1 + 3 = pc'') (hxv : x.toInt = xv) (hyv : y.toInt = yv) (r1 : xv < yv → Fi p e below s n0 C S Q (T.setTop (mkF m pc' L (st)))) (r2 : xv ≥ yv → Fi p e below s n0 C S Q (T.setTop (mkF m pc'' L (st)))) : Fi p e below s n0 C S Q (T.setTop (mkF m pc L (.long y :: .long x :: st))) := by
  obtain ⟨locs, Y, -⟩ := X
  subst hxv hyv hp' hp1
  have hs : ∀ t, Steps p.tables e below (T.setTop (mkF m (pc + 1) L (.int (XT.cmpL x y) :: st))) t → Steps p.tables e below (T.setTop (mkF m pc L (.long y :: .long x :: st))) t := fun _ q => XS.lcmp Y.here K.1 rfl (hb K.2.2.1 hd) rfl q
  by_cases hq : x.toInt < y.toInt
  · exact Fi.of (fun _ q => hs _ (XS.ifYes Y.here K.1 rfl (pc0 := pc + 1) (pc' := pc') rfl (hb K.2.2.1 hd1) rfl (XT.ll_lt_t (by simpa only [ge_iff_le, gt_iff_lt, ne_eq, i64_eq, Int64.lt_iff_toInt_lt, Int64.le_iff_toInt_le, Int.not_lt] using hq)) (by omega) (by omega) q)) (r1 hq)
  · exact Fi.of (fun _ q => hs _ (XS.ifNo Y.here K.1 rfl (hb K.2.2.1 hd1) rfl (XT.ll_lt_f (by simpa only [ge_iff_le, gt_iff_lt, ne_eq, Decidable.not_not, i64_eq, Int64.lt_iff_toInt_lt, Int64.le_iff_toInt_le, Int.not_lt, Int.not_le] using hq)) q)) (r2 (by omega))
theorem g_icmp_ge (K : Cx Z p s m meth c own bytes ml rt nm) (X : Wk p l e R s m args below meth c n0 T h cells slots) {pc pc' pc'' : Nat} {L : Array Slot} {st : List Value} {x y : Int32} {o : Int} (xv yv : Int) (hd : decode bytes pc = .ok (.if_icmp .ge o, 3)) (hp : (pc : Int) + o = (pc' : Int)) (hp' : pc + 3 = pc'') (hxv : x.toInt = xv) (hyv : y.toInt = yv) (r1 : xv ≥ yv → Fi p e below s n0 C S Q (T.setTop (mkF m pc' L (st)))) (r2 : xv < yv → Fi p e below s n0 C S Q (T.setTop (mkF m pc'' L (st)))) : Fi p e below s n0 C S Q (T.setTop (mkF m pc L (.int y :: .int x :: st))) := by
  obtain ⟨locs, Y, -⟩ := X
  subst hxv hyv hp'
  by_cases hq : if_icmp.holds .ge x y = true
  · exact Fi.of (fun _ q => XS.icmpYes Y.here K.1 rfl (pc0 := pc) (pc' := pc') rfl (hb K.2.2.1 hd) rfl hq (by omega) (by omega) q) (r1 (h_icmp_ge.mp hq))
  · exact Fi.of (fun _ q => XS.icmpNo Y.here K.1 rfl (hb K.2.2.1 hd) rfl (Bool.eq_false_iff.mpr hq) q) (r2 (by have := mt h_icmp_ge.mpr hq; omega))
theorem g_if_ge (K : Cx Z p s m meth c own bytes ml rt nm) (X : Wk p l e R s m args below meth c n0 T h cells slots) {pc pc' pc'' : Nat} {L : Array Slot} {st : List Value} {x : Int32} {o : Int} (xv : Int) (hd : decode bytes pc = .ok (.ifCond .ge o, 3)) (hp : (pc : Int) + o = (pc' : Int)) (hp' : pc + 3 = pc'') (hxv : x.toInt = xv) (r1 : xv ≥ 0 → Fi p e below s n0 C S Q (T.setTop (mkF m pc' L (st)))) (r2 : xv < 0 → Fi p e below s n0 C S Q (T.setTop (mkF m pc'' L (st)))) : Fi p e below s n0 C S Q (T.setTop (mkF m pc L (.int x :: st))) := by
  obtain ⟨locs, Y, -⟩ := X
  subst hxv hp'
  have z0 : (0 : Int32).toInt = 0 := rfl
  by_cases hq : if_icmp.holds .ge x 0 = true
  · exact Fi.of (fun _ q => XS.ifYes Y.here K.1 rfl (pc0 := pc) (pc' := pc') rfl (hb K.2.2.1 hd) rfl ((if0 _ _).trans hq) (by omega) (by omega) q) (r1 (by have := h_icmp_ge.mp hq; omega))
  · exact Fi.of (fun _ q => XS.ifNo Y.here K.1 rfl (hb K.2.2.1 hd) rfl ((if0 _ _).trans (Bool.eq_false_iff.mpr hq)) q) (r2 (by have := mt h_icmp_ge.mpr hq; omega))
theorem g_lcmp_ge (K : Cx Z p s m meth c own bytes ml rt nm) (X : Wk p l e R s m args below meth c n0 T h cells slots) {pc pc1 pc' pc'' : Nat} {L : Array Slot} {st : List Value} {x y : Int64} {o : Int} (xv yv : Int) (hd : decode bytes pc = .ok (.lcmp, 1)) (hp1 : pc + 1 = pc1) (hd1 : decode bytes pc1 = .ok (.ifCond .ge o, 3)) (hp : (pc1 : Int) + o = (pc' : Int)) (hp' : pc1 + 3 = pc'') (hxv : x.toInt = xv) (hyv : y.toInt = yv) (r1 : xv ≥ yv → Fi p e below s n0 C S Q (T.setTop (mkF m pc' L (st)))) (r2 : xv < yv → Fi p e below s n0 C S Q (T.setTop (mkF m pc'' L (st)))) : Fi p e below s n0 C S Q (T.setTop (mkF m pc L (.long y :: .long x :: st))) := by
  obtain ⟨locs, Y, -⟩ := X
  subst hxv hyv hp' hp1
  have hs : ∀ t, Steps p.tables e below (T.setTop (mkF m (pc + 1) L (.int (XT.cmpL x y) :: st))) t → Steps p.tables e below (T.setTop (mkF m pc L (.long y :: .long x :: st))) t := fun _ q => XS.lcmp Y.here K.1 rfl (hb K.2.2.1 hd) rfl q
  by_cases hq : x.toInt ≥ y.toInt
  · exact Fi.of (fun _ q => hs _ (XS.ifYes Y.here K.1 rfl (pc0 := pc + 1) (pc' := pc') rfl (hb K.2.2.1 hd1) rfl (XT.ll_ge_t (by simpa only [ge_iff_le, gt_iff_lt, ne_eq, i64_eq, Int64.lt_iff_toInt_lt, Int64.le_iff_toInt_le, Int.not_lt] using hq)) (by omega) (by omega) q)) (r1 hq)
  · exact Fi.of (fun _ q => hs _ (XS.ifNo Y.here K.1 rfl (hb K.2.2.1 hd1) rfl (XT.ll_ge_f (by simpa only [ge_iff_le, gt_iff_lt, ne_eq, Decidable.not_not, i64_eq, Int64.lt_iff_toInt_lt, Int64.le_iff_toInt_le, Int.not_lt, Int.not_le] using hq)) q)) (r2 (by omega))
theorem g_icmp_gt (K : Cx Z p s m meth c own bytes ml rt nm) (X : Wk p l e R s m args below meth c n0 T h cells slots) {pc pc' pc'' : Nat} {L : Array Slot} {st : List Value} {x y : Int32} {o : Int} (xv yv : Int) (hd : decode bytes pc = .ok (.if_icmp .gt o, 3)) (hp : (pc : Int) + o = (pc' : Int)) (hp' : pc + 3 = pc'') (hxv : x.toInt = xv) (hyv : y.toInt = yv) (r1 : xv > yv → Fi p e below s n0 C S Q (T.setTop (mkF m pc' L (st)))) (r2 : xv ≤ yv → Fi p e below s n0 C S Q (T.setTop (mkF m pc'' L (st)))) : Fi p e below s n0 C S Q (T.setTop (mkF m pc L (.int y :: .int x :: st))) := by
  obtain ⟨locs, Y, -⟩ := X
  subst hxv hyv hp'
  by_cases hq : if_icmp.holds .gt x y = true
  · exact Fi.of (fun _ q => XS.icmpYes Y.here K.1 rfl (pc0 := pc) (pc' := pc') rfl (hb K.2.2.1 hd) rfl hq (by omega) (by omega) q) (r1 (h_icmp_gt.mp hq))
  · exact Fi.of (fun _ q => XS.icmpNo Y.here K.1 rfl (hb K.2.2.1 hd) rfl (Bool.eq_false_iff.mpr hq) q) (r2 (by have := mt h_icmp_gt.mpr hq; omega))
theorem g_if_gt (K : Cx Z p s m meth c own bytes ml rt nm) (X : Wk p l e R s m args below meth c n0 T h cells slots) {pc pc' pc'' : Nat} {L : Array Slot} {st : List Value} {x : Int32} {o : Int} (xv : Int) (hd : decode bytes pc = .ok (.ifCond .gt o, 3)) (hp : (pc : Int) + o = (pc' : Int)) (hp' : pc + 3 = pc'') (hxv : x.toInt = xv) (r1 : xv > 0 → Fi p e below s n0 C S Q (T.setTop (mkF m pc' L (st)))) (r2 : xv ≤ 0 → Fi p e below s n0 C S Q (T.setTop (mkF m pc'' L (st)))) : Fi p e below s n0 C S Q (T.setTop (mkF m pc L (.int x :: st))) := by
  obtain ⟨locs, Y, -⟩ := X
  subst hxv hp'
  have z0 : (0 : Int32).toInt = 0 := rfl
  by_cases hq : if_icmp.holds .gt x 0 = true
  · exact Fi.of (fun _ q => XS.ifYes Y.here K.1 rfl (pc0 := pc) (pc' := pc') rfl (hb K.2.2.1 hd) rfl ((if0 _ _).trans hq) (by omega) (by omega) q) (r1 (by have := h_icmp_gt.mp hq; omega))
  · exact Fi.of (fun _ q => XS.ifNo Y.here K.1 rfl (hb K.2.2.1 hd) rfl ((if0 _ _).trans (Bool.eq_false_iff.mpr hq)) q) (r2 (by have := mt h_icmp_gt.mpr hq; omega))
theorem g_lcmp_gt (K : Cx Z p s m meth c own bytes ml rt nm) (X : Wk p l e R s m args below meth c n0 T h cells slots) {pc pc1 pc' pc'' : Nat} {L : Array Slot} {st : List Value} {x y : Int64} {o : Int} (xv yv : Int) (hd : decode bytes pc = .ok (.lcmp, 1)) (hp1 : pc + 1 = pc1) (hd1 : decode bytes pc1 = .ok (.ifCond .gt o, 3)) (hp : (pc1 : Int) + o = (pc' : Int)) (hp' : pc1 + 3 = pc'') (hxv : x.toInt = xv) (hyv : y.toInt = yv) (r1 : xv > yv → Fi p e below s n0 C S Q (T.setTop (mkF m pc' L (st)))) (r2 : xv ≤ yv → Fi p e below s n0 C S Q (T.setTop (mkF m pc'' L (st)))) : Fi p e below s n0 C S Q (T.setTop (mkF m pc L (.long y :: .long x :: st))) := by
  obtain ⟨locs, Y, -⟩ := X
  subst hxv hyv hp' hp1
  have hs : ∀ t, Steps p.tables e below (T.setTop (mkF m (pc + 1) L (.int (XT.cmpL x y) :: st))) t → Steps p.tables e below (T.setTop (mkF m pc L (.long y :: .long x :: st))) t := fun _ q => XS.lcmp Y.here K.1 rfl (hb K.2.2.1 hd) rfl q
  by_cases hq : x.toInt > y.toInt
  · exact Fi.of (fun _ q => hs _ (XS.ifYes Y.here K.1 rfl (pc0 := pc + 1) (pc' := pc') rfl (hb K.2.2.1 hd1) rfl (XT.ll_gt_t (by simpa only [ge_iff_le, gt_iff_lt, ne_eq, i64_eq, Int64.lt_iff_toInt_lt, Int64.le_iff_toInt_le, Int.not_lt] using hq)) (by omega) (by omega) q)) (r1 hq)
  · exact Fi.of (fun _ q => hs _ (XS.ifNo Y.here K.1 rfl (hb K.2.2.1 hd1) rfl (XT.ll_gt_f (by simpa only [ge_iff_le, gt_iff_lt, ne_eq, Decidable.not_not, i64_eq, Int64.lt_iff_toInt_lt, Int64.le_iff_toInt_le, Int.not_lt, Int.not_le] using hq)) q)) (r2 (by omega))
theorem g_icmp_le (K : Cx Z p s m meth c own bytes ml rt nm) (X : Wk p l e R s m args below meth c n0 T h cells slots) {pc pc' pc'' : Nat} {L : Array Slot} {st : List Value} {x y : Int32} {o : Int} (xv yv : Int) (hd : decode bytes pc = .ok (.if_icmp .le o, 3)) (hp : (pc : Int) + o = (pc' : Int)) (hp' : pc + 3 = pc'') (hxv : x.toInt = xv) (hyv : y.toInt = yv) (r1 : xv ≤ yv → Fi p e below s n0 C S Q (T.setTop (mkF m pc' L (st)))) (r2 : xv > yv → Fi p e below s n0 C S Q (T.setTop (mkF m pc'' L (st)))) : Fi p e below s n0 C S Q (T.setTop (mkF m pc L (.int y :: .int x :: st))) := by
  obtain ⟨locs, Y, -⟩ := X
  subst hxv hyv hp'
  by_cases hq : if_icmp.holds .le x y = true
  · exact Fi.of (fun _ q => XS.icmpYes Y.here K.1 rfl (pc0 := pc) (pc' := pc') rfl (hb K.2.2.1 hd) rfl hq (by omega) (by omega) q) (r1 (h_icmp_le.mp hq))
  · exact Fi.of (fun _ q => XS.icmpNo Y.here K.1 rfl (hb K.2.2.1 hd) rfl (Bool.eq_false_iff.mpr hq) q) (r2 (by have := mt h_icmp_le.mpr hq; omega))
theorem g_if_le (K : Cx Z p s m meth c own bytes ml rt nm) (X : Wk p l e R s m args below meth c n0 T h cells slots) {pc pc' pc'' : Nat} {L : Array Slot} {st : List Value} {x : Int32} {o : Int} (xv : Int) (hd : decode bytes pc = .ok (.ifCond .le o, 3)) (hp : (pc : Int) + o = (pc' : Int)) (hp' : pc + 3 = pc'') (hxv : x.toInt = xv) (r1 : xv ≤ 0 → Fi p e below s n0 C S Q (T.setTop (mkF m pc' L (st)))) (r2 : xv > 0 → Fi p e below s n0 C S Q (T.setTop (mkF m pc'' L (st)))) : Fi p e below s n0 C S Q (T.setTop (mkF m pc L (.int x :: st))) := by
  obtain ⟨locs, Y, -⟩ := X
  subst hxv hp'
  have z0 : (0 : Int32).toInt = 0 := rfl
  by_cases hq : if_icmp.holds .le x 0 = true
  · exact Fi.of (fun _ q => XS.ifYes Y.here K.1 rfl (pc0 := pc) (pc' := pc') rfl (hb K.2.2.1 hd) rfl ((if0 _ _).trans hq) (by omega) (by omega) q) (r1 (by have := h_icmp_le.mp hq; omega))
  · exact Fi.of (fun _ q => XS.ifNo Y.here K.1 rfl (hb K.2.2.1 hd) rfl ((if0 _ _).trans (Bool.eq_false_iff.mpr hq)) q) (r2 (by have := mt h_icmp_le.mpr hq; omega))
theorem g_lcmp_le (K : Cx Z p s m meth c own bytes ml rt nm) (X : Wk p l e R s m args below meth c n0 T h cells slots) {pc pc1 pc' pc'' : Nat} {L : Array Slot} {st : List Value} {x y : Int64} {o : Int} (xv yv : Int) (hd : decode bytes pc = .ok (.lcmp, 1)) (hp1 : pc + 1 = pc1) (hd1 : decode bytes pc1 = .ok (.ifCond .le o, 3)) (hp : (pc1 : Int) + o = (pc' : Int)) (hp' : pc1 + 3 = pc'') (hxv : x.toInt = xv) (hyv : y.toInt = yv) (r1 : xv ≤ yv → Fi p e below s n0 C S Q (T.setTop (mkF m pc' L (st)))) (r2 : xv > yv → Fi p e below s n0 C S Q (T.setTop (mkF m pc'' L (st)))) : Fi p e below s n0 C S Q (T.setTop (mkF m pc L (.long y :: .long x :: st))) := by
  obtain ⟨locs, Y, -⟩ := X
  subst hxv hyv hp' hp1
  have hs : ∀ t, Steps p.tables e below (T.setTop (mkF m (pc + 1) L (.int (XT.cmpL x y) :: st))) t → Steps p.tables e below (T.setTop (mkF m pc L (.long y :: .long x :: st))) t := fun _ q => XS.lcmp Y.here K.1 rfl (hb K.2.2.1 hd) rfl q
  by_cases hq : x.toInt ≤ y.toInt
  · exact Fi.of (fun _ q => hs _ (XS.ifYes Y.here K.1 rfl (pc0 := pc + 1) (pc' := pc') rfl (hb K.2.2.1 hd1) rfl (XT.ll_le_t (by simpa only [ge_iff_le, gt_iff_lt, ne_eq, i64_eq, Int64.lt_iff_toInt_lt, Int64.le_iff_toInt_le, Int.not_lt] using hq)) (by omega) (by omega) q)) (r1 hq)
  · exact Fi.of (fun _ q => hs _ (XS.ifNo Y.here K.1 rfl (hb K.2.2.1 hd1) rfl (XT.ll_le_f (by simpa only [ge_iff_le, gt_iff_lt, ne_eq, Decidable.not_not, i64_eq, Int64.lt_iff_toInt_lt, Int64.le_iff_toInt_le, Int.not_lt, Int.not_le] using hq)) q)) (r2 (by omega))
theorem g_leave (K : Cx Z p s m meth c own bytes ml rt nm) (X : Wk p l e R s m args below meth c n0 T h cells slots) {v : Option Value} {t0 : State} (hv : rt = none → v = none) (hc : cells ≤ C) (hs : slots ≤ S) (hq : Q v h)
    (st : ∀ fs, (∀ (f : JFrame) (acts : List Action), f.method = m → f.locked = none → f.entered = [] → (doReturn e (T.setTop f) acts v).1 = T.setFrames fs) → Steps p.tables e below t0 (T.setFrames fs)) : Fi p e below s n0 C S Q t0 := by
  obtain ⟨locs, Y, rfl, hF, -⟩ := X
  obtain ⟨fs, hr, hrun, hended, hW, hsame⟩ := Y.leave (v := v) (fun q => hv (K.2.2.2.2.2.1.symm.trans q)) K.2.2.2.2.2.2.1
  exact ⟨_, _, st fs hr, hrun, hended, v, locs, rfl, ⟨hq, hF⟩, ⟨_, rfl⟩, hW, hsame.mono hc hs⟩
theorem g_retN {t : FieldType} (K : Cx Z p s m meth c own bytes ml (some t) nm) (X : Wk p l e R s m args below meth c n0 T h cells slots) {pc : Nat} {L : Array Slot} {z : Int32} {rest : List Value} (hd : decode bytes pc = .ok (.ireturn, 1)) (ht : t = .boolean ∨ t = .byte ∨ t = .char ∨ t = .short) (hc : cells ≤ C) (hs : slots ≤ S) (hq : Q (some (.int (nar t z))) h) : Fi p e below s n0 C S Q (T.setTop (mkF m pc L (.int z :: rest))) := by
  refine g_leave K X (v := some (.int (nar t z))) (fun q => by cases q) hc hs hq (fun fs hr => ?_)
  obtain ⟨locs, Y, -⟩ := X
  exact retN Y K.1 (t := t) K.2.2.2.2.2.1 ht (hb K.2.2.1 hd) hr
theorem g_retI (K : Cx Z p s m meth c own bytes ml (some .int) nm) (X : Wk p l e R s m args below meth c n0 T h cells slots) {pc : Nat} {L : Array Slot} {z : Int32} {rest : List Value} (hd : decode bytes pc = .ok (.ireturn, 1)) (hc : cells ≤ C) (hs : slots ≤ S) (hq : Q (some (.int z)) h) : Fi p e below s n0 C S Q (T.setTop (mkF m pc L (.int z :: rest))) := by
  refine g_leave K X (v := some (.int z)) (fun q => by cases q) hc hs hq (fun fs hr => ?_)
  obtain ⟨locs, Y, -⟩ := X
  exact retOut Y K.1 K.2.2.2.2.2.1 rfl (Or.inl ⟨rfl, Or.inl rfl, _, rfl⟩) (hb K.2.2.1 hd) hr
theorem g_retL (K : Cx Z p s m meth c own bytes ml (some .long) nm) (X : Wk p l e R s m args below meth c n0 T h cells slots) {pc : Nat} {L : Array Slot} {z : Int64} {rest : List Value} (hd : decode bytes pc = .ok (.lreturn, 1)) (hc : cells ≤ C) (hs : slots ≤ S) (hq : Q (some (.long z)) h) : Fi p e below s n0 C S Q (T.setTop (mkF m pc L (.long z :: rest))) := by
  refine g_leave K X (v := some (.long z)) (fun q => by cases q) hc hs hq (fun fs hr => ?_)
  obtain ⟨locs, Y, -⟩ := X
  exact retOut Y K.1 K.2.2.2.2.2.1 rfl (Or.inr (Or.inl ⟨rfl, rfl, _, rfl⟩)) (hb K.2.2.1 hd) hr
theorem g_retA {t : FieldType} (K : Cx Z p s m meth c own bytes ml (some t) nm) (X : Wk p l e R s m args below meth c n0 T h cells slots) {pc : Nat} {L : Array Slot} {a : Addr} {rest : List Value} (hd : decode bytes pc = .ok (.areturn, 1)) (ht : t.isReference = true) (hnw : narrow t (.ref a) = .ref a) (hc : cells ≤ C) (hs : slots ≤ S) (hq : Q (some (.ref a)) h) : Fi p e below s n0 C S Q (T.setTop (mkF m pc L (.ref a :: rest))) := by
  refine g_leave K X (v := some (.ref a)) (fun q => by cases q) hc hs hq (fun fs hr => ?_)
  obtain ⟨locs, Y, -⟩ := X
  exact retOut Y K.1 K.2.2.2.2.2.1 hnw (Or.inr (Or.inr (Or.inr (Or.inr ⟨rfl, ht, rfl⟩)))) (hb K.2.2.1 hd) hr
theorem g_ret0 (K : Cx Z p s m meth c own bytes ml none nm) (X : Wk p l e R s m args below meth c n0 T h cells slots) {pc : Nat} {L : Array Slot} (hd : decode bytes pc = .ok (.return_, 1)) (hc : cells ≤ C) (hs : slots ≤ S) (hq : Q none h) : Fi p e below s n0 C S Q (T.setTop (mkF m pc L [])) := by
  refine g_leave K X (v := none) (fun q => rfl) hc hs hq (fun fs hr => ?_)
  obtain ⟨locs, Y, -⟩ := X
  exact Y.returnOut K.1 K.2.2.2.2.2.1 (hb K.2.2.1 hd) hr
theorem keep_same {h0 h1 h2 : Heap} {ws : List Addr} (K1 : Keep h0 h1 ws) (K2 : Keep h1 h2 ws) : Keep h0 h2 ws := K1.trans K2 (fun x hx => Or.inl hx)
/-! arrays by a function of the place -/
def upd {α : Type} (f : Nat → α) (i : Nat) (v : α) : Nat → α := fun j => if j = i then v else f j
theorem upd_hit {α : Type} (f : Nat → α) (i : Nat) (v : α) : upd f i v i = v := by simp [upd]
theorem upd_miss {α : Type} (f : Nat → α) {i j : Nat} (v : α) (hn : j ≠ i) : upd f i v j = f j := by simp [upd, hn]
def AN (Z : State) (h : Heap) (a : Addr) (ty : FieldType) (n : Nat) (f : Nat → Int32) : Prop := ∃ c : Cell, Arr Z h a c ty ∧ c.slots.size = n ∧ n < 2147483648 ∧ ∀ i, i < n → c.slots[i]? = some (.int (f i))
def AL (Z : State) (h : Heap) (a : Addr) (n : Nat) (f : Nat → Int64) : Prop := ∃ c : Cell, Arr Z h a c .long ∧ c.slots.size = n ∧ n < 2147483648 ∧ ∀ i, i < n → c.slots[i]? = some (.long (f i))
theorem j_in {j : Int32} {i n : Nat} (hj : j.toInt = (i : Int)) (hi : i < n) : ¬ (j < 0 ∨ n ≤ j.toNatClampNeg) ∧ j.toNatClampNeg = i := by
  have h1 : j.toNatClampNeg = i := by
    show j.toInt.toNat = i
    omega
  have h2 : ¬ j < 0 := by rw [Int32.lt_iff_toInt_lt]; show ¬ j.toInt < 0; omega
  exact ⟨fun q => q.elim h2 (by omega), h1⟩
theorem AN.lt {a : Addr} {ty : FieldType} {n : Nat} {f : Nat → Int32} (A : AN Z h a ty n f) : a < h.size := by obtain ⟨c, A, -⟩ := A; exact A.lt
theorem AN.ext {h' : Heap} {a : Addr} {ty : FieldType} {n : Nat} {f : Nat → Int32} (A : AN Z h a ty n f) (E : Ext h h') : AN Z h' a ty n f := by obtain ⟨c, A, r⟩ := A; exact ⟨c, A.ext E, r⟩
theorem AN.keep {h' : Heap} {ws : List Addr} {a : Addr} {ty : FieldType} {n : Nat} {f : Nat → Int32} (A : AN Z h a ty n f) (K : Keep h h' ws) (q : a ∉ ws) : AN Z h' a ty n f := by obtain ⟨c, A, r⟩ := A; exact ⟨c, ⟨K.2.1 a c A.1 q, A.2⟩, r⟩
theorem AN.congr {a : Addr} {ty : FieldType} {n : Nat} {f f' : Nat → Int32} (A : AN Z h a ty n f) (q : ∀ i, i < n → f i = f' i) : AN Z h a ty n f' := by obtain ⟨c, A, r1, r2, r3⟩ := A; exact ⟨c, A, r1, r2, fun i hi => by rw [← q i hi]; exact r3 i hi⟩
theorem AN.set {h' : Heap} {a : Addr} {ty : FieldType} {n i : Nat} {f : Nat → Int32} {v : Int32} {c : Cell} (A : Arr Z h a c ty) (q1 : c.slots.size = n) (q2 : n < 2147483648) (q3 : ∀ i, i < n → c.slots[i]? = some (.int (f i))) (hi : i < n) (W : Wr h h' a i (.int v)) : AN Z h' a ty n (upd f i v) := by
  refine ⟨_, A.same W, ?_, q2, fun k hk => ?_⟩
  · rw [sz_set]; exact q1
  · by_cases hki : k = i
    · subst hki
      simp [Cell.setSlot, upd, q1, hi]
    · have : ¬ i = k := fun q => hki q.symm
      simp [Cell.setSlot, upd, hki, this, q3 k hk, Array.getElem?_setIfInBounds]
theorem AL.lt {a : Addr} {n : Nat} {f : Nat → Int64} (A : AL Z h a n f) : a < h.size := by obtain ⟨c, A, -⟩ := A; exact A.lt
theorem AL.ext {h' : Heap} {a : Addr} {n : Nat} {f : Nat → Int64} (A : AL Z h a n f) (E : Ext h h') : AL Z h' a n f := by obtain ⟨c, A, r⟩ := A; exact ⟨c, A.ext E, r⟩
theorem AL.keep {h' : Heap} {ws : List Addr} {a : Addr} {n : Nat} {f : Nat → Int64} (A : AL Z h a n f) (K : Keep h h' ws) (q : a ∉ ws) : AL Z h' a n f := by obtain ⟨c, A, r⟩ := A; exact ⟨c, ⟨K.2.1 a c A.1 q, A.2⟩, r⟩
theorem AL.congr {a : Addr} {n : Nat} {f f' : Nat → Int64} (A : AL Z h a n f) (q : ∀ i, i < n → f i = f' i) : AL Z h a n f' := by obtain ⟨c, A, r1, r2, r3⟩ := A; exact ⟨c, A, r1, r2, fun i hi => by rw [← q i hi]; exact r3 i hi⟩
theorem AL.set {h' : Heap} {a : Addr} {n i : Nat} {f : Nat → Int64} {v : Int64} {c : Cell} (A : Arr Z h a c .long) (q1 : c.slots.size = n) (q2 : n < 2147483648) (q3 : ∀ i, i < n → c.slots[i]? = some (.long (f i))) (hi : i < n) (W : Wr h h' a i (.long v)) : AL Z h' a n (upd f i v) := by
  refine ⟨_, A.same W, ?_, q2, fun k hk => ?_⟩
  · rw [sz_set]; exact q1
  · by_cases hki : k = i
    · subst hki
      simp [Cell.setSlot, upd, q1, hi]
    · have : ¬ i = k := fun q => hki q.symm
      simp [Cell.setSlot, upd, hki, this, q3 k hk, Array.getElem?_setIfInBounds]
theorem AN.len {a : Addr} {ty : FieldType} {n : Nat} {f : Nat → Int32} (A : AN Z h a ty n f) : (Int32.ofNat n).toInt = (n : Int) := by
  obtain ⟨c, _, _, q2, _⟩ := A
  exact Int32.toInt_ofNat_of_lt q2
theorem jb_rng (x : Int32) : (jb x).toInt % 256 = x.toInt % 256 ∧ -128 ≤ (jb x).toInt ∧ (jb x).toInt < 128 := by
  have := c_i2b x
  unfold jb
  omega
theorem jb_id {x : Int32} (h1 : -128 ≤ x.toInt) (h2 : x.toInt < 128) : jb x = x := by
  have := jb_rng x
  rw [i32_eq]; omega
theorem jb_jb (x : Int32) : jb (jb x) = jb x := by
  have := jb_rng x
  exact jb_id (by omega) (by omega)
theorem jc_rng (x : Int32) : (jc x).toInt % 65536 = x.toInt % 65536 ∧ 0 ≤ (jc x).toInt ∧ (jc x).toInt < 65536 := by
  have := c_i2c x
  unfold jc
  omega
theorem jc_id {x : Int32} (h1 : 0 ≤ x.toInt) (h2 : x.toInt < 65536) : jc x = x := by
  have := jc_rng x
  rw [i32_eq]; omega
theorem nar_c (x : Int32) : nar .char x = jc x := rfl
theorem nar_b (x : Int32) : nar .byte x = jb x := rfl
theorem g_baload (K : Cx Z p s m meth c own bytes ml rt nm) (X : Wk p l e R s m args below meth c n0 T h cells slots) {pc pc' : Nat} {L : Array Slot} {st : List Value} {j : Int32} {a : Addr} {i n : Nat} {f : Nat → Int32} (hd : decode bytes pc = .ok (.baload, 1)) (hp : pc + 1 = pc') (A : AN Z h a .byte n f) (hj : j.toInt = (i : Int)) (hi : i < n) (r : Fi p e below s n0 C S Q (T.setTop (mkF m pc' L (.int (f i) :: st)))) : Fi p e below s n0 C S Q (T.setTop (mkF m pc L (.int j :: .ref a :: st))) := by
  obtain ⟨locs, Y, hh, -⟩ := X
  subst hp
  obtain ⟨cl, B, rfl, q2, q3⟩ := A
  obtain ⟨hin, e⟩ := j_in hj hi
  exact Fi.of (fun _ q => Y.baloadBytes K.1 (j := j) (v := .int (f i)) (by rw [hh]; exact B.1) (State.isArrayOf_alike K.2.1.alike B.2.1) B.2.2 hin (by rw [e]; exact q3 i hi) (g := mkF m pc L (.int j :: .ref a :: st)) rfl rfl (hb K.2.2.1 hd) _ q) r
theorem g_iaload (K : Cx Z p s m meth c own bytes ml rt nm) (X : Wk p l e R s m args below meth c n0 T h cells slots) {pc pc' : Nat} {L : Array Slot} {st : List Value} {j : Int32} {a : Addr} {i n : Nat} {f : Nat → Int32} (hd : decode bytes pc = .ok (.iaload, 1)) (hp : pc + 1 = pc') (A : AN Z h a .int n f) (hj : j.toInt = (i : Int)) (hi : i < n) (r : Fi p e below s n0 C S Q (T.setTop (mkF m pc' L (.int (f i) :: st)))) : Fi p e below s n0 C S Q (T.setTop (mkF m pc L (.int j :: .ref a :: st))) := by
  obtain ⟨locs, Y, hh, -⟩ := X
  subst hp
  obtain ⟨cl, B, rfl, q2, q3⟩ := A
  obtain ⟨hin, e⟩ := j_in hj hi
  exact Fi.of (fun _ q => Y.iaload K.1 (j := j) (v := .int (f i)) (by rw [hh]; exact B.1) (State.isArrayOf_alike K.2.1.alike B.2.1) B.2.2 hin (by rw [e]; exact q3 i hi) (g := mkF m pc L (.int j :: .ref a :: st)) rfl rfl (hb K.2.2.1 hd) _ q) r
theorem g_laload (K : Cx Z p s m meth c own bytes ml rt nm) (X : Wk p l e R s m args below meth c n0 T h cells slots) {pc pc' : Nat} {L : Array Slot} {st : List Value} {j : Int32} {a : Addr} {i n : Nat} {f : Nat → Int64} (hd : decode bytes pc = .ok (.laload, 1)) (hp : pc + 1 = pc') (A : AL Z h a n f) (hj : j.toInt = (i : Int)) (hi : i < n) (r : Fi p e below s n0 C S Q (T.setTop (mkF m pc' L (.long (f i) :: st)))) : Fi p e below s n0 C S Q (T.setTop (mkF m pc L (.int j :: .ref a :: st))) := by
  obtain ⟨locs, Y, hh, -⟩ := X
  subst hp
  obtain ⟨cl, B, rfl, q2, q3⟩ := A
  obtain ⟨hin, e⟩ := j_in hj hi
  exact Fi.of (fun _ q => Y.laload K.1 (j := j) (v := .long (f i)) (by rw [hh]; exact B.1) (State.isArrayOf_alike K.2.1.alike B.2.1) B.2.2 hin (by rw [e]; exact q3 i hi) (g := mkF m pc L (.int j :: .ref a :: st)) rfl rfl (hb K.2.2.1 hd) _ q) r
theorem g_bastore (K : Cx Z p s m meth c own bytes ml rt nm) (X : Wk p l e R s m args below meth c n0 T h cells slots) {pc pc' : Nat} {L : Array Slot} {st : List Value} {j : Int32} {x : Int32} {a : Addr} {i n : Nat} {f : Nat → Int32} (hd : decode bytes pc = .ok (.bastore, 1)) (hp : pc + 1 = pc') (A : AN Z h a .byte n f) (ha : n0 ≤ a) (hj : j.toInt = (i : Int)) (hi : i < n)
    (r : ∀ T' h', Wk p l e R s m args below meth c n0 T' h' cells slots → Keep h h' [a] → AN Z h' a .byte n (upd f i (jb x)) → Fi p e below s n0 C S Q (T'.setTop (mkF m pc' L (st)))) : Fi p e below s n0 C S Q (T.setTop (mkF m pc L (.int x :: .int j :: .ref a :: st))) := by
  obtain ⟨locs, Y, hh, hF, hn⟩ := X
  subst hp
  obtain ⟨cl, B, rfl, q2, q3⟩ := A
  obtain ⟨hin, e1⟩ := j_in hj hi
  obtain ⟨T', h', X', e', W, st'⟩ := stB Y K.1 K.2.1 hh B (j := j) hin (g := mkF m pc L (.int x :: .int j :: .ref a :: st)) rfl rfl (hb K.2.2.1 hd)
  rw [e1] at W
  exact Fi.of st' (r T' h' ⟨_, X', e', Fr.snoc X' hF ha, by rw [W.size]; exact hn⟩ (Keep.of_wr W) (AN.set B rfl q2 q3 hi W))
theorem g_iastore (K : Cx Z p s m meth c own bytes ml rt nm) (X : Wk p l e R s m args below meth c n0 T h cells slots) {pc pc' : Nat} {L : Array Slot} {st : List Value} {j : Int32} {x : Int32} {a : Addr} {i n : Nat} {f : Nat → Int32} (hd : decode bytes pc = .ok (.iastore, 1)) (hp : pc + 1 = pc') (A : AN Z h a .int n f) (ha : n0 ≤ a) (hj : j.toInt = (i : Int)) (hi : i < n)
    (r : ∀ T' h', Wk p l e R s m args below meth c n0 T' h' cells slots → Keep h h' [a] → AN Z h' a .int n (upd f i x) → Fi p e below s n0 C S Q (T'.setTop (mkF m pc' L (st)))) : Fi p e below s n0 C S Q (T.setTop (mkF m pc L (.int x :: .int j :: .ref a :: st))) := by
  obtain ⟨locs, Y, hh, hF, hn⟩ := X
  subst hp
  obtain ⟨cl, B, rfl, q2, q3⟩ := A
  obtain ⟨hin, e1⟩ := j_in hj hi
  obtain ⟨T', h', X', e', W, st'⟩ := stI Y K.1 K.2.1 hh B (j := j) hin (g := mkF m pc L (.int x :: .int j :: .ref a :: st)) rfl rfl (hb K.2.2.1 hd)
  rw [e1] at W
  exact Fi.of st' (r T' h' ⟨_, X', e', Fr.snoc X' hF ha, by rw [W.size]; exact hn⟩ (Keep.of_wr W) (AN.set B rfl q2 q3 hi W))
theorem g_lastore (K : Cx Z p s m meth c own bytes ml rt nm) (X : Wk p l e R s m args below meth c n0 T h cells slots) {pc pc' : Nat} {L : Array Slot} {st : List Value} {j : Int32} {x : Int64} {a : Addr} {i n : Nat} {f : Nat → Int64} (hd : decode bytes pc = .ok (.lastore, 1)) (hp : pc + 1 = pc') (A : AL Z h a n f) (ha : n0 ≤ a) (hj : j.toInt = (i : Int)) (hi : i < n)
    (r : ∀ T' h', Wk p l e R s m args below meth c n0 T' h' cells slots → Keep h h' [a] → AL Z h' a n (upd f i x) → Fi p e below s n0 C S Q (T'.setTop (mkF m pc' L (st)))) : Fi p e below s n0 C S Q (T.setTop (mkF m pc L (.long x :: .int j :: .ref a :: st))) := by
  obtain ⟨locs, Y, hh, hF, hn⟩ := X
  subst hp
  obtain ⟨cl, B, rfl, q2, q3⟩ := A
  obtain ⟨hin, e1⟩ := j_in hj hi
  obtain ⟨T', h', X', e', W, st'⟩ := stJ Y K.1 K.2.1 hh B (j := j) hin (g := mkF m pc L (.long x :: .int j :: .ref a :: st)) rfl rfl (hb K.2.2.1 hd)
  rw [e1] at W
  exact Fi.of st' (r T' h' ⟨_, X', e', Fr.snoc X' hF ha, by rw [W.size]; exact hn⟩ (Keep.of_wr W) (AL.set B rfl q2 q3 hi W))
theorem g_arraylength (K : Cx Z p s m meth c own bytes ml rt nm) (X : Wk p l e R s m args below meth c n0 T h cells slots) {pc pc' : Nat} {L : Array Slot} {st : List Value} {v : Int32} {a : Addr} {n : Nat} {ty : FieldType} {f : Nat → Int32} (hd : decode bytes pc = .ok (.arraylength, 1)) (hp : pc + 1 = pc') (A : AN Z h a ty n f) (hv : v.toInt = (n : Int)) (r : Fi p e below s n0 C S Q (T.setTop (mkF m pc' L (.int v :: st)))) : Fi p e below s n0 C S Q (T.setTop (mkF m pc L (.ref a :: st))) := by
  obtain ⟨locs, Y, hh, -⟩ := X
  subst hp
  obtain ⟨cl, B, e1, q2, q3⟩ := A
  have e2 : cl.slots.size.toInt32 = v := by
    rw [i32_eq, hv, e1]
    exact Int32.toInt_ofNat_of_lt q2
  exact Fi.of (fun _ q => Y.arraylength K.1 (by rw [hh]; exact B.1) (State.isArrayOf_alike K.2.1.alike B.2.1) (g := mkF m pc L (.ref a :: st)) rfl rfl (hb K.2.2.1 hd) _ (by rw [e2]; exact q)) r
theorem cnt_of {z : Int32} {n : Nat} (hz : z.toInt = (n : Int)) : ¬ z < 0 ∧ z.toNatClampNeg = n ∧ n < 2147483648 := by
  have h2 : ¬ z < 0 := by rw [Int32.lt_iff_toInt_lt]; show ¬ z.toInt < 0; omega
  have h3 := z.toInt_lt
  exact ⟨h2, by show z.toInt.toNat = n; omega, by omega⟩
theorem g_newarray_byte (K : Cx Z p s m meth c own bytes ml rt nm) (X : Wk p l e R s m args below meth c n0 T h cells slots) {pc pc' : Nat} {L : Array Slot} {st : List Value} {z : Int32} {n : Nat} (cap : Nat) (hd : decode bytes pc = .ok (.newarray .byte, 2)) (hp : pc + 2 = pc') (w : (Cond.arrayClass .byte).before a0 Z = true) (hz : z.toInt = (n : Int)) (hcap : n ≤ cap) (hbnd : cap * 8 ≤ 536870912) (hc : cells + 1 ≤ R.cells) (hs : slots + cap ≤ R.slots)
    (r : ∀ T' h' a, Wk p l e R s m args below meth c n0 T' h' (cells + 1) (slots + cap) → Ext h h' → a = h.size → n0 ≤ a → AN Z h' a .byte n (fun _ => (0 : Int32)) → Fi p e below s n0 C S Q (T'.setTop (mkF m pc' L (.ref a :: st)))) : Fi p e below s n0 C S Q (T.setTop (mkF m pc L (.int z :: st))) := by
  obtain ⟨locs, Y, hh, hF, hn⟩ := X
  subst hp
  obtain ⟨z1, z2, z3⟩ := cnt_of hz
  obtain ⟨T', h', k, X', e', E, A, st'⟩ := newP Y K.1 K.2.1 (aty := .byte) w hh (g := mkF m pc L (.int z :: st)) rfl (hb K.2.2.1 hd) rfl z1 (cap := cap) (by rw [z2]; exact hcap) hbnd hc hs
  refine Fi.of st' (r T' h' _ ⟨_, X', e', hF, Nat.le_trans hn E.1⟩ E rfl hn ⟨_, A, ?_, z3, fun i hi => ?_⟩)
  · rw [sz_new]; exact z2
  · simp [newA, z2, hi, newarray.typeOf, defaultValue]
theorem g_newarray_int (K : Cx Z p s m meth c own bytes ml rt nm) (X : Wk p l e R s m args below meth c n0 T h cells slots) {pc pc' : Nat} {L : Array Slot} {st : List Value} {z : Int32} {n : Nat} (cap : Nat) (hd : decode bytes pc = .ok (.newarray .int, 2)) (hp : pc + 2 = pc') (w : (Cond.arrayClass .int).before a0 Z = true) (hz : z.toInt = (n : Int)) (hcap : n ≤ cap) (hbnd : cap * 8 ≤ 536870912) (hc : cells + 1 ≤ R.cells) (hs : slots + cap ≤ R.slots)
    (r : ∀ T' h' a, Wk p l e R s m args below meth c n0 T' h' (cells + 1) (slots + cap) → Ext h h' → a = h.size → n0 ≤ a → AN Z h' a .int n (fun _ => (0 : Int32)) → Fi p e below s n0 C S Q (T'.setTop (mkF m pc' L (.ref a :: st)))) : Fi p e below s n0 C S Q (T.setTop (mkF m pc L (.int z :: st))) := by
  obtain ⟨locs, Y, hh, hF, hn⟩ := X
  subst hp
  obtain ⟨z1, z2, z3⟩ := cnt_of hz
  obtain ⟨T', h', k, X', e', E, A, st'⟩ := newP Y K.1 K.2.1 (aty := .int) w hh (g := mkF m pc L (.int z :: st)) rfl (hb K.2.2.1 hd) rfl z1 (cap := cap) (by rw [z2]; exact hcap) hbnd hc hs
  refine Fi.of st' (r T' h' _ ⟨_, X', e', hF, Nat.le_trans hn E.1⟩ E rfl hn ⟨_, A, ?_, z3, fun i hi => ?_⟩)
  · rw [sz_new]; exact z2
  · simp [newA, z2, hi, newarray.typeOf, defaultValue]
theorem g_newarray_long (K : Cx Z p s m meth c own bytes ml rt nm) (X : Wk p l e R s m args below meth c n0 T h cells slots) {pc pc' : Nat} {L : Array Slot} {st : List Value} {z : Int32} {n : Nat} (cap : Nat) (hd : decode bytes pc = .ok (.newarray .long, 2)) (hp : pc + 2 = pc') (w : (Cond.arrayClass .long).before a0 Z = true) (hz : z.toInt = (n : Int)) (hcap : n ≤ cap) (hbnd : cap * 8 ≤ 536870912) (hc : cells + 1 ≤ R.cells) (hs : slots + cap ≤ R.slots)
    (r : ∀ T' h' a, Wk p l e R s m args below meth c n0 T' h' (cells + 1) (slots + cap) → Ext h h' → a = h.size → n0 ≤ a → AL Z h' a n (fun _ => (0 : Int64)) → Fi p e below s n0 C S Q (T'.setTop (mkF m pc' L (.ref a :: st)))) : Fi p e below s n0 C S Q (T.setTop (mkF m pc L (.int z :: st))) := by
  obtain ⟨locs, Y, hh, hF, hn⟩ := X
  subst hp
  obtain ⟨z1, z2, z3⟩ := cnt_of hz
  obtain ⟨T', h', k, X', e', E, A, st'⟩ := newP Y K.1 K.2.1 (aty := .long) w hh (g := mkF m pc L (.int z :: st)) rfl (hb K.2.2.1 hd) rfl z1 (cap := cap) (by rw [z2]; exact hcap) hbnd hc hs
  refine Fi.of st' (r T' h' _ ⟨_, X', e', hF, Nat.le_trans hn E.1⟩ E rfl hn ⟨_, A, ?_, z3, fun i hi => ?_⟩)
  · rw [sz_new]; exact z2
  · simp [newA, z2, hi, newarray.typeOf, defaultValue]
theorem g_new (K : Cx Z p s m meth c own bytes ml rt nm) (X : Wk p l e R s m args below meth c n0 T h cells slots) {pc pc' : Nat} {L : Array Slot} {st : List Value} {index n : Nat} {Cl : String} (hd : decode bytes pc = .ok (.new index, 3)) (hp : pc + 3 = pc') (w1 : (Cond.classLink own index Cl).before a0 Z = true) (w2 : (Cond.instantiable Cl n).before a0 Z = true) (w3 : (Cond.initialized Cl).before a0 Z = true) (hc : cells + 1 ≤ R.cells) (hs : slots + n ≤ R.slots)
    (r : ∀ T' h' a, Wk p l e R s m args below meth c n0 T' h' (cells + 1) (slots + n) → Ext h h' → a = h.size → n0 ≤ a → Exa Z h' a Cl → (∀ {O nm d : String} {ty : FieldType}, Laid Z a0 Cl O nm d → parseFieldDescriptor d = some ty → Fld Z h' a O nm d (defaultValue ty)) → Fi p e below s n0 C S Q (T'.setTop (mkF m pc' L (.ref a :: st)))) : Fi p e below s n0 C S Q (T.setTop (mkF m pc L (st))) := by
  obtain ⟨locs, Y, hh, hF, hn⟩ := X
  subst hp
  obtain ⟨T', h', X', e', E, A, D, -, st'⟩ := newO Y K.1 K.2.1 K.2.2.2.2.1 w1 w2 w3 hh (g := mkF m pc L st) rfl (hb K.2.2.1 hd) hc hs
  exact Fi.of st' (r T' h' _ ⟨_, X', e', hF, Nat.le_trans hn E.1⟩ E rfl hn A D)
theorem g_getfield (K : Cx Z p s m meth c own bytes ml rt nm) (X : Wk p l e R s m args below meth c n0 T h cells slots) {pc pc' : Nat} {L : Array Slot} {st : List Value} {index : Nat} {O n d : String} {a : Addr} {v : Value} (hd : decode bytes pc = .ok (.getfield index, 3)) (hp : pc + 3 = pc') (w : (Cond.fieldLink own index O n d).before a0 Z = true) (F : Fld Z h a O n d v)
    (r : ∀ T', Wk p l e R s m args below meth c n0 T' h cells slots → Fi p e below s n0 C S Q (T'.setTop (mkF m pc' L (v :: st)))) : Fi p e below s n0 C S Q (T.setTop (mkF m pc L (.ref a :: st))) := by
  obtain ⟨locs, Y, hh, hF, hn⟩ := X
  subst hp
  obtain ⟨T', X', e', st'⟩ := getF Y K.1 K.2.1 K.2.2.2.2.1 (host := "") (Or.inl w) Via.refl hh F (g := mkF m pc L (.ref a :: st)) rfl rfl (hb K.2.2.1 hd)
  exact Fi.of st' (r T' ⟨_, X', e', hF, hn⟩)
theorem g_putfield (K : Cx Z p s m meth c own bytes ml rt nm) (X : Wk p l e R s m args below meth c n0 T h cells slots) {pc pc' : Nat} {L : Array Slot} {st : List Value} {index kk : Nat} {O n d Cl : String} {ty : FieldType} {a : Addr} {v ov : Value} (hd : decode bytes pc = .ok (.putfield index, 3)) (hp : pc + 3 = pc') (w : (Cond.fieldLink own index O n d).before a0 Z = true) (F : Fld Z h a O n d ov) (E : Exa Z h a Cl) (Ly : (Cond.lays Cl O n d).before a0 Z = true ∨ ((Cond.laysFinal Cl O n d).before a0 Z = true ∧ own = O ∧ nm = "<init>")) (wi : (Cond.instantiable Cl kk).before a0 Z = true) (hty : parseFieldDescriptor d = some ty) (hnr : narrow ty v = v) (hft : fits ty v = true) (ha : n0 ≤ a)
    (r : ∀ T' h', Wk p l e R s m args below meth c n0 T' h' cells slots → Wr h h' a (RoadKit.slotOf Z O n d) v → Keep h h' [a] → Exa Z h' a Cl → Fld Z h' a O n d v → Fi p e below s n0 C S Q (T'.setTop (mkF m pc' L (st)))) : Fi p e below s n0 C S Q (T.setTop (mkF m pc L (v :: .ref a :: st))) := by
  obtain ⟨locs, Y, hh, hF, hn⟩ := X
  subst hp
  obtain ⟨T', h', X', e', W, st'⟩ := putF Y K.1 K.2.1 K.2.2.2.2.1 (host := "") (Or.inl w) Via.refl hh F E (Ly.imp id fun q => ⟨q.1, q.2.1, by rw [K.2.2.2.2.2.2.2]; exact q.2.2⟩) wi hty hnr hft (g := mkF m pc L (v :: .ref a :: st)) rfl rfl (hb K.2.2.1 hd)
  exact Fi.of st' (r T' h' ⟨_, X', e', Fr.snoc X' hF ha, by rw [W.size]; exact hn⟩ W (Keep.of_wr W) (E.wr W) (F.same W))
theorem fr_ready {locs : List Loc} (Y : Stand p l e R s m args below meth c T locs cells slots) (hZ : Z.Warmed39 s.vm) {index : Nat} {O n d : String} (hown : s.vm.findClass own = some m.cls) (w : (Cond.fieldRef own index O n d).before a0 Z = true) {cf i : Nat} {k : Class} {f : Field} (hf : Z.fieldFound? O n d = some (cf, k, i, f)) : T.vm.fieldReady m.cls index cf f := by
  have hT : Z.Warmed39 T.vm := wtrans hZ Y.warmed
  have w' := Cond.fieldRef_warmed39 hT w
  have hownZ : (Z.setVm T.vm).vm.findClass own = some m.cls := (Y.warmed.alike.findClass _ _).trans hown
  obtain ⟨c', k', i', f', hi, hr⟩ := Cond.fieldRef_spec hownZ w'
  obtain ⟨k2, hf2, -⟩ := State.fieldFound?_setVm (s := Z) hT.alike hf
  cases hf2.symm.trans hi
  exact hr
theorem g_getfieldR (K : Cx Z p s m meth c own bytes ml rt nm) (X : Wk p l e R s m args below meth c n0 T h cells slots) {pc pc' : Nat} {L : Array Slot} {st : List Value} {index : Nat} {O n d : String} {a : Addr} {v : Value} (hd : decode bytes pc = .ok (.getfield index, 3)) (hp : pc + 3 = pc') (w : (Cond.fieldRef own index O n d).before a0 Z = true) (F : Fld Z h a O n d v)
    (r : ∀ T', Wk p l e R s m args below meth c n0 T' h cells slots → Fi p e below s n0 C S Q (T'.setTop (mkF m pc' L (v :: st)))) : Fi p e below s n0 C S Q (T.setTop (mkF m pc L (.ref a :: st))) := by
  have hX := X
  obtain ⟨locs, Y, hh, hF, hn⟩ := X
  subst hp
  obtain ⟨cell, cf, k, i, f, h1, h2, h3, h4, -, -, h7⟩ := F
  have hready := fr_ready Y K.2.1 K.2.2.2.2.1 w h2
  refine Fi.of (fun target hrest => ?_) (r T hX)
  have hx := K.1
  have hd' := hb K.2.2.1 hd
  show Steps p.tables e below (T.setTop { method := m, pc := pc, locals := L, stack := .ref a :: st, locked := none }) _
  jvm_step Y.here [hx, hd', getfield.wp_ready (e := e) (s := T) (f := mkF m pc L (.ref a :: st)) Y.here.top hready h3 rfl (show T.heap[a]? = some cell by rw [hh]; exact h1) h4 h7]
  exact hrest
theorem g_putfieldR (K : Cx Z p s m meth c own bytes ml rt nm) (X : Wk p l e R s m args below meth c n0 T h cells slots) {pc pc' : Nat} {L : Array Slot} {st : List Value} {index kk : Nat} {O n d Cl : String} {ty : FieldType} {a : Addr} {v ov : Value} (hd : decode bytes pc = .ok (.putfield index, 3)) (hp : pc + 3 = pc') (w : (Cond.fieldRef own index O n d).before a0 Z = true) (F : Fld Z h a O n d ov) (E : Exa Z h a Cl) (Ly : (Cond.lays Cl O n d).before a0 Z = true) (wi : (Cond.instantiable Cl kk).before a0 Z = true) (hty : parseFieldDescriptor d = some ty) (hnr : narrow ty v = v) (hft : fits ty v = true) (ha : n0 ≤ a)
    (r : ∀ T' h', Wk p l e R s m args below meth c n0 T' h' cells slots → Wr h h' a (RoadKit.slotOf Z O n d) v → Keep h h' [a] → Exa Z h' a Cl → Fld Z h' a O n d v → Fi p e below s n0 C S Q (T'.setTop (mkF m pc' L (st)))) : Fi p e below s n0 C S Q (T.setTop (mkF m pc L (v :: .ref a :: st))) := by
  obtain ⟨locs, Y, hh, hF, hn⟩ := X
  subst hp
  have F0 := F
  have E0 := E
  obtain ⟨cell, cf, k, i, f, h1, h2, h3, h4, h5, -, h7⟩ := F
  have hready := fr_ready Y K.2.1 K.2.2.2.2.1 w h2
  obtain ⟨cell', kc, e1, e2, e3, -⟩ := E
  cases h1.symm.trans e1
  obtain ⟨c1, k1, cf1, kf1, i1, f1, a1, a2, a3, -, a5, -⟩ := Cond.lays_spec Ly
  cases h2.symm.trans a3
  cases e2.symm.trans a1
  obtain ⟨_, _, _, _, _, _, b1, b2, b3, -, -, b6, -⟩ := Laid.spec (a0 := a0) (Or.inl Ly)
  cases h2.symm.trans b3
  cases e2.symm.trans b1
  obtain ⟨c2, k2, j1, j2, j3, -⟩ := Cond.instantiable_spec wi
  cases e2.symm.trans j1
  cases b2.symm.trans j2
  have ht := (State.fieldFound?_type h2 hty).2
  have hT : Z.Warmed39 T.vm := wtrans K.2.1 Y.warmed
  have hfit : Z.fitsSlot cell.cls cell.vm f.slot v = true := by
    have q : Z.slotType? cell.cls cell.vm f.slot = some ty := by
      simp only [State.slotType?, b2, Option.bind_eq_bind, Option.bind_some, j3]
      cases hq : cell.vm <;> first | (rw [hq] at h5; exact Bool.noConfusion h5) | (rw [b6, ht])
    simp [State.fitsSlot, q, hft]
  have hfitT : T.fitsSlot cell.cls cell.vm f.slot v = true := by
    rw [← State.fitsSlot_setVm hT.alike] at hfit; exact hfit
  have hlt := (Array.getElem?_eq_some_iff.mp h7).1
  have es : RoadKit.slotOf Z O n d = f.slot := by simp [RoadKit.slotOf, h2]
  obtain ⟨X', st'⟩ := Y.putfieldReady K.1 hready h3 (Or.inl a5) (a := a) (cell := cell) (v := v) (by rw [hh]; exact h1) h4 hlt (by rw [ht]; exact hnr) hfitT (g := mkF m pc L (v :: .ref a :: st)) rfl rfl (hb K.2.2.1 hd)
  have W : Wr h (T.setCell a (cell.setSlot f.slot v)).heap a (RoadKit.slotOf Z O n d) v := ⟨cell, h1, h5, by rw [es]; exact hlt, by rw [es, ← hh]; rfl⟩
  exact Fi.of st' (r (T.setCell a (cell.setSlot f.slot v)) _ ⟨_, X', rfl, Fr.snoc X' hF ha, by rw [W.size]; exact hn⟩ W (Keep.of_wr W) (E0.wr W) (F0.same W))
theorem g_callS (K : Cx Z p s m meth c own bytes ml rt nm) (X : Wk p l e R s m args below meth c n0 T h cells slots) {pc pc' : Nat} {L : Array Slot} {st rest argsL : List Value} {index : Nat} {y : MethodName} {yb : ByteArray} {yml : Nat} {yrt : Option FieldType} {rm : Room} {Q' : Option Value → Heap → Prop} (W : Nat) (hd : decode bytes pc = .ok (.invokestatic index, 3)) (hp : pc + 3 = pc') (w1 : (Cond.methodLink own index y).before a0 Z = true) (w2 : (Cond.static y).before a0 Z = true) (w3 : (Cond.initialized y.cls).before a0 Z = true) (w4 : (Cond.code y yb yml yrt).before a0 Z = true) (hy : y.cls ≠ "java/lang/invoke/MethodHandle" ∧ y.cls ≠ "java/lang/invoke/VarHandle")
    (hM : Mt l Z y yb yml yrt rm argsL.toArray h n0 Q') (hfr : rm.frames + 1 ≤ R.frames) (hlo : W + (yml + 11) + rm.locals ≤ R.locals) (hc : cells + rm.cells ≤ R.cells) (hs : slots + rm.slots ≤ R.slots) (hlen : ∀ sig, parseMethodDescriptor y.desc = some sig → argsL.length = sig.parameters.length) (hL : L.size = ml) (hst : st = argsL.reverse ++ rest) (hW : (rest.map fun v => v.category).sum ≤ W)
    (r : ∀ v T' h', Wk p l e R s m args below meth c n0 T' h' (cells + rm.cells) (slots + rm.slots) → Q' v h' → Fi p e below s n0 C S Q (T'.setTop (mkF m pc' L (v.toList ++ rest)))) (hgrow : ∀ v h', Q' v h' → h.size ≤ h'.size) : Fi p e below s n0 C S Q (T.setTop (mkF m pc L (st))) := by
  obtain ⟨locs, Y, hh, hF, hn⟩ := X
  subst hp
  obtain ⟨v, vm1, ⟨T', L', k', n'⟩, -, X', ⟨Lc, ⟨hQ, hN⟩, l1, l2, l3⟩, st'⟩ := Jvm.LawKit.callS Y K.1 (y := y) K.2.2.2.2.1 (mvT K.2.1 w1) (mvT K.2.1 w2) (mvT K.2.1 w3) (mvT K.2.1 w4) hy (backOf (W := W) (Q := fun v h L => Q' v h ∧ Fr n0 L) (hM []) K.2.1 w4 w3 hfr hlo) (g := mkF m pc L st) rfl (by rw [K.2.2.2.1]; exact hL) (argsL := argsL) (rest := rest) hlen hst (by show 2 * 0 + _ ≤ _; omega) (hb K.2.2.1 hd) (fun _ _ => ⟨rfl, hh, hc, hs⟩)
  dsimp only [Pt.U, Pt.locs, Pt.cells, Pt.slots] at X' l1 l2 l3 st' hQ
  subst l1 l2 l3
  exact Fi.of st' (r v T' _ ⟨_, X', rfl, Fr.app hF hN, Nat.le_trans hn (hgrow _ _ hQ)⟩ hQ)
theorem g_special (K : Cx Z p s m meth c own bytes ml rt nm) (X : Wk p l e R s m args below meth c n0 T h cells slots) {pc pc' : Nat} {L : Array Slot} {st rest argsL : List Value} {index : Nat} {a : Addr} {y : MethodName} {yb : ByteArray} {yml : Nat} {rm : Room} {Q' : Option Value → Heap → Prop} (W : Nat) (hd : decode bytes pc = .ok (.invokespecial index, 3)) (hp : pc + 3 = pc') (w1 : (Cond.methodLink own index y).before a0 Z = true) (w2 : (Cond.instanceMethod y).before a0 Z = true) (w3 : (Cond.initialized y.cls).before a0 Z = true) (w4 : (Cond.code y yb yml none).before a0 Z = true) (hi : y.name = "<init>") (hy : y.cls ≠ "java/lang/invoke/MethodHandle" ∧ y.cls ≠ "java/lang/invoke/VarHandle")
    (hM : Mt l Z y yb yml none rm (.ref a :: argsL).toArray h n0 Q') (hfr : rm.frames + 1 ≤ R.frames) (hlo : W + (yml + 11) + rm.locals ≤ R.locals) (hc : cells + rm.cells ≤ R.cells) (hs : slots + rm.slots ≤ R.slots) (hlen : ∀ sig, parseMethodDescriptor y.desc = some sig → argsL.length = sig.parameters.length) (hL : L.size = ml) (hst : st = argsL.reverse ++ .ref a :: rest) (hW : (rest.map fun v => v.category).sum ≤ W)
    (r : ∀ v T' h', Wk p l e R s m args below meth c n0 T' h' (cells + rm.cells) (slots + rm.slots) → Q' v h' → Fi p e below s n0 C S Q (T'.setTop (mkF m pc' L (v.toList ++ rest)))) (hgrow : ∀ v h', Q' v h' → h.size ≤ h'.size) : Fi p e below s n0 C S Q (T.setTop (mkF m pc L (st))) := by
  obtain ⟨locs, Y, hh, hF, hn⟩ := X
  subst hp
  obtain ⟨v, vm1, ⟨T', L', k', n'⟩, -, X', ⟨Lc, ⟨hQ, hN⟩, l1, l2, l3⟩, st'⟩ := Y.specialBack K.1 (y := y) hi K.2.2.2.2.1 (mvT K.2.1 w1) (mvT K.2.1 w2) (mvT K.2.1 w4) hy (backOf (W := W) (Q := fun v h L => Q' v h ∧ Fr n0 L) (hM []) K.2.1 w4 w3 hfr hlo) (g := mkF m pc L st) rfl (by rw [K.2.2.2.1]; exact hL) (Steps.refl _) (a := a) (argsL := argsL) (rest := rest) hlen hst (by show 2 * 0 + _ ≤ _; omega) (hb K.2.2.1 hd) (fun _ _ => ⟨rfl, hh, hc, hs⟩)
  dsimp only [Pt.U, Pt.locs, Pt.cells, Pt.slots] at X' l1 l2 l3 st' hQ
  subst l1 l2 l3
  exact Fi.of (fun _ q => st'.trans q) (r v T' _ ⟨_, X', rfl, Fr.app hF hN, Nat.le_trans hn (hgrow _ _ hQ)⟩ hQ)
theorem g_virtual (K : Cx Z p s m meth c own bytes ml rt nm) (X : Wk p l e R s m args below meth c n0 T h cells slots) {pc pc' : Nat} {L : Array Slot} {st rest argsL : List Value} {index : Nat} {a : Addr} {Cl : String} {y : MethodName} {yb : ByteArray} {yml : Nat} {yrt : Option FieldType} {rm : Room} {Q' : Option Value → Heap → Prop} (W : Nat) (hd : decode bytes pc = .ok (.invokevirtual index, 3)) (hp : pc + 3 = pc') (w1 : (Cond.methodLink own index y).before a0 Z = true) (w2 : (Cond.declares y).before a0 Z = true) (w5 : (Cond.selects Cl y y).before a0 Z = true) (w6 : (Cond.instanceMethod y).before a0 Z = true) (w3 : (Cond.initialized y.cls).before a0 Z = true) (w4 : (Cond.code y yb yml yrt).before a0 Z = true) (hy : y.cls ≠ "java/lang/invoke/MethodHandle" ∧ y.cls ≠ "java/lang/invoke/VarHandle") (E : Exa Z h a Cl)
    (hM : Mt l Z y yb yml yrt rm (.ref a :: argsL).toArray h n0 Q') (hfr : rm.frames + 1 ≤ R.frames) (hlo : W + (yml + 11) + rm.locals ≤ R.locals) (hc : cells + rm.cells ≤ R.cells) (hs : slots + rm.slots ≤ R.slots) (hlen : ∀ sig, parseMethodDescriptor y.desc = some sig → argsL.length = sig.parameters.length) (hL : L.size = ml) (hst : st = argsL.reverse ++ .ref a :: rest) (hW : (rest.map fun v => v.category).sum ≤ W)
    (r : ∀ v T' h', Wk p l e R s m args below meth c n0 T' h' (cells + rm.cells) (slots + rm.slots) → Q' v h' → Fi p e below s n0 C S Q (T'.setTop (mkF m pc' L (v.toList ++ rest)))) (hgrow : ∀ v h', Q' v h' → h.size ≤ h'.size) : Fi p e below s n0 C S Q (T.setTop (mkF m pc L (st))) := by
  obtain ⟨locs, Y, hh, hF, hn⟩ := X
  subst hp
  obtain ⟨cB, kB, qa, -, qc⟩ := isOf K.2.1 hh E
  obtain ⟨v, vm1, ⟨T', L', k', n'⟩, -, X', ⟨Lc, ⟨hQ, hN⟩, l1, l2, l3⟩, st'⟩ := Y.virtualBack K.1 (y := y) (z := y) K.2.2.2.2.1 (mvT K.2.1 w1) (mvT K.2.1 w2) (notFace_of_selects (args := #[]) (mvT K.2.1 w5)) (mvT K.2.1 w5) (mvT K.2.1 w6) hy (backOf (W := W) (Q := fun v h L => Q' v h ∧ Fr n0 L) (hM []) K.2.1 w4 w3 hfr hlo) qa qc (g := mkF m pc L st) rfl (by rw [K.2.2.2.1]; exact hL) (Steps.refl _) (argsL := argsL) (rest := rest) hlen hst (by show 2 * 0 + _ ≤ _; omega) (hb K.2.2.1 hd) (fun _ _ => ⟨rfl, hh, hc, hs⟩)
  dsimp only [Pt.U, Pt.locs, Pt.cells, Pt.slots] at X' l1 l2 l3 st' hQ
  subst l1 l2 l3
  exact Fi.of (fun _ q => st'.trans q) (r v T' _ ⟨_, X', rfl, Fr.app hF hN, Nat.le_trans hn (hgrow _ _ hQ)⟩ hQ)
theorem g_private (K : Cx Z p s m meth c own bytes ml rt nm) (X : Wk p l e R s m args below meth c n0 T h cells slots) {pc pc' : Nat} {L : Array Slot} {st rest argsL : List Value} {index kk : Nat} {a : Addr} {Cl : String} {y : MethodName} {yb : ByteArray} {yml : Nat} {yrt : Option FieldType} {rm : Room} {Q' : Option Value → Heap → Prop} (W : Nat) (hd : decode bytes pc = .ok (.invokevirtual index, 3)) (hp : pc + 3 = pc') (w1 : (Cond.methodLink own index y).before a0 Z = true) (w2 : (Cond.instanceMethod y).before a0 Z = true) (w5 : (Cond.privateMethod y).before a0 Z = true) (w6 : (Cond.instantiable y.cls kk).before a0 Z = true) (w3 : (Cond.initialized y.cls).before a0 Z = true) (w4 : (Cond.code y yb yml yrt).before a0 Z = true) (hy : y.cls ≠ "java/lang/invoke/MethodHandle" ∧ y.cls ≠ "java/lang/invoke/VarHandle") (E : Exa Z h a Cl)
    (hM : Mt l Z y yb yml yrt rm (.ref a :: argsL).toArray h n0 Q') (hfr : rm.frames + 1 ≤ R.frames) (hlo : W + (yml + 11) + rm.locals ≤ R.locals) (hc : cells + rm.cells ≤ R.cells) (hs : slots + rm.slots ≤ R.slots) (hlen : ∀ sig, parseMethodDescriptor y.desc = some sig → argsL.length = sig.parameters.length) (hL : L.size = ml) (hst : st = argsL.reverse ++ .ref a :: rest) (hW : (rest.map fun v => v.category).sum ≤ W)
    (r : ∀ v T' h', Wk p l e R s m args below meth c n0 T' h' (cells + rm.cells) (slots + rm.slots) → Q' v h' → Fi p e below s n0 C S Q (T'.setTop (mkF m pc' L (v.toList ++ rest)))) (hgrow : ∀ v h', Q' v h' → h.size ≤ h'.size) : Fi p e below s n0 C S Q (T.setTop (mkF m pc L (st))) := by
  obtain ⟨locs, Y, hh, hF, hn⟩ := X
  subst hp
  obtain ⟨cq, q1, q2⟩ := E.cell
  have hpriv : s.PrivateAt y := Cond.privateMethod_at (mvP K.2.1 w5 (args := #[]))
  obtain ⟨cI, kI, i1, i2, -, i4, -⟩ := Cond.instantiable_spec (mv (args := args) K.2.1 w6)
  have hsel : (Cond.selects y.cls y y).before args s = true := selects_self_of_private i1 i2 (Bool.or_eq_false_iff.mp i4).1 hpriv (mvT K.2.1 w2) hy
  obtain ⟨v, vm1, ⟨T', L', k', n'⟩, -, X', ⟨Lc, ⟨hQ, hN⟩, l1, l2, l3⟩, st'⟩ := Y.privateBack K.1 (y := y) K.2.2.2.2.1 (mvT K.2.1 w1) (mvT K.2.1 w2) hsel hpriv (mvT K.2.1 w4) hy (backOf (W := W) (Q := fun v h L => Q' v h ∧ Fr n0 L) (hM []) K.2.1 w4 w3 hfr hlo) (g := mkF m pc L st) rfl (by rw [K.2.2.2.1]; exact hL) (Steps.refl _) (a := a) (by rw [hh]; exact q1) q2 (argsL := argsL) (rest := rest) hlen hst (by show 2 * 0 + _ ≤ _; omega) (hb K.2.2.1 hd) (fun _ _ => ⟨rfl, hh, hc, hs⟩)
  dsimp only [Pt.U, Pt.locs, Pt.cells, Pt.slots] at X' l1 l2 l3 st' hQ
  subst l1 l2 l3
  exact Fi.of (fun _ q => st'.trans q) (r v T' _ ⟨_, X', rfl, Fr.app hF hN, Nat.le_trans hn (hgrow _ _ hQ)⟩ hQ)
def PureI (h : Heap) (P : Int32 → Prop) : Option Value → Heap → Prop := fun v h' => ∃ r, v = some (.int r) ∧ P r ∧ h = h'
def PureJ (h : Heap) (P : Int64 → Prop) : Option Value → Heap → Prop := fun v h' => ∃ r, v = some (.long r) ∧ P r ∧ h = h'
def KeepI (h : Heap) (ws : List Addr) (P : Int32 → Heap → Prop) : Option Value → Heap → Prop := fun v h' => ∃ r, v = some (.int r) ∧ Keep h h' ws ∧ P r h'
def KeepA (h : Heap) (ws : List Addr) (P : Addr → Heap → Prop) : Option Value → Heap → Prop := fun v h' => ∃ r, v = some (.ref r) ∧ Keep h h' ws ∧ P r h'
def Keep0 (h : Heap) (ws : List Addr) (P : Heap → Prop) : Option Value → Heap → Prop := fun v h' => v = none ∧ Keep h h' ws ∧ P h'
theorem g_callSI (K : Cx Z p s m meth c own bytes ml rt nm) (X : Wk p l e R s m args below meth c n0 T h cells slots) {pc pc' : Nat} {L : Array Slot} {st rest argsL : List Value} {index : Nat} {y : MethodName} {yb : ByteArray} {yml : Nat} {yrt : Option FieldType} {rm : Room} {P : Int32 → Prop} (W : Nat) (hd : decode bytes pc = .ok (.invokestatic index, 3)) (hp : pc + 3 = pc') (w1 : (Cond.methodLink own index y).before a0 Z = true) (w2 : (Cond.static y).before a0 Z = true) (w3 : (Cond.initialized y.cls).before a0 Z = true) (w4 : (Cond.code y yb yml yrt).before a0 Z = true) (hy : y.cls ≠ "java/lang/invoke/MethodHandle" ∧ y.cls ≠ "java/lang/invoke/VarHandle")
    (hM : Mt l Z y yb yml yrt rm argsL.toArray h n0 (PureI h P)) (hfr : rm.frames + 1 ≤ R.frames) (hlo : W + (yml + 11) + rm.locals ≤ R.locals) (hc : cells + rm.cells ≤ R.cells) (hs : slots + rm.slots ≤ R.slots) (hlen : ∀ sig, parseMethodDescriptor y.desc = some sig → argsL.length = sig.parameters.length) (hL : L.size = ml) (hst : st = argsL.reverse ++ rest) (hW : (rest.map fun v => v.category).sum ≤ W)
    (kont : ∀ r T', Wk p l e R s m args below meth c n0 T' h (cells + rm.cells) (slots + rm.slots) → P r → Fi p e below s n0 C S Q (T'.setTop (mkF m pc' L (.int r :: rest)))) : Fi p e below s n0 C S Q (T.setTop (mkF m pc L (st))) := by
  refine g_callS K X (argsL := argsL) (rest := rest) W hd hp w1 w2 w3 w4 hy hM hfr hlo hc hs hlen hL hst hW (fun v T' h' X' hq => ?_) (fun _ _ q => by obtain ⟨_, _, _, rfl⟩ := q; exact Nat.le_refl _)
  obtain ⟨r, rfl, hP, rfl⟩ := hq
  exact kont r T' X' hP
theorem g_callSJ (K : Cx Z p s m meth c own bytes ml rt nm) (X : Wk p l e R s m args below meth c n0 T h cells slots) {pc pc' : Nat} {L : Array Slot} {st rest argsL : List Value} {index : Nat} {y : MethodName} {yb : ByteArray} {yml : Nat} {yrt : Option FieldType} {rm : Room} {P : Int64 → Prop} (W : Nat) (hd : decode bytes pc = .ok (.invokestatic index, 3)) (hp : pc + 3 = pc') (w1 : (Cond.methodLink own index y).before a0 Z = true) (w2 : (Cond.static y).before a0 Z = true) (w3 : (Cond.initialized y.cls).before a0 Z = true) (w4 : (Cond.code y yb yml yrt).before a0 Z = true) (hy : y.cls ≠ "java/lang/invoke/MethodHandle" ∧ y.cls ≠ "java/lang/invoke/VarHandle")
    (hM : Mt l Z y yb yml yrt rm argsL.toArray h n0 (PureJ h P)) (hfr : rm.frames + 1 ≤ R.frames) (hlo : W + (yml + 11) + rm.locals ≤ R.locals) (hc : cells + rm.cells ≤ R.cells) (hs : slots + rm.slots ≤ R.slots) (hlen : ∀ sig, parseMethodDescriptor y.desc = some sig → argsL.length = sig.parameters.length) (hL : L.size = ml) (hst : st = argsL.reverse ++ rest) (hW : (rest.map fun v => v.category).sum ≤ W)
    (kont : ∀ r T', Wk p l e R s m args below meth c n0 T' h (cells + rm.cells) (slots + rm.slots) → P r → Fi p e below s n0 C S Q (T'.setTop (mkF m pc' L (.long r :: rest)))) : Fi p e below s n0 C S Q (T.setTop (mkF m pc L (st))) := by
  refine g_callS K X (argsL := argsL) (rest := rest) W hd hp w1 w2 w3 w4 hy hM hfr hlo hc hs hlen hL hst hW (fun v T' h' X' hq => ?_) (fun _ _ q => by obtain ⟨_, _, _, rfl⟩ := q; exact Nat.le_refl _)
  obtain ⟨r, rfl, hP, rfl⟩ := hq
  exact kont r T' X' hP
theorem g_callSKI (K : Cx Z p s m meth c own bytes ml rt nm) (X : Wk p l e R s m args below meth c n0 T h cells slots) {pc pc' : Nat} {L : Array Slot} {st rest argsL : List Value} {index : Nat} {y : MethodName} {yb : ByteArray} {yml : Nat} {yrt : Option FieldType} {rm : Room} {P : Int32 → Heap → Prop} {ws : List Addr} (W : Nat) (hd : decode bytes pc = .ok (.invokestatic index, 3)) (hp : pc + 3 = pc') (w1 : (Cond.methodLink own index y).before a0 Z = true) (w2 : (Cond.static y).before a0 Z = true) (w3 : (Cond.initialized y.cls).before a0 Z = true) (w4 : (Cond.code y yb yml yrt).before a0 Z = true) (hy : y.cls ≠ "java/lang/invoke/MethodHandle" ∧ y.cls ≠ "java/lang/invoke/VarHandle")
    (hM : Mt l Z y yb yml yrt rm argsL.toArray h n0 (KeepI h ws P)) (hfr : rm.frames + 1 ≤ R.frames) (hlo : W + (yml + 11) + rm.locals ≤ R.locals) (hc : cells + rm.cells ≤ R.cells) (hs : slots + rm.slots ≤ R.slots) (hlen : ∀ sig, parseMethodDescriptor y.desc = some sig → argsL.length = sig.parameters.length) (hL : L.size = ml) (hst : st = argsL.reverse ++ rest) (hW : (rest.map fun v => v.category).sum ≤ W)
    (kont : ∀ r T' h', Wk p l e R s m args below meth c n0 T' h' (cells + rm.cells) (slots + rm.slots) → Keep h h' ws → P r h' → Fi p e below s n0 C S Q (T'.setTop (mkF m pc' L (.int r :: rest)))) : Fi p e below s n0 C S Q (T.setTop (mkF m pc L (st))) := by
  refine g_callS K X (argsL := argsL) (rest := rest) W hd hp w1 w2 w3 w4 hy hM hfr hlo hc hs hlen hL hst hW (fun v T' h' X' hq => ?_) (fun _ _ q => by obtain ⟨_, _, k, _⟩ := q; exact k.1)
  obtain ⟨r, rfl, hK, hP⟩ := hq
  exact kont r T' h' X' hK hP
theorem g_callSKA (K : Cx Z p s m meth c own bytes ml rt nm) (X : Wk p l e R s m args below meth c n0 T h cells slots) {pc pc' : Nat} {L : Array Slot} {st rest argsL : List Value} {index : Nat} {y : MethodName} {yb : ByteArray} {yml : Nat} {yrt : Option FieldType} {rm : Room} {P : Addr → Heap → Prop} {ws : List Addr} (W : Nat) (hd : decode bytes pc = .ok (.invokestatic index, 3)) (hp : pc + 3 = pc') (w1 : (Cond.methodLink own index y).before a0 Z = true) (w2 : (Cond.static y).before a0 Z = true) (w3 : (Cond.initialized y.cls).before a0 Z = true) (w4 : (Cond.code y yb yml yrt).before a0 Z = true) (hy : y.cls ≠ "java/lang/invoke/MethodHandle" ∧ y.cls ≠ "java/lang/invoke/VarHandle")
    (hM : Mt l Z y yb yml yrt rm argsL.toArray h n0 (KeepA h ws P)) (hfr : rm.frames + 1 ≤ R.frames) (hlo : W + (yml + 11) + rm.locals ≤ R.locals) (hc : cells + rm.cells ≤ R.cells) (hs : slots + rm.slots ≤ R.slots) (hlen : ∀ sig, parseMethodDescriptor y.desc = some sig → argsL.length = sig.parameters.length) (hL : L.size = ml) (hst : st = argsL.reverse ++ rest) (hW : (rest.map fun v => v.category).sum ≤ W)
    (kont : ∀ r T' h', Wk p l e R s m args below meth c n0 T' h' (cells + rm.cells) (slots + rm.slots) → Keep h h' ws → P r h' → Fi p e below s n0 C S Q (T'.setTop (mkF m pc' L (.ref r :: rest)))) : Fi p e below s n0 C S Q (T.setTop (mkF m pc L (st))) := by
  refine g_callS K X (argsL := argsL) (rest := rest) W hd hp w1 w2 w3 w4 hy hM hfr hlo hc hs hlen hL hst hW (fun v T' h' X' hq => ?_) (fun _ _ q => by obtain ⟨_, _, k, _⟩ := q; exact k.1)
  obtain ⟨r, rfl, hK, hP⟩ := hq
  exact kont r T' h' X' hK hP
theorem g_callSK0 (K : Cx Z p s m meth c own bytes ml rt nm) (X : Wk p l e R s m args below meth c n0 T h cells slots) {pc pc' : Nat} {L : Array Slot} {st rest argsL : List Value} {index : Nat} {y : MethodName} {yb : ByteArray} {yml : Nat} {yrt : Option FieldType} {rm : Room} {P : Heap → Prop} {ws : List Addr} (W : Nat) (hd : decode bytes pc = .ok (.invokestatic index, 3)) (hp : pc + 3 = pc') (w1 : (Cond.methodLink own index y).before a0 Z = true) (w2 : (Cond.static y).before a0 Z = true) (w3 : (Cond.initialized y.cls).before a0 Z = true) (w4 : (Cond.code y yb yml yrt).before a0 Z = true) (hy : y.cls ≠ "java/lang/invoke/MethodHandle" ∧ y.cls ≠ "java/lang/invoke/VarHandle")
    (hM : Mt l Z y yb yml yrt rm argsL.toArray h n0 (Keep0 h ws P)) (hfr : rm.frames + 1 ≤ R.frames) (hlo : W + (yml + 11) + rm.locals ≤ R.locals) (hc : cells + rm.cells ≤ R.cells) (hs : slots + rm.slots ≤ R.slots) (hlen : ∀ sig, parseMethodDescriptor y.desc = some sig → argsL.length = sig.parameters.length) (hL : L.size = ml) (hst : st = argsL.reverse ++ rest) (hW : (rest.map fun v => v.category).sum ≤ W)
    (kont : ∀ T' h', Wk p l e R s m args below meth c n0 T' h' (cells + rm.cells) (slots + rm.slots) → Keep h h' ws → P h' → Fi p e below s n0 C S Q (T'.setTop (mkF m pc' L (rest)))) : Fi p e below s n0 C S Q (T.setTop (mkF m pc L (st))) := by
  refine g_callS K X (argsL := argsL) (rest := rest) W hd hp w1 w2 w3 w4 hy hM hfr hlo hc hs hlen hL hst hW (fun v T' h' X' hq => ?_) (fun _ _ q => q.2.1.1)
  obtain ⟨rfl, hK, hP⟩ := hq
  exact kont T' h' X' hK hP
theorem g_specialK0 (K : Cx Z p s m meth c own bytes ml rt nm) (X : Wk p l e R s m args below meth c n0 T h cells slots) {pc pc' : Nat} {L : Array Slot} {st rest argsL : List Value} {index : Nat} {a : Addr} {y : MethodName} {yb : ByteArray} {yml : Nat} {rm : Room} {P : Heap → Prop} {ws : List Addr} (W : Nat) (hd : decode bytes pc = .ok (.invokespecial index, 3)) (hp : pc + 3 = pc') (w1 : (Cond.methodLink own index y).before a0 Z = true) (w2 : (Cond.instanceMethod y).before a0 Z = true) (w3 : (Cond.initialized y.cls).before a0 Z = true) (w4 : (Cond.code y yb yml none).before a0 Z = true) (hi : y.name = "<init>") (hy : y.cls ≠ "java/lang/invoke/MethodHandle" ∧ y.cls ≠ "java/lang/invoke/VarHandle")
    (hM : Mt l Z y yb yml none rm (.ref a :: argsL).toArray h n0 (Keep0 h ws P)) (hfr : rm.frames + 1 ≤ R.frames) (hlo : W + (yml + 11) + rm.locals ≤ R.locals) (hc : cells + rm.cells ≤ R.cells) (hs : slots + rm.slots ≤ R.slots) (hlen : ∀ sig, parseMethodDescriptor y.desc = some sig → argsL.length = sig.parameters.length) (hL : L.size = ml) (hst : st = argsL.reverse ++ .ref a :: rest) (hW : (rest.map fun v => v.category).sum ≤ W)
    (kont : ∀ T' h', Wk p l e R s m args below meth c n0 T' h' (cells + rm.cells) (slots + rm.slots) → Keep h h' ws → P h' → Fi p e below s n0 C S Q (T'.setTop (mkF m pc' L (rest)))) : Fi p e below s n0 C S Q (T.setTop (mkF m pc L (st))) := by
  refine g_special K X (a := a) (argsL := argsL) (rest := rest) W hd hp w1 w2 w3 w4 hi hy hM hfr hlo hc hs hlen hL hst hW (fun v T' h' X' hq => ?_) (fun _ _ q => q.2.1.1)
  obtain ⟨rfl, hK, hP⟩ := hq
  exact kont T' h' X' hK hP
theorem g_virtualI (K : Cx Z p s m meth c own bytes ml rt nm) (X : Wk p l e R s m args below meth c n0 T h cells slots) {pc pc' : Nat} {L : Array Slot} {st rest argsL : List Value} {index : Nat} {a : Addr} {Cl : String} {y : MethodName} {yb : ByteArray} {yml : Nat} {yrt : Option FieldType} {rm : Room} {P : Int32 → Prop} (W : Nat) (hd : decode bytes pc = .ok (.invokevirtual index, 3)) (hp : pc + 3 = pc') (w1 : (Cond.methodLink own index y).before a0 Z = true) (w2 : (Cond.declares y).before a0 Z = true) (w5 : (Cond.selects Cl y y).before a0 Z = true) (w6 : (Cond.instanceMethod y).before a0 Z = true) (w3 : (Cond.initialized y.cls).before a0 Z = true) (w4 : (Cond.code y yb yml yrt).before a0 Z = true) (hy : y.cls ≠ "java/lang/invoke/MethodHandle" ∧ y.cls ≠ "java/lang/invoke/VarHandle") (E : Exa Z h a Cl)
    (hM : Mt l Z y yb yml yrt rm (.ref a :: argsL).toArray h n0 (PureI h P)) (hfr : rm.frames + 1 ≤ R.frames) (hlo : W + (yml + 11) + rm.locals ≤ R.locals) (hc : cells + rm.cells ≤ R.cells) (hs : slots + rm.slots ≤ R.slots) (hlen : ∀ sig, parseMethodDescriptor y.desc = some sig → argsL.length = sig.parameters.length) (hL : L.size = ml) (hst : st = argsL.reverse ++ .ref a :: rest) (hW : (rest.map fun v => v.category).sum ≤ W)
    (kont : ∀ r T', Wk p l e R s m args below meth c n0 T' h (cells + rm.cells) (slots + rm.slots) → P r → Fi p e below s n0 C S Q (T'.setTop (mkF m pc' L (.int r :: rest)))) : Fi p e below s n0 C S Q (T.setTop (mkF m pc L (st))) := by
  refine g_virtual K X (a := a) (argsL := argsL) (rest := rest) W hd hp w1 w2 w5 w6 w3 w4 hy E hM hfr hlo hc hs hlen hL hst hW (fun v T' h' X' hq => ?_) (fun _ _ q => by obtain ⟨_, _, _, rfl⟩ := q; exact Nat.le_refl _)
  obtain ⟨r, rfl, hP, rfl⟩ := hq
  exact kont r T' X' hP
theorem g_virtualJ (K : Cx Z p s m meth c own bytes ml rt nm) (X : Wk p l e R s m args below meth c n0 T h cells slots) {pc pc' : Nat} {L : Array Slot} {st rest argsL : List Value} {index : Nat} {a : Addr} {Cl : String} {y : MethodName} {yb : ByteArray} {yml : Nat} {yrt : Option FieldType} {rm : Room} {P : Int64 → Prop} (W : Nat) (hd : decode bytes pc = .ok (.invokevirtual index, 3)) (hp : pc + 3 = pc') (w1 : (Cond.methodLink own index y).before a0 Z = true) (w2 : (Cond.declares y).before a0 Z = true) (w5 : (Cond.selects Cl y y).before a0 Z = true) (w6 : (Cond.instanceMethod y).before a0 Z = true) (w3 : (Cond.initialized y.cls).before a0 Z = true) (w4 : (Cond.code y yb yml yrt).before a0 Z = true) (hy : y.cls ≠ "java/lang/invoke/MethodHandle" ∧ y.cls ≠ "java/lang/invoke/VarHandle") (E : Exa Z h a Cl)
    (hM : Mt l Z y yb yml yrt rm (.ref a :: argsL).toArray h n0 (PureJ h P)) (hfr : rm.frames + 1 ≤ R.frames) (hlo : W + (yml + 11) + rm.locals ≤ R.locals) (hc : cells + rm.cells ≤ R.cells) (hs : slots + rm.slots ≤ R.slots) (hlen : ∀ sig, parseMethodDescriptor y.desc = some sig → argsL.length = sig.parameters.length) (hL : L.size = ml) (hst : st = argsL.reverse ++ .ref a :: rest) (hW : (rest.map fun v => v.category).sum ≤ W)
    (kont : ∀ r T', Wk p l e R s m args below meth c n0 T' h (cells + rm.cells) (slots + rm.slots) → P r → Fi p e below s n0 C S Q (T'.setTop (mkF m pc' L (.long r :: rest)))) : Fi p e below s n0 C S Q (T.setTop (mkF m pc L (st))) := by
  refine g_virtual K X (a := a) (argsL := argsL) (rest := rest) W hd hp w1 w2 w5 w6 w3 w4 hy E hM hfr hlo hc hs hlen hL hst hW (fun v T' h' X' hq => ?_) (fun _ _ q => by obtain ⟨_, _, _, rfl⟩ := q; exact Nat.le_refl _)
  obtain ⟨r, rfl, hP, rfl⟩ := hq
  exact kont r T' X' hP
theorem g_virtualKI (K : Cx Z p s m meth c own bytes ml rt nm) (X : Wk p l e R s m args below meth c n0 T h cells slots) {pc pc' : Nat} {L : Array Slot} {st rest argsL : List Value} {index : Nat} {a : Addr} {Cl : String} {y : MethodName} {yb : ByteArray} {yml : Nat} {yrt : Option FieldType} {rm : Room} {P : Int32 → Heap → Prop} {ws : List Addr} (W : Nat) (hd : decode bytes pc = .ok (.invokevirtual index, 3)) (hp : pc + 3 = pc') (w1 : (Cond.methodLink own index y).before a0 Z = true) (w2 : (Cond.declares y).before a0 Z = true) (w5 : (Cond.selects Cl y y).before a0 Z = true) (w6 : (Cond.instanceMethod y).before a0 Z = true) (w3 : (Cond.initialized y.cls).before a0 Z = true) (w4 : (Cond.code y yb yml yrt).before a0 Z = true) (hy : y.cls ≠ "java/lang/invoke/MethodHandle" ∧ y.cls ≠ "java/lang/invoke/VarHandle") (E : Exa Z h a Cl)
    (hM : Mt l Z y yb yml yrt rm (.ref a :: argsL).toArray h n0 (KeepI h ws P)) (hfr : rm.frames + 1 ≤ R.frames) (hlo : W + (yml + 11) + rm.locals ≤ R.locals) (hc : cells + rm.cells ≤ R.cells) (hs : slots + rm.slots ≤ R.slots) (hlen : ∀ sig, parseMethodDescriptor y.desc = some sig → argsL.length = sig.parameters.length) (hL : L.size = ml) (hst : st = argsL.reverse ++ .ref a :: rest) (hW : (rest.map fun v => v.category).sum ≤ W)
    (kont : ∀ r T' h', Wk p l e R s m args below meth c n0 T' h' (cells + rm.cells) (slots + rm.slots) → Keep h h' ws → P r h' → Fi p e below s n0 C S Q (T'.setTop (mkF m pc' L (.int r :: rest)))) : Fi p e below s n0 C S Q (T.setTop (mkF m pc L (st))) := by
  refine g_virtual K X (a := a) (argsL := argsL) (rest := rest) W hd hp w1 w2 w5 w6 w3 w4 hy E hM hfr hlo hc hs hlen hL hst hW (fun v T' h' X' hq => ?_) (fun _ _ q => by obtain ⟨_, _, k, _⟩ := q; exact k.1)
  obtain ⟨r, rfl, hK, hP⟩ := hq
  exact kont r T' h' X' hK hP
theorem g_virtualKA (K : Cx Z p s m meth c own bytes ml rt nm) (X : Wk p l e R s m args below meth c n0 T h cells slots) {pc pc' : Nat} {L : Array Slot} {st rest argsL : List Value} {index : Nat} {a : Addr} {Cl : String} {y : MethodName} {yb : ByteArray} {yml : Nat} {yrt : Option FieldType} {rm : Room} {P : Addr → Heap → Prop} {ws : List Addr} (W : Nat) (hd : decode bytes pc = .ok (.invokevirtual index, 3)) (hp : pc + 3 = pc') (w1 : (Cond.methodLink own index y).before a0 Z = true) (w2 : (Cond.declares y).before a0 Z = true) (w5 : (Cond.selects Cl y y).before a0 Z = true) (w6 : (Cond.instanceMethod y).before a0 Z = true) (w3 : (Cond.initialized y.cls).before a0 Z = true) (w4 : (Cond.code y yb yml yrt).before a0 Z = true) (hy : y.cls ≠ "java/lang/invoke/MethodHandle" ∧ y.cls ≠ "java/lang/invoke/VarHandle") (E : Exa Z h a Cl)
    (hM : Mt l Z y yb yml yrt rm (.ref a :: argsL).toArray h n0 (KeepA h ws P)) (hfr : rm.frames + 1 ≤ R.frames) (hlo : W + (yml + 11) + rm.locals ≤ R.locals) (hc : cells + rm.cells ≤ R.cells) (hs : slots + rm.slots ≤ R.slots) (hlen : ∀ sig, parseMethodDescriptor y.desc = some sig → argsL.length = sig.parameters.length) (hL : L.size = ml) (hst : st = argsL.reverse ++ .ref a :: rest) (hW : (rest.map fun v => v.category).sum ≤ W)
    (kont : ∀ r T' h', Wk p l e R s m args below meth c n0 T' h' (cells + rm.cells) (slots + rm.slots) → Keep h h' ws → P r h' → Fi p e below s n0 C S Q (T'.setTop (mkF m pc' L (.ref r :: rest)))) : Fi p e below s n0 C S Q (T.setTop (mkF m pc L (st))) := by
  refine g_virtual K X (a := a) (argsL := argsL) (rest := rest) W hd hp w1 w2 w5 w6 w3 w4 hy E hM hfr hlo hc hs hlen hL hst hW (fun v T' h' X' hq => ?_) (fun _ _ q => by obtain ⟨_, _, k, _⟩ := q; exact k.1)
  obtain ⟨r, rfl, hK, hP⟩ := hq
  exact kont r T' h' X' hK hP
theorem g_virtualK0 (K : Cx Z p s m meth c own bytes ml rt nm) (X : Wk p l e R s m args below meth c n0 T h cells slots) {pc pc' : Nat} {L : Array Slot} {st rest argsL : List Value} {index : Nat} {a : Addr} {Cl : String} {y : MethodName} {yb : ByteArray} {yml : Nat} {yrt : Option FieldType} {rm : Room} {P : Heap → Prop} {ws : List Addr} (W : Nat) (hd : decode bytes pc = .ok (.invokevirtual index, 3)) (hp : pc + 3 = pc') (w1 : (Cond.methodLink own index y).before a0 Z = true) (w2 : (Cond.declares y).before a0 Z = true) (w5 : (Cond.selects Cl y y).before a0 Z = true) (w6 : (Cond.instanceMethod y).before a0 Z = true) (w3 : (Cond.initialized y.cls).before a0 Z = true) (w4 : (Cond.code y yb yml yrt).before a0 Z = true) (hy : y.cls ≠ "java/lang/invoke/MethodHandle" ∧ y.cls ≠ "java/lang/invoke/VarHandle") (E : Exa Z h a Cl)
    (hM : Mt l Z y yb yml yrt rm (.ref a :: argsL).toArray h n0 (Keep0 h ws P)) (hfr : rm.frames + 1 ≤ R.frames) (hlo : W + (yml + 11) + rm.locals ≤ R.locals) (hc : cells + rm.cells ≤ R.cells) (hs : slots + rm.slots ≤ R.slots) (hlen : ∀ sig, parseMethodDescriptor y.desc = some sig → argsL.length = sig.parameters.length) (hL : L.size = ml) (hst : st = argsL.reverse ++ .ref a :: rest) (hW : (rest.map fun v => v.category).sum ≤ W)
    (kont : ∀ T' h', Wk p l e R s m args below meth c n0 T' h' (cells + rm.cells) (slots + rm.slots) → Keep h h' ws → P h' → Fi p e below s n0 C S Q (T'.setTop (mkF m pc' L (rest)))) : Fi p e below s n0 C S Q (T.setTop (mkF m pc L (st))) := by
  refine g_virtual K X (a := a) (argsL := argsL) (rest := rest) W hd hp w1 w2 w5 w6 w3 w4 hy E hM hfr hlo hc hs hlen hL hst hW (fun v T' h' X' hq => ?_) (fun _ _ q => q.2.1.1)
  obtain ⟨rfl, hK, hP⟩ := hq
  exact kont T' h' X' hK hP
theorem g_privateI (K : Cx Z p s m meth c own bytes ml rt nm) (X : Wk p l e R s m args below meth c n0 T h cells slots) {pc pc' : Nat} {L : Array Slot} {st rest argsL : List Value} {index kk : Nat} {a : Addr} {Cl : String} {y : MethodName} {yb : ByteArray} {yml : Nat} {yrt : Option FieldType} {rm : Room} {P : Int32 → Prop} (W : Nat) (hd : decode bytes pc = .ok (.invokevirtual index, 3)) (hp : pc + 3 = pc') (w1 : (Cond.methodLink own index y).before a0 Z = true) (w2 : (Cond.instanceMethod y).before a0 Z = true) (w5 : (Cond.privateMethod y).before a0 Z = true) (w6 : (Cond.instantiable y.cls kk).before a0 Z = true) (w3 : (Cond.initialized y.cls).before a0 Z = true) (w4 : (Cond.code y yb yml yrt).before a0 Z = true) (hy : y.cls ≠ "java/lang/invoke/MethodHandle" ∧ y.cls ≠ "java/lang/invoke/VarHandle") (E : Exa Z h a Cl)
    (hM : Mt l Z y yb yml yrt rm (.ref a :: argsL).toArray h n0 (PureI h P)) (hfr : rm.frames + 1 ≤ R.frames) (hlo : W + (yml + 11) + rm.locals ≤ R.locals) (hc : cells + rm.cells ≤ R.cells) (hs : slots + rm.slots ≤ R.slots) (hlen : ∀ sig, parseMethodDescriptor y.desc = some sig → argsL.length = sig.parameters.length) (hL : L.size = ml) (hst : st = argsL.reverse ++ .ref a :: rest) (hW : (rest.map fun v => v.category).sum ≤ W)
    (kont : ∀ r T', Wk p l e R s m args below meth c n0 T' h (cells + rm.cells) (slots + rm.slots) → P r → Fi p e below s n0 C S Q (T'.setTop (mkF m pc' L (.int r :: rest)))) : Fi p e below s n0 C S Q (T.setTop (mkF m pc L (st))) := by
  refine g_private K X (a := a) (argsL := argsL) (rest := rest) W hd hp w1 w2 w5 w6 w3 w4 hy E hM hfr hlo hc hs hlen hL hst hW (fun v T' h' X' hq => ?_) (fun _ _ q => by obtain ⟨_, _, _, rfl⟩ := q; exact Nat.le_refl _)
  obtain ⟨r, rfl, hP, rfl⟩ := hq
  exact kont r T' X' hP
theorem g_privateJ (K : Cx Z p s m meth c own bytes ml rt nm) (X : Wk p l e R s m args below meth c n0 T h cells slots) {pc pc' : Nat} {L : Array Slot} {st rest argsL : List Value} {index kk : Nat} {a : Addr} {Cl : String} {y : MethodName} {yb : ByteArray} {yml : Nat} {yrt : Option FieldType} {rm : Room} {P : Int64 → Prop} (W : Nat) (hd : decode bytes pc = .ok (.invokevirtual index, 3)) (hp : pc + 3 = pc') (w1 : (Cond.methodLink own index y).before a0 Z = true) (w2 : (Cond.instanceMethod y).before a0 Z = true) (w5 : (Cond.privateMethod y).before a0 Z = true) (w6 : (Cond.instantiable y.cls kk).before a0 Z = true) (w3 : (Cond.initialized y.cls).before a0 Z = true) (w4 : (Cond.code y yb yml yrt).before a0 Z = true) (hy : y.cls ≠ "java/lang/invoke/MethodHandle" ∧ y.cls ≠ "java/lang/invoke/VarHandle") (E : Exa Z h a Cl)
    (hM : Mt l Z y yb yml yrt rm (.ref a :: argsL).toArray h n0 (PureJ h P)) (hfr : rm.frames + 1 ≤ R.frames) (hlo : W + (yml + 11) + rm.locals ≤ R.locals) (hc : cells + rm.cells ≤ R.cells) (hs : slots + rm.slots ≤ R.slots) (hlen : ∀ sig, parseMethodDescriptor y.desc = some sig → argsL.length = sig.parameters.length) (hL : L.size = ml) (hst : st = argsL.reverse ++ .ref a :: rest) (hW : (rest.map fun v => v.category).sum ≤ W)
    (kont : ∀ r T', Wk p l e R s m args below meth c n0 T' h (cells + rm.cells) (slots + rm.slots) → P r → Fi p e below s n0 C S Q (T'.setTop (mkF m pc' L (.long r :: rest)))) : Fi p e below s n0 C S Q (T.setTop (mkF m pc L (st))) := by
  refine g_private K X (a := a) (argsL := argsL) (rest := rest) W hd hp w1 w2 w5 w6 w3 w4 hy E hM hfr hlo hc hs hlen hL hst hW (fun v T' h' X' hq => ?_) (fun _ _ q => by obtain ⟨_, _, _, rfl⟩ := q; exact Nat.le_refl _)
  obtain ⟨r, rfl, hP, rfl⟩ := hq
  exact kont r T' X' hP
theorem g_privateKI (K : Cx Z p s m meth c own bytes ml rt nm) (X : Wk p l e R s m args below meth c n0 T h cells slots) {pc pc' : Nat} {L : Array Slot} {st rest argsL : List Value} {index kk : Nat} {a : Addr} {Cl : String} {y : MethodName} {yb : ByteArray} {yml : Nat} {yrt : Option FieldType} {rm : Room} {P : Int32 → Heap → Prop} {ws : List Addr} (W : Nat) (hd : decode bytes pc = .ok (.invokevirtual index, 3)) (hp : pc + 3 = pc') (w1 : (Cond.methodLink own index y).before a0 Z = true) (w2 : (Cond.instanceMethod y).before a0 Z = true) (w5 : (Cond.privateMethod y).before a0 Z = true) (w6 : (Cond.instantiable y.cls kk).before a0 Z = true) (w3 : (Cond.initialized y.cls).before a0 Z = true) (w4 : (Cond.code y yb yml yrt).before a0 Z = true) (hy : y.cls ≠ "java/lang/invoke/MethodHandle" ∧ y.cls ≠ "java/lang/invoke/VarHandle") (E : Exa Z h a Cl)
    (hM : Mt l Z y yb yml yrt rm (.ref a :: argsL).toArray h n0 (KeepI h ws P)) (hfr : rm.frames + 1 ≤ R.frames) (hlo : W + (yml + 11) + rm.locals ≤ R.locals) (hc : cells + rm.cells ≤ R.cells) (hs : slots + rm.slots ≤ R.slots) (hlen : ∀ sig, parseMethodDescriptor y.desc = some sig → argsL.length = sig.parameters.length) (hL : L.size = ml) (hst : st = argsL.reverse ++ .ref a :: rest) (hW : (rest.map fun v => v.category).sum ≤ W)
    (kont : ∀ r T' h', Wk p l e R s m args below meth c n0 T' h' (cells + rm.cells) (slots + rm.slots) → Keep h h' ws → P r h' → Fi p e below s n0 C S Q (T'.setTop (mkF m pc' L (.int r :: rest)))) : Fi p e below s n0 C S Q (T.setTop (mkF m pc L (st))) := by
  refine g_private K X (a := a) (argsL := argsL) (rest := rest) W hd hp w1 w2 w5 w6 w3 w4 hy E hM hfr hlo hc hs hlen hL hst hW (fun v T' h' X' hq => ?_) (fun _ _ q => by obtain ⟨_, _, k, _⟩ := q; exact k.1)
  obtain ⟨r, rfl, hK, hP⟩ := hq
  exact kont r T' h' X' hK hP
theorem g_privateKA (K : Cx Z p s m meth c own bytes ml rt nm) (X : Wk p l e R s m args below meth c n0 T h cells slots) {pc pc' : Nat} {L : Array Slot} {st rest argsL : List Value} {index kk : Nat} {a : Addr} {Cl : String} {y : MethodName} {yb : ByteArray} {yml : Nat} {yrt : Option FieldType} {rm : Room} {P : Addr → Heap → Prop} {ws : List Addr} (W : Nat) (hd : decode bytes pc = .ok (.invokevirtual index, 3)) (hp : pc + 3 = pc') (w1 : (Cond.methodLink own index y).before a0 Z = true) (w2 : (Cond.instanceMethod y).before a0 Z = true) (w5 : (Cond.privateMethod y).before a0 Z = true) (w6 : (Cond.instantiable y.cls kk).before a0 Z = true) (w3 : (Cond.initialized y.cls).before a0 Z = true) (w4 : (Cond.code y yb yml yrt).before a0 Z = true) (hy : y.cls ≠ "java/lang/invoke/MethodHandle" ∧ y.cls ≠ "java/lang/invoke/VarHandle") (E : Exa Z h a Cl)
    (hM : Mt l Z y yb yml yrt rm (.ref a :: argsL).toArray h n0 (KeepA h ws P)) (hfr : rm.frames + 1 ≤ R.frames) (hlo : W + (yml + 11) + rm.locals ≤ R.locals) (hc : cells + rm.cells ≤ R.cells) (hs : slots + rm.slots ≤ R.slots) (hlen : ∀ sig, parseMethodDescriptor y.desc = some sig → argsL.length = sig.parameters.length) (hL : L.size = ml) (hst : st = argsL.reverse ++ .ref a :: rest) (hW : (rest.map fun v => v.category).sum ≤ W)
    (kont : ∀ r T' h', Wk p l e R s m args below meth c n0 T' h' (cells + rm.cells) (slots + rm.slots) → Keep h h' ws → P r h' → Fi p e below s n0 C S Q (T'.setTop (mkF m pc' L (.ref r :: rest)))) : Fi p e below s n0 C S Q (T.setTop (mkF m pc L (st))) := by
  refine g_private K X (a := a) (argsL := argsL) (rest := rest) W hd hp w1 w2 w5 w6 w3 w4 hy E hM hfr hlo hc hs hlen hL hst hW (fun v T' h' X' hq => ?_) (fun _ _ q => by obtain ⟨_, _, k, _⟩ := q; exact k.1)
  obtain ⟨r, rfl, hK, hP⟩ := hq
  exact kont r T' h' X' hK hP
theorem g_privateK0 (K : Cx Z p s m meth c own bytes ml rt nm) (X : Wk p l e R s m args below meth c n0 T h cells slots) {pc pc' : Nat} {L : Array Slot} {st rest argsL : List Value} {index kk : Nat} {a : Addr} {Cl : String} {y : MethodName} {yb : ByteArray} {yml : Nat} {yrt : Option FieldType} {rm : Room} {P : Heap → Prop} {ws : List Addr} (W : Nat) (hd : decode bytes pc = .ok (.invokevirtual index, 3)) (hp : pc + 3 = pc') (w1 : (Cond.methodLink own index y).before a0 Z = true) (w2 : (Cond.instanceMethod y).before a0 Z = true) (w5 : (Cond.privateMethod y).before a0 Z = true) (w6 : (Cond.instantiable y.cls kk).before a0 Z = true) (w3 : (Cond.initialized y.cls).before a0 Z = true) (w4 : (Cond.code y yb yml yrt).before a0 Z = true) (hy : y.cls ≠ "java/lang/invoke/MethodHandle" ∧ y.cls ≠ "java/lang/invoke/VarHandle") (E : Exa Z h a Cl)
    (hM : Mt l Z y yb yml yrt rm (.ref a :: argsL).toArray h n0 (Keep0 h ws P)) (hfr : rm.frames + 1 ≤ R.frames) (hlo : W + (yml + 11) + rm.locals ≤ R.locals) (hc : cells + rm.cells ≤ R.cells) (hs : slots + rm.slots ≤ R.slots) (hlen : ∀ sig, parseMethodDescriptor y.desc = some sig → argsL.length = sig.parameters.length) (hL : L.size = ml) (hst : st = argsL.reverse ++ .ref a :: rest) (hW : (rest.map fun v => v.category).sum ≤ W)
    (kont : ∀ T' h', Wk p l e R s m args below meth c n0 T' h' (cells + rm.cells) (slots + rm.slots) → Keep h h' ws → P h' → Fi p e below s n0 C S Q (T'.setTop (mkF m pc' L (rest)))) : Fi p e below s n0 C S Q (T.setTop (mkF m pc L (st))) := by
  refine g_private K X (a := a) (argsL := argsL) (rest := rest) W hd hp w1 w2 w5 w6 w3 w4 hy E hM hfr hlo hc hs hlen hL hst hW (fun v T' h' X' hq => ?_) (fun _ _ q => q.2.1.1)
  obtain ⟨rfl, hK, hP⟩ := hq
  exact kont T' h' X' hK hP
end OwnKit
theorem pn_0 : plainName "com/example/benchwright/benchwright/data/DateTextKeyPinLaw" = true := by first | (simp [plainName, overriddenIn]; done) | decide +kernel
theorem pn_1 : plainName "com/example/benchwright/benchwright/data/DateText" = true := by first | (simp [plainName, overriddenIn]; done) | decide +kernel
theorem pd_0 : parseMethodDescriptor "(JZ)B" = some ⟨[.long, .boolean], some .byte⟩ := by decide +kernel
theorem pd_1 : parseMethodDescriptor "([BII)J" = some ⟨[(.array .byte), .int, .int], some .long⟩ := by decide +kernel
theorem pd_2 : parseMethodDescriptor "(B)I" = some ⟨[.byte], some .int⟩ := by decide +kernel
def acc (g : Nat → Int32) : Nat → Int64
  | 0 => 0
  | k + 1 => if k = 4 ∨ k = 7 then acc g k else acc g k * 10 + (g k - (48 : Int32)).toInt64
def okD (x : Int32) : Prop := 48 ≤ x.toInt ∧ x.toInt ≤ 57
def allD (g : Nat → Int32) (k : Nat) : Prop := ∀ j, j < k → j ≠ 4 → j ≠ 7 → okD (g j)
def KF (len : Int) (g : Nat → Int32) (r : Int64) : Prop :=
  (len = 10 ∧ (g 4).toInt = 45 ∧ (g 7).toInt = 45 ∧ allD g 10 → r = acc g 10) ∧ (¬ (len = 10 ∧ (g 4).toInt = 45 ∧ (g 7).toInt = 45 ∧ allD g 10) → r = -1)
def DG (x r : Int32) : Prop := (okD x → r = x - (48 : Int32)) ∧ (¬ okD x → r = -1)
theorem own_add (q : Int32) (t : Nat) (ht : q.toInt = (t : Int)) (h2 : t ≤ 1000) (k : Int32) (kn : Nat) (hk : k.toInt = (kn : Int)) (hk2 : kn ≤ 1000) : (q + k).toInt = ((t + kn : Nat) : Int) := by
  have e := c_iadd q k
  have r := rng32 (q + k)
  omega
theorem own_sub (q r : Int32) (t u : Nat) (ht : q.toInt = (t : Int)) (hu : r.toInt = (u : Int)) (h1 : t ≤ 1000) (h2 : u ≤ 1000) : (r - q).toInt = (u : Int) - t := by
  have e := c_isub r q
  have r := rng32 (r - q)
  omega
theorem own_s48 (x : Int32) (h0 : -128 ≤ x.toInt) (h1 : x.toInt < 128) : (x - (48 : Int32)).toInt = x.toInt - 48 := by
  have e := c_isub x 48
  rw [show (48 : Int32).toInt = 48 from rfl] at e
  have r := rng32 (x - 48)
  omega
theorem d1_0 : decode method_2_code 0 = .ok (.lload_n 0, 1) := by decide +kernel
theorem d1_1 : decode method_2_code 1 = .ok (.ldc2_w 7, 3) := by decide +kernel
theorem d1_4 : decode method_2_code 4 = .ok (.land, 1) := by decide +kernel
theorem d1_5 : decode method_2_code 5 = .ok (.l2i, 1) := by decide +kernel
theorem d1_6 : decode method_2_code 6 = .ok (.istore_n 3, 1) := by decide +kernel
theorem d1_7 : decode method_2_code 7 = .ok (.iload_n 3, 1) := by decide +kernel
theorem d1_8 : decode method_2_code 8 = .ok (.bipush 8, 2) := by decide +kernel
theorem d1_10 : decode method_2_code 10 = .ok (.iushr, 1) := by decide +kernel
theorem d1_11 : decode method_2_code 11 = .ok (.istore 4, 2) := by decide +kernel
theorem d1_13 : decode method_2_code 13 = .ok (.iload_n 3, 1) := by decide +kernel
theorem d1_14 : decode method_2_code 14 = .ok (.sipush 255, 3) := by decide +kernel
theorem d1_17 : decode method_2_code 17 = .ok (.iand, 1) := by decide +kernel
theorem d1_18 : decode method_2_code 18 = .ok (.istore 5, 2) := by decide +kernel
theorem d1_20 : decode method_2_code 20 = .ok (.iload_n 2, 1) := by decide +kernel
theorem d1_21 : decode method_2_code 21 = .ok (.ifCond .eq 17, 3) := by decide +kernel
theorem d1_24 : decode method_2_code 24 = .ok (.iload 4, 2) := by decide +kernel
theorem d1_26 : decode method_2_code 26 = .ok (.iconst 1, 1) := by decide +kernel
theorem d1_27 : decode method_2_code 27 = .ok (.iand, 1) := by decide +kernel
theorem d1_28 : decode method_2_code 28 = .ok (.ifCond .ne 6, 3) := by decide +kernel
theorem d1_31 : decode method_2_code 31 = .ok (.bipush 45, 2) := by decide +kernel
theorem d1_33 : decode method_2_code 33 = .ok (.ireturn, 1) := by decide +kernel
theorem d1_34 : decode method_2_code 34 = .ok (.iload 5, 2) := by decide +kernel
theorem d1_36 : decode method_2_code 36 = .ok (.i2b, 1) := by decide +kernel
theorem d1_37 : decode method_2_code 37 = .ok (.ireturn, 1) := by decide +kernel
theorem d1_38 : decode method_2_code 38 = .ok (.iload 4, 2) := by decide +kernel
theorem d1_40 : decode method_2_code 40 = .ok (.iconst 1, 1) := by decide +kernel
theorem d1_41 : decode method_2_code 41 = .ok (.if_icmp .gt 13, 3) := by decide +kernel
theorem d1_44 : decode method_2_code 44 = .ok (.bipush 48, 2) := by decide +kernel
theorem d1_46 : decode method_2_code 46 = .ok (.iload 5, 2) := by decide +kernel
theorem d1_48 : decode method_2_code 48 = .ok (.bipush 10, 2) := by decide +kernel
theorem d1_50 : decode method_2_code 50 = .ok (.irem, 1) := by decide +kernel
theorem d1_51 : decode method_2_code 51 = .ok (.iadd, 1) := by decide +kernel
theorem d1_52 : decode method_2_code 52 = .ok (.i2b, 1) := by decide +kernel
theorem d1_53 : decode method_2_code 53 = .ok (.ireturn, 1) := by decide +kernel
theorem d1_54 : decode method_2_code 54 = .ok (.iload 4, 2) := by decide +kernel
theorem d1_56 : decode method_2_code 56 = .ok (.iconst 2, 1) := by decide +kernel
theorem d1_57 : decode method_2_code 57 = .ok (.if_icmp .ne 13, 3) := by decide +kernel
theorem d1_60 : decode method_2_code 60 = .ok (.bipush 47, 2) := by decide +kernel
theorem d1_62 : decode method_2_code 62 = .ok (.iload 5, 2) := by decide +kernel
theorem d1_64 : decode method_2_code 64 = .ok (.bipush 15, 2) := by decide +kernel
theorem d1_66 : decode method_2_code 66 = .ok (.iand, 1) := by decide +kernel
theorem d1_67 : decode method_2_code 67 = .ok (.iadd, 1) := by decide +kernel
theorem d1_68 : decode method_2_code 68 = .ok (.i2b, 1) := by decide +kernel
theorem d1_69 : decode method_2_code 69 = .ok (.ireturn, 1) := by decide +kernel
theorem d1_70 : decode method_2_code 70 = .ok (.iload 5, 2) := by decide +kernel
theorem d1_72 : decode method_2_code 72 = .ok (.i2b, 1) := by decide +kernel
theorem d1_73 : decode method_2_code 73 = .ok (.ireturn, 1) := by decide +kernel
theorem ef_1 (m : MethodId) (x0 : Int64) (x1 : Int32) : entryFrame m #[.long x0, .int x1] 6 = mkF m 0 #[.val (.long x0), .second, .val (.int x1), .unset, .unset, .unset] [] := by first | (simp [entryFrame, mkF, argsToLocals, Value.category, maxLocals]; done) | rfl
set_option maxRecDepth 65536 in
set_option maxHeartbeats 40000000 in
theorem rm_draw (l : Launch) (Z : State) (a0 : Array Value) (hw : ∀ d ∈ tables_1, d.before a0 Z = true) (p1 : Int64) (p2 : Int32) (h : Heap) (n0 : Nat) (Z0 : n0 ≤ h.size)  :
    Mt l Z (⟨"com/example/benchwright/benchwright/data/DateTextKeyPinLaw", "draw", "(JZ)B"⟩ : MethodName) method_2_code 6 (some .byte) ({ frames := 0, cells := 0, slots := 0, locals := 0 } : Room) #[.long p1, .int p2] h n0 (PureI h (fun r => -128 ≤ r.toInt ∧ r.toInt < 128)) := by
  refine Mt.of (own := "com/example/benchwright/benchwright/data/DateTextKeyPinLaw") (nm := "draw") (Ls := #[.val (.long p1), .second, .val (.int p2), .unset, .unset, .unset]) rfl rfl (plainFor_of_name pn_0) Z0 (fun m => ef_1 m p1 p2) ?_
  intro p e s m below meth c T K X
  refine g_lloadN K X (pc' := 1) d1_0 rfl rfl ?_
  refine g_ldc2J K X (pc' := 4) (v := (1023 : Int64)) d1_1 rfl (hw _ (List.mem_of_getElem? (i := 5) rfl)) ?_
  refine g_land K X (pc' := 5) d1_4 rfl ?_
  refine g_l2i K X (pc' := 6) d1_5 rfl ?_
  refine g_istoreN K X (pc' := 7) (L' := #[.val (.long p1), .second, .val (.int p2), .val (.int (((p1 &&& (1023 : Int64))).toInt32)), .unset, .unset]) d1_6 rfl rfl ?_
  refine g_iloadN K X (pc' := 8) d1_7 rfl rfl ?_
  refine g_bipush K X (pc' := 10) (v := (8 : Int32)) d1_8 rfl rfl ?_
  refine g_iushr K X (pc' := 11) d1_10 rfl ?_
  refine g_istore K X (pc' := 13) (L' := #[.val (.long p1), .second, .val (.int p2), .val (.int (((p1 &&& (1023 : Int64))).toInt32)), .val (.int (jushr (((p1 &&& (1023 : Int64))).toInt32) (8 : Int32))), .unset]) d1_11 rfl rfl ?_
  refine g_iloadN K X (pc' := 14) d1_13 rfl rfl ?_
  refine g_sipush K X (pc' := 17) (v := (255 : Int32)) d1_14 rfl rfl ?_
  refine g_iand K X (pc' := 18) d1_17 rfl ?_
  refine g_istore K X (pc' := 20) (L' := #[.val (.long p1), .second, .val (.int p2), .val (.int (((p1 &&& (1023 : Int64))).toInt32)), .val (.int (jushr (((p1 &&& (1023 : Int64))).toInt32) (8 : Int32))), .val (.int ((((p1 &&& (1023 : Int64))).toInt32) &&& (255 : Int32)))]) d1_18 rfl rfl ?_
  refine g_iloadN K X (pc' := 21) d1_20 rfl rfl ?_
  refine g_if_eq K X (pc' := 38) (pc'' := 24) p2.toInt d1_21 (by decide) rfl rfl ?_ ?_
  · intro b21
    refine g_iload K X (pc' := 40) d1_38 rfl rfl ?_
    refine g_iconst K X (pc' := 41) (v := (1 : Int32)) d1_40 rfl rfl ?_
    refine g_icmp_gt K X (pc' := 54) (pc'' := 44) (jushr (((p1 &&& (1023 : Int64))).toInt32) (8 : Int32)).toInt 1 d1_41 (by decide) rfl rfl rfl ?_ ?_
    · intro b41
      refine g_iload K X (pc' := 56) d1_54 rfl rfl ?_
      refine g_iconst K X (pc' := 57) (v := (2 : Int32)) d1_56 rfl rfl ?_
      refine g_icmp_ne K X (pc' := 70) (pc'' := 60) (jushr (((p1 &&& (1023 : Int64))).toInt32) (8 : Int32)).toInt 2 d1_57 (by decide) rfl rfl rfl ?_ ?_
      · intro b57
        refine g_iload K X (pc' := 72) d1_70 rfl rfl ?_
        refine g_i2b K X (pc' := 73) d1_72 rfl ?_
        exact g_retN K X d1_73 (by simp) (by decide) (by decide) ⟨_, rfl, (jb_rng _).2, rfl⟩
      · intro b57
        refine g_bipush K X (pc' := 62) (v := (47 : Int32)) d1_60 rfl rfl ?_
        refine g_iload K X (pc' := 64) d1_62 rfl rfl ?_
        refine g_bipush K X (pc' := 66) (v := (15 : Int32)) d1_64 rfl rfl ?_
        refine g_iand K X (pc' := 67) d1_66 rfl ?_
        refine g_iadd K X (pc' := 68) d1_67 rfl ?_
        refine g_i2b K X (pc' := 69) d1_68 rfl ?_
        exact g_retN K X d1_69 (by simp) (by decide) (by decide) ⟨_, rfl, (jb_rng _).2, rfl⟩
    · intro b41
      refine g_bipush K X (pc' := 46) (v := (48 : Int32)) d1_44 rfl rfl ?_
      refine g_iload K X (pc' := 48) d1_46 rfl rfl ?_
      refine g_bipush K X (pc' := 50) (v := (10 : Int32)) d1_48 rfl rfl ?_
      refine g_irem K X (pc' := 51) d1_50 rfl (by decide) ?_
      refine g_iadd K X (pc' := 52) d1_51 rfl ?_
      refine g_i2b K X (pc' := 53) d1_52 rfl ?_
      exact g_retN K X d1_53 (by simp) (by decide) (by decide) ⟨_, rfl, (jb_rng _).2, rfl⟩
  · intro b21
    refine g_iload K X (pc' := 26) d1_24 rfl rfl ?_
    refine g_iconst K X (pc' := 27) (v := (1 : Int32)) d1_26 rfl rfl ?_
    refine g_iand K X (pc' := 28) d1_27 rfl ?_
    refine g_if_ne K X (pc' := 34) (pc'' := 31) ((jushr (((p1 &&& (1023 : Int64))).toInt32) (8 : Int32)) &&& (1 : Int32)).toInt d1_28 (by decide) rfl rfl ?_ ?_
    · intro b28
      refine g_iload K X (pc' := 36) d1_34 rfl rfl ?_
      refine g_i2b K X (pc' := 37) d1_36 rfl ?_
      exact g_retN K X d1_37 (by simp) (by decide) (by decide) ⟨_, rfl, (jb_rng _).2, rfl⟩
    · intro b28
      refine g_bipush K X (pc' := 33) (v := (45 : Int32)) d1_31 rfl rfl ?_
      exact g_retN K X d1_33 (by simp) (by decide) (by decide) ⟨_, rfl, (jb_rng _).2, rfl⟩

theorem d2_0 : decode method_3_code 0 = .ok (.iload_n 0, 1) := by decide +kernel
theorem d2_1 : decode method_3_code 1 = .ok (.bipush 48, 2) := by decide +kernel
theorem d2_3 : decode method_3_code 3 = .ok (.if_icmp .lt 14, 3) := by decide +kernel
theorem d2_6 : decode method_3_code 6 = .ok (.iload_n 0, 1) := by decide +kernel
theorem d2_7 : decode method_3_code 7 = .ok (.bipush 57, 2) := by decide +kernel
theorem d2_9 : decode method_3_code 9 = .ok (.if_icmp .gt 8, 3) := by decide +kernel
theorem d2_12 : decode method_3_code 12 = .ok (.iload_n 0, 1) := by decide +kernel
theorem d2_13 : decode method_3_code 13 = .ok (.bipush 48, 2) := by decide +kernel
theorem d2_15 : decode method_3_code 15 = .ok (.isub, 1) := by decide +kernel
theorem d2_16 : decode method_3_code 16 = .ok (.ireturn, 1) := by decide +kernel
theorem d2_17 : decode method_3_code 17 = .ok (.iconst (-1), 1) := by decide +kernel
theorem d2_18 : decode method_3_code 18 = .ok (.ireturn, 1) := by decide +kernel
theorem ef_2 (m : MethodId) (x0 : Int32) : entryFrame m #[.int x0] 1 = mkF m 0 #[.val (.int x0)] [] := by first | (simp [entryFrame, mkF, argsToLocals, Value.category, maxLocals]; done) | rfl
set_option maxRecDepth 65536 in
set_option maxHeartbeats 40000000 in
theorem rm_digit (l : Launch) (Z : State) (a0 : Array Value) (hw : ∀ d ∈ tables_1, d.before a0 Z = true) (p1 : Int32) (h : Heap) (n0 : Nat) (Z0 : n0 ≤ h.size)  :
    Mt l Z (⟨"com/example/benchwright/benchwright/data/DateTextKeyPinLaw", "digit", "(B)I"⟩ : MethodName) method_3_code 1 (some .int) ({ frames := 0, cells := 0, slots := 0, locals := 0 } : Room) #[.int p1] h n0 (PureI h (fun r => DG p1 r)) := by
  refine Mt.of (own := "com/example/benchwright/benchwright/data/DateTextKeyPinLaw") (nm := "digit") (Ls := #[.val (.int p1)]) rfl rfl (plainFor_of_name pn_0) Z0 (fun m => ef_2 m p1) ?_
  intro p e s m below meth c T K X
  refine g_iloadN K X (pc' := 1) d2_0 rfl rfl ?_
  refine g_bipush K X (pc' := 3) (v := (48 : Int32)) d2_1 rfl rfl ?_
  refine g_icmp_lt K X (pc' := 17) (pc'' := 6) p1.toInt 48 d2_3 (by decide) rfl rfl rfl ?_ ?_
  · intro b3
    refine g_iconst K X (pc' := 18) (v := ((-1) : Int32)) d2_17 rfl rfl ?_
    exact g_retI K X d2_18 (by decide) (by decide) ⟨_, rfl, ⟨fun q => absurd q (fun q => by unfold okD at q; omega), fun _ => rfl⟩, rfl⟩
  · intro b3
    refine g_iloadN K X (pc' := 7) d2_6 rfl rfl ?_
    refine g_bipush K X (pc' := 9) (v := (57 : Int32)) d2_7 rfl rfl ?_
    refine g_icmp_gt K X (pc' := 17) (pc'' := 12) p1.toInt 57 d2_9 (by decide) rfl rfl rfl ?_ ?_
    · intro b9
      refine g_iconst K X (pc' := 18) (v := ((-1) : Int32)) d2_17 rfl rfl ?_
      exact g_retI K X d2_18 (by decide) (by decide) ⟨_, rfl, ⟨fun q => absurd q (fun q => by unfold okD at q; omega), fun _ => rfl⟩, rfl⟩
    · intro b9
      refine g_iloadN K X (pc' := 13) d2_12 rfl rfl ?_
      refine g_bipush K X (pc' := 15) (v := (48 : Int32)) d2_13 rfl rfl ?_
      refine g_isub K X (pc' := 16) d2_15 rfl ?_
      exact g_retI K X d2_16 (by decide) (by decide) ⟨_, rfl, ⟨fun _ => rfl, fun q => absurd ⟨by omega, by omega⟩ q⟩, rfl⟩

theorem own_all {g : Nat → Int32} {k : Nat} (ha : allD g k) (hk : okD (g k)) : allD g (k + 1) := by
  intro j hj h4 h7
  by_cases q : j = k
  · rw [q]; exact hk
  · exact ha j (by omega) h4 h7
theorem own_all0 {g : Nat → Int32} : allD g 0 := fun j hj => absurd hj (Nat.not_lt_zero j)
theorem d3_0 : decode prog_103_method_4_code 0 = .ok (.iload_n 2, 1) := by decide +kernel
theorem d3_1 : decode prog_103_method_4_code 1 = .ok (.iload_n 1, 1) := by decide +kernel
theorem d3_2 : decode prog_103_method_4_code 2 = .ok (.isub, 1) := by decide +kernel
theorem d3_3 : decode prog_103_method_4_code 3 = .ok (.bipush 10, 2) := by decide +kernel
theorem d3_5 : decode prog_103_method_4_code 5 = .ok (.if_icmp .ne 24, 3) := by decide +kernel
theorem d3_8 : decode prog_103_method_4_code 8 = .ok (.aload_n 0, 1) := by decide +kernel
theorem d3_9 : decode prog_103_method_4_code 9 = .ok (.iload_n 1, 1) := by decide +kernel
theorem d3_10 : decode prog_103_method_4_code 10 = .ok (.iconst 4, 1) := by decide +kernel
theorem d3_11 : decode prog_103_method_4_code 11 = .ok (.iadd, 1) := by decide +kernel
theorem d3_12 : decode prog_103_method_4_code 12 = .ok (.baload, 1) := by decide +kernel
theorem d3_13 : decode prog_103_method_4_code 13 = .ok (.bipush 45, 2) := by decide +kernel
theorem d3_15 : decode prog_103_method_4_code 15 = .ok (.if_icmp .ne 14, 3) := by decide +kernel
theorem d3_18 : decode prog_103_method_4_code 18 = .ok (.aload_n 0, 1) := by decide +kernel
theorem d3_19 : decode prog_103_method_4_code 19 = .ok (.iload_n 1, 1) := by decide +kernel
theorem d3_20 : decode prog_103_method_4_code 20 = .ok (.bipush 7, 2) := by decide +kernel
theorem d3_22 : decode prog_103_method_4_code 22 = .ok (.iadd, 1) := by decide +kernel
theorem d3_23 : decode prog_103_method_4_code 23 = .ok (.baload, 1) := by decide +kernel
theorem d3_24 : decode prog_103_method_4_code 24 = .ok (.bipush 45, 2) := by decide +kernel
theorem d3_26 : decode prog_103_method_4_code 26 = .ok (.if_icmp .eq 7, 3) := by decide +kernel
theorem d3_29 : decode prog_103_method_4_code 29 = .ok (.ldc2_w 45, 3) := by decide +kernel
theorem d3_32 : decode prog_103_method_4_code 32 = .ok (.lreturn, 1) := by decide +kernel
theorem d3_33 : decode prog_103_method_4_code 33 = .ok (.lconst 0, 1) := by decide +kernel
theorem d3_34 : decode prog_103_method_4_code 34 = .ok (.lstore_n 3, 1) := by decide +kernel
theorem d3_35 : decode prog_103_method_4_code 35 = .ok (.iload_n 1, 1) := by decide +kernel
theorem d3_36 : decode prog_103_method_4_code 36 = .ok (.istore 5, 2) := by decide +kernel
theorem d3_38 : decode prog_103_method_4_code 38 = .ok (.iload 5, 2) := by decide +kernel
theorem d3_40 : decode prog_103_method_4_code 40 = .ok (.iload_n 2, 1) := by decide +kernel
theorem d3_41 : decode prog_103_method_4_code 41 = .ok (.if_icmp .ge 61, 3) := by decide +kernel
theorem d3_44 : decode prog_103_method_4_code 44 = .ok (.iload 5, 2) := by decide +kernel
theorem d3_46 : decode prog_103_method_4_code 46 = .ok (.iload_n 1, 1) := by decide +kernel
theorem d3_47 : decode prog_103_method_4_code 47 = .ok (.iconst 4, 1) := by decide +kernel
theorem d3_48 : decode prog_103_method_4_code 48 = .ok (.iadd, 1) := by decide +kernel
theorem d3_49 : decode prog_103_method_4_code 49 = .ok (.if_icmp .eq 47, 3) := by decide +kernel
theorem d3_52 : decode prog_103_method_4_code 52 = .ok (.iload 5, 2) := by decide +kernel
theorem d3_54 : decode prog_103_method_4_code 54 = .ok (.iload_n 1, 1) := by decide +kernel
theorem d3_55 : decode prog_103_method_4_code 55 = .ok (.bipush 7, 2) := by decide +kernel
theorem d3_57 : decode prog_103_method_4_code 57 = .ok (.iadd, 1) := by decide +kernel
theorem d3_58 : decode prog_103_method_4_code 58 = .ok (.if_icmp .eq 38, 3) := by decide +kernel
theorem d3_61 : decode prog_103_method_4_code 61 = .ok (.aload_n 0, 1) := by decide +kernel
theorem d3_62 : decode prog_103_method_4_code 62 = .ok (.iload 5, 2) := by decide +kernel
theorem d3_64 : decode prog_103_method_4_code 64 = .ok (.baload, 1) := by decide +kernel
theorem d3_65 : decode prog_103_method_4_code 65 = .ok (.bipush 48, 2) := by decide +kernel
theorem d3_67 : decode prog_103_method_4_code 67 = .ok (.isub, 1) := by decide +kernel
theorem d3_68 : decode prog_103_method_4_code 68 = .ok (.istore 6, 2) := by decide +kernel
theorem d3_70 : decode prog_103_method_4_code 70 = .ok (.iload 6, 2) := by decide +kernel
theorem d3_72 : decode prog_103_method_4_code 72 = .ok (.ifCond .lt 10, 3) := by decide +kernel
theorem d3_75 : decode prog_103_method_4_code 75 = .ok (.iload 6, 2) := by decide +kernel
theorem d3_77 : decode prog_103_method_4_code 77 = .ok (.bipush 9, 2) := by decide +kernel
theorem d3_79 : decode prog_103_method_4_code 79 = .ok (.if_icmp .le 7, 3) := by decide +kernel
theorem d3_82 : decode prog_103_method_4_code 82 = .ok (.ldc2_w 45, 3) := by decide +kernel
theorem d3_85 : decode prog_103_method_4_code 85 = .ok (.lreturn, 1) := by decide +kernel
theorem d3_86 : decode prog_103_method_4_code 86 = .ok (.lload_n 3, 1) := by decide +kernel
theorem d3_87 : decode prog_103_method_4_code 87 = .ok (.ldc2_w 47, 3) := by decide +kernel
theorem d3_90 : decode prog_103_method_4_code 90 = .ok (.lmul, 1) := by decide +kernel
theorem d3_91 : decode prog_103_method_4_code 91 = .ok (.iload 6, 2) := by decide +kernel
theorem d3_93 : decode prog_103_method_4_code 93 = .ok (.i2l, 1) := by decide +kernel
theorem d3_94 : decode prog_103_method_4_code 94 = .ok (.ladd, 1) := by decide +kernel
theorem d3_95 : decode prog_103_method_4_code 95 = .ok (.lstore_n 3, 1) := by decide +kernel
theorem d3_96 : decode prog_103_method_4_code 96 = .ok (.iinc 5 1, 3) := by decide +kernel
theorem d3_99 : decode prog_103_method_4_code 99 = .ok (.goto (-61), 3) := by decide +kernel
theorem d3_102 : decode prog_103_method_4_code 102 = .ok (.lload_n 3, 1) := by decide +kernel
theorem d3_103 : decode prog_103_method_4_code 103 = .ok (.lreturn, 1) := by decide +kernel
theorem ef_3 (m : MethodId) (x0 : Addr) (x1 : Int32) (x2 : Int32) : entryFrame m #[.ref x0, .int x1, .int x2] 7 = mkF m 0 #[.val (.ref x0), .val (.int x1), .val (.int x2), .unset, .unset, .unset, .unset] [] := by first | (simp [entryFrame, mkF, argsToLocals, Value.category, maxLocals]; done) | rfl
set_option maxRecDepth 65536 in
set_option maxHeartbeats 40000000 in
theorem rm_key (l : Launch) (Z : State) (a0 : Array Value) (hw : ∀ d ∈ tables_1, d.before a0 Z = true) (a1 : Addr) (p2 p3 : Int32) (t u n : Nat) (f : Nat → Int32) (h : Heap) (n0 : Nat) (Z0 : n0 ≤ h.size) (A : AN Z h a1 .byte n f) (hr : ∀ i, i < n → -128 ≤ (f i).toInt ∧ (f i).toInt < 128) (ht : p2.toInt = (t : Int)) (hu : p3.toInt = (u : Int)) (ht9 : t ≤ 900) (hu9 : u ≤ 900) (htn : u = t + 10 → t + 10 ≤ n) :
    Mt l Z (⟨"com/example/benchwright/benchwright/data/DateText", "key", "([BII)J"⟩ : MethodName) prog_103_method_4_code 7 (some .long) ({ frames := 0, cells := 0, slots := 0, locals := 0 } : Room) #[.ref a1, .int p2, .int p3] h n0 (PureJ h (fun r => KF ((u : Int) - t) (fun k => f (t + k)) r)) := by
  refine Mt.of (own := "com/example/benchwright/benchwright/data/DateText") (nm := "key") (Ls := #[.val (.ref a1), .val (.int p2), .val (.int p3), .unset, .unset, .unset, .unset]) rfl rfl (plainFor_of_name pn_1) Z0 (fun m => ef_3 m a1 p2 p3) ?_
  intro p e s m below meth c T K X
  have hsub := own_sub p2 p3 t u ht hu (by omega) (by omega)
  refine g_iloadN K X (pc' := 1) d3_0 rfl rfl ?_
  refine g_iloadN K X (pc' := 2) d3_1 rfl rfl ?_
  refine g_isub K X (pc' := 3) d3_2 rfl ?_
  refine g_bipush K X (pc' := 5) (v := (10 : Int32)) d3_3 rfl rfl ?_
  refine g_icmp_ne K X (pc' := 29) (pc'' := 8) (p3 - p2).toInt 10 d3_5 (by decide) rfl rfl rfl ?_ ?_
  · intro b5
    refine g_ldc2J K X (pc' := 32) (v := ((-1) : Int64)) d3_29 rfl (hw _ (List.mem_of_getElem? (i := 22) rfl)) ?_
    exact g_retL K X d3_32 (by decide) (by decide) ⟨_, rfl, ⟨fun q => by have := q.1; omega, fun _ => rfl⟩, rfl⟩
  · intro b5
    refine g_aloadN K X (pc' := 9) d3_8 rfl rfl rfl ?_
    refine g_iloadN K X (pc' := 10) d3_9 rfl rfl ?_
    refine g_iconst K X (pc' := 11) (v := (4 : Int32)) d3_10 rfl rfl ?_
    refine g_iadd K X (pc' := 12) d3_11 rfl ?_
    refine g_baload K X (pc' := 13) (i := (t + 4)) d3_12 rfl A (own_add p2 t ht (by omega) (4 : Int32) 4 rfl (by decide)) (by omega) ?_
    refine g_bipush K X (pc' := 15) (v := (45 : Int32)) d3_13 rfl rfl ?_
    refine g_icmp_ne K X (pc' := 29) (pc'' := 18) (f (t + 4)).toInt 45 d3_15 (by decide) rfl rfl rfl ?_ ?_
    · intro b15
      refine g_ldc2J K X (pc' := 32) (v := ((-1) : Int64)) d3_29 rfl (hw _ (List.mem_of_getElem? (i := 22) rfl)) ?_
      exact g_retL K X d3_32 (by decide) (by decide) ⟨_, rfl, ⟨fun q => absurd q.2.1 b15, fun _ => rfl⟩, rfl⟩
    · intro b15
      refine g_aloadN K X (pc' := 19) d3_18 rfl rfl rfl ?_
      refine g_iloadN K X (pc' := 20) d3_19 rfl rfl ?_
      refine g_bipush K X (pc' := 22) (v := (7 : Int32)) d3_20 rfl rfl ?_
      refine g_iadd K X (pc' := 23) d3_22 rfl ?_
      refine g_baload K X (pc' := 24) (i := (t + 7)) d3_23 rfl A (own_add p2 t ht (by omega) (7 : Int32) 7 rfl (by decide)) (by omega) ?_
      refine g_bipush K X (pc' := 26) (v := (45 : Int32)) d3_24 rfl rfl ?_
      refine g_icmp_eq K X (pc' := 33) (pc'' := 29) (f (t + 7)).toInt 45 d3_26 (by decide) rfl rfl rfl ?_ ?_
      · intro b26
        refine g_lconst K X (pc' := 34) (v := (0 : Int64)) d3_33 rfl rfl ?_
        refine g_lstoreN K X (pc' := 35) (L' := #[.val (.ref a1), .val (.int p2), .val (.int p3), .val (.long (0 : Int64)), .second, .unset, .unset]) d3_34 rfl rfl ?_
        refine g_iloadN K X (pc' := 36) d3_35 rfl rfl ?_
        refine g_istore K X (pc' := 38) (L' := #[.val (.ref a1), .val (.int p2), .val (.int p3), .val (.long (0 : Int64)), .second, .val (.int p2), .unset]) d3_36 rfl rfl ?_
        have b15' : (f (t + 4)).toInt = 45 := b15
        have b26' : (f (t + 7)).toInt = 45 := b26
        have J38 : ∀ (d k : Nat) (i z : Int32) (v : Int64), k + d = 10 → 1 ≤ k → i.toInt = ((t + k : Nat) : Int) → v = acc (fun k => f (t + k)) k → allD (fun k => f (t + k)) k → Fi p e below s n0 ({ frames := 0, cells := 0, slots := 0, locals := 0 } : Room).cells ({ frames := 0, cells := 0, slots := 0, locals := 0 } : Room).slots (PureJ h (fun r => KF ((u : Int) - t) (fun k => f (t + k)) r)) (T.setTop (mkF m 38 #[.val (.ref a1), .val (.int p2), .val (.int p3), .val (.long v), .second, .val (.int i), .val (.int z)] [])) := by
          intro d
          induction d with
          | zero =>
            intro k i z v hkd hk1 hi hv hall
            have h4 := own_add p2 t ht (by omega) (4 : Int32) 4 rfl (by decide)
            have h7 := own_add p2 t ht (by omega) (7 : Int32) 7 rfl (by decide)
            refine g_iload K X (pc' := 40) d3_38 rfl rfl ?_
            refine g_iloadN K X (pc' := 41) d3_40 rfl rfl ?_
            refine g_icmp_ge K X (pc' := 102) (pc'' := 44) i.toInt p3.toInt d3_41 (by decide) rfl rfl rfl ?_ ?_
            · intro b41
              refine g_lloadN K X (pc' := 103) d3_102 rfl rfl ?_
              exact g_retL K X d3_103 (by decide) (by decide) ⟨_, rfl, ⟨fun _ => by rw [hv, show k = 10 by omega], fun q => absurd ⟨by omega, b15', b26', by rw [show 10 = k by omega]; exact hall⟩ q⟩, rfl⟩
            · intro b41
              omega
          | succ d ih =>
            intro k i z v hkd hk1 hi hv hall
            have h4 := own_add p2 t ht (by omega) (4 : Int32) 4 rfl (by decide)
            have h7 := own_add p2 t ht (by omega) (7 : Int32) 7 rfl (by decide)
            refine g_iload K X (pc' := 40) d3_38 rfl rfl ?_
            refine g_iloadN K X (pc' := 41) d3_40 rfl rfl ?_
            refine g_icmp_ge K X (pc' := 102) (pc'' := 44) i.toInt p3.toInt d3_41 (by decide) rfl rfl rfl ?_ ?_
            · intro b41
              omega
            · intro b41
              refine g_iload K X (pc' := 46) d3_44 rfl rfl ?_
              refine g_iloadN K X (pc' := 47) d3_46 rfl rfl ?_
              refine g_iconst K X (pc' := 48) (v := (4 : Int32)) d3_47 rfl rfl ?_
              refine g_iadd K X (pc' := 49) d3_48 rfl ?_
              refine g_icmp_eq K X (pc' := 96) (pc'' := 52) i.toInt (p2 + (4 : Int32)).toInt d3_49 (by decide) rfl rfl rfl ?_ ?_
              · intro b49
                refine g_iinc K X (pc' := 99) (z := (i + (1 : Int32))) (L' := #[.val (.ref a1), .val (.int p2), .val (.int p3), .val (.long v), .second, .val (.int (i + (1 : Int32))), .val (.int z)]) d3_96 rfl rfl rfl rfl ?_
                refine g_goto K X (pc' := 38) d3_99 (by decide) ?_
                exact ih (k + 1) (i + (1 : Int32)) z v (by omega) (by omega) (by have := own_add i (t + k) hi (by omega) (1 : Int32) 1 rfl (by decide); omega) (by show _ = acc (fun k => f (t + k)) (k + 1); unfold acc; rw [if_pos (by omega), ← hv]) (fun j hj h4 h7 => hall j (by omega) h4 h7)
              · intro b49
                refine g_iload K X (pc' := 54) d3_52 rfl rfl ?_
                refine g_iloadN K X (pc' := 55) d3_54 rfl rfl ?_
                refine g_bipush K X (pc' := 57) (v := (7 : Int32)) d3_55 rfl rfl ?_
                refine g_iadd K X (pc' := 58) d3_57 rfl ?_
                refine g_icmp_eq K X (pc' := 96) (pc'' := 61) i.toInt (p2 + (7 : Int32)).toInt d3_58 (by decide) rfl rfl rfl ?_ ?_
                · intro b58
                  refine g_iinc K X (pc' := 99) (z := (i + (1 : Int32))) (L' := #[.val (.ref a1), .val (.int p2), .val (.int p3), .val (.long v), .second, .val (.int (i + (1 : Int32))), .val (.int z)]) d3_96 rfl rfl rfl rfl ?_
                  refine g_goto K X (pc' := 38) d3_99 (by decide) ?_
                  exact ih (k + 1) (i + (1 : Int32)) z v (by omega) (by omega) (by have := own_add i (t + k) hi (by omega) (1 : Int32) 1 rfl (by decide); omega) (by show _ = acc (fun k => f (t + k)) (k + 1); unfold acc; rw [if_pos (by omega), ← hv]) (fun j hj h4 h7 => hall j (by omega) h4 h7)
                · intro b58
                  refine g_aloadN K X (pc' := 62) d3_61 rfl rfl rfl ?_
                  refine g_iload K X (pc' := 64) d3_62 rfl rfl ?_
                  refine g_baload K X (pc' := 65) (i := (t + k)) d3_64 rfl A hi (by omega) ?_
                  refine g_bipush K X (pc' := 67) (v := (48 : Int32)) d3_65 rfl rfl ?_
                  refine g_isub K X (pc' := 68) d3_67 rfl ?_
                  refine g_istore K X (pc' := 70) (L' := #[.val (.ref a1), .val (.int p2), .val (.int p3), .val (.long v), .second, .val (.int i), .val (.int ((f (t + k)) - (48 : Int32)))]) d3_68 rfl rfl ?_
                  refine g_iload K X (pc' := 72) d3_70 rfl rfl ?_
                  refine g_if_lt K X (pc' := 82) (pc'' := 75) ((f (t + k)) - (48 : Int32)).toInt d3_72 (by decide) rfl rfl ?_ ?_
                  · intro b72
                    refine g_ldc2J K X (pc' := 85) (v := ((-1) : Int64)) d3_82 rfl (hw _ (List.mem_of_getElem? (i := 22) rfl)) ?_
                    exact g_retL K X d3_85 (by decide) (by decide) ⟨_, rfl, ⟨fun q => by have this : okD (f (t + k)) := q.2.2.2 k (by omega) (by omega) (by omega); unfold okD at this; have h48 := own_s48 _ (hr (t + k) (by omega)).1 (hr (t + k) (by omega)).2; omega, fun _ => rfl⟩, rfl⟩
                  · intro b72
                    refine g_iload K X (pc' := 77) d3_75 rfl rfl ?_
                    refine g_bipush K X (pc' := 79) (v := (9 : Int32)) d3_77 rfl rfl ?_
                    refine g_icmp_le K X (pc' := 86) (pc'' := 82) ((f (t + k)) - (48 : Int32)).toInt 9 d3_79 (by decide) rfl rfl rfl ?_ ?_
                    · intro b79
                      refine g_lloadN K X (pc' := 87) d3_86 rfl rfl ?_
                      refine g_ldc2J K X (pc' := 90) (v := (10 : Int64)) d3_87 rfl (hw _ (List.mem_of_getElem? (i := 20) rfl)) ?_
                      refine g_lmul K X (pc' := 91) d3_90 rfl ?_
                      refine g_iload K X (pc' := 93) d3_91 rfl rfl ?_
                      refine g_i2l K X (pc' := 94) d3_93 rfl ?_
                      refine g_ladd K X (pc' := 95) d3_94 rfl ?_
                      refine g_lstoreN K X (pc' := 96) (L' := #[.val (.ref a1), .val (.int p2), .val (.int p3), .val (.long ((v * (10 : Int64)) + ((((f (t + k)) - (48 : Int32))).toInt64))), .second, .val (.int i), .val (.int ((f (t + k)) - (48 : Int32)))]) d3_95 rfl rfl ?_
                      refine g_iinc K X (pc' := 99) (z := (i + (1 : Int32))) (L' := #[.val (.ref a1), .val (.int p2), .val (.int p3), .val (.long ((v * (10 : Int64)) + ((((f (t + k)) - (48 : Int32))).toInt64))), .second, .val (.int (i + (1 : Int32))), .val (.int ((f (t + k)) - (48 : Int32)))]) d3_96 rfl rfl rfl rfl ?_
                      refine g_goto K X (pc' := 38) d3_99 (by decide) ?_
                      have h48 := own_s48 (f (t + k)) (hr (t + k) (by omega)).1 (hr (t + k) (by omega)).2
                      have hok : okD (f (t + k)) := ⟨by omega, by omega⟩
                      exact ih (k + 1) (i + (1 : Int32)) ((f (t + k)) - (48 : Int32)) ((v * (10 : Int64)) + ((((f (t + k)) - (48 : Int32))).toInt64)) (by omega) (by omega) (by have := own_add i (t + k) hi (by omega) (1 : Int32) 1 rfl (by decide); omega) (by show _ = acc (fun k => f (t + k)) (k + 1); unfold acc; rw [if_neg (by omega), ← hv]) (own_all hall hok)
                    · intro b79
                      refine g_ldc2J K X (pc' := 85) (v := ((-1) : Int64)) d3_82 rfl (hw _ (List.mem_of_getElem? (i := 22) rfl)) ?_
                      exact g_retL K X d3_85 (by decide) (by decide) ⟨_, rfl, ⟨fun q => by have this : okD (f (t + k)) := q.2.2.2 k (by omega) (by omega) (by omega); unfold okD at this; have h48 := own_s48 _ (hr (t + k) (by omega)).1 (hr (t + k) (by omega)).2; omega, fun _ => rfl⟩, rfl⟩
        refine g_iload K X (pc' := 40) d3_38 rfl rfl ?_
        refine g_iloadN K X (pc' := 41) d3_40 rfl rfl ?_
        refine g_icmp_ge K X (pc' := 102) (pc'' := 44) p2.toInt p3.toInt d3_41 (by decide) rfl rfl rfl ?_ ?_
        · intro b41
          omega
        · intro b41
          refine g_iload K X (pc' := 46) d3_44 rfl rfl ?_
          refine g_iloadN K X (pc' := 47) d3_46 rfl rfl ?_
          refine g_iconst K X (pc' := 48) (v := (4 : Int32)) d3_47 rfl rfl ?_
          refine g_iadd K X (pc' := 49) d3_48 rfl ?_
          refine g_icmp_eq K X (pc' := 96) (pc'' := 52) p2.toInt (p2 + (4 : Int32)).toInt d3_49 (by decide) rfl rfl rfl ?_ ?_
          · intro b49
            have := own_add p2 t ht (by omega) (4 : Int32) 4 rfl (by decide); omega
          · intro b49
            refine g_iload K X (pc' := 54) d3_52 rfl rfl ?_
            refine g_iloadN K X (pc' := 55) d3_54 rfl rfl ?_
            refine g_bipush K X (pc' := 57) (v := (7 : Int32)) d3_55 rfl rfl ?_
            refine g_iadd K X (pc' := 58) d3_57 rfl ?_
            refine g_icmp_eq K X (pc' := 96) (pc'' := 61) p2.toInt (p2 + (7 : Int32)).toInt d3_58 (by decide) rfl rfl rfl ?_ ?_
            · intro b58
              have := own_add p2 t ht (by omega) (7 : Int32) 7 rfl (by decide); omega
            · intro b58
              refine g_aloadN K X (pc' := 62) d3_61 rfl rfl rfl ?_
              refine g_iload K X (pc' := 64) d3_62 rfl rfl ?_
              refine g_baload K X (pc' := 65) (i := (t + 0)) d3_64 rfl A ht (by omega) ?_
              refine g_bipush K X (pc' := 67) (v := (48 : Int32)) d3_65 rfl rfl ?_
              refine g_isub K X (pc' := 68) d3_67 rfl ?_
              refine g_istore K X (pc' := 70) (L' := #[.val (.ref a1), .val (.int p2), .val (.int p3), .val (.long (0 : Int64)), .second, .val (.int p2), .val (.int ((f (t + 0)) - (48 : Int32)))]) d3_68 rfl rfl ?_
              refine g_iload K X (pc' := 72) d3_70 rfl rfl ?_
              refine g_if_lt K X (pc' := 82) (pc'' := 75) ((f (t + 0)) - (48 : Int32)).toInt d3_72 (by decide) rfl rfl ?_ ?_
              · intro b72
                refine g_ldc2J K X (pc' := 85) (v := ((-1) : Int64)) d3_82 rfl (hw _ (List.mem_of_getElem? (i := 22) rfl)) ?_
                exact g_retL K X d3_85 (by decide) (by decide) ⟨_, rfl, ⟨fun q => by have this : okD (f (t + 0)) := q.2.2.2 0 (by omega) (by omega) (by omega); unfold okD at this; have h48 := own_s48 _ (hr (t + 0) (by omega)).1 (hr (t + 0) (by omega)).2; omega, fun _ => rfl⟩, rfl⟩
              · intro b72
                refine g_iload K X (pc' := 77) d3_75 rfl rfl ?_
                refine g_bipush K X (pc' := 79) (v := (9 : Int32)) d3_77 rfl rfl ?_
                refine g_icmp_le K X (pc' := 86) (pc'' := 82) ((f (t + 0)) - (48 : Int32)).toInt 9 d3_79 (by decide) rfl rfl rfl ?_ ?_
                · intro b79
                  refine g_lloadN K X (pc' := 87) d3_86 rfl rfl ?_
                  refine g_ldc2J K X (pc' := 90) (v := (10 : Int64)) d3_87 rfl (hw _ (List.mem_of_getElem? (i := 20) rfl)) ?_
                  refine g_lmul K X (pc' := 91) d3_90 rfl ?_
                  refine g_iload K X (pc' := 93) d3_91 rfl rfl ?_
                  refine g_i2l K X (pc' := 94) d3_93 rfl ?_
                  refine g_ladd K X (pc' := 95) d3_94 rfl ?_
                  refine g_lstoreN K X (pc' := 96) (L' := #[.val (.ref a1), .val (.int p2), .val (.int p3), .val (.long (((0 : Int64) * (10 : Int64)) + ((((f (t + 0)) - (48 : Int32))).toInt64))), .second, .val (.int p2), .val (.int ((f (t + 0)) - (48 : Int32)))]) d3_95 rfl rfl ?_
                  refine g_iinc K X (pc' := 99) (z := (p2 + (1 : Int32))) (L' := #[.val (.ref a1), .val (.int p2), .val (.int p3), .val (.long (((0 : Int64) * (10 : Int64)) + ((((f (t + 0)) - (48 : Int32))).toInt64))), .second, .val (.int (p2 + (1 : Int32))), .val (.int ((f (t + 0)) - (48 : Int32)))]) d3_96 rfl rfl rfl rfl ?_
                  refine g_goto K X (pc' := 38) d3_99 (by decide) ?_
                  have h48 := own_s48 (f (t + 0)) (hr (t + 0) (by omega)).1 (hr (t + 0) (by omega)).2
                  have hok : okD (f (t + 0)) := ⟨by omega, by omega⟩
                  exact J38 9 1 (p2 + (1 : Int32)) ((f (t + 0)) - (48 : Int32)) (((0 : Int64) * (10 : Int64)) + ((((f (t + 0)) - (48 : Int32))).toInt64)) rfl (by decide) (by have := own_add p2 t ht (by omega) (1 : Int32) 1 rfl (by decide); omega) (by show _ = acc (fun k => f (t + k)) (0 + 1); unfold acc; rw [if_neg (by decide)]; rfl) (own_all own_all0 hok)
                · intro b79
                  refine g_ldc2J K X (pc' := 85) (v := ((-1) : Int64)) d3_82 rfl (hw _ (List.mem_of_getElem? (i := 22) rfl)) ?_
                  exact g_retL K X d3_85 (by decide) (by decide) ⟨_, rfl, ⟨fun q => by have this : okD (f (t + 0)) := q.2.2.2 0 (by omega) (by omega) (by omega); unfold okD at this; have h48 := own_s48 _ (hr (t + 0) (by omega)).1 (hr (t + 0) (by omega)).2; omega, fun _ => rfl⟩, rfl⟩
      · intro b26
        refine g_ldc2J K X (pc' := 32) (v := ((-1) : Int64)) d3_29 rfl (hw _ (List.mem_of_getElem? (i := 22) rfl)) ?_
        exact g_retL K X d3_32 (by decide) (by decide) ⟨_, rfl, ⟨fun q => absurd q.2.2.1 b26, fun _ => rfl⟩, rfl⟩

theorem own_from (c : Int32) : ∃ t : Nat, (c &&& (3 : Int32)).toInt = (t : Int) ∧ t ≤ 3 := by
  have e := c_mask c 3 2 (by decide) (by decide)
  exact ⟨(c &&& (3 : Int32)).toInt.toNat, by omega, by omega⟩
theorem own_14 (q : Int32) (t : Nat) (ht : q.toInt = (t : Int)) (h3 : t ≤ 3) : ((14 : Int32) - q).toInt = 14 - t := by
  have e := c_isub 14 q
  rw [show (14 : Int32).toInt = 14 from rfl] at e
  have r := rng32 (14 - q)
  omega
theorem own_len (d q : Int32) (t : Nat) (ht : q.toInt = (t : Int)) (h3 : t ≤ 3) : 0 ≤ (jushr d (2 : Int32) % ((14 : Int32) - q)).toInt ∧ (jushr d (2 : Int32) % ((14 : Int32) - q)).toInt ≤ 13 - t := by
  have e := own_14 q t ht h3
  have e2 : (jushr d (2 : Int32)).toInt = (d.toInt % 4294967296) / 4 := c_iushr d 2 2 (by decide) (by decide)
  have := (c_iremV (jushr d (2 : Int32)) ((14 : Int32) - q)).1 (by omega) (by omega)
  omega
theorem own_acc (g : Nat → Int32) : acc g 10 = (g 0 - (48 : Int32)).toInt64 * (10000000 : Int64) + (g 1 - (48 : Int32)).toInt64 * (1000000 : Int64) + (g 2 - (48 : Int32)).toInt64 * (100000 : Int64) + (g 3 - (48 : Int32)).toInt64 * (10000 : Int64) + (g 5 - (48 : Int32)).toInt64 * (1000 : Int64) + (g 6 - (48 : Int32)).toInt64 * (100 : Int64) + (g 8 - (48 : Int32)).toInt64 * (10 : Int64) + (g 9 - (48 : Int32)).toInt64 := by
  have e : acc g 10 = (((((((0 * 10 + (g 0 - (48 : Int32)).toInt64) * 10 + (g 1 - (48 : Int32)).toInt64) * 10 + (g 2 - (48 : Int32)).toInt64) * 10 + (g 3 - (48 : Int32)).toInt64) * 10 + (g 5 - (48 : Int32)).toInt64) * 10 + (g 6 - (48 : Int32)).toInt64) * 10 + (g 8 - (48 : Int32)).toInt64) * 10 + (g 9 - (48 : Int32)).toInt64 := by simp [acc]
  rw [e]
  generalize (g 0 - (48 : Int32)).toInt64 = d0
  generalize (g 1 - (48 : Int32)).toInt64 = d1
  generalize (g 2 - (48 : Int32)).toInt64 = d2
  generalize (g 3 - (48 : Int32)).toInt64 = d3
  generalize (g 5 - (48 : Int32)).toInt64 = d5
  generalize (g 6 - (48 : Int32)).toInt64 = d6
  generalize (g 8 - (48 : Int32)).toInt64 = d8
  generalize (g 9 - (48 : Int32)).toInt64 = d9
  grind
theorem own_dig {x r : Int32} (D : DG x r) (h0 : -128 ≤ x.toInt) (h1 : x.toInt < 128) : (r.toInt < 0 → ¬ okD x) ∧ (0 ≤ r.toInt → okD x ∧ r = x - (48 : Int32)) := by
  by_cases q : okD x
  · have e := D.1 q
    have e2 := own_s48 x h0 h1
    rw [e]
    exact ⟨fun z => by unfold okD at q; omega, fun _ => ⟨q, rfl⟩⟩
  · rw [D.2 q]
    exact ⟨fun _ => q, fun z => absurd z (by decide)⟩
theorem own_updr {f : Nat → Int32} {i j : Nat} {x : Int32} (hf : -128 ≤ (f i).toInt ∧ (f i).toInt < 128) : -128 ≤ (upd f j (jb x) i).toInt ∧ (upd f j (jb x) i).toInt < 128 := by
  unfold upd
  split
  · exact (jb_rng x).2
  · exact hf
theorem own_upd0 : -128 ≤ (0 : Int32).toInt ∧ (0 : Int32).toInt < 128 := by decide
theorem ef_0 (m : MethodId) (x0 : Int64) (x1 : Int64) (x2 : Int32) (x3 : Int32) (x4 : Int32) : entryFrame m #[.long x0, .long x1, .int x2, .int x3, .int x4] maxLocals = mkF m 0 #[.val (.long x0), .second, .val (.long x1), .second, .val (.int x2), .val (.int x3), .val (.int x4), .unset, .unset, .unset, .unset, .unset, .unset, .unset, .unset, .unset, .unset, .unset, .unset, .unset, .unset, .unset] [] := by first | (simp [entryFrame, mkF, argsToLocals, Value.category, maxLocals]; done) | rfl
set_option maxRecDepth 65536 in
set_option maxHeartbeats 40000000 in
theorem rm0 (l : Launch) (Z : State) (a0 : Array Value) (hw : ∀ d ∈ tables_1, d.before a0 Z = true) (p1 p2 : Int64) (p3 p4 p5 : Int32) (h : Heap) (n0 : Nat) (Z0 : n0 ≤ h.size)  :
    Mt l Z x code maxLocals ret room_1 #[.long p1, .long p2, .int p3, .int p4, .int p5] h n0 (fun v _ => v = some (.int 1)) := by
  refine Mt.of (own := "com/example/benchwright/benchwright/data/DateTextKeyPinLaw") (nm := "law") (Ls := #[.val (.long p1), .second, .val (.long p2), .second, .val (.int p3), .val (.int p4), .val (.int p5), .unset, .unset, .unset, .unset, .unset, .unset, .unset, .unset, .unset, .unset, .unset, .unset, .unset, .unset, .unset]) rfl rfl (plainFor_of_name pn_0) Z0 (fun m => ef_0 m p1 p2 p3 p4 p5) ?_
  intro p e s m below meth c T K X
  refine g_bipush K X (pc' := 2) (v := (13 : Int32)) at_0 rfl rfl ?_
  refine g_newarray_byte K X (pc' := 4) (n := 13) 13 at_2 rfl (hw _ (List.mem_of_getElem? (i := 0) rfl)) rfl (by decide) (by decide) (by decide) (by decide) (fun T1 h2 a3 X4 E5 ga6 na7 A8 => ?_)
  refine g_astore K X4 (pc' := 6) (L' := #[.val (.long p1), .second, .val (.long p2), .second, .val (.int p3), .val (.int p4), .val (.int p5), .val (.ref a3), .unset, .unset, .unset, .unset, .unset, .unset, .unset, .unset, .unset, .unset, .unset, .unset, .unset, .unset]) at_4 rfl rfl rfl ?_
  refine g_aload K X4 (pc' := 8) at_6 rfl rfl rfl ?_
  refine g_iconst K X4 (pc' := 9) (v := (0 : Int32)) at_8 rfl rfl ?_
  refine g_iload K X4 (pc' := 11) at_9 rfl rfl ?_
  refine g_i2b K X4 (pc' := 12) at_11 rfl ?_
  refine g_bastore K X4 (pc' := 13) (i := 0) at_12 rfl A8 na7 rfl (by decide) (fun T9 h10 X11 Kp12 A13 => ?_)
  obtain ⟨f14, hf15⟩ : ∃ q, q = upd (fun _ => (0 : Int32)) 0 (jb (jb p5)) := ⟨_, rfl⟩
  rw [← hf15] at A13
  refine g_aload K X11 (pc' := 15) at_13 rfl rfl rfl ?_
  refine g_iconst K X11 (pc' := 16) (v := (1 : Int32)) at_15 rfl rfl ?_
  refine g_iload K X11 (pc' := 18) at_16 rfl rfl ?_
  refine g_bipush K X11 (pc' := 20) (v := (8 : Int32)) at_18 rfl rfl ?_
  refine g_iushr K X11 (pc' := 21) at_20 rfl ?_
  refine g_i2b K X11 (pc' := 22) at_21 rfl ?_
  refine g_bastore K X11 (pc' := 23) (i := 1) at_22 rfl A13 na7 rfl (by decide) (fun T16 h17 X18 Kp19 A20 => ?_)
  obtain ⟨f21, hf22⟩ : ∃ q, q = upd f14 1 (jb (jb (jushr p5 (8 : Int32)))) := ⟨_, rfl⟩
  rw [← hf22] at A20
  refine g_aload K X18 (pc' := 25) at_23 rfl rfl rfl ?_
  refine g_iconst K X18 (pc' := 26) (v := (2 : Int32)) at_25 rfl rfl ?_
  refine g_iload K X18 (pc' := 28) at_26 rfl rfl ?_
  refine g_bipush K X18 (pc' := 30) (v := (16 : Int32)) at_28 rfl rfl ?_
  refine g_iushr K X18 (pc' := 31) at_30 rfl ?_
  refine g_i2b K X18 (pc' := 32) at_31 rfl ?_
  refine g_bastore K X18 (pc' := 33) (i := 2) at_32 rfl A20 na7 rfl (by decide) (fun T23 h24 X25 Kp26 A27 => ?_)
  obtain ⟨f28, hf29⟩ : ∃ q, q = upd f21 2 (jb (jb (jushr p5 (16 : Int32)))) := ⟨_, rfl⟩
  rw [← hf29] at A27
  refine g_aload K X25 (pc' := 35) at_33 rfl rfl rfl ?_
  refine g_bipush K X25 (pc' := 37) (v := (10 : Int32)) at_35 rfl rfl ?_
  refine g_iload K X25 (pc' := 39) at_37 rfl rfl ?_
  refine g_bipush K X25 (pc' := 41) (v := (24 : Int32)) at_39 rfl rfl ?_
  refine g_iushr K X25 (pc' := 42) at_41 rfl ?_
  refine g_i2b K X25 (pc' := 43) at_42 rfl ?_
  refine g_bastore K X25 (pc' := 44) (i := 10) at_43 rfl A27 na7 rfl (by decide) (fun T30 h31 X32 Kp33 A34 => ?_)
  obtain ⟨f35, hf36⟩ : ∃ q, q = upd f28 10 (jb (jb (jushr p5 (24 : Int32)))) := ⟨_, rfl⟩
  rw [← hf36] at A34
  refine g_aload K X32 (pc' := 46) at_44 rfl rfl rfl ?_
  refine g_bipush K X32 (pc' := 48) (v := (11 : Int32)) at_46 rfl rfl ?_
  refine g_iload K X32 (pc' := 50) at_48 rfl rfl ?_
  refine g_iconst K X32 (pc' := 51) (v := (4 : Int32)) at_50 rfl rfl ?_
  refine g_iushr K X32 (pc' := 52) at_51 rfl ?_
  refine g_i2b K X32 (pc' := 53) at_52 rfl ?_
  refine g_bastore K X32 (pc' := 54) (i := 11) at_53 rfl A34 na7 rfl (by decide) (fun T37 h38 X39 Kp40 A41 => ?_)
  obtain ⟨f42, hf43⟩ : ∃ q, q = upd f35 11 (jb (jb (jushr p5 (4 : Int32)))) := ⟨_, rfl⟩
  rw [← hf43] at A41
  refine g_aload K X39 (pc' := 56) at_54 rfl rfl rfl ?_
  refine g_bipush K X39 (pc' := 58) (v := (12 : Int32)) at_56 rfl rfl ?_
  refine g_iload K X39 (pc' := 60) at_58 rfl rfl ?_
  refine g_bipush K X39 (pc' := 62) (v := (12 : Int32)) at_60 rfl rfl ?_
  refine g_iushr K X39 (pc' := 63) at_62 rfl ?_
  refine g_i2b K X39 (pc' := 64) at_63 rfl ?_
  refine g_bastore K X39 (pc' := 65) (i := 12) at_64 rfl A41 na7 rfl (by decide) (fun T44 h45 X46 Kp47 A48 => ?_)
  obtain ⟨f49, hf50⟩ : ∃ q, q = upd f42 12 (jb (jb (jushr p5 (12 : Int32)))) := ⟨_, rfl⟩
  rw [← hf50] at A48
  refine g_bipush K X46 (pc' := 67) (v := (10 : Int32)) at_65 rfl rfl ?_
  refine g_newarray_byte K X46 (pc' := 69) (n := 10) 10 at_67 rfl (hw _ (List.mem_of_getElem? (i := 0) rfl)) rfl (by decide) (by decide) (by decide) (by decide) (fun T51 h52 a53 X54 E55 ga56 na57 A58 => ?_)
  have ne_a3_a53 : a3 ≠ a53 := Nat.ne_of_lt (by rw [ga56]; exact A48.lt)
  have f59 := A48.ext E55
  refine g_astore K X54 (pc' := 71) (L' := #[.val (.long p1), .second, .val (.long p2), .second, .val (.int p3), .val (.int p4), .val (.int p5), .val (.ref a3), .val (.ref a53), .unset, .unset, .unset, .unset, .unset, .unset, .unset, .unset, .unset, .unset, .unset, .unset, .unset]) at_69 rfl rfl rfl ?_
  refine g_aload K X54 (pc' := 73) at_71 rfl rfl rfl ?_
  refine g_iconst K X54 (pc' := 74) (v := (0 : Int32)) at_73 rfl rfl ?_
  refine g_lloadN K X54 (pc' := 75) at_74 rfl rfl ?_
  refine g_iconst K X54 (pc' := 76) (v := (0 : Int32)) at_75 rfl rfl ?_
  refine g_callSI K X54 (pc' := 79) (argsL := [.long p1, .int (0 : Int32)]) (rest := [.int (0 : Int32), .ref a53]) 2 at_76 rfl (hw _ (List.mem_of_getElem? (i := 1) rfl)) (hw _ (List.mem_of_getElem? (i := 2) rfl)) (hw _ (List.mem_of_getElem? (i := 3) rfl)) (hw _ (List.mem_of_getElem? (i := 4) rfl)) (by decide) (rm_draw l Z a0 hw p1 (0 : Int32) h52 n0 X54.z) (by decide) (by decide) (by decide) (by decide) (lenOf pd_0 rfl) rfl rfl (Nat.le_of_ble_eq_true rfl) (fun d0 T60 X61 hd0 => ?_)
  refine g_bastore K X61 (pc' := 80) (i := 0) at_79 rfl A58 na57 rfl (by decide) (fun T62 h63 X64 Kp65 A66 => ?_)
  obtain ⟨f67, hf68⟩ : ∃ q, q = upd (fun _ => (0 : Int32)) 0 (jb d0) := ⟨_, rfl⟩
  rw [← hf68] at A66
  have f69 := AN.keep f59 Kp65 (ninS ne_a3_a53 nin0)
  refine g_aload K X64 (pc' := 82) at_80 rfl rfl rfl ?_
  refine g_iconst K X64 (pc' := 83) (v := (1 : Int32)) at_82 rfl rfl ?_
  refine g_lloadN K X64 (pc' := 84) at_83 rfl rfl ?_
  refine g_bipush K X64 (pc' := 86) (v := (10 : Int32)) at_84 rfl rfl ?_
  refine g_lushr K X64 (pc' := 87) at_86 rfl ?_
  refine g_iconst K X64 (pc' := 88) (v := (0 : Int32)) at_87 rfl rfl ?_
  refine g_callSI K X64 (pc' := 91) (argsL := [.long (jushrL p1 (10 : Int32)), .int (0 : Int32)]) (rest := [.int (1 : Int32), .ref a53]) 2 at_88 rfl (hw _ (List.mem_of_getElem? (i := 1) rfl)) (hw _ (List.mem_of_getElem? (i := 2) rfl)) (hw _ (List.mem_of_getElem? (i := 3) rfl)) (hw _ (List.mem_of_getElem? (i := 4) rfl)) (by decide) (rm_draw l Z a0 hw (jushrL p1 (10 : Int32)) (0 : Int32) h63 n0 X64.z) (by decide) (by decide) (by decide) (by decide) (lenOf pd_0 rfl) rfl rfl (Nat.le_of_ble_eq_true rfl) (fun d1 T70 X71 hd1 => ?_)
  refine g_bastore K X71 (pc' := 92) (i := 1) at_91 rfl A66 na57 rfl (by decide) (fun T72 h73 X74 Kp75 A76 => ?_)
  obtain ⟨f77, hf78⟩ : ∃ q, q = upd f67 1 (jb d1) := ⟨_, rfl⟩
  rw [← hf78] at A76
  have f79 := AN.keep f69 Kp75 (ninS ne_a3_a53 nin0)
  refine g_aload K X74 (pc' := 94) at_92 rfl rfl rfl ?_
  refine g_iconst K X74 (pc' := 95) (v := (2 : Int32)) at_94 rfl rfl ?_
  refine g_lloadN K X74 (pc' := 96) at_95 rfl rfl ?_
  refine g_bipush K X74 (pc' := 98) (v := (20 : Int32)) at_96 rfl rfl ?_
  refine g_lushr K X74 (pc' := 99) at_98 rfl ?_
  refine g_iconst K X74 (pc' := 100) (v := (0 : Int32)) at_99 rfl rfl ?_
  refine g_callSI K X74 (pc' := 103) (argsL := [.long (jushrL p1 (20 : Int32)), .int (0 : Int32)]) (rest := [.int (2 : Int32), .ref a53]) 2 at_100 rfl (hw _ (List.mem_of_getElem? (i := 1) rfl)) (hw _ (List.mem_of_getElem? (i := 2) rfl)) (hw _ (List.mem_of_getElem? (i := 3) rfl)) (hw _ (List.mem_of_getElem? (i := 4) rfl)) (by decide) (rm_draw l Z a0 hw (jushrL p1 (20 : Int32)) (0 : Int32) h73 n0 X74.z) (by decide) (by decide) (by decide) (by decide) (lenOf pd_0 rfl) rfl rfl (Nat.le_of_ble_eq_true rfl) (fun d2 T80 X81 hd2 => ?_)
  refine g_bastore K X81 (pc' := 104) (i := 2) at_103 rfl A76 na57 rfl (by decide) (fun T82 h83 X84 Kp85 A86 => ?_)
  obtain ⟨f87, hf88⟩ : ∃ q, q = upd f77 2 (jb d2) := ⟨_, rfl⟩
  rw [← hf88] at A86
  have f89 := AN.keep f79 Kp85 (ninS ne_a3_a53 nin0)
  refine g_aload K X84 (pc' := 106) at_104 rfl rfl rfl ?_
  refine g_iconst K X84 (pc' := 107) (v := (3 : Int32)) at_106 rfl rfl ?_
  refine g_lloadN K X84 (pc' := 108) at_107 rfl rfl ?_
  refine g_bipush K X84 (pc' := 110) (v := (30 : Int32)) at_108 rfl rfl ?_
  refine g_lushr K X84 (pc' := 111) at_110 rfl ?_
  refine g_iconst K X84 (pc' := 112) (v := (0 : Int32)) at_111 rfl rfl ?_
  refine g_callSI K X84 (pc' := 115) (argsL := [.long (jushrL p1 (30 : Int32)), .int (0 : Int32)]) (rest := [.int (3 : Int32), .ref a53]) 2 at_112 rfl (hw _ (List.mem_of_getElem? (i := 1) rfl)) (hw _ (List.mem_of_getElem? (i := 2) rfl)) (hw _ (List.mem_of_getElem? (i := 3) rfl)) (hw _ (List.mem_of_getElem? (i := 4) rfl)) (by decide) (rm_draw l Z a0 hw (jushrL p1 (30 : Int32)) (0 : Int32) h83 n0 X84.z) (by decide) (by decide) (by decide) (by decide) (lenOf pd_0 rfl) rfl rfl (Nat.le_of_ble_eq_true rfl) (fun d3 T90 X91 hd3 => ?_)
  refine g_bastore K X91 (pc' := 116) (i := 3) at_115 rfl A86 na57 rfl (by decide) (fun T92 h93 X94 Kp95 A96 => ?_)
  obtain ⟨f97, hf98⟩ : ∃ q, q = upd f87 3 (jb d3) := ⟨_, rfl⟩
  rw [← hf98] at A96
  have f99 := AN.keep f89 Kp95 (ninS ne_a3_a53 nin0)
  refine g_aload K X94 (pc' := 118) at_116 rfl rfl rfl ?_
  refine g_iconst K X94 (pc' := 119) (v := (4 : Int32)) at_118 rfl rfl ?_
  refine g_lloadN K X94 (pc' := 120) at_119 rfl rfl ?_
  refine g_bipush K X94 (pc' := 122) (v := (40 : Int32)) at_120 rfl rfl ?_
  refine g_lushr K X94 (pc' := 123) at_122 rfl ?_
  refine g_iconst K X94 (pc' := 124) (v := (1 : Int32)) at_123 rfl rfl ?_
  refine g_callSI K X94 (pc' := 127) (argsL := [.long (jushrL p1 (40 : Int32)), .int (1 : Int32)]) (rest := [.int (4 : Int32), .ref a53]) 2 at_124 rfl (hw _ (List.mem_of_getElem? (i := 1) rfl)) (hw _ (List.mem_of_getElem? (i := 2) rfl)) (hw _ (List.mem_of_getElem? (i := 3) rfl)) (hw _ (List.mem_of_getElem? (i := 4) rfl)) (by decide) (rm_draw l Z a0 hw (jushrL p1 (40 : Int32)) (1 : Int32) h93 n0 X94.z) (by decide) (by decide) (by decide) (by decide) (lenOf pd_0 rfl) rfl rfl (Nat.le_of_ble_eq_true rfl) (fun d4 T100 X101 hd4 => ?_)
  refine g_bastore K X101 (pc' := 128) (i := 4) at_127 rfl A96 na57 rfl (by decide) (fun T102 h103 X104 Kp105 A106 => ?_)
  obtain ⟨f107, hf108⟩ : ∃ q, q = upd f97 4 (jb d4) := ⟨_, rfl⟩
  rw [← hf108] at A106
  have f109 := AN.keep f99 Kp105 (ninS ne_a3_a53 nin0)
  refine g_aload K X104 (pc' := 130) at_128 rfl rfl rfl ?_
  refine g_iconst K X104 (pc' := 131) (v := (5 : Int32)) at_130 rfl rfl ?_
  refine g_lloadN K X104 (pc' := 132) at_131 rfl rfl ?_
  refine g_bipush K X104 (pc' := 134) (v := (50 : Int32)) at_132 rfl rfl ?_
  refine g_lushr K X104 (pc' := 135) at_134 rfl ?_
  refine g_iconst K X104 (pc' := 136) (v := (0 : Int32)) at_135 rfl rfl ?_
  refine g_callSI K X104 (pc' := 139) (argsL := [.long (jushrL p1 (50 : Int32)), .int (0 : Int32)]) (rest := [.int (5 : Int32), .ref a53]) 2 at_136 rfl (hw _ (List.mem_of_getElem? (i := 1) rfl)) (hw _ (List.mem_of_getElem? (i := 2) rfl)) (hw _ (List.mem_of_getElem? (i := 3) rfl)) (hw _ (List.mem_of_getElem? (i := 4) rfl)) (by decide) (rm_draw l Z a0 hw (jushrL p1 (50 : Int32)) (0 : Int32) h103 n0 X104.z) (by decide) (by decide) (by decide) (by decide) (lenOf pd_0 rfl) rfl rfl (Nat.le_of_ble_eq_true rfl) (fun d5 T110 X111 hd5 => ?_)
  refine g_bastore K X111 (pc' := 140) (i := 5) at_139 rfl A106 na57 rfl (by decide) (fun T112 h113 X114 Kp115 A116 => ?_)
  obtain ⟨f117, hf118⟩ : ∃ q, q = upd f107 5 (jb d5) := ⟨_, rfl⟩
  rw [← hf118] at A116
  have f119 := AN.keep f109 Kp115 (ninS ne_a3_a53 nin0)
  refine g_aload K X114 (pc' := 142) at_140 rfl rfl rfl ?_
  refine g_bipush K X114 (pc' := 144) (v := (6 : Int32)) at_142 rfl rfl ?_
  refine g_lloadN K X114 (pc' := 145) at_144 rfl rfl ?_
  refine g_iconst K X114 (pc' := 146) (v := (0 : Int32)) at_145 rfl rfl ?_
  refine g_callSI K X114 (pc' := 149) (argsL := [.long p2, .int (0 : Int32)]) (rest := [.int (6 : Int32), .ref a53]) 2 at_146 rfl (hw _ (List.mem_of_getElem? (i := 1) rfl)) (hw _ (List.mem_of_getElem? (i := 2) rfl)) (hw _ (List.mem_of_getElem? (i := 3) rfl)) (hw _ (List.mem_of_getElem? (i := 4) rfl)) (by decide) (rm_draw l Z a0 hw p2 (0 : Int32) h113 n0 X114.z) (by decide) (by decide) (by decide) (by decide) (lenOf pd_0 rfl) rfl rfl (Nat.le_of_ble_eq_true rfl) (fun d6 T120 X121 hd6 => ?_)
  refine g_bastore K X121 (pc' := 150) (i := 6) at_149 rfl A116 na57 rfl (by decide) (fun T122 h123 X124 Kp125 A126 => ?_)
  obtain ⟨f127, hf128⟩ : ∃ q, q = upd f117 6 (jb d6) := ⟨_, rfl⟩
  rw [← hf128] at A126
  have f129 := AN.keep f119 Kp125 (ninS ne_a3_a53 nin0)
  refine g_aload K X124 (pc' := 152) at_150 rfl rfl rfl ?_
  refine g_bipush K X124 (pc' := 154) (v := (7 : Int32)) at_152 rfl rfl ?_
  refine g_lloadN K X124 (pc' := 155) at_154 rfl rfl ?_
  refine g_bipush K X124 (pc' := 157) (v := (10 : Int32)) at_155 rfl rfl ?_
  refine g_lushr K X124 (pc' := 158) at_157 rfl ?_
  refine g_iconst K X124 (pc' := 159) (v := (1 : Int32)) at_158 rfl rfl ?_
  refine g_callSI K X124 (pc' := 162) (argsL := [.long (jushrL p2 (10 : Int32)), .int (1 : Int32)]) (rest := [.int (7 : Int32), .ref a53]) 2 at_159 rfl (hw _ (List.mem_of_getElem? (i := 1) rfl)) (hw _ (List.mem_of_getElem? (i := 2) rfl)) (hw _ (List.mem_of_getElem? (i := 3) rfl)) (hw _ (List.mem_of_getElem? (i := 4) rfl)) (by decide) (rm_draw l Z a0 hw (jushrL p2 (10 : Int32)) (1 : Int32) h123 n0 X124.z) (by decide) (by decide) (by decide) (by decide) (lenOf pd_0 rfl) rfl rfl (Nat.le_of_ble_eq_true rfl) (fun d7 T130 X131 hd7 => ?_)
  refine g_bastore K X131 (pc' := 163) (i := 7) at_162 rfl A126 na57 rfl (by decide) (fun T132 h133 X134 Kp135 A136 => ?_)
  obtain ⟨f137, hf138⟩ : ∃ q, q = upd f127 7 (jb d7) := ⟨_, rfl⟩
  rw [← hf138] at A136
  have f139 := AN.keep f129 Kp135 (ninS ne_a3_a53 nin0)
  refine g_aload K X134 (pc' := 165) at_163 rfl rfl rfl ?_
  refine g_bipush K X134 (pc' := 167) (v := (8 : Int32)) at_165 rfl rfl ?_
  refine g_lloadN K X134 (pc' := 168) at_167 rfl rfl ?_
  refine g_bipush K X134 (pc' := 170) (v := (20 : Int32)) at_168 rfl rfl ?_
  refine g_lushr K X134 (pc' := 171) at_170 rfl ?_
  refine g_iconst K X134 (pc' := 172) (v := (0 : Int32)) at_171 rfl rfl ?_
  refine g_callSI K X134 (pc' := 175) (argsL := [.long (jushrL p2 (20 : Int32)), .int (0 : Int32)]) (rest := [.int (8 : Int32), .ref a53]) 2 at_172 rfl (hw _ (List.mem_of_getElem? (i := 1) rfl)) (hw _ (List.mem_of_getElem? (i := 2) rfl)) (hw _ (List.mem_of_getElem? (i := 3) rfl)) (hw _ (List.mem_of_getElem? (i := 4) rfl)) (by decide) (rm_draw l Z a0 hw (jushrL p2 (20 : Int32)) (0 : Int32) h133 n0 X134.z) (by decide) (by decide) (by decide) (by decide) (lenOf pd_0 rfl) rfl rfl (Nat.le_of_ble_eq_true rfl) (fun d8 T140 X141 hd8 => ?_)
  refine g_bastore K X141 (pc' := 176) (i := 8) at_175 rfl A136 na57 rfl (by decide) (fun T142 h143 X144 Kp145 A146 => ?_)
  obtain ⟨f147, hf148⟩ : ∃ q, q = upd f137 8 (jb d8) := ⟨_, rfl⟩
  rw [← hf148] at A146
  have f149 := AN.keep f139 Kp145 (ninS ne_a3_a53 nin0)
  refine g_aload K X144 (pc' := 178) at_176 rfl rfl rfl ?_
  refine g_bipush K X144 (pc' := 180) (v := (9 : Int32)) at_178 rfl rfl ?_
  refine g_lloadN K X144 (pc' := 181) at_180 rfl rfl ?_
  refine g_bipush K X144 (pc' := 183) (v := (30 : Int32)) at_181 rfl rfl ?_
  refine g_lushr K X144 (pc' := 184) at_183 rfl ?_
  refine g_iconst K X144 (pc' := 185) (v := (0 : Int32)) at_184 rfl rfl ?_
  refine g_callSI K X144 (pc' := 188) (argsL := [.long (jushrL p2 (30 : Int32)), .int (0 : Int32)]) (rest := [.int (9 : Int32), .ref a53]) 2 at_185 rfl (hw _ (List.mem_of_getElem? (i := 1) rfl)) (hw _ (List.mem_of_getElem? (i := 2) rfl)) (hw _ (List.mem_of_getElem? (i := 3) rfl)) (hw _ (List.mem_of_getElem? (i := 4) rfl)) (by decide) (rm_draw l Z a0 hw (jushrL p2 (30 : Int32)) (0 : Int32) h143 n0 X144.z) (by decide) (by decide) (by decide) (by decide) (lenOf pd_0 rfl) rfl rfl (Nat.le_of_ble_eq_true rfl) (fun d9 T150 X151 hd9 => ?_)
  refine g_bastore K X151 (pc' := 189) (i := 9) at_188 rfl A146 na57 rfl (by decide) (fun T152 h153 X154 Kp155 A156 => ?_)
  obtain ⟨f157, hf158⟩ : ∃ q, q = upd f147 9 (jb d9) := ⟨_, rfl⟩
  rw [← hf158] at A156
  have f159 := AN.keep f149 Kp155 (ninS ne_a3_a53 nin0)
  refine g_iload K X154 (pc' := 191) at_189 rfl rfl ?_
  refine g_iconst K X154 (pc' := 192) (v := (3 : Int32)) at_191 rfl rfl ?_
  refine g_iand K X154 (pc' := 193) at_192 rfl ?_
  refine g_istore K X154 (pc' := 195) (L' := #[.val (.long p1), .second, .val (.long p2), .second, .val (.int p3), .val (.int p4), .val (.int p5), .val (.ref a3), .val (.ref a53), .val (.int (p3 &&& (3 : Int32))), .unset, .unset, .unset, .unset, .unset, .unset, .unset, .unset, .unset, .unset, .unset, .unset]) at_193 rfl rfl ?_
  obtain ⟨t, ht, ht3⟩ := own_from p3
  generalize (p3 &&& (3 : Int32)) = q at *
  have hw0 : f157 0 = d0 := by rw [hf158, upd_miss _ _ (by decide), hf148, upd_miss _ _ (by decide), hf138, upd_miss _ _ (by decide), hf128, upd_miss _ _ (by decide), hf118, upd_miss _ _ (by decide), hf108, upd_miss _ _ (by decide), hf98, upd_miss _ _ (by decide), hf88, upd_miss _ _ (by decide), hf78, upd_miss _ _ (by decide), hf68, upd_hit]; exact jb_id hd0.1 hd0.2
  have hw1 : f157 1 = d1 := by rw [hf158, upd_miss _ _ (by decide), hf148, upd_miss _ _ (by decide), hf138, upd_miss _ _ (by decide), hf128, upd_miss _ _ (by decide), hf118, upd_miss _ _ (by decide), hf108, upd_miss _ _ (by decide), hf98, upd_miss _ _ (by decide), hf88, upd_miss _ _ (by decide), hf78, upd_hit]; exact jb_id hd1.1 hd1.2
  have hw2 : f157 2 = d2 := by rw [hf158, upd_miss _ _ (by decide), hf148, upd_miss _ _ (by decide), hf138, upd_miss _ _ (by decide), hf128, upd_miss _ _ (by decide), hf118, upd_miss _ _ (by decide), hf108, upd_miss _ _ (by decide), hf98, upd_miss _ _ (by decide), hf88, upd_hit]; exact jb_id hd2.1 hd2.2
  have hw3 : f157 3 = d3 := by rw [hf158, upd_miss _ _ (by decide), hf148, upd_miss _ _ (by decide), hf138, upd_miss _ _ (by decide), hf128, upd_miss _ _ (by decide), hf118, upd_miss _ _ (by decide), hf108, upd_miss _ _ (by decide), hf98, upd_hit]; exact jb_id hd3.1 hd3.2
  have hw4 : f157 4 = d4 := by rw [hf158, upd_miss _ _ (by decide), hf148, upd_miss _ _ (by decide), hf138, upd_miss _ _ (by decide), hf128, upd_miss _ _ (by decide), hf118, upd_miss _ _ (by decide), hf108, upd_hit]; exact jb_id hd4.1 hd4.2
  have hw5 : f157 5 = d5 := by rw [hf158, upd_miss _ _ (by decide), hf148, upd_miss _ _ (by decide), hf138, upd_miss _ _ (by decide), hf128, upd_miss _ _ (by decide), hf118, upd_hit]; exact jb_id hd5.1 hd5.2
  have hw6 : f157 6 = d6 := by rw [hf158, upd_miss _ _ (by decide), hf148, upd_miss _ _ (by decide), hf138, upd_miss _ _ (by decide), hf128, upd_hit]; exact jb_id hd6.1 hd6.2
  have hw7 : f157 7 = d7 := by rw [hf158, upd_miss _ _ (by decide), hf148, upd_miss _ _ (by decide), hf138, upd_hit]; exact jb_id hd7.1 hd7.2
  have hw8 : f157 8 = d8 := by rw [hf158, upd_miss _ _ (by decide), hf148, upd_hit]; exact jb_id hd8.1 hd8.2
  have hw9 : f157 9 = d9 := by rw [hf158, upd_hit]; exact jb_id hd9.1 hd9.2
  refine g_aload K X154 (pc' := 197) at_195 rfl rfl rfl ?_
  refine g_iload K X154 (pc' := 199) at_197 rfl rfl ?_
  refine g_aload K X154 (pc' := 201) at_199 rfl rfl rfl ?_
  refine g_iconst K X154 (pc' := 202) (v := (0 : Int32)) at_201 rfl rfl ?_
  refine g_baload K X154 (pc' := 203) (i := 0) at_202 rfl A156 rfl (by decide) ?_
  refine g_bastore K X154 (pc' := 204) (i := (t + 0)) at_203 rfl f159 na7 ht (by omega) (fun T160 h161 X162 Kp163 A164 => ?_)
  obtain ⟨f165, hf166⟩ : ∃ q, q = upd f49 (t + 0) (jb (f157 0)) := ⟨_, rfl⟩
  rw [← hf166] at A164
  have f167 := AN.keep A156 Kp163 (ninS (Ne.symm ne_a3_a53) nin0)
  refine g_aload K X162 (pc' := 206) at_204 rfl rfl rfl ?_
  refine g_iload K X162 (pc' := 208) at_206 rfl rfl ?_
  refine g_iconst K X162 (pc' := 209) (v := (1 : Int32)) at_208 rfl rfl ?_
  refine g_iadd K X162 (pc' := 210) at_209 rfl ?_
  refine g_aload K X162 (pc' := 212) at_210 rfl rfl rfl ?_
  refine g_iconst K X162 (pc' := 213) (v := (1 : Int32)) at_212 rfl rfl ?_
  refine g_baload K X162 (pc' := 214) (i := 1) at_213 rfl f167 rfl (by decide) ?_
  refine g_bastore K X162 (pc' := 215) (i := (t + 1)) at_214 rfl A164 na7 (own_add q t ht (by omega) (1 : Int32) 1 rfl (by decide)) (by omega) (fun T168 h169 X170 Kp171 A172 => ?_)
  obtain ⟨f173, hf174⟩ : ∃ q, q = upd f165 (t + 1) (jb (f157 1)) := ⟨_, rfl⟩
  rw [← hf174] at A172
  have f175 := AN.keep f167 Kp171 (ninS (Ne.symm ne_a3_a53) nin0)
  refine g_aload K X170 (pc' := 217) at_215 rfl rfl rfl ?_
  refine g_iload K X170 (pc' := 219) at_217 rfl rfl ?_
  refine g_iconst K X170 (pc' := 220) (v := (2 : Int32)) at_219 rfl rfl ?_
  refine g_iadd K X170 (pc' := 221) at_220 rfl ?_
  refine g_aload K X170 (pc' := 223) at_221 rfl rfl rfl ?_
  refine g_iconst K X170 (pc' := 224) (v := (2 : Int32)) at_223 rfl rfl ?_
  refine g_baload K X170 (pc' := 225) (i := 2) at_224 rfl f175 rfl (by decide) ?_
  refine g_bastore K X170 (pc' := 226) (i := (t + 2)) at_225 rfl A172 na7 (own_add q t ht (by omega) (2 : Int32) 2 rfl (by decide)) (by omega) (fun T176 h177 X178 Kp179 A180 => ?_)
  obtain ⟨f181, hf182⟩ : ∃ q, q = upd f173 (t + 2) (jb (f157 2)) := ⟨_, rfl⟩
  rw [← hf182] at A180
  have f183 := AN.keep f175 Kp179 (ninS (Ne.symm ne_a3_a53) nin0)
  refine g_aload K X178 (pc' := 228) at_226 rfl rfl rfl ?_
  refine g_iload K X178 (pc' := 230) at_228 rfl rfl ?_
  refine g_iconst K X178 (pc' := 231) (v := (3 : Int32)) at_230 rfl rfl ?_
  refine g_iadd K X178 (pc' := 232) at_231 rfl ?_
  refine g_aload K X178 (pc' := 234) at_232 rfl rfl rfl ?_
  refine g_iconst K X178 (pc' := 235) (v := (3 : Int32)) at_234 rfl rfl ?_
  refine g_baload K X178 (pc' := 236) (i := 3) at_235 rfl f183 rfl (by decide) ?_
  refine g_bastore K X178 (pc' := 237) (i := (t + 3)) at_236 rfl A180 na7 (own_add q t ht (by omega) (3 : Int32) 3 rfl (by decide)) (by omega) (fun T184 h185 X186 Kp187 A188 => ?_)
  obtain ⟨f189, hf190⟩ : ∃ q, q = upd f181 (t + 3) (jb (f157 3)) := ⟨_, rfl⟩
  rw [← hf190] at A188
  have f191 := AN.keep f183 Kp187 (ninS (Ne.symm ne_a3_a53) nin0)
  refine g_aload K X186 (pc' := 239) at_237 rfl rfl rfl ?_
  refine g_iload K X186 (pc' := 241) at_239 rfl rfl ?_
  refine g_iconst K X186 (pc' := 242) (v := (4 : Int32)) at_241 rfl rfl ?_
  refine g_iadd K X186 (pc' := 243) at_242 rfl ?_
  refine g_aload K X186 (pc' := 245) at_243 rfl rfl rfl ?_
  refine g_iconst K X186 (pc' := 246) (v := (4 : Int32)) at_245 rfl rfl ?_
  refine g_baload K X186 (pc' := 247) (i := 4) at_246 rfl f191 rfl (by decide) ?_
  refine g_bastore K X186 (pc' := 248) (i := (t + 4)) at_247 rfl A188 na7 (own_add q t ht (by omega) (4 : Int32) 4 rfl (by decide)) (by omega) (fun T192 h193 X194 Kp195 A196 => ?_)
  obtain ⟨f197, hf198⟩ : ∃ q, q = upd f189 (t + 4) (jb (f157 4)) := ⟨_, rfl⟩
  rw [← hf198] at A196
  have f199 := AN.keep f191 Kp195 (ninS (Ne.symm ne_a3_a53) nin0)
  refine g_aload K X194 (pc' := 250) at_248 rfl rfl rfl ?_
  refine g_iload K X194 (pc' := 252) at_250 rfl rfl ?_
  refine g_iconst K X194 (pc' := 253) (v := (5 : Int32)) at_252 rfl rfl ?_
  refine g_iadd K X194 (pc' := 254) at_253 rfl ?_
  refine g_aload K X194 (pc' := 256) at_254 rfl rfl rfl ?_
  refine g_iconst K X194 (pc' := 257) (v := (5 : Int32)) at_256 rfl rfl ?_
  refine g_baload K X194 (pc' := 258) (i := 5) at_257 rfl f199 rfl (by decide) ?_
  refine g_bastore K X194 (pc' := 259) (i := (t + 5)) at_258 rfl A196 na7 (own_add q t ht (by omega) (5 : Int32) 5 rfl (by decide)) (by omega) (fun T200 h201 X202 Kp203 A204 => ?_)
  obtain ⟨f205, hf206⟩ : ∃ q, q = upd f197 (t + 5) (jb (f157 5)) := ⟨_, rfl⟩
  rw [← hf206] at A204
  have f207 := AN.keep f199 Kp203 (ninS (Ne.symm ne_a3_a53) nin0)
  refine g_aload K X202 (pc' := 261) at_259 rfl rfl rfl ?_
  refine g_iload K X202 (pc' := 263) at_261 rfl rfl ?_
  refine g_bipush K X202 (pc' := 265) (v := (6 : Int32)) at_263 rfl rfl ?_
  refine g_iadd K X202 (pc' := 266) at_265 rfl ?_
  refine g_aload K X202 (pc' := 268) at_266 rfl rfl rfl ?_
  refine g_bipush K X202 (pc' := 270) (v := (6 : Int32)) at_268 rfl rfl ?_
  refine g_baload K X202 (pc' := 271) (i := 6) at_270 rfl f207 rfl (by decide) ?_
  refine g_bastore K X202 (pc' := 272) (i := (t + 6)) at_271 rfl A204 na7 (own_add q t ht (by omega) (6 : Int32) 6 rfl (by decide)) (by omega) (fun T208 h209 X210 Kp211 A212 => ?_)
  obtain ⟨f213, hf214⟩ : ∃ q, q = upd f205 (t + 6) (jb (f157 6)) := ⟨_, rfl⟩
  rw [← hf214] at A212
  have f215 := AN.keep f207 Kp211 (ninS (Ne.symm ne_a3_a53) nin0)
  refine g_aload K X210 (pc' := 274) at_272 rfl rfl rfl ?_
  refine g_iload K X210 (pc' := 276) at_274 rfl rfl ?_
  refine g_bipush K X210 (pc' := 278) (v := (7 : Int32)) at_276 rfl rfl ?_
  refine g_iadd K X210 (pc' := 279) at_278 rfl ?_
  refine g_aload K X210 (pc' := 281) at_279 rfl rfl rfl ?_
  refine g_bipush K X210 (pc' := 283) (v := (7 : Int32)) at_281 rfl rfl ?_
  refine g_baload K X210 (pc' := 284) (i := 7) at_283 rfl f215 rfl (by decide) ?_
  refine g_bastore K X210 (pc' := 285) (i := (t + 7)) at_284 rfl A212 na7 (own_add q t ht (by omega) (7 : Int32) 7 rfl (by decide)) (by omega) (fun T216 h217 X218 Kp219 A220 => ?_)
  obtain ⟨f221, hf222⟩ : ∃ q, q = upd f213 (t + 7) (jb (f157 7)) := ⟨_, rfl⟩
  rw [← hf222] at A220
  have f223 := AN.keep f215 Kp219 (ninS (Ne.symm ne_a3_a53) nin0)
  refine g_aload K X218 (pc' := 287) at_285 rfl rfl rfl ?_
  refine g_iload K X218 (pc' := 289) at_287 rfl rfl ?_
  refine g_bipush K X218 (pc' := 291) (v := (8 : Int32)) at_289 rfl rfl ?_
  refine g_iadd K X218 (pc' := 292) at_291 rfl ?_
  refine g_aload K X218 (pc' := 294) at_292 rfl rfl rfl ?_
  refine g_bipush K X218 (pc' := 296) (v := (8 : Int32)) at_294 rfl rfl ?_
  refine g_baload K X218 (pc' := 297) (i := 8) at_296 rfl f223 rfl (by decide) ?_
  refine g_bastore K X218 (pc' := 298) (i := (t + 8)) at_297 rfl A220 na7 (own_add q t ht (by omega) (8 : Int32) 8 rfl (by decide)) (by omega) (fun T224 h225 X226 Kp227 A228 => ?_)
  obtain ⟨f229, hf230⟩ : ∃ q, q = upd f221 (t + 8) (jb (f157 8)) := ⟨_, rfl⟩
  rw [← hf230] at A228
  have f231 := AN.keep f223 Kp227 (ninS (Ne.symm ne_a3_a53) nin0)
  refine g_aload K X226 (pc' := 300) at_298 rfl rfl rfl ?_
  refine g_iload K X226 (pc' := 302) at_300 rfl rfl ?_
  refine g_bipush K X226 (pc' := 304) (v := (9 : Int32)) at_302 rfl rfl ?_
  refine g_iadd K X226 (pc' := 305) at_304 rfl ?_
  refine g_aload K X226 (pc' := 307) at_305 rfl rfl rfl ?_
  refine g_bipush K X226 (pc' := 309) (v := (9 : Int32)) at_307 rfl rfl ?_
  refine g_baload K X226 (pc' := 310) (i := 9) at_309 rfl f231 rfl (by decide) ?_
  refine g_bastore K X226 (pc' := 311) (i := (t + 9)) at_310 rfl A228 na7 (own_add q t ht (by omega) (9 : Int32) 9 rfl (by decide)) (by omega) (fun T232 h233 X234 Kp235 A236 => ?_)
  obtain ⟨f237, hf238⟩ : ∃ q, q = upd f229 (t + 9) (jb (f157 9)) := ⟨_, rfl⟩
  rw [← hf238] at A236
  have f239 := AN.keep f231 Kp235 (ninS (Ne.symm ne_a3_a53) nin0)
  have hf0_ : f237 (t + 0) = d0 := by rw [hf238, upd_miss _ _ (by omega), hf230, upd_miss _ _ (by omega), hf222, upd_miss _ _ (by omega), hf214, upd_miss _ _ (by omega), hf206, upd_miss _ _ (by omega), hf198, upd_miss _ _ (by omega), hf190, upd_miss _ _ (by omega), hf182, upd_miss _ _ (by omega), hf174, upd_miss _ _ (by omega), hf166, upd_hit, hw0]; exact jb_id hd0.1 hd0.2
  have hf1_ : f237 (t + 1) = d1 := by rw [hf238, upd_miss _ _ (by omega), hf230, upd_miss _ _ (by omega), hf222, upd_miss _ _ (by omega), hf214, upd_miss _ _ (by omega), hf206, upd_miss _ _ (by omega), hf198, upd_miss _ _ (by omega), hf190, upd_miss _ _ (by omega), hf182, upd_miss _ _ (by omega), hf174, upd_hit, hw1]; exact jb_id hd1.1 hd1.2
  have hf2_ : f237 (t + 2) = d2 := by rw [hf238, upd_miss _ _ (by omega), hf230, upd_miss _ _ (by omega), hf222, upd_miss _ _ (by omega), hf214, upd_miss _ _ (by omega), hf206, upd_miss _ _ (by omega), hf198, upd_miss _ _ (by omega), hf190, upd_miss _ _ (by omega), hf182, upd_hit, hw2]; exact jb_id hd2.1 hd2.2
  have hf3_ : f237 (t + 3) = d3 := by rw [hf238, upd_miss _ _ (by omega), hf230, upd_miss _ _ (by omega), hf222, upd_miss _ _ (by omega), hf214, upd_miss _ _ (by omega), hf206, upd_miss _ _ (by omega), hf198, upd_miss _ _ (by omega), hf190, upd_hit, hw3]; exact jb_id hd3.1 hd3.2
  have hf4_ : f237 (t + 4) = d4 := by rw [hf238, upd_miss _ _ (by omega), hf230, upd_miss _ _ (by omega), hf222, upd_miss _ _ (by omega), hf214, upd_miss _ _ (by omega), hf206, upd_miss _ _ (by omega), hf198, upd_hit, hw4]; exact jb_id hd4.1 hd4.2
  have hf5_ : f237 (t + 5) = d5 := by rw [hf238, upd_miss _ _ (by omega), hf230, upd_miss _ _ (by omega), hf222, upd_miss _ _ (by omega), hf214, upd_miss _ _ (by omega), hf206, upd_hit, hw5]; exact jb_id hd5.1 hd5.2
  have hf6_ : f237 (t + 6) = d6 := by rw [hf238, upd_miss _ _ (by omega), hf230, upd_miss _ _ (by omega), hf222, upd_miss _ _ (by omega), hf214, upd_hit, hw6]; exact jb_id hd6.1 hd6.2
  have hf7_ : f237 (t + 7) = d7 := by rw [hf238, upd_miss _ _ (by omega), hf230, upd_miss _ _ (by omega), hf222, upd_hit, hw7]; exact jb_id hd7.1 hd7.2
  have hf8_ : f237 (t + 8) = d8 := by rw [hf238, upd_miss _ _ (by omega), hf230, upd_hit, hw8]; exact jb_id hd8.1 hd8.2
  have hf9_ : f237 (t + 9) = d9 := by rw [hf238, upd_hit, hw9]; exact jb_id hd9.1 hd9.2
  have hrng : ∀ i, i < 13 → -128 ≤ (f237 i).toInt ∧ (f237 i).toInt < 128 := by
    intro i _
    simp only [hf238, hf230, hf222, hf214, hf206, hf198, hf190, hf182, hf174, hf166, hf50, hf43, hf36, hf29, hf22, hf15]
    repeat' (first | exact own_upd0 | refine own_updr ?_)
  have hf0 : f237 (t + 0) = d0 := hf0_
  have hf1 : f237 (t + 1) = d1 := hf1_
  have hf2 : f237 (t + 2) = d2 := hf2_
  have hf3 : f237 (t + 3) = d3 := hf3_
  have hf4 : f237 (t + 4) = d4 := hf4_
  have hf5 : f237 (t + 5) = d5 := hf5_
  have hf6 : f237 (t + 6) = d6 := hf6_
  have hf7 : f237 (t + 7) = d7 := hf7_
  have hf8 : f237 (t + 8) = d8 := hf8_
  have hf9 : f237 (t + 9) = d9 := hf9_
  have J337 : ∀ v : Int32, 0 ≤ v.toInt → v.toInt ≤ 13 - t → Fi p e below s n0 room_1.cells room_1.slots (fun v _ => v = some (.int 1)) (T232.setTop (mkF m 337 #[.val (.long p1), .second, .val (.long p2), .second, .val (.int p3), .val (.int p4), .val (.int p5), .val (.ref a3), .val (.ref a53), .val (.int q), .val (.int v), .unset, .unset, .unset, .unset, .unset, .unset, .unset, .unset, .unset, .unset, .unset] [])) := by
    intro v hv0 hv1
    obtain ⟨len, hlen⟩ : ∃ len : Nat, v.toInt = (len : Int) := ⟨v.toInt.toNat, by omega⟩
    have hto := own_add q t ht (by omega) v len hlen (by omega)
    refine g_iload K X234 (pc' := 339) at_337 rfl rfl ?_
    refine g_iload K X234 (pc' := 341) at_339 rfl rfl ?_
    refine g_iadd K X234 (pc' := 342) at_341 rfl ?_
    refine g_istore K X234 (pc' := 344) (L' := #[.val (.long p1), .second, .val (.long p2), .second, .val (.int p3), .val (.int p4), .val (.int p5), .val (.ref a3), .val (.ref a53), .val (.int q), .val (.int v), .val (.int (q + v)), .unset, .unset, .unset, .unset, .unset, .unset, .unset, .unset, .unset, .unset]) at_342 rfl rfl ?_
    refine g_iload K X234 (pc' := 346) at_344 rfl rfl ?_
    refine g_bipush K X234 (pc' := 348) (v := (10 : Int32)) at_346 rfl rfl ?_
    refine g_icmp_eq K X234 (pc' := 359) (pc'' := 351) v.toInt 10 at_348 (by decide) rfl rfl rfl ?_ ?_
    · intro b348
      refine g_aload K X234 (pc' := 361) at_359 rfl rfl rfl ?_
      refine g_iconst K X234 (pc' := 362) (v := (4 : Int32)) at_361 rfl rfl ?_
      refine g_baload K X234 (pc' := 363) (i := 4) at_362 rfl f239 rfl (by decide) ?_
      refine g_bipush K X234 (pc' := 365) (v := (45 : Int32)) at_363 rfl rfl ?_
      refine g_icmp_ne K X234 (pc' := 378) (pc'' := 368) (f157 4).toInt 45 at_365 (by decide) rfl rfl rfl ?_ ?_
      · intro b365
        refine g_ldc2J K X234 (pc' := 381) (v := ((-1) : Int64)) at_378 rfl (hw _ (List.mem_of_getElem? (i := 21) rfl)) ?_
        refine g_lstore K X234 (pc' := 383) (L' := #[.val (.long p1), .second, .val (.long p2), .second, .val (.int p3), .val (.int p4), .val (.int p5), .val (.ref a3), .val (.ref a53), .val (.int q), .val (.int v), .val (.int (q + v)), .val (.long ((-1) : Int64)), .second, .unset, .unset, .unset, .unset, .unset, .unset, .unset, .unset]) at_381 rfl rfl ?_
        refine g_goto K X234 (pc' := 570) at_383 (by decide) ?_
        refine g_aload K X234 (pc' := 572) at_570 rfl rfl rfl ?_
        refine g_iload K X234 (pc' := 574) at_572 rfl rfl ?_
        refine g_iload K X234 (pc' := 576) at_574 rfl rfl ?_
        refine g_callSJ K X234 (pc' := 579) (argsL := [.ref a3, .int q, .int (q + v)]) (rest := []) 0 at_576 rfl (hw _ (List.mem_of_getElem? (i := 16) rfl)) (hw _ (List.mem_of_getElem? (i := 17) rfl)) (hw _ (List.mem_of_getElem? (i := 18) rfl)) (hw _ (List.mem_of_getElem? (i := 19) rfl)) (by decide) (rm_key l Z a0 hw a3 q (q + v) t (t + len) 13 f237 h233 n0 X234.z A236 hrng ht hto (by omega) (by omega) (by omega)) (by decide) (by decide) (by decide) (by decide) (lenOf pd_1 rfl) rfl rfl (Nat.le_of_ble_eq_true rfl) (fun r T240 X241 hP => ?_)
        have hr : r = -1 := hP.2 (fun q => by have h9 : (f237 (t + 4)).toInt = 45 := q.2.1; rw [hf4] at h9; rw [hw4] at b365; exact b365 h9)
        refine g_lload K X241 (pc' := 581) at_579 rfl rfl ?_
        refine g_lcmp_ne K X241 (pc1 := 582) (pc' := 589) (pc'' := 585) r.toInt (-1) at_581 rfl at_582 (by decide) rfl rfl rfl ?_ ?_
        · intro b582
          exact absurd (congrArg Int64.toInt hr) b582
        · intro b582
          refine g_iconst K X241 (pc' := 586) (v := (1 : Int32)) at_585 rfl rfl ?_
          refine g_goto K X241 (pc' := 590) at_586 (by decide) ?_
          exact g_retN K X241 at_590 (by simp) (by decide) (by decide) rfl
      · intro b365
        refine g_aload K X234 (pc' := 370) at_368 rfl rfl rfl ?_
        refine g_bipush K X234 (pc' := 372) (v := (7 : Int32)) at_370 rfl rfl ?_
        refine g_baload K X234 (pc' := 373) (i := 7) at_372 rfl f239 rfl (by decide) ?_
        refine g_bipush K X234 (pc' := 375) (v := (45 : Int32)) at_373 rfl rfl ?_
        refine g_icmp_eq K X234 (pc' := 386) (pc'' := 378) (f157 7).toInt 45 at_375 (by decide) rfl rfl rfl ?_ ?_
        · intro b375
          refine g_aload K X234 (pc' := 388) at_386 rfl rfl rfl ?_
          refine g_iconst K X234 (pc' := 389) (v := (0 : Int32)) at_388 rfl rfl ?_
          refine g_baload K X234 (pc' := 390) (i := 0) at_389 rfl f239 rfl (by decide) ?_
          refine g_callSI K X234 (pc' := 393) (argsL := [.int (f157 0)]) (rest := []) 0 at_390 rfl (hw _ (List.mem_of_getElem? (i := 6) rfl)) (hw _ (List.mem_of_getElem? (i := 7) rfl)) (hw _ (List.mem_of_getElem? (i := 3) rfl)) (hw _ (List.mem_of_getElem? (i := 8) rfl)) (by decide) (rm_digit l Z a0 hw (f157 0) h233 n0 X234.z) (by decide) (by decide) (by decide) (by decide) (lenOf pd_2 rfl) rfl rfl (Nat.le_of_ble_eq_true rfl) (fun e0 T242 X243 hq0 => ?_)
          rw [hw0] at hq0
          have hg0 := own_dig hq0 hd0.1 hd0.2
          refine g_istore K X243 (pc' := 395) (L' := #[.val (.long p1), .second, .val (.long p2), .second, .val (.int p3), .val (.int p4), .val (.int p5), .val (.ref a3), .val (.ref a53), .val (.int q), .val (.int v), .val (.int (q + v)), .unset, .unset, .val (.int e0), .unset, .unset, .unset, .unset, .unset, .unset, .unset]) at_393 rfl rfl ?_
          refine g_aload K X243 (pc' := 397) at_395 rfl rfl rfl ?_
          refine g_iconst K X243 (pc' := 398) (v := (1 : Int32)) at_397 rfl rfl ?_
          refine g_baload K X243 (pc' := 399) (i := 1) at_398 rfl f239 rfl (by decide) ?_
          refine g_callSI K X243 (pc' := 402) (argsL := [.int (f157 1)]) (rest := []) 0 at_399 rfl (hw _ (List.mem_of_getElem? (i := 6) rfl)) (hw _ (List.mem_of_getElem? (i := 7) rfl)) (hw _ (List.mem_of_getElem? (i := 3) rfl)) (hw _ (List.mem_of_getElem? (i := 8) rfl)) (by decide) (rm_digit l Z a0 hw (f157 1) h233 n0 X243.z) (by decide) (by decide) (by decide) (by decide) (lenOf pd_2 rfl) rfl rfl (Nat.le_of_ble_eq_true rfl) (fun e1 T244 X245 hq1 => ?_)
          rw [hw1] at hq1
          have hg1 := own_dig hq1 hd1.1 hd1.2
          refine g_istore K X245 (pc' := 404) (L' := #[.val (.long p1), .second, .val (.long p2), .second, .val (.int p3), .val (.int p4), .val (.int p5), .val (.ref a3), .val (.ref a53), .val (.int q), .val (.int v), .val (.int (q + v)), .unset, .unset, .val (.int e0), .val (.int e1), .unset, .unset, .unset, .unset, .unset, .unset]) at_402 rfl rfl ?_
          refine g_aload K X245 (pc' := 406) at_404 rfl rfl rfl ?_
          refine g_iconst K X245 (pc' := 407) (v := (2 : Int32)) at_406 rfl rfl ?_
          refine g_baload K X245 (pc' := 408) (i := 2) at_407 rfl f239 rfl (by decide) ?_
          refine g_callSI K X245 (pc' := 411) (argsL := [.int (f157 2)]) (rest := []) 0 at_408 rfl (hw _ (List.mem_of_getElem? (i := 6) rfl)) (hw _ (List.mem_of_getElem? (i := 7) rfl)) (hw _ (List.mem_of_getElem? (i := 3) rfl)) (hw _ (List.mem_of_getElem? (i := 8) rfl)) (by decide) (rm_digit l Z a0 hw (f157 2) h233 n0 X245.z) (by decide) (by decide) (by decide) (by decide) (lenOf pd_2 rfl) rfl rfl (Nat.le_of_ble_eq_true rfl) (fun e2 T246 X247 hq2 => ?_)
          rw [hw2] at hq2
          have hg2 := own_dig hq2 hd2.1 hd2.2
          refine g_istore K X247 (pc' := 413) (L' := #[.val (.long p1), .second, .val (.long p2), .second, .val (.int p3), .val (.int p4), .val (.int p5), .val (.ref a3), .val (.ref a53), .val (.int q), .val (.int v), .val (.int (q + v)), .unset, .unset, .val (.int e0), .val (.int e1), .val (.int e2), .unset, .unset, .unset, .unset, .unset]) at_411 rfl rfl ?_
          refine g_aload K X247 (pc' := 415) at_413 rfl rfl rfl ?_
          refine g_iconst K X247 (pc' := 416) (v := (3 : Int32)) at_415 rfl rfl ?_
          refine g_baload K X247 (pc' := 417) (i := 3) at_416 rfl f239 rfl (by decide) ?_
          refine g_callSI K X247 (pc' := 420) (argsL := [.int (f157 3)]) (rest := []) 0 at_417 rfl (hw _ (List.mem_of_getElem? (i := 6) rfl)) (hw _ (List.mem_of_getElem? (i := 7) rfl)) (hw _ (List.mem_of_getElem? (i := 3) rfl)) (hw _ (List.mem_of_getElem? (i := 8) rfl)) (by decide) (rm_digit l Z a0 hw (f157 3) h233 n0 X247.z) (by decide) (by decide) (by decide) (by decide) (lenOf pd_2 rfl) rfl rfl (Nat.le_of_ble_eq_true rfl) (fun e3 T248 X249 hq3 => ?_)
          rw [hw3] at hq3
          have hg3 := own_dig hq3 hd3.1 hd3.2
          refine g_istore K X249 (pc' := 422) (L' := #[.val (.long p1), .second, .val (.long p2), .second, .val (.int p3), .val (.int p4), .val (.int p5), .val (.ref a3), .val (.ref a53), .val (.int q), .val (.int v), .val (.int (q + v)), .unset, .unset, .val (.int e0), .val (.int e1), .val (.int e2), .val (.int e3), .unset, .unset, .unset, .unset]) at_420 rfl rfl ?_
          refine g_aload K X249 (pc' := 424) at_422 rfl rfl rfl ?_
          refine g_iconst K X249 (pc' := 425) (v := (5 : Int32)) at_424 rfl rfl ?_
          refine g_baload K X249 (pc' := 426) (i := 5) at_425 rfl f239 rfl (by decide) ?_
          refine g_callSI K X249 (pc' := 429) (argsL := [.int (f157 5)]) (rest := []) 0 at_426 rfl (hw _ (List.mem_of_getElem? (i := 6) rfl)) (hw _ (List.mem_of_getElem? (i := 7) rfl)) (hw _ (List.mem_of_getElem? (i := 3) rfl)) (hw _ (List.mem_of_getElem? (i := 8) rfl)) (by decide) (rm_digit l Z a0 hw (f157 5) h233 n0 X249.z) (by decide) (by decide) (by decide) (by decide) (lenOf pd_2 rfl) rfl rfl (Nat.le_of_ble_eq_true rfl) (fun e5 T250 X251 hq5 => ?_)
          rw [hw5] at hq5
          have hg5 := own_dig hq5 hd5.1 hd5.2
          refine g_istore K X251 (pc' := 431) (L' := #[.val (.long p1), .second, .val (.long p2), .second, .val (.int p3), .val (.int p4), .val (.int p5), .val (.ref a3), .val (.ref a53), .val (.int q), .val (.int v), .val (.int (q + v)), .unset, .unset, .val (.int e0), .val (.int e1), .val (.int e2), .val (.int e3), .val (.int e5), .unset, .unset, .unset]) at_429 rfl rfl ?_
          refine g_aload K X251 (pc' := 433) at_431 rfl rfl rfl ?_
          refine g_bipush K X251 (pc' := 435) (v := (6 : Int32)) at_433 rfl rfl ?_
          refine g_baload K X251 (pc' := 436) (i := 6) at_435 rfl f239 rfl (by decide) ?_
          refine g_callSI K X251 (pc' := 439) (argsL := [.int (f157 6)]) (rest := []) 0 at_436 rfl (hw _ (List.mem_of_getElem? (i := 6) rfl)) (hw _ (List.mem_of_getElem? (i := 7) rfl)) (hw _ (List.mem_of_getElem? (i := 3) rfl)) (hw _ (List.mem_of_getElem? (i := 8) rfl)) (by decide) (rm_digit l Z a0 hw (f157 6) h233 n0 X251.z) (by decide) (by decide) (by decide) (by decide) (lenOf pd_2 rfl) rfl rfl (Nat.le_of_ble_eq_true rfl) (fun e6 T252 X253 hq6 => ?_)
          rw [hw6] at hq6
          have hg6 := own_dig hq6 hd6.1 hd6.2
          refine g_istore K X253 (pc' := 441) (L' := #[.val (.long p1), .second, .val (.long p2), .second, .val (.int p3), .val (.int p4), .val (.int p5), .val (.ref a3), .val (.ref a53), .val (.int q), .val (.int v), .val (.int (q + v)), .unset, .unset, .val (.int e0), .val (.int e1), .val (.int e2), .val (.int e3), .val (.int e5), .val (.int e6), .unset, .unset]) at_439 rfl rfl ?_
          refine g_aload K X253 (pc' := 443) at_441 rfl rfl rfl ?_
          refine g_bipush K X253 (pc' := 445) (v := (8 : Int32)) at_443 rfl rfl ?_
          refine g_baload K X253 (pc' := 446) (i := 8) at_445 rfl f239 rfl (by decide) ?_
          refine g_callSI K X253 (pc' := 449) (argsL := [.int (f157 8)]) (rest := []) 0 at_446 rfl (hw _ (List.mem_of_getElem? (i := 6) rfl)) (hw _ (List.mem_of_getElem? (i := 7) rfl)) (hw _ (List.mem_of_getElem? (i := 3) rfl)) (hw _ (List.mem_of_getElem? (i := 8) rfl)) (by decide) (rm_digit l Z a0 hw (f157 8) h233 n0 X253.z) (by decide) (by decide) (by decide) (by decide) (lenOf pd_2 rfl) rfl rfl (Nat.le_of_ble_eq_true rfl) (fun e8 T254 X255 hq8 => ?_)
          rw [hw8] at hq8
          have hg8 := own_dig hq8 hd8.1 hd8.2
          refine g_istore K X255 (pc' := 451) (L' := #[.val (.long p1), .second, .val (.long p2), .second, .val (.int p3), .val (.int p4), .val (.int p5), .val (.ref a3), .val (.ref a53), .val (.int q), .val (.int v), .val (.int (q + v)), .unset, .unset, .val (.int e0), .val (.int e1), .val (.int e2), .val (.int e3), .val (.int e5), .val (.int e6), .val (.int e8), .unset]) at_449 rfl rfl ?_
          refine g_aload K X255 (pc' := 453) at_451 rfl rfl rfl ?_
          refine g_bipush K X255 (pc' := 455) (v := (9 : Int32)) at_453 rfl rfl ?_
          refine g_baload K X255 (pc' := 456) (i := 9) at_455 rfl f239 rfl (by decide) ?_
          refine g_callSI K X255 (pc' := 459) (argsL := [.int (f157 9)]) (rest := []) 0 at_456 rfl (hw _ (List.mem_of_getElem? (i := 6) rfl)) (hw _ (List.mem_of_getElem? (i := 7) rfl)) (hw _ (List.mem_of_getElem? (i := 3) rfl)) (hw _ (List.mem_of_getElem? (i := 8) rfl)) (by decide) (rm_digit l Z a0 hw (f157 9) h233 n0 X255.z) (by decide) (by decide) (by decide) (by decide) (lenOf pd_2 rfl) rfl rfl (Nat.le_of_ble_eq_true rfl) (fun e9 T256 X257 hq9 => ?_)
          rw [hw9] at hq9
          have hg9 := own_dig hq9 hd9.1 hd9.2
          refine g_istore K X257 (pc' := 461) (L' := #[.val (.long p1), .second, .val (.long p2), .second, .val (.int p3), .val (.int p4), .val (.int p5), .val (.ref a3), .val (.ref a53), .val (.int q), .val (.int v), .val (.int (q + v)), .unset, .unset, .val (.int e0), .val (.int e1), .val (.int e2), .val (.int e3), .val (.int e5), .val (.int e6), .val (.int e8), .val (.int e9)]) at_459 rfl rfl ?_
          refine g_iload K X257 (pc' := 463) at_461 rfl rfl ?_
          refine g_if_lt K X257 (pc' := 501) (pc'' := 466) e0.toInt at_463 (by decide) rfl rfl ?_ ?_
          · intro b463
            refine g_ldc2J K X257 (pc' := 504) (v := ((-1) : Int64)) at_501 rfl (hw _ (List.mem_of_getElem? (i := 21) rfl)) ?_
            refine g_lstore K X257 (pc' := 506) (L' := #[.val (.long p1), .second, .val (.long p2), .second, .val (.int p3), .val (.int p4), .val (.int p5), .val (.ref a3), .val (.ref a53), .val (.int q), .val (.int v), .val (.int (q + v)), .val (.long ((-1) : Int64)), .second, .val (.int e0), .val (.int e1), .val (.int e2), .val (.int e3), .val (.int e5), .val (.int e6), .val (.int e8), .val (.int e9)]) at_504 rfl rfl ?_
            refine g_goto K X257 (pc' := 570) at_506 (by decide) ?_
            refine g_aload K X257 (pc' := 572) at_570 rfl rfl rfl ?_
            refine g_iload K X257 (pc' := 574) at_572 rfl rfl ?_
            refine g_iload K X257 (pc' := 576) at_574 rfl rfl ?_
            refine g_callSJ K X257 (pc' := 579) (argsL := [.ref a3, .int q, .int (q + v)]) (rest := []) 0 at_576 rfl (hw _ (List.mem_of_getElem? (i := 16) rfl)) (hw _ (List.mem_of_getElem? (i := 17) rfl)) (hw _ (List.mem_of_getElem? (i := 18) rfl)) (hw _ (List.mem_of_getElem? (i := 19) rfl)) (by decide) (rm_key l Z a0 hw a3 q (q + v) t (t + len) 13 f237 h233 n0 X257.z A236 hrng ht hto (by omega) (by omega) (by omega)) (by decide) (by decide) (by decide) (by decide) (lenOf pd_1 rfl) rfl rfl (Nat.le_of_ble_eq_true rfl) (fun r T258 X259 hP => ?_)
            have hr : r = -1 := hP.2 (fun q => hg0.1 b463 (by have h9 : okD (f237 (t + 0)) := q.2.2.2 0 (by decide) (by decide) (by decide); rw [hf0] at h9; exact h9))
            refine g_lload K X259 (pc' := 581) at_579 rfl rfl ?_
            refine g_lcmp_ne K X259 (pc1 := 582) (pc' := 589) (pc'' := 585) r.toInt (-1) at_581 rfl at_582 (by decide) rfl rfl rfl ?_ ?_
            · intro b582
              exact absurd (congrArg Int64.toInt hr) b582
            · intro b582
              refine g_iconst K X259 (pc' := 586) (v := (1 : Int32)) at_585 rfl rfl ?_
              refine g_goto K X259 (pc' := 590) at_586 (by decide) ?_
              exact g_retN K X259 at_590 (by simp) (by decide) (by decide) rfl
          · intro b463
            refine g_iload K X257 (pc' := 468) at_466 rfl rfl ?_
            refine g_if_lt K X257 (pc' := 501) (pc'' := 471) e1.toInt at_468 (by decide) rfl rfl ?_ ?_
            · intro b468
              refine g_ldc2J K X257 (pc' := 504) (v := ((-1) : Int64)) at_501 rfl (hw _ (List.mem_of_getElem? (i := 21) rfl)) ?_
              refine g_lstore K X257 (pc' := 506) (L' := #[.val (.long p1), .second, .val (.long p2), .second, .val (.int p3), .val (.int p4), .val (.int p5), .val (.ref a3), .val (.ref a53), .val (.int q), .val (.int v), .val (.int (q + v)), .val (.long ((-1) : Int64)), .second, .val (.int e0), .val (.int e1), .val (.int e2), .val (.int e3), .val (.int e5), .val (.int e6), .val (.int e8), .val (.int e9)]) at_504 rfl rfl ?_
              refine g_goto K X257 (pc' := 570) at_506 (by decide) ?_
              refine g_aload K X257 (pc' := 572) at_570 rfl rfl rfl ?_
              refine g_iload K X257 (pc' := 574) at_572 rfl rfl ?_
              refine g_iload K X257 (pc' := 576) at_574 rfl rfl ?_
              refine g_callSJ K X257 (pc' := 579) (argsL := [.ref a3, .int q, .int (q + v)]) (rest := []) 0 at_576 rfl (hw _ (List.mem_of_getElem? (i := 16) rfl)) (hw _ (List.mem_of_getElem? (i := 17) rfl)) (hw _ (List.mem_of_getElem? (i := 18) rfl)) (hw _ (List.mem_of_getElem? (i := 19) rfl)) (by decide) (rm_key l Z a0 hw a3 q (q + v) t (t + len) 13 f237 h233 n0 X257.z A236 hrng ht hto (by omega) (by omega) (by omega)) (by decide) (by decide) (by decide) (by decide) (lenOf pd_1 rfl) rfl rfl (Nat.le_of_ble_eq_true rfl) (fun r T260 X261 hP => ?_)
              have hr : r = -1 := hP.2 (fun q => hg1.1 b468 (by have h9 : okD (f237 (t + 1)) := q.2.2.2 1 (by decide) (by decide) (by decide); rw [hf1] at h9; exact h9))
              refine g_lload K X261 (pc' := 581) at_579 rfl rfl ?_
              refine g_lcmp_ne K X261 (pc1 := 582) (pc' := 589) (pc'' := 585) r.toInt (-1) at_581 rfl at_582 (by decide) rfl rfl rfl ?_ ?_
              · intro b582
                exact absurd (congrArg Int64.toInt hr) b582
              · intro b582
                refine g_iconst K X261 (pc' := 586) (v := (1 : Int32)) at_585 rfl rfl ?_
                refine g_goto K X261 (pc' := 590) at_586 (by decide) ?_
                exact g_retN K X261 at_590 (by simp) (by decide) (by decide) rfl
            · intro b468
              refine g_iload K X257 (pc' := 473) at_471 rfl rfl ?_
              refine g_if_lt K X257 (pc' := 501) (pc'' := 476) e2.toInt at_473 (by decide) rfl rfl ?_ ?_
              · intro b473
                refine g_ldc2J K X257 (pc' := 504) (v := ((-1) : Int64)) at_501 rfl (hw _ (List.mem_of_getElem? (i := 21) rfl)) ?_
                refine g_lstore K X257 (pc' := 506) (L' := #[.val (.long p1), .second, .val (.long p2), .second, .val (.int p3), .val (.int p4), .val (.int p5), .val (.ref a3), .val (.ref a53), .val (.int q), .val (.int v), .val (.int (q + v)), .val (.long ((-1) : Int64)), .second, .val (.int e0), .val (.int e1), .val (.int e2), .val (.int e3), .val (.int e5), .val (.int e6), .val (.int e8), .val (.int e9)]) at_504 rfl rfl ?_
                refine g_goto K X257 (pc' := 570) at_506 (by decide) ?_
                refine g_aload K X257 (pc' := 572) at_570 rfl rfl rfl ?_
                refine g_iload K X257 (pc' := 574) at_572 rfl rfl ?_
                refine g_iload K X257 (pc' := 576) at_574 rfl rfl ?_
                refine g_callSJ K X257 (pc' := 579) (argsL := [.ref a3, .int q, .int (q + v)]) (rest := []) 0 at_576 rfl (hw _ (List.mem_of_getElem? (i := 16) rfl)) (hw _ (List.mem_of_getElem? (i := 17) rfl)) (hw _ (List.mem_of_getElem? (i := 18) rfl)) (hw _ (List.mem_of_getElem? (i := 19) rfl)) (by decide) (rm_key l Z a0 hw a3 q (q + v) t (t + len) 13 f237 h233 n0 X257.z A236 hrng ht hto (by omega) (by omega) (by omega)) (by decide) (by decide) (by decide) (by decide) (lenOf pd_1 rfl) rfl rfl (Nat.le_of_ble_eq_true rfl) (fun r T262 X263 hP => ?_)
                have hr : r = -1 := hP.2 (fun q => hg2.1 b473 (by have h9 : okD (f237 (t + 2)) := q.2.2.2 2 (by decide) (by decide) (by decide); rw [hf2] at h9; exact h9))
                refine g_lload K X263 (pc' := 581) at_579 rfl rfl ?_
                refine g_lcmp_ne K X263 (pc1 := 582) (pc' := 589) (pc'' := 585) r.toInt (-1) at_581 rfl at_582 (by decide) rfl rfl rfl ?_ ?_
                · intro b582
                  exact absurd (congrArg Int64.toInt hr) b582
                · intro b582
                  refine g_iconst K X263 (pc' := 586) (v := (1 : Int32)) at_585 rfl rfl ?_
                  refine g_goto K X263 (pc' := 590) at_586 (by decide) ?_
                  exact g_retN K X263 at_590 (by simp) (by decide) (by decide) rfl
              · intro b473
                refine g_iload K X257 (pc' := 478) at_476 rfl rfl ?_
                refine g_if_lt K X257 (pc' := 501) (pc'' := 481) e3.toInt at_478 (by decide) rfl rfl ?_ ?_
                · intro b478
                  refine g_ldc2J K X257 (pc' := 504) (v := ((-1) : Int64)) at_501 rfl (hw _ (List.mem_of_getElem? (i := 21) rfl)) ?_
                  refine g_lstore K X257 (pc' := 506) (L' := #[.val (.long p1), .second, .val (.long p2), .second, .val (.int p3), .val (.int p4), .val (.int p5), .val (.ref a3), .val (.ref a53), .val (.int q), .val (.int v), .val (.int (q + v)), .val (.long ((-1) : Int64)), .second, .val (.int e0), .val (.int e1), .val (.int e2), .val (.int e3), .val (.int e5), .val (.int e6), .val (.int e8), .val (.int e9)]) at_504 rfl rfl ?_
                  refine g_goto K X257 (pc' := 570) at_506 (by decide) ?_
                  refine g_aload K X257 (pc' := 572) at_570 rfl rfl rfl ?_
                  refine g_iload K X257 (pc' := 574) at_572 rfl rfl ?_
                  refine g_iload K X257 (pc' := 576) at_574 rfl rfl ?_
                  refine g_callSJ K X257 (pc' := 579) (argsL := [.ref a3, .int q, .int (q + v)]) (rest := []) 0 at_576 rfl (hw _ (List.mem_of_getElem? (i := 16) rfl)) (hw _ (List.mem_of_getElem? (i := 17) rfl)) (hw _ (List.mem_of_getElem? (i := 18) rfl)) (hw _ (List.mem_of_getElem? (i := 19) rfl)) (by decide) (rm_key l Z a0 hw a3 q (q + v) t (t + len) 13 f237 h233 n0 X257.z A236 hrng ht hto (by omega) (by omega) (by omega)) (by decide) (by decide) (by decide) (by decide) (lenOf pd_1 rfl) rfl rfl (Nat.le_of_ble_eq_true rfl) (fun r T264 X265 hP => ?_)
                  have hr : r = -1 := hP.2 (fun q => hg3.1 b478 (by have h9 : okD (f237 (t + 3)) := q.2.2.2 3 (by decide) (by decide) (by decide); rw [hf3] at h9; exact h9))
                  refine g_lload K X265 (pc' := 581) at_579 rfl rfl ?_
                  refine g_lcmp_ne K X265 (pc1 := 582) (pc' := 589) (pc'' := 585) r.toInt (-1) at_581 rfl at_582 (by decide) rfl rfl rfl ?_ ?_
                  · intro b582
                    exact absurd (congrArg Int64.toInt hr) b582
                  · intro b582
                    refine g_iconst K X265 (pc' := 586) (v := (1 : Int32)) at_585 rfl rfl ?_
                    refine g_goto K X265 (pc' := 590) at_586 (by decide) ?_
                    exact g_retN K X265 at_590 (by simp) (by decide) (by decide) rfl
                · intro b478
                  refine g_iload K X257 (pc' := 483) at_481 rfl rfl ?_
                  refine g_if_lt K X257 (pc' := 501) (pc'' := 486) e5.toInt at_483 (by decide) rfl rfl ?_ ?_
                  · intro b483
                    refine g_ldc2J K X257 (pc' := 504) (v := ((-1) : Int64)) at_501 rfl (hw _ (List.mem_of_getElem? (i := 21) rfl)) ?_
                    refine g_lstore K X257 (pc' := 506) (L' := #[.val (.long p1), .second, .val (.long p2), .second, .val (.int p3), .val (.int p4), .val (.int p5), .val (.ref a3), .val (.ref a53), .val (.int q), .val (.int v), .val (.int (q + v)), .val (.long ((-1) : Int64)), .second, .val (.int e0), .val (.int e1), .val (.int e2), .val (.int e3), .val (.int e5), .val (.int e6), .val (.int e8), .val (.int e9)]) at_504 rfl rfl ?_
                    refine g_goto K X257 (pc' := 570) at_506 (by decide) ?_
                    refine g_aload K X257 (pc' := 572) at_570 rfl rfl rfl ?_
                    refine g_iload K X257 (pc' := 574) at_572 rfl rfl ?_
                    refine g_iload K X257 (pc' := 576) at_574 rfl rfl ?_
                    refine g_callSJ K X257 (pc' := 579) (argsL := [.ref a3, .int q, .int (q + v)]) (rest := []) 0 at_576 rfl (hw _ (List.mem_of_getElem? (i := 16) rfl)) (hw _ (List.mem_of_getElem? (i := 17) rfl)) (hw _ (List.mem_of_getElem? (i := 18) rfl)) (hw _ (List.mem_of_getElem? (i := 19) rfl)) (by decide) (rm_key l Z a0 hw a3 q (q + v) t (t + len) 13 f237 h233 n0 X257.z A236 hrng ht hto (by omega) (by omega) (by omega)) (by decide) (by decide) (by decide) (by decide) (lenOf pd_1 rfl) rfl rfl (Nat.le_of_ble_eq_true rfl) (fun r T266 X267 hP => ?_)
                    have hr : r = -1 := hP.2 (fun q => hg5.1 b483 (by have h9 : okD (f237 (t + 5)) := q.2.2.2 5 (by decide) (by decide) (by decide); rw [hf5] at h9; exact h9))
                    refine g_lload K X267 (pc' := 581) at_579 rfl rfl ?_
                    refine g_lcmp_ne K X267 (pc1 := 582) (pc' := 589) (pc'' := 585) r.toInt (-1) at_581 rfl at_582 (by decide) rfl rfl rfl ?_ ?_
                    · intro b582
                      exact absurd (congrArg Int64.toInt hr) b582
                    · intro b582
                      refine g_iconst K X267 (pc' := 586) (v := (1 : Int32)) at_585 rfl rfl ?_
                      refine g_goto K X267 (pc' := 590) at_586 (by decide) ?_
                      exact g_retN K X267 at_590 (by simp) (by decide) (by decide) rfl
                  · intro b483
                    refine g_iload K X257 (pc' := 488) at_486 rfl rfl ?_
                    refine g_if_lt K X257 (pc' := 501) (pc'' := 491) e6.toInt at_488 (by decide) rfl rfl ?_ ?_
                    · intro b488
                      refine g_ldc2J K X257 (pc' := 504) (v := ((-1) : Int64)) at_501 rfl (hw _ (List.mem_of_getElem? (i := 21) rfl)) ?_
                      refine g_lstore K X257 (pc' := 506) (L' := #[.val (.long p1), .second, .val (.long p2), .second, .val (.int p3), .val (.int p4), .val (.int p5), .val (.ref a3), .val (.ref a53), .val (.int q), .val (.int v), .val (.int (q + v)), .val (.long ((-1) : Int64)), .second, .val (.int e0), .val (.int e1), .val (.int e2), .val (.int e3), .val (.int e5), .val (.int e6), .val (.int e8), .val (.int e9)]) at_504 rfl rfl ?_
                      refine g_goto K X257 (pc' := 570) at_506 (by decide) ?_
                      refine g_aload K X257 (pc' := 572) at_570 rfl rfl rfl ?_
                      refine g_iload K X257 (pc' := 574) at_572 rfl rfl ?_
                      refine g_iload K X257 (pc' := 576) at_574 rfl rfl ?_
                      refine g_callSJ K X257 (pc' := 579) (argsL := [.ref a3, .int q, .int (q + v)]) (rest := []) 0 at_576 rfl (hw _ (List.mem_of_getElem? (i := 16) rfl)) (hw _ (List.mem_of_getElem? (i := 17) rfl)) (hw _ (List.mem_of_getElem? (i := 18) rfl)) (hw _ (List.mem_of_getElem? (i := 19) rfl)) (by decide) (rm_key l Z a0 hw a3 q (q + v) t (t + len) 13 f237 h233 n0 X257.z A236 hrng ht hto (by omega) (by omega) (by omega)) (by decide) (by decide) (by decide) (by decide) (lenOf pd_1 rfl) rfl rfl (Nat.le_of_ble_eq_true rfl) (fun r T268 X269 hP => ?_)
                      have hr : r = -1 := hP.2 (fun q => hg6.1 b488 (by have h9 : okD (f237 (t + 6)) := q.2.2.2 6 (by decide) (by decide) (by decide); rw [hf6] at h9; exact h9))
                      refine g_lload K X269 (pc' := 581) at_579 rfl rfl ?_
                      refine g_lcmp_ne K X269 (pc1 := 582) (pc' := 589) (pc'' := 585) r.toInt (-1) at_581 rfl at_582 (by decide) rfl rfl rfl ?_ ?_
                      · intro b582
                        exact absurd (congrArg Int64.toInt hr) b582
                      · intro b582
                        refine g_iconst K X269 (pc' := 586) (v := (1 : Int32)) at_585 rfl rfl ?_
                        refine g_goto K X269 (pc' := 590) at_586 (by decide) ?_
                        exact g_retN K X269 at_590 (by simp) (by decide) (by decide) rfl
                    · intro b488
                      refine g_iload K X257 (pc' := 493) at_491 rfl rfl ?_
                      refine g_if_lt K X257 (pc' := 501) (pc'' := 496) e8.toInt at_493 (by decide) rfl rfl ?_ ?_
                      · intro b493
                        refine g_ldc2J K X257 (pc' := 504) (v := ((-1) : Int64)) at_501 rfl (hw _ (List.mem_of_getElem? (i := 21) rfl)) ?_
                        refine g_lstore K X257 (pc' := 506) (L' := #[.val (.long p1), .second, .val (.long p2), .second, .val (.int p3), .val (.int p4), .val (.int p5), .val (.ref a3), .val (.ref a53), .val (.int q), .val (.int v), .val (.int (q + v)), .val (.long ((-1) : Int64)), .second, .val (.int e0), .val (.int e1), .val (.int e2), .val (.int e3), .val (.int e5), .val (.int e6), .val (.int e8), .val (.int e9)]) at_504 rfl rfl ?_
                        refine g_goto K X257 (pc' := 570) at_506 (by decide) ?_
                        refine g_aload K X257 (pc' := 572) at_570 rfl rfl rfl ?_
                        refine g_iload K X257 (pc' := 574) at_572 rfl rfl ?_
                        refine g_iload K X257 (pc' := 576) at_574 rfl rfl ?_
                        refine g_callSJ K X257 (pc' := 579) (argsL := [.ref a3, .int q, .int (q + v)]) (rest := []) 0 at_576 rfl (hw _ (List.mem_of_getElem? (i := 16) rfl)) (hw _ (List.mem_of_getElem? (i := 17) rfl)) (hw _ (List.mem_of_getElem? (i := 18) rfl)) (hw _ (List.mem_of_getElem? (i := 19) rfl)) (by decide) (rm_key l Z a0 hw a3 q (q + v) t (t + len) 13 f237 h233 n0 X257.z A236 hrng ht hto (by omega) (by omega) (by omega)) (by decide) (by decide) (by decide) (by decide) (lenOf pd_1 rfl) rfl rfl (Nat.le_of_ble_eq_true rfl) (fun r T270 X271 hP => ?_)
                        have hr : r = -1 := hP.2 (fun q => hg8.1 b493 (by have h9 : okD (f237 (t + 8)) := q.2.2.2 8 (by decide) (by decide) (by decide); rw [hf8] at h9; exact h9))
                        refine g_lload K X271 (pc' := 581) at_579 rfl rfl ?_
                        refine g_lcmp_ne K X271 (pc1 := 582) (pc' := 589) (pc'' := 585) r.toInt (-1) at_581 rfl at_582 (by decide) rfl rfl rfl ?_ ?_
                        · intro b582
                          exact absurd (congrArg Int64.toInt hr) b582
                        · intro b582
                          refine g_iconst K X271 (pc' := 586) (v := (1 : Int32)) at_585 rfl rfl ?_
                          refine g_goto K X271 (pc' := 590) at_586 (by decide) ?_
                          exact g_retN K X271 at_590 (by simp) (by decide) (by decide) rfl
                      · intro b493
                        refine g_iload K X257 (pc' := 498) at_496 rfl rfl ?_
                        refine g_if_ge K X257 (pc' := 509) (pc'' := 501) e9.toInt at_498 (by decide) rfl rfl ?_ ?_
                        · intro b498
                          refine g_iload K X257 (pc' := 511) at_509 rfl rfl ?_
                          refine g_i2l K X257 (pc' := 512) at_511 rfl ?_
                          refine g_ldc2J K X257 (pc' := 515) (v := (10000000 : Int64)) at_512 rfl (hw _ (List.mem_of_getElem? (i := 9) rfl)) ?_
                          refine g_lmul K X257 (pc' := 516) at_515 rfl ?_
                          refine g_iload K X257 (pc' := 518) at_516 rfl rfl ?_
                          refine g_i2l K X257 (pc' := 519) at_518 rfl ?_
                          refine g_ldc2J K X257 (pc' := 522) (v := (1000000 : Int64)) at_519 rfl (hw _ (List.mem_of_getElem? (i := 10) rfl)) ?_
                          refine g_lmul K X257 (pc' := 523) at_522 rfl ?_
                          refine g_ladd K X257 (pc' := 524) at_523 rfl ?_
                          refine g_iload K X257 (pc' := 526) at_524 rfl rfl ?_
                          refine g_i2l K X257 (pc' := 527) at_526 rfl ?_
                          refine g_ldc2J K X257 (pc' := 530) (v := (100000 : Int64)) at_527 rfl (hw _ (List.mem_of_getElem? (i := 11) rfl)) ?_
                          refine g_lmul K X257 (pc' := 531) at_530 rfl ?_
                          refine g_ladd K X257 (pc' := 532) at_531 rfl ?_
                          refine g_iload K X257 (pc' := 534) at_532 rfl rfl ?_
                          refine g_i2l K X257 (pc' := 535) at_534 rfl ?_
                          refine g_ldc2J K X257 (pc' := 538) (v := (10000 : Int64)) at_535 rfl (hw _ (List.mem_of_getElem? (i := 12) rfl)) ?_
                          refine g_lmul K X257 (pc' := 539) at_538 rfl ?_
                          refine g_ladd K X257 (pc' := 540) at_539 rfl ?_
                          refine g_iload K X257 (pc' := 542) at_540 rfl rfl ?_
                          refine g_i2l K X257 (pc' := 543) at_542 rfl ?_
                          refine g_ldc2J K X257 (pc' := 546) (v := (1000 : Int64)) at_543 rfl (hw _ (List.mem_of_getElem? (i := 13) rfl)) ?_
                          refine g_lmul K X257 (pc' := 547) at_546 rfl ?_
                          refine g_ladd K X257 (pc' := 548) at_547 rfl ?_
                          refine g_iload K X257 (pc' := 550) at_548 rfl rfl ?_
                          refine g_i2l K X257 (pc' := 551) at_550 rfl ?_
                          refine g_ldc2J K X257 (pc' := 554) (v := (100 : Int64)) at_551 rfl (hw _ (List.mem_of_getElem? (i := 14) rfl)) ?_
                          refine g_lmul K X257 (pc' := 555) at_554 rfl ?_
                          refine g_ladd K X257 (pc' := 556) at_555 rfl ?_
                          refine g_iload K X257 (pc' := 558) at_556 rfl rfl ?_
                          refine g_i2l K X257 (pc' := 559) at_558 rfl ?_
                          refine g_ldc2J K X257 (pc' := 562) (v := (10 : Int64)) at_559 rfl (hw _ (List.mem_of_getElem? (i := 15) rfl)) ?_
                          refine g_lmul K X257 (pc' := 563) at_562 rfl ?_
                          refine g_ladd K X257 (pc' := 564) at_563 rfl ?_
                          refine g_iload K X257 (pc' := 566) at_564 rfl rfl ?_
                          refine g_i2l K X257 (pc' := 567) at_566 rfl ?_
                          refine g_ladd K X257 (pc' := 568) at_567 rfl ?_
                          refine g_lstore K X257 (pc' := 570) (L' := #[.val (.long p1), .second, .val (.long p2), .second, .val (.int p3), .val (.int p4), .val (.int p5), .val (.ref a3), .val (.ref a53), .val (.int q), .val (.int v), .val (.int (q + v)), .val (.long ((((((((((e0).toInt64) * (10000000 : Int64)) + (((e1).toInt64) * (1000000 : Int64))) + (((e2).toInt64) * (100000 : Int64))) + (((e3).toInt64) * (10000 : Int64))) + (((e5).toInt64) * (1000 : Int64))) + (((e6).toInt64) * (100 : Int64))) + (((e8).toInt64) * (10 : Int64))) + ((e9).toInt64))), .second, .val (.int e0), .val (.int e1), .val (.int e2), .val (.int e3), .val (.int e5), .val (.int e6), .val (.int e8), .val (.int e9)]) at_568 rfl rfl ?_
                          refine g_aload K X257 (pc' := 572) at_570 rfl rfl rfl ?_
                          refine g_iload K X257 (pc' := 574) at_572 rfl rfl ?_
                          refine g_iload K X257 (pc' := 576) at_574 rfl rfl ?_
                          refine g_callSJ K X257 (pc' := 579) (argsL := [.ref a3, .int q, .int (q + v)]) (rest := []) 0 at_576 rfl (hw _ (List.mem_of_getElem? (i := 16) rfl)) (hw _ (List.mem_of_getElem? (i := 17) rfl)) (hw _ (List.mem_of_getElem? (i := 18) rfl)) (hw _ (List.mem_of_getElem? (i := 19) rfl)) (by decide) (rm_key l Z a0 hw a3 q (q + v) t (t + len) 13 f237 h233 n0 X257.z A236 hrng ht hto (by omega) (by omega) (by omega)) (by decide) (by decide) (by decide) (by decide) (lenOf pd_1 rfl) rfl rfl (Nat.le_of_ble_eq_true rfl) (fun r T272 X273 hP => ?_)
                          rw [hw4] at b365
                          rw [hw7] at b375
                          have hall : allD (fun k => f237 (t + k)) 10 := by
                            intro j hj h4 h7
                            have hj' : j = 0 ∨ j = 1 ∨ j = 2 ∨ j = 3 ∨ j = 5 ∨ j = 6 ∨ j = 8 ∨ j = 9 := by omega
                            rcases hj' with rfl | rfl | rfl | rfl | rfl | rfl | rfl | rfl
                            · show okD (f237 (t + 0)); rw [hf0]; exact (hg0.2 (by omega)).1
                            · show okD (f237 (t + 1)); rw [hf1]; exact (hg1.2 (by omega)).1
                            · show okD (f237 (t + 2)); rw [hf2]; exact (hg2.2 (by omega)).1
                            · show okD (f237 (t + 3)); rw [hf3]; exact (hg3.2 (by omega)).1
                            · show okD (f237 (t + 5)); rw [hf5]; exact (hg5.2 (by omega)).1
                            · show okD (f237 (t + 6)); rw [hf6]; exact (hg6.2 (by omega)).1
                            · show okD (f237 (t + 8)); rw [hf8]; exact (hg8.2 (by omega)).1
                            · show okD (f237 (t + 9)); rw [hf9]; exact (hg9.2 (by omega)).1
                          have hr := hP.1 ⟨by omega, by show (f237 (t + 4)).toInt = 45; rw [hf4]; exact b365, by show (f237 (t + 7)).toInt = 45; rw [hf7]; exact b375, hall⟩
                          rw [own_acc] at hr
                          rw [hf0, ← (hg0.2 (by omega)).2, hf1, ← (hg1.2 (by omega)).2, hf2, ← (hg2.2 (by omega)).2, hf3, ← (hg3.2 (by omega)).2, hf5, ← (hg5.2 (by omega)).2, hf6, ← (hg6.2 (by omega)).2, hf8, ← (hg8.2 (by omega)).2, hf9, ← (hg9.2 (by omega)).2] at hr
                          refine g_lload K X273 (pc' := 581) at_579 rfl rfl ?_
                          refine g_lcmp_ne K X273 (pc1 := 582) (pc' := 589) (pc'' := 585) r.toInt ((((((((((e0).toInt64) * (10000000 : Int64)) + (((e1).toInt64) * (1000000 : Int64))) + (((e2).toInt64) * (100000 : Int64))) + (((e3).toInt64) * (10000 : Int64))) + (((e5).toInt64) * (1000 : Int64))) + (((e6).toInt64) * (100 : Int64))) + (((e8).toInt64) * (10 : Int64))) + ((e9).toInt64)).toInt at_581 rfl at_582 (by decide) rfl rfl rfl ?_ ?_
                          · intro b582
                            exact absurd (congrArg Int64.toInt hr) b582
                          · intro b582
                            refine g_iconst K X273 (pc' := 586) (v := (1 : Int32)) at_585 rfl rfl ?_
                            refine g_goto K X273 (pc' := 590) at_586 (by decide) ?_
                            exact g_retN K X273 at_590 (by simp) (by decide) (by decide) rfl
                        · intro b498
                          refine g_ldc2J K X257 (pc' := 504) (v := ((-1) : Int64)) at_501 rfl (hw _ (List.mem_of_getElem? (i := 21) rfl)) ?_
                          refine g_lstore K X257 (pc' := 506) (L' := #[.val (.long p1), .second, .val (.long p2), .second, .val (.int p3), .val (.int p4), .val (.int p5), .val (.ref a3), .val (.ref a53), .val (.int q), .val (.int v), .val (.int (q + v)), .val (.long ((-1) : Int64)), .second, .val (.int e0), .val (.int e1), .val (.int e2), .val (.int e3), .val (.int e5), .val (.int e6), .val (.int e8), .val (.int e9)]) at_504 rfl rfl ?_
                          refine g_goto K X257 (pc' := 570) at_506 (by decide) ?_
                          refine g_aload K X257 (pc' := 572) at_570 rfl rfl rfl ?_
                          refine g_iload K X257 (pc' := 574) at_572 rfl rfl ?_
                          refine g_iload K X257 (pc' := 576) at_574 rfl rfl ?_
                          refine g_callSJ K X257 (pc' := 579) (argsL := [.ref a3, .int q, .int (q + v)]) (rest := []) 0 at_576 rfl (hw _ (List.mem_of_getElem? (i := 16) rfl)) (hw _ (List.mem_of_getElem? (i := 17) rfl)) (hw _ (List.mem_of_getElem? (i := 18) rfl)) (hw _ (List.mem_of_getElem? (i := 19) rfl)) (by decide) (rm_key l Z a0 hw a3 q (q + v) t (t + len) 13 f237 h233 n0 X257.z A236 hrng ht hto (by omega) (by omega) (by omega)) (by decide) (by decide) (by decide) (by decide) (lenOf pd_1 rfl) rfl rfl (Nat.le_of_ble_eq_true rfl) (fun r T274 X275 hP => ?_)
                          have hr : r = -1 := hP.2 (fun q => hg9.1 b498 (by have h9 : okD (f237 (t + 9)) := q.2.2.2 9 (by decide) (by decide) (by decide); rw [hf9] at h9; exact h9))
                          refine g_lload K X275 (pc' := 581) at_579 rfl rfl ?_
                          refine g_lcmp_ne K X275 (pc1 := 582) (pc' := 589) (pc'' := 585) r.toInt (-1) at_581 rfl at_582 (by decide) rfl rfl rfl ?_ ?_
                          · intro b582
                            exact absurd (congrArg Int64.toInt hr) b582
                          · intro b582
                            refine g_iconst K X275 (pc' := 586) (v := (1 : Int32)) at_585 rfl rfl ?_
                            refine g_goto K X275 (pc' := 590) at_586 (by decide) ?_
                            exact g_retN K X275 at_590 (by simp) (by decide) (by decide) rfl
        · intro b375
          refine g_ldc2J K X234 (pc' := 381) (v := ((-1) : Int64)) at_378 rfl (hw _ (List.mem_of_getElem? (i := 21) rfl)) ?_
          refine g_lstore K X234 (pc' := 383) (L' := #[.val (.long p1), .second, .val (.long p2), .second, .val (.int p3), .val (.int p4), .val (.int p5), .val (.ref a3), .val (.ref a53), .val (.int q), .val (.int v), .val (.int (q + v)), .val (.long ((-1) : Int64)), .second, .unset, .unset, .unset, .unset, .unset, .unset, .unset, .unset]) at_381 rfl rfl ?_
          refine g_goto K X234 (pc' := 570) at_383 (by decide) ?_
          refine g_aload K X234 (pc' := 572) at_570 rfl rfl rfl ?_
          refine g_iload K X234 (pc' := 574) at_572 rfl rfl ?_
          refine g_iload K X234 (pc' := 576) at_574 rfl rfl ?_
          refine g_callSJ K X234 (pc' := 579) (argsL := [.ref a3, .int q, .int (q + v)]) (rest := []) 0 at_576 rfl (hw _ (List.mem_of_getElem? (i := 16) rfl)) (hw _ (List.mem_of_getElem? (i := 17) rfl)) (hw _ (List.mem_of_getElem? (i := 18) rfl)) (hw _ (List.mem_of_getElem? (i := 19) rfl)) (by decide) (rm_key l Z a0 hw a3 q (q + v) t (t + len) 13 f237 h233 n0 X234.z A236 hrng ht hto (by omega) (by omega) (by omega)) (by decide) (by decide) (by decide) (by decide) (lenOf pd_1 rfl) rfl rfl (Nat.le_of_ble_eq_true rfl) (fun r T276 X277 hP => ?_)
          have hr : r = -1 := hP.2 (fun q => by have h9 : (f237 (t + 7)).toInt = 45 := q.2.2.1; rw [hf7] at h9; rw [hw7] at b375; exact b375 h9)
          refine g_lload K X277 (pc' := 581) at_579 rfl rfl ?_
          refine g_lcmp_ne K X277 (pc1 := 582) (pc' := 589) (pc'' := 585) r.toInt (-1) at_581 rfl at_582 (by decide) rfl rfl rfl ?_ ?_
          · intro b582
            exact absurd (congrArg Int64.toInt hr) b582
          · intro b582
            refine g_iconst K X277 (pc' := 586) (v := (1 : Int32)) at_585 rfl rfl ?_
            refine g_goto K X277 (pc' := 590) at_586 (by decide) ?_
            exact g_retN K X277 at_590 (by simp) (by decide) (by decide) rfl
    · intro b348
      refine g_ldc2J K X234 (pc' := 354) (v := ((-1) : Int64)) at_351 rfl (hw _ (List.mem_of_getElem? (i := 21) rfl)) ?_
      refine g_lstore K X234 (pc' := 356) (L' := #[.val (.long p1), .second, .val (.long p2), .second, .val (.int p3), .val (.int p4), .val (.int p5), .val (.ref a3), .val (.ref a53), .val (.int q), .val (.int v), .val (.int (q + v)), .val (.long ((-1) : Int64)), .second, .unset, .unset, .unset, .unset, .unset, .unset, .unset, .unset]) at_354 rfl rfl ?_
      refine g_goto K X234 (pc' := 570) at_356 (by decide) ?_
      refine g_aload K X234 (pc' := 572) at_570 rfl rfl rfl ?_
      refine g_iload K X234 (pc' := 574) at_572 rfl rfl ?_
      refine g_iload K X234 (pc' := 576) at_574 rfl rfl ?_
      refine g_callSJ K X234 (pc' := 579) (argsL := [.ref a3, .int q, .int (q + v)]) (rest := []) 0 at_576 rfl (hw _ (List.mem_of_getElem? (i := 16) rfl)) (hw _ (List.mem_of_getElem? (i := 17) rfl)) (hw _ (List.mem_of_getElem? (i := 18) rfl)) (hw _ (List.mem_of_getElem? (i := 19) rfl)) (by decide) (rm_key l Z a0 hw a3 q (q + v) t (t + len) 13 f237 h233 n0 X234.z A236 hrng ht hto (by omega) (by omega) (by omega)) (by decide) (by decide) (by decide) (by decide) (lenOf pd_1 rfl) rfl rfl (Nat.le_of_ble_eq_true rfl) (fun r T278 X279 hP => ?_)
      have hr : r = -1 := hP.2 (fun q => by have := q.1; omega)
      refine g_lload K X279 (pc' := 581) at_579 rfl rfl ?_
      refine g_lcmp_ne K X279 (pc1 := 582) (pc' := 589) (pc'' := 585) r.toInt (-1) at_581 rfl at_582 (by decide) rfl rfl rfl ?_ ?_
      · intro b582
        exact absurd (congrArg Int64.toInt hr) b582
      · intro b582
        refine g_iconst K X279 (pc' := 586) (v := (1 : Int32)) at_585 rfl rfl ?_
        refine g_goto K X279 (pc' := 590) at_586 (by decide) ?_
        exact g_retN K X279 at_590 (by simp) (by decide) (by decide) rfl
  refine g_iload K X234 (pc' := 313) at_311 rfl rfl ?_
  refine g_iconst K X234 (pc' := 314) (v := (3 : Int32)) at_313 rfl rfl ?_
  refine g_iand K X234 (pc' := 315) at_314 rfl ?_
  refine g_if_eq K X234 (pc' := 325) (pc'' := 318) (p4 &&& (3 : Int32)).toInt at_315 (by decide) rfl rfl ?_ ?_
  · intro b315
    refine g_iload K X234 (pc' := 327) at_325 rfl rfl ?_
    refine g_iconst K X234 (pc' := 328) (v := (2 : Int32)) at_327 rfl rfl ?_
    refine g_iushr K X234 (pc' := 329) at_328 rfl ?_
    refine g_bipush K X234 (pc' := 331) (v := (14 : Int32)) at_329 rfl rfl ?_
    refine g_iload K X234 (pc' := 333) at_331 rfl rfl ?_
    refine g_isub K X234 (pc' := 334) at_333 rfl ?_
    refine g_irem K X234 (pc' := 335) at_334 rfl (fun z => by have := own_14 q t ht ht3; rw [z, show (0 : Int32).toInt = 0 from rfl] at this; omega) ?_
    refine g_istore K X234 (pc' := 337) (L' := #[.val (.long p1), .second, .val (.long p2), .second, .val (.int p3), .val (.int p4), .val (.int p5), .val (.ref a3), .val (.ref a53), .val (.int q), .val (.int ((jushr p4 (2 : Int32)) % ((14 : Int32) - q))), .unset, .unset, .unset, .unset, .unset, .unset, .unset, .unset, .unset, .unset, .unset]) at_335 rfl rfl ?_
    exact J337 _ (own_len p4 q t ht ht3).1 (own_len p4 q t ht ht3).2
  · intro b315
    refine g_bipush K X234 (pc' := 320) (v := (10 : Int32)) at_318 rfl rfl ?_
    refine g_istore K X234 (pc' := 322) (L' := #[.val (.long p1), .second, .val (.long p2), .second, .val (.int p3), .val (.int p4), .val (.int p5), .val (.ref a3), .val (.ref a53), .val (.int q), .val (.int (10 : Int32)), .unset, .unset, .unset, .unset, .unset, .unset, .unset, .unset, .unset, .unset, .unset]) at_320 rfl rfl ?_
    refine g_goto K X234 (pc' := 337) at_322 (by decide) ?_
    exact J337 _ (by decide) (by have : (10 : Int32).toInt = 10 := rfl; omega)

set_option maxRecDepth 65536 in
set_option maxHeartbeats 40000000 in
theorem comes_1 {Post : Tables → Env → Array Value → State → Outcome → State → Prop} (hpost : ∀ tb e args s v u, (limb_1_1.after args s (.returned v) u = true ∧ limb_1_2.after args s (.returned v) u = true ∧ True) → FrameEnd s (.returned v) u (Jvm.fieldLocs frame_1_writes args s ++ Jvm.arrayLocs frame_1_arrays args s ++ Jvm.staticLocs frame_1_statics s) 16 128 → Post tb e args s (.returned v) u) :
    ArmFor flags0 classFile x code maxLocals ret World_1 tables_1 room_1 Calls_1 rest_1 Pre_1 Post := by
  intro l hfl _ _ p e ha hc hk s m args below hf hA hF happ hP
  obtain ⟨hcalls, hrest, hpre⟩ := hP
  obtain ⟨-, -, -, hnamed, -, -, -, hat⟩ := (Spec.applies_iff hf).mp happ
  obtain ⟨hg, hn⟩ := and_e (Cond.before_iff.mp (show (Jvm.Cond.and given_1 narrow_1).before args s = true from hpre))
  obtain ⟨g0, r0⟩ := and_e hg
  obtain ⟨g1, r1⟩ := and_e r0
  obtain ⟨g2, r2⟩ := and_e r1
  obtain ⟨g3, r3⟩ := and_e r2
  obtain ⟨g4, r4⟩ := and_e r3
  obtain ⟨w0, w1, w2, w3, w4, rfl⟩ : ∃ w0 w1 w2 w3 w4 : Value, args = #[w0, w1, w2, w3, w4] := by
    have hs : args.size = 5 := by simpa [Cond.value, given_1] using g0
    obtain ⟨L⟩ := args
    match L, hs with
    | [w0, w1, w2, w3, w4], _ => exact ⟨w0, w1, w2, w3, w4, rfl⟩
  have hw := fun d (hd : d ∈ tables_1) => atoms_spec (ws := Jvm.Cond.code x code maxLocals ret :: tables_1) hat d (List.mem_cons_of_mem _ hd)
  obtain ⟨i0, ei0⟩ := isL_v g1
  obtain rfl : w0 = (.long i0) := Option.some.inj ei0
  obtain ⟨i1, ei1⟩ := isL_v g2
  obtain rfl : w1 = (.long i1) := Option.some.inj ei1
  obtain ⟨i2, ei2⟩ := is_v g3
  obtain rfl : w2 = (.int i2) := Option.some.inj ei2
  obtain ⟨i3, ei3⟩ := is_v g4
  obtain rfl : w3 = (.int i3) := Option.some.inj ei3
  obtain ⟨i4, ei4⟩ := is_v r4
  obtain rfl : w4 = (.int i4) := Option.some.inj ei4
  obtain ⟨n, o, h1, h2, h3, _, L, rfl, ⟨rfl, N⟩, hq⟩ := rm0 l s _ hw i0 i1 i2 i3 i4 s.heap s.heap.size (Nat.le_refl _) tables_1 p e ha hc hk s m _ below hf ((Spec.applies_iff_loose hf).mp happ).1 ⟨rfl, State.Warmed39.refl s, rfl⟩ trivial
  refine ⟨n, _, h1, h2, h3, hpost _ _ _ _ _ _ ⟨Cond.after_iff.mpr rfl, Cond.after_iff.mpr (eq_i res_at (Term.int_eval (1)) rfl), trivial⟩ ⟨hq.1, hq.2.1, (hq.2.2.sift fun y hy => Or.inr (N y hy)).mono (by decide) (by decide)⟩⟩
theorem main_1_1 : Claimed_1_1 := comes_1 fun _ _ _ _ _ _ h hF => ⟨h.1, hF⟩
theorem main_1_2 : Claimed_1_2 := comes_1 fun _ _ _ _ _ _ h hF => ⟨h.2.1, hF⟩
end Jvm.Pilot.@@N@@
namespace Jvm.Pilot.@@N@@
open Jvm Jvm.ClassFile Sem Op Lib Jvm.Free Jvm.Stand Jvm.Pilot.@@N@@.Jvm.D
/-! MADE BY PROGRAM (witnessworld.py) out of the Statement's table words and the real class files: 9 classes; the members and pool entries that the words name. The judged class is class 1, her method 3. -/
namespace start1
open Jvm.ClassFile
def u (s : String) : CpInfo := .utf8 (stringToUtf16 s)
/-- a pool by its gaps: so many unusable entries, then the entry; so many at the end -/
def gap : Nat → List CpInfo → List CpInfo
  | 0, r => r
  | n + 1, r => .unusable :: gap n r
def poolList (es : List (Nat × CpInfo)) (last : Nat) : List CpInfo := es.foldr (fun e r => gap e.1 (e.2 :: r)) (gap last [])
def pool (es : List (Nat × CpInfo)) (last : Nat) : Array CpInfo := ⟨poolList es last⟩
def fileOf (pool : Array CpInfo) (this : Nat) (attrs : Array Attribute := #[]) (ms : Array MethodInfo := #[]) (fl : Nat := 33) (sup : Nat := 0) (ifs : Array Nat := #[]) (fds : Array FieldInfo := #[]) : ClassFile where
  minorVersion := 0
  majorVersion := 65
  constantPool := pool
  accessFlags := fl
  thisClass := this
  superClass := sup
  interfaces := ifs
  fields := fds
  methods := ms
  attributes := attrs
def plain (name : String) (sup : Option ClassId) : Class where
  name := name
  kind := .ordinary
  loader := none
  accessFlags := 33
  super := sup
  interfaces := #[]
  cf := none
  fields := #[]
  methods := #[]
  instanceTypes := #[]
  staticTypes := #[]
  resolved := #[]
  callSites := []
  init := .initialized
  statics := none
  mirror := none

def pool0 : Array CpInfo := pool [(5, u "<init>"), (0, u "()V"), (1, .class_ 10), (1, u "java/lang/Object")] 113

def k0m0 : Method := { name := "<init>", desc := "()V", sig := { parameters := [], returnType := none }, accessFlags := 1, code := none }
/-- java/lang/Object -/
def k0 : Class := { plain "java/lang/Object" none with
  accessFlags := 33
  interfaces := #[]
  cf := some (fileOf pool0 8 #[] #[{ accessFlags := 1, nameIndex := 5, descriptorIndex := 6, attributes := #[] }] 33 0 #[] #[])
  fields := #[]
  methods := #[k0m0]
  instanceTypes := #[]
  staticTypes := #[]
  resolved := Array.replicate 124 none
  statics := none }

def pool1 : Array CpInfo := pool [(2, .class_ 4), (1, u "java/lang/Object"), (0, u "<init>"), (0, u "()V"), (0, .long 1023), (1, .methodref 10 11), (0, .class_ 12), (0, .nameAndType 13 14), (0, u "com/example/benchwright/benchwright/data/DateTextKeyPinLaw"), (0, u "draw"), (0, u "(JZ)B"), (0, .long 18446744073709551615), (1, .methodref 10 18), (0, .nameAndType 19 20), (0, u "digit"), (0, u "(B)I"), (0, .long 10000000), (1, .long 1000000), (1, .long 100000), (1, .long 10000), (1, .long 1000), (1, .long 100), (1, .long 10), (1, .methodref 36 37), (0, .class_ 38), (0, .nameAndType 39 40), (0, u "com/example/benchwright/benchwright/data/DateText"), (0, u "key"), (0, u "([BII)J"), (3, u "law"), (0, u "(JJIII)Z")] 4

def k1m0 : Method := { name := "<init>", desc := "()V", sig := { parameters := [], returnType := none }, accessFlags := 1, code := none }
def k1c1 : Code := { maxStack := 4, maxLocals := 6, code := method_2_code, exceptionTable := #[], attributes := #[] }
def k1m1 : Method := { name := "draw", desc := "(JZ)B", sig := { parameters := [.long, .boolean], returnType := some .byte }, accessFlags := 10, code := some k1c1 }
def k1c2 : Code := { maxStack := 2, maxLocals := 1, code := method_3_code, exceptionTable := #[], attributes := #[] }
def k1m2 : Method := { name := "digit", desc := "(B)I", sig := { parameters := [.byte], returnType := some .int }, accessFlags := 10, code := some k1c2 }
def k1c3 : Code := { maxStack := 6, maxLocals := 22, code := code, exceptionTable := #[], attributes := #[] }
def k1m3 : Method := { name := "law", desc := "(JJIII)Z", sig := { parameters := [.long, .long, .int, .int, .int], returnType := some .boolean }, accessFlags := 9, code := some k1c3 }
/-- com/example/benchwright/benchwright/data/DateTextKeyPinLaw -/
def k1 : Class := { plain "com/example/benchwright/benchwright/data/DateTextKeyPinLaw" (some 0) with
  accessFlags := 49
  interfaces := #[]
  cf := some (fileOf pool1 10 #[] #[{ accessFlags := 1, nameIndex := 5, descriptorIndex := 6, attributes := #[] }, { accessFlags := 10, nameIndex := 13, descriptorIndex := 14, attributes := #[] }, { accessFlags := 10, nameIndex := 19, descriptorIndex := 20, attributes := #[] }, { accessFlags := 9, nameIndex := 44, descriptorIndex := 45, attributes := #[] }] 49 2 #[] #[])
  fields := #[]
  methods := #[k1m0, k1m1, k1m2, k1m3]
  instanceTypes := #[]
  staticTypes := #[]
  resolved := Array.replicate 50 none
  statics := none }

def pool2 : Array CpInfo := pool [(2, .class_ 4), (1, u "java/lang/Object"), (0, u "<init>"), (0, u "()V"), (9, .class_ 18), (1, u "com/example/benchwright/benchwright/data/DateText"), (0, u "key"), (0, u "([BII)J"), (24, .long 18446744073709551615), (1, .long 10), (5, u "LENGTH"), (0, u "I")] 24

def k2m0 : Method := { name := "<init>", desc := "()V", sig := { parameters := [], returnType := none }, accessFlags := 2, code := none }
def k2c1 : Code := { maxStack := 4, maxLocals := 7, code := prog_103_method_4_code, exceptionTable := #[], attributes := #[] }
def k2m1 : Method := { name := "key", desc := "([BII)J", sig := { parameters := [(.array .byte), .int, .int], returnType := some .long }, accessFlags := 8, code := some k2c1 }
/-- com/example/benchwright/benchwright/data/DateText -/
def k2 : Class := { plain "com/example/benchwright/benchwright/data/DateText" (some 0) with
  accessFlags := 48
  interfaces := #[]
  cf := some (fileOf pool2 16 #[] #[{ accessFlags := 2, nameIndex := 5, descriptorIndex := 6, attributes := #[] }, { accessFlags := 8, nameIndex := 19, descriptorIndex := 20, attributes := #[] }] 48 2 #[] #[{ accessFlags := 24, nameIndex := 53, descriptorIndex := 54, attributes := #[] }])
  fields := #[{ name := "LENGTH", type := .int, accessFlags := 24, slot := 0, constantValue := 0 }]
  methods := #[k2m0, k2m1]
  instanceTypes := #[]
  staticTypes := #[.int]
  resolved := Array.replicate 79 none
  statics := none }

def pool3 : Array CpInfo := pool [(1, u "java/lang/Cloneable"), (0, .class_ 1), (0, u "java/lang/Object"), (0, .class_ 3)] 3

/-- java/lang/Cloneable -/
def k3 : Class := { plain "java/lang/Cloneable" (some 0) with
  accessFlags := 1537
  interfaces := #[]
  cf := some (fileOf pool3 2 #[] #[] 1537 4 #[] #[])
  fields := #[]
  methods := #[]
  instanceTypes := #[]
  staticTypes := #[]
  resolved := Array.replicate 8 none
  statics := none }

def pool4 : Array CpInfo := pool [(1, u "java/io/Serializable"), (0, .class_ 1), (0, u "java/lang/Object"), (0, .class_ 3)] 3

/-- java/io/Serializable -/
def k4 : Class := { plain "java/io/Serializable" (some 0) with
  accessFlags := 1537
  interfaces := #[]
  cf := some (fileOf pool4 2 #[] #[] 1537 4 #[] #[])
  fields := #[]
  methods := #[]
  instanceTypes := #[]
  staticTypes := #[]
  resolved := Array.replicate 8 none
  statics := none }

/-- the primitive byte -/
def k5 : Class := { plain "byte" none with kind := .primitive 'B', accessFlags := 0x411 }
/-- [B -/
def k6 : Class := { plain "[B" (some 0) with kind := .array 5 .byte, interfaces := #[3, 4], accessFlags := 1041 }

/-- the primitive int -/
def k7 : Class := { plain "int" none with kind := .primitive 'I', accessFlags := 0x411 }
/-- [I -/
def k8 : Class := { plain "[I" (some 0) with kind := .array 7 .int, interfaces := #[3, 4], accessFlags := 1041 }

def heap : Heap := #[]
def classes : Array Class := #[k0, k1, k2, k3, k4, k5, k6, k7, k8]
def interned : List (Array UInt16 × Addr) := []
def slotsUsed : Nat := 0
def theMethod : MethodId := ⟨1, 3⟩
def args0 : Array Value := #[.long 5, .long 7, .int 3, .int 2, .int 1]
def aboutOver (below : List Frame) : State where
  vm := { classes := classes, interned := interned.toArray }
  heap := heap
  slotsUsed := slotsUsed
  threads := #[{ frames := .invoking theMethod args0 :: below }]
def below0 : List Frame := [.native { method := ⟨0, 0⟩, args := #[] }]
def about1 : State := aboutOver below0
def p0 : Program := .bare "" "" ""
def e0 : Env := launch0.env 0 0 0
theorem w_frames : about1.frames = Frame.invoking theMethod args0 :: below0 := rfl
set_option maxRecDepth 65536 in
theorem w_args : argsFit about1.vm theMethod args0 = true := by decide +kernel
set_option maxRecDepth 65536 in
theorem w_heap : heapFits about1 = true := by decide +kernel
set_option maxRecDepth 65536 in
theorem w_runnable : about1.curStatus? = some .runnable := by decide +kernel
set_option maxRecDepth 65536 in
theorem w_alone : about1.alone = true := by decide +kernel
set_option maxRecDepth 65536 in
theorem w_named : about1.methodNamed? x = some theMethod := by decide +kernel
set_option maxRecDepth 65536 in
theorem w_hears : about1.hears theMethod below0 = true := by decide +kernel
set_option maxRecDepth 65536 in
theorem w_ripe : about1.ripe theMethod args0 below0 = true := by decide +kernel
theorem w_running : about1.status = .running := rfl
set_option maxRecDepth 65536 in
theorem w_room : about1.hasRoom e0.platform room_1 = true :=
  launch0.hasRoom_least _ room_1 (by decide +kernel) (by decide +kernel) (by decide +kernel) (by decide +kernel) (by decide +kernel) (by decide +kernel)
theorem allAtoms_all (ts : List Jvm.Cond) (a : Array Jvm.Value) (st : Jvm.State) : (allAtoms ts).before a st = ts.all (fun c => c.before a st) := by
  induction ts with
  | nil => rfl
  | cons c t ih =>
    show (Jvm.Cond.and c (allAtoms t)).before a st = _
    rw [Jvm.Cond.before_and, ih, List.all_cons]
def words1 : List Jvm.Cond := Jvm.Cond.code x code maxLocals ret :: tables_1
/-- a 'code' word, met by the world's own term for the bytes: nothing is compared byte by byte -/
theorem code_word {y : MethodName} {bytes : ByteArray} {mx : Nat} {rt : Option FieldType} {a : Array Value} {s : State} {m : MethodId} {meth : Method} {c : Code} (h1 : s.methodNamed? y = some m) (h2 : s.vm.method? m = some meth) (h3 : meth.code = some c) (h4 : c.code = bytes)
    (h5 : (c.maxLocals == mx && c.exceptionTable.isEmpty && decide (c.maxStack ≤ mostOperands) && decide (meth.sig.returnType = rt) && !meth.locks && decide (parseMethodDescriptor y.desc = some meth.sig)) = true) : (Jvm.Cond.code y bytes mx rt).before a s = true := by
  simp only [Bool.and_eq_true, beq_iff_eq, Bool.not_eq_true', decide_eq_true_eq] at h5
  obtain ⟨⟨⟨⟨⟨g1, g2⟩, g3⟩, g4⟩, g5⟩, g6⟩ := h5
  simp [Cond.before, Cond.holds, Cond.value, h1, h2, h3, h4, g1, g2, g3, g4, g5, g6]
def isCode : Jvm.Cond → Bool
  | .code _ _ _ _ => true
  | _ => false
theorem all_split {L : List Jvm.Cond} {P : Jvm.Cond → Bool} (h1 : L.all (fun c => isCode c || P c) = true) (h2 : ∀ c ∈ L.filter isCode, P c = true) : L.all P = true := by
  refine List.all_eq_true.mpr fun c hc => ?_
  have h := List.all_eq_true.mp h1 c hc
  rcases Bool.eq_false_or_eq_true (isCode c) with hi | hi
  · exact h2 c (List.mem_filter.mpr ⟨hc, hi⟩)
  · simpa [hi] using h
set_option maxRecDepth 65536 in
theorem w_c0 : (Jvm.Cond.code x code maxLocals ret).before args0 about1 = true := code_word (m := ⟨1, 3⟩) (meth := k1m3) (c := k1c3) (by decide +kernel) rfl rfl rfl (by decide +kernel)
set_option maxRecDepth 65536 in
theorem w_c1 : (Jvm.Cond.code ({ cls := "com/example/benchwright/benchwright/data/DateTextKeyPinLaw", name := "draw", desc := "(JZ)B" } : Jvm.MethodName) method_2_code (6 : Nat) (Option.some Jvm.ClassFile.FieldType.byte)).before args0 about1 = true := code_word (m := ⟨1, 1⟩) (meth := k1m1) (c := k1c1) (by decide +kernel) rfl rfl rfl (by decide +kernel)
set_option maxRecDepth 65536 in
theorem w_c2 : (Jvm.Cond.code ({ cls := "com/example/benchwright/benchwright/data/DateTextKeyPinLaw", name := "digit", desc := "(B)I" } : Jvm.MethodName) method_3_code (1 : Nat) (Option.some Jvm.ClassFile.FieldType.int)).before args0 about1 = true := code_word (m := ⟨1, 2⟩) (meth := k1m2) (c := k1c2) (by decide +kernel) rfl rfl rfl (by decide +kernel)
set_option maxRecDepth 65536 in
theorem w_c3 : (Jvm.Cond.code ({ cls := "com/example/benchwright/benchwright/data/DateText", name := "key", desc := "([BII)J" } : Jvm.MethodName) prog_103_method_4_code (7 : Nat) (Option.some Jvm.ClassFile.FieldType.long)).before args0 about1 = true := code_word (m := ⟨2, 1⟩) (meth := k2m1) (c := k2c1) (by decide +kernel) rfl rfl rfl (by decide +kernel)
def codes1 : List Jvm.Cond := [Jvm.Cond.code x code maxLocals ret, Jvm.Cond.code ({ cls := "com/example/benchwright/benchwright/data/DateTextKeyPinLaw", name := "draw", desc := "(JZ)B" } : Jvm.MethodName) method_2_code (6 : Nat) (Option.some Jvm.ClassFile.FieldType.byte), Jvm.Cond.code ({ cls := "com/example/benchwright/benchwright/data/DateTextKeyPinLaw", name := "digit", desc := "(B)I" } : Jvm.MethodName) method_3_code (1 : Nat) (Option.some Jvm.ClassFile.FieldType.int), Jvm.Cond.code ({ cls := "com/example/benchwright/benchwright/data/DateText", name := "key", desc := "([BII)J" } : Jvm.MethodName) prog_103_method_4_code (7 : Nat) (Option.some Jvm.ClassFile.FieldType.long)]
set_option maxRecDepth 65536 in
theorem codes_eq : words1.filter isCode = codes1 := rfl
theorem w_codes : ∀ c ∈ words1.filter isCode, c.before args0 about1 = true := by
  rw [codes_eq]
  intro c hc
  simp only [codes1, List.mem_cons, List.not_mem_nil, or_false] at hc
  rcases hc with rfl | rfl | rfl | rfl
  · exact w_c0
  · exact w_c1
  · exact w_c2
  · exact w_c3
set_option maxRecDepth 65536 in
theorem w_t1 : words1.all (fun c => isCode c || c.before args0 about1) = true := by decide +kernel
theorem w_tables : (allAtoms (Jvm.Cond.code x code maxLocals ret :: tables_1)).before args0 about1 = true := by
  rw [allAtoms_all]
  show words1.all (fun c => c.before args0 about1) = true
  refine all_split ?_ w_codes
  rw [w_t1]
set_option maxRecDepth 65536 in
theorem w_case : (Jvm.Cond.and given_1 narrow_1).before args0 about1 = true := by decide +kernel
theorem w_applies : (headSpec (Jvm.Cond.code x code maxLocals ret :: tables_1) room_1).applies x e0.platform about1 = true :=
  (Spec.applies_iff w_frames).mpr ⟨w_running, w_runnable, w_alone, w_named, w_hears, w_ripe, w_room, w_tables⟩
theorem atStart : AtStart classFile x code maxLocals ret World_1 tables_1 room_1 Calls_1 rest_1 Pre_1 launch0 p0 e0 about1 theMethod args0 below0 :=
  ⟨lists_1, trivial, launch0.admits_env _ _ _, launch0.least_env, fairChoices_fair.cas, fairChoices_fair.clock, w_frames, w_args, w_heap, w_applies, trivial, trivial, w_case⟩
end start1
theorem witness_1 : WitnessClaimed_1 := ⟨start1.p0, start1.e0, start1.about1, start1.theMethod, start1.args0, start1.below0, start1.atStart⟩
end Jvm.Pilot.@@N@@
