import JvmDerived
import JvmDerived.Pilot.@@N@@Statement
import JvmDerived.Pilot.@@N@@Code
set_option linter.unusedVariables false
set_option linter.unusedSimpArgs false
namespace Jvm.Pilot.@@N@@
open Jvm Jvm.ClassFile Sem Op Lib Jvm.Free Jvm.Stand Jvm.LawKit Jvm.RoadKit Bundle Jvm.Pilot.@@N@@.Jvm.D
section OwnKit
variable {Z : State} {p : Program} {l : Launch} {e : Env} {R : Room} {s : State} {m : MethodId} {args : Array Value} {below : List Frame} {meth : Method} {c : Code} {T : State} {h : Heap} {n0 C S cells slots : Nat} {Q : Option Value → Heap → Prop} {own nm : String} {bytes : ByteArray} {ml : Nat} {rt : Option FieldType} {a0 : Array Value}
/-- the walk's constant facts -/
def Cx (Z : State) (p : Program) (s : State) (m : MethodId) (meth : Method) (c : Code) (own : String) (bytes : ByteArray) (ml : Nat) (rt : Option FieldType) (nm : String) : Prop :=
  p.tables.exec = Jvm.exec ∧ Z.Warmed39 s.vm ∧ c.code = bytes ∧ c.maxLocals = ml ∧ s.vm.findClass own = some m.cls ∧ meth.sig.returnType = rt ∧ meth.locks = false ∧ meth.name = nm
/-- where the walk stands: state T, heap h -/
def Wk (p : Program) (l : Launch) (e : Env) (R : Room) (s : State) (m : MethodId) (args : Array Value) (below : List Frame) (meth : Method) (c : Code) (n0 : Nat) (T : State) (h : Heap) (cells slots : Nat) : Prop :=
  ∃ locs, Stand p l e R s m args below meth c T locs cells slots ∧ T.heap = h ∧ Fr n0 locs ∧ n0 ≤ h.size
theorem Wk.z (X : Wk p l e R s m args below meth c n0 T h cells slots) : n0 ≤ h.size := by
  obtain ⟨_, _, _, _, q⟩ := X
  exact q
/-- from t0 the body comes to its end with Q -/
def Fi (p : Program) (e : Env) (below : List Frame) (s : State) (n0 C S : Nat) (Q : Option Value → Heap → Prop) (t0 : State) : Prop :=
  ∃ s₂ o, Steps p.tables e below t0 s₂ ∧ s₂.status = .running ∧ Ended s₂ below o ∧ ∃ v L, o = .returned v ∧ (Q v s₂.heap ∧ Fr n0 L) ∧ FrameEnd s o s₂ L C S
theorem Fi.of {t t0 : State} (st : ∀ target, Steps p.tables e below t target → Steps p.tables e below t0 target) (k : Fi p e below s n0 C S Q t) : Fi p e below s n0 C S Q t0 := by
  obtain ⟨s₂, o, h1, r⟩ := k
  exact ⟨s₂, o, st _ h1, r⟩
theorem Fi.weak {Q' : Option Value → Heap → Prop} {t0 : State} (hq : ∀ v h, Q v h → Q' v h) (k : Fi p e below s n0 C S Q t0) : Fi p e below s n0 C S Q' t0 := by
  obtain ⟨s₂, o, h1, h2, h3, v, L, h4, ⟨h5, h6⟩, h7⟩ := k
  exact ⟨s₂, o, h1, h2, h3, v, L, h4, ⟨hq _ _ h5, h6⟩, h7⟩
/-- a method's contract -/
def Mt (l : Launch) (Z : State) (y : MethodName) (bytes : ByteArray) (ml : Nat) (rt : Option FieldType) (rm : Room) (as' : Array Value) (h : Heap) (n0 : Nat) (Q : Option Value → Heap → Prop) : Prop :=
  ∀ ws : List Jvm.Cond, MetFree l y (head1 (Jvm.Cond.code y bytes ml rt :: ws) rm) (fun a U => a = as' ∧ Z.Warmed39 U.vm ∧ U.heap = h) (fun _ _ _ _ _ => True) (fun _ U o U' => ∃ v L, o = .returned v ∧ (Q v U'.heap ∧ Fr n0 L) ∧ FrameEnd U o U' L rm.cells rm.slots)
theorem Mt.of {y : MethodName} {rm : Room} {as' : Array Value} {Ls : Array Slot} (ho : y.cls = own) (hnm : y.name = nm) (pn : plainFor y = true) (hn : n0 ≤ h.size) (ef : ∀ m, entryFrame m as' ml = mkF m 0 Ls [])
    (body : ∀ (p : Program) (e : Env) (s : State) (m : MethodId) (below : List Frame) (meth : Method) (c : Code) (T : State), Cx Z p s m meth c own bytes ml rt nm → Wk p l e rm s m as' below meth c n0 T h 0 0 → Fi p e below s n0 rm.cells rm.slots Q (T.setTop (mkF m 0 Ls []))) :
    Mt l Z y bytes ml rt rm as' h n0 Q := by
  intro ws
  subst ho hnm
  refine MetFree.of_bodySF pn hisR ?_
  intro p e s m args below meth c s₁ Bd hml0 hP hK
  obtain ⟨rfl, hZ, hh⟩ := hP
  obtain ⟨s₂, o, h1, h2, h3, h4⟩ := body p e s m below meth c s₁ ⟨Bd.exec, hZ, Bd.bytes, hml0, findClass_of_methodNamed Bd.named, Bd.returns, Bd.notSynchronized, (name_of_methodNamed Bd.named Bd.method).1⟩ ⟨[], Stand.of_body Bd, by rw [← hh, Bd.state]; rfl, Fr.nil n0, hn⟩
  exact ⟨s₂, o, castTop (ef m) h1, h2, h3, h4⟩
/-! shifts and narrowings by name -/
def jushr (x y : Int32) : Int32 := (x.toUInt32 >>> (y &&& 31).toUInt32).toInt32
def jshr (x y : Int32) : Int32 := x >>> (y &&& 31)
def jshl (x y : Int32) : Int32 := x <<< (y &&& 31)
def jushrL (x : Int64) (y : Int32) : Int64 := (x.toUInt64 >>> (y &&& 0x3f).toInt64.toUInt64).toInt64
def jshrL (x : Int64) (y : Int32) : Int64 := x >>> (y &&& 0x3f).toInt64
def jshlL (x : Int64) (y : Int32) : Int64 := x <<< (y &&& 0x3f).toInt64
def jb (x : Int32) : Int32 := x.toInt8.toInt32
def jc (x : Int32) : Int32 := x.toUInt32.toUInt16.toUInt32.toInt32
def js (x : Int32) : Int32 := x.toInt16.toInt32
theorem g_iloadN (K : Cx Z p s m meth c own bytes ml rt nm) (X : Wk p l e R s m args below meth c n0 T h cells slots) {pc pc' : Nat} {L : Array Slot} {st : List Value} {k : Fin 4} {v : Int32} (hd : decode bytes pc = .ok (.iload_n k, 1)) (hp : pc + 1 = pc') (hl : L[k.val]? = some (.val (.int v))) (r : Fi p e below s n0 C S Q (T.setTop (mkF m pc' L (.int v :: st)))) : Fi p e below s n0 C S Q (T.setTop (mkF m pc L (st))) := by
  obtain ⟨locs, Y, -⟩ := X
  subst hp
  exact Fi.of (fun _ q => XS.iloadN Y.here K.1 rfl (hb K.2.2.1 hd) hl q) r
theorem g_iload (K : Cx Z p s m meth c own bytes ml rt nm) (X : Wk p l e R s m args below meth c n0 T h cells slots) {pc pc' : Nat} {L : Array Slot} {st : List Value} {k : Nat} {v : Int32} (hd : decode bytes pc = .ok (.iload k, 2)) (hp : pc + 2 = pc') (hl : L[k]? = some (.val (.int v))) (r : Fi p e below s n0 C S Q (T.setTop (mkF m pc' L (.int v :: st)))) : Fi p e below s n0 C S Q (T.setTop (mkF m pc L (st))) := by
  obtain ⟨locs, Y, -⟩ := X
  subst hp
  exact Fi.of (fun _ q => XS.iload Y.here K.1 rfl (hb K.2.2.1 hd) hl q) r
theorem g_istoreN (K : Cx Z p s m meth c own bytes ml rt nm) (X : Wk p l e R s m args below meth c n0 T h cells slots) {pc pc' : Nat} {L : Array Slot} {st : List Value} {k : Fin 4} {v : Int32} {L' : Array Slot} (hd : decode bytes pc = .ok (.istore_n k, 1)) (hp : pc + 1 = pc') (hl : storeLocals L k.val (.int v) = some L') (r : Fi p e below s n0 C S Q (T.setTop (mkF m pc' L' (st)))) : Fi p e below s n0 C S Q (T.setTop (mkF m pc L (.int v :: st))) := by
  obtain ⟨locs, Y, -⟩ := X
  subst hp
  exact Fi.of (fun _ q => XS.istoreN Y.here K.1 rfl (hb K.2.2.1 hd) rfl hl q) r
theorem g_istore (K : Cx Z p s m meth c own bytes ml rt nm) (X : Wk p l e R s m args below meth c n0 T h cells slots) {pc pc' : Nat} {L : Array Slot} {st : List Value} {k : Nat} {v : Int32} {L' : Array Slot} (hd : decode bytes pc = .ok (.istore k, 2)) (hp : pc + 2 = pc') (hl : storeLocals L k (.int v) = some L') (r : Fi p e below s n0 C S Q (T.setTop (mkF m pc' L' (st)))) : Fi p e below s n0 C S Q (T.setTop (mkF m pc L (.int v :: st))) := by
  obtain ⟨locs, Y, -⟩ := X
  subst hp
  exact Fi.of (fun _ q => XS.istore Y.here K.1 rfl (hb K.2.2.1 hd) rfl hl q) r
theorem g_lloadN (K : Cx Z p s m meth c own bytes ml rt nm) (X : Wk p l e R s m args below meth c n0 T h cells slots) {pc pc' : Nat} {L : Array Slot} {st : List Value} {k : Fin 4} {v : Int64} (hd : decode bytes pc = .ok (.lload_n k, 1)) (hp : pc + 1 = pc') (hl : L[k.val]? = some (.val (.long v))) (r : Fi p e below s n0 C S Q (T.setTop (mkF m pc' L (.long v :: st)))) : Fi p e below s n0 C S Q (T.setTop (mkF m pc L (st))) := by
  obtain ⟨locs, Y, -⟩ := X
  subst hp
  exact Fi.of (fun _ q => XS.lloadN Y.here K.1 rfl (hb K.2.2.1 hd) hl q) r
theorem g_lload (K : Cx Z p s m meth c own bytes ml rt nm) (X : Wk p l e R s m args below meth c n0 T h cells slots) {pc pc' : Nat} {L : Array Slot} {st : List Value} {k : Nat} {v : Int64} (hd : decode bytes pc = .ok (.lload k, 2)) (hp : pc + 2 = pc') (hl : L[k]? = some (.val (.long v))) (r : Fi p e below s n0 C S Q (T.setTop (mkF m pc' L (.long v :: st)))) : Fi p e below s n0 C S Q (T.setTop (mkF m pc L (st))) := by
  obtain ⟨locs, Y, -⟩ := X
  subst hp
  exact Fi.of (fun _ q => XS.lload Y.here K.1 rfl (hb K.2.2.1 hd) hl q) r
theorem g_lstoreN (K : Cx Z p s m meth c own bytes ml rt nm) (X : Wk p l e R s m args below meth c n0 T h cells slots) {pc pc' : Nat} {L : Array Slot} {st : List Value} {k : Fin 4} {v : Int64} {L' : Array Slot} (hd : decode bytes pc = .ok (.lstore_n k, 1)) (hp : pc + 1 = pc') (hl : storeLocals L k.val (.long v) = some L') (r : Fi p e below s n0 C S Q (T.setTop (mkF m pc' L' (st)))) : Fi p e below s n0 C S Q (T.setTop (mkF m pc L (.long v :: st))) := by
  obtain ⟨locs, Y, -⟩ := X
  subst hp
  exact Fi.of (fun _ q => XS.lstoreN Y.here K.1 rfl (hb K.2.2.1 hd) rfl hl q) r
theorem g_lstore (K : Cx Z p s m meth c own bytes ml rt nm) (X : Wk p l e R s m args below meth c n0 T h cells slots) {pc pc' : Nat} {L : Array Slot} {st : List Value} {k : Nat} {v : Int64} {L' : Array Slot} (hd : decode bytes pc = .ok (.lstore k, 2)) (hp : pc + 2 = pc') (hl : storeLocals L k (.long v) = some L') (r : Fi p e below s n0 C S Q (T.setTop (mkF m pc' L' (st)))) : Fi p e below s n0 C S Q (T.setTop (mkF m pc L (.long v :: st))) := by
  obtain ⟨locs, Y, -⟩ := X
  subst hp
  exact Fi.of (fun _ q => XS.lstore Y.here K.1 rfl (hb K.2.2.1 hd) rfl hl q) r
theorem g_aloadN (K : Cx Z p s m meth c own bytes ml rt nm) (X : Wk p l e R s m args below meth c n0 T h cells slots) {pc pc' : Nat} {L : Array Slot} {st : List Value} {k : Fin 4} {v : Value} (hd : decode bytes pc = .ok (.aload_n k, 1)) (hp : pc + 1 = pc') (hl : L[k.val]? = some (.val v)) (hv : v.isRef = true) (r : Fi p e below s n0 C S Q (T.setTop (mkF m pc' L (v :: st)))) : Fi p e below s n0 C S Q (T.setTop (mkF m pc L (st))) := by
  obtain ⟨locs, Y, -⟩ := X
  subst hp
  exact Fi.of (fun _ q => XS.aloadN Y.here K.1 rfl (hb K.2.2.1 hd) hl hv q) r
theorem g_aload (K : Cx Z p s m meth c own bytes ml rt nm) (X : Wk p l e R s m args below meth c n0 T h cells slots) {pc pc' : Nat} {L : Array Slot} {st : List Value} {k : Nat} {v : Value} (hd : decode bytes pc = .ok (.aload k, 2)) (hp : pc + 2 = pc') (hl : L[k]? = some (.val v)) (hv : v.isRef = true) (r : Fi p e below s n0 C S Q (T.setTop (mkF m pc' L (v :: st)))) : Fi p e below s n0 C S Q (T.setTop (mkF m pc L (st))) := by
  obtain ⟨locs, Y, -⟩ := X
  subst hp
  exact Fi.of (fun _ q => XS.aload Y.here K.1 rfl (hb K.2.2.1 hd) hl hv q) r
theorem g_astoreN (K : Cx Z p s m meth c own bytes ml rt nm) (X : Wk p l e R s m args below meth c n0 T h cells slots) {pc pc' : Nat} {L : Array Slot} {st : List Value} {k : Fin 4} {v : Value} {L' : Array Slot} (hd : decode bytes pc = .ok (.astore_n k, 1)) (hp : pc + 1 = pc') (hv : v.isRef = true) (hl : storeLocals L k.val v = some L') (r : Fi p e below s n0 C S Q (T.setTop (mkF m pc' L' (st)))) : Fi p e below s n0 C S Q (T.setTop (mkF m pc L (v :: st))) := by
  obtain ⟨locs, Y, -⟩ := X
  subst hp
  exact Fi.of (fun _ q => XS.astoreN Y.here K.1 rfl (hb K.2.2.1 hd) rfl hv hl q) r
theorem g_astore (K : Cx Z p s m meth c own bytes ml rt nm) (X : Wk p l e R s m args below meth c n0 T h cells slots) {pc pc' : Nat} {L : Array Slot} {st : List Value} {k : Nat} {v : Value} {L' : Array Slot} (hd : decode bytes pc = .ok (.astore k, 2)) (hp : pc + 2 = pc') (hv : v.isRef = true) (hl : storeLocals L k v = some L') (r : Fi p e below s n0 C S Q (T.setTop (mkF m pc' L' (st)))) : Fi p e below s n0 C S Q (T.setTop (mkF m pc L (v :: st))) := by
  obtain ⟨locs, Y, -⟩ := X
  subst hp
  exact Fi.of (fun _ q => XS.astore Y.here K.1 rfl (hb K.2.2.1 hd) rfl hv hl q) r
theorem g_iconst (K : Cx Z p s m meth c own bytes ml rt nm) (X : Wk p l e R s m args below meth c n0 T h cells slots) {pc pc' : Nat} {L : Array Slot} {st : List Value} {i : Int} {v : Int32} (hd : decode bytes pc = .ok (.iconst i, 1)) (hp : pc + 1 = pc') (hv : Int32.ofInt i = v) (r : Fi p e below s n0 C S Q (T.setTop (mkF m pc' L (.int v :: st)))) : Fi p e below s n0 C S Q (T.setTop (mkF m pc L (st))) := by
  obtain ⟨locs, Y, -⟩ := X
  subst hp
  subst hv
  exact Fi.of (fun _ q => XS.iconst Y.here K.1 rfl (hb K.2.2.1 hd) q) r
theorem g_bipush (K : Cx Z p s m meth c own bytes ml rt nm) (X : Wk p l e R s m args below meth c n0 T h cells slots) {pc pc' : Nat} {L : Array Slot} {st : List Value} {i : Int} {v : Int32} (hd : decode bytes pc = .ok (.bipush i, 2)) (hp : pc + 2 = pc') (hv : (Int8.ofInt i).toInt32 = v) (r : Fi p e below s n0 C S Q (T.setTop (mkF m pc' L (.int v :: st)))) : Fi p e below s n0 C S Q (T.setTop (mkF m pc L (st))) := by
  obtain ⟨locs, Y, -⟩ := X
  subst hp
  subst hv
  exact Fi.of (fun _ q => XS.bipush Y.here K.1 rfl (hb K.2.2.1 hd) q) r
theorem g_sipush (K : Cx Z p s m meth c own bytes ml rt nm) (X : Wk p l e R s m args below meth c n0 T h cells slots) {pc pc' : Nat} {L : Array Slot} {st : List Value} {i : Int} {v : Int32} (hd : decode bytes pc = .ok (.sipush i, 3)) (hp : pc + 3 = pc') (hv : (Int16.ofInt i).toInt32 = v) (r : Fi p e below s n0 C S Q (T.setTop (mkF m pc' L (.int v :: st)))) : Fi p e below s n0 C S Q (T.setTop (mkF m pc L (st))) := by
  obtain ⟨locs, Y, -⟩ := X
  subst hp
  subst hv
  exact Fi.of (fun _ q => XS.sipush Y.here K.1 rfl (hb K.2.2.1 hd) q) r
theorem g_lconst (K : Cx Z p s m meth c own bytes ml rt nm) (X : Wk p l e R s m args below meth c n0 T h cells slots) {pc pc' : Nat} {L : Array Slot} {st : List Value} {k : Fin 2} {v : Int64} (hd : decode bytes pc = .ok (.lconst k, 1)) (hp : pc + 1 = pc') (hv : Int64.ofNat k = v) (r : Fi p e below s n0 C S Q (T.setTop (mkF m pc' L (.long v :: st)))) : Fi p e below s n0 C S Q (T.setTop (mkF m pc L (st))) := by
  obtain ⟨locs, Y, -⟩ := X
  subst hp
  subst hv
  exact Fi.of (fun _ q => XS.lconst Y.here K.1 rfl (hb K.2.2.1 hd) q) r
theorem g_ldcI (K : Cx Z p s m meth c own bytes ml rt nm) (X : Wk p l e R s m args below meth c n0 T h cells slots) {pc pc' : Nat} {L : Array Slot} {st : List Value} {index : Nat} {v : Int32} (hd : decode bytes pc = .ok (.ldc index, 2)) (hp : pc + 2 = pc') (w : (Cond.constant own index v).before a0 Z = true) (r : Fi p e below s n0 C S Q (T.setTop (mkF m pc' L (.int v :: st)))) : Fi p e below s n0 C S Q (T.setTop (mkF m pc L (st))) := by
  obtain ⟨locs, Y, -⟩ := X
  subst hp
  exact Fi.of (fun _ q => Y.ldcInt K.1 K.2.2.2.2.1 (mvT K.2.1 w) (g := mkF m pc L st) rfl (hb K.2.2.1 hd) _ q) r
theorem g_ldc2J (K : Cx Z p s m meth c own bytes ml rt nm) (X : Wk p l e R s m args below meth c n0 T h cells slots) {pc pc' : Nat} {L : Array Slot} {st : List Value} {index : Nat} {v : Int64} (hd : decode bytes pc = .ok (.ldc2_w index, 3)) (hp : pc + 3 = pc') (w : (Cond.constantLong own index v).before a0 Z = true) (r : Fi p e below s n0 C S Q (T.setTop (mkF m pc' L (.long v :: st)))) : Fi p e below s n0 C S Q (T.setTop (mkF m pc L (st))) := by
  obtain ⟨locs, Y, -⟩ := X
  subst hp
  exact Fi.of (fun _ q => Y.ldc2Long K.1 K.2.2.2.2.1 (mvT K.2.1 w) (g := mkF m pc L st) rfl (hb K.2.2.1 hd) _ q) r
theorem g_iadd (K : Cx Z p s m meth c own bytes ml rt nm) (X : Wk p l e R s m args below meth c n0 T h cells slots) {pc pc' : Nat} {L : Array Slot} {st : List Value} {x y : Int32} (hd : decode bytes pc = .ok (.iadd, 1)) (hp : pc + 1 = pc')  (r : Fi p e below s n0 C S Q (T.setTop (mkF m pc' L (.int (x + y) :: st)))) : Fi p e below s n0 C S Q (T.setTop (mkF m pc L (.int y :: .int x :: st))) := by
  obtain ⟨locs, Y, -⟩ := X
  subst hp
  exact Fi.of (fun _ q => XS.iadd Y.here K.1 rfl (hb K.2.2.1 hd) rfl q) r
theorem g_ladd (K : Cx Z p s m meth c own bytes ml rt nm) (X : Wk p l e R s m args below meth c n0 T h cells slots) {pc pc' : Nat} {L : Array Slot} {st : List Value} {x y : Int64} (hd : decode bytes pc = .ok (.ladd, 1)) (hp : pc + 1 = pc')  (r : Fi p e below s n0 C S Q (T.setTop (mkF m pc' L (.long (x + y) :: st)))) : Fi p e below s n0 C S Q (T.setTop (mkF m pc L (.long y :: .long x :: st))) := by
  obtain ⟨locs, Y, -⟩ := X
  subst hp
  exact Fi.of (fun _ q => XS.ladd Y.here K.1 rfl (hb K.2.2.1 hd) rfl q) r
theorem g_isub (K : Cx Z p s m meth c own bytes ml rt nm) (X : Wk p l e R s m args below meth c n0 T h cells slots) {pc pc' : Nat} {L : Array Slot} {st : List Value} {x y : Int32} (hd : decode bytes pc = .ok (.isub, 1)) (hp : pc + 1 = pc')  (r : Fi p e below s n0 C S Q (T.setTop (mkF m pc' L (.int (x - y) :: st)))) : Fi p e below s n0 C S Q (T.setTop (mkF m pc L (.int y :: .int x :: st))) := by
  obtain ⟨locs, Y, -⟩ := X
  subst hp
  exact Fi.of (fun _ q => XS.isub Y.here K.1 rfl (hb K.2.2.1 hd) rfl q) r
theorem g_lsub (K : Cx Z p s m meth c own bytes ml rt nm) (X : Wk p l e R s m args below meth c n0 T h cells slots) {pc pc' : Nat} {L : Array Slot} {st : List Value} {x y : Int64} (hd : decode bytes pc = .ok (.lsub, 1)) (hp : pc + 1 = pc')  (r : Fi p e below s n0 C S Q (T.setTop (mkF m pc' L (.long (x - y) :: st)))) : Fi p e below s n0 C S Q (T.setTop (mkF m pc L (.long y :: .long x :: st))) := by
  obtain ⟨locs, Y, -⟩ := X
  subst hp
  exact Fi.of (fun _ q => XS.lsub Y.here K.1 rfl (hb K.2.2.1 hd) rfl q) r
theorem g_imul (K : Cx Z p s m meth c own bytes ml rt nm) (X : Wk p l e R s m args below meth c n0 T h cells slots) {pc pc' : Nat} {L : Array Slot} {st : List Value} {x y : Int32} (hd : decode bytes pc = .ok (.imul, 1)) (hp : pc + 1 = pc')  (r : Fi p e below s n0 C S Q (T.setTop (mkF m pc' L (.int (x * y) :: st)))) : Fi p e below s n0 C S Q (T.setTop (mkF m pc L (.int y :: .int x :: st))) := by
  obtain ⟨locs, Y, -⟩ := X
  subst hp
  exact Fi.of (fun _ q => XS.imul Y.here K.1 rfl (hb K.2.2.1 hd) rfl q) r
theorem g_lmul (K : Cx Z p s m meth c own bytes ml rt nm) (X : Wk p l e R s m args below meth c n0 T h cells slots) {pc pc' : Nat} {L : Array Slot} {st : List Value} {x y : Int64} (hd : decode bytes pc = .ok (.lmul, 1)) (hp : pc + 1 = pc')  (r : Fi p e below s n0 C S Q (T.setTop (mkF m pc' L (.long (x * y) :: st)))) : Fi p e below s n0 C S Q (T.setTop (mkF m pc L (.long y :: .long x :: st))) := by
  obtain ⟨locs, Y, -⟩ := X
  subst hp
  exact Fi.of (fun _ q => XS.lmul Y.here K.1 rfl (hb K.2.2.1 hd) rfl q) r
theorem g_iand (K : Cx Z p s m meth c own bytes ml rt nm) (X : Wk p l e R s m args below meth c n0 T h cells slots) {pc pc' : Nat} {L : Array Slot} {st : List Value} {x y : Int32} (hd : decode bytes pc = .ok (.iand, 1)) (hp : pc + 1 = pc')  (r : Fi p e below s n0 C S Q (T.setTop (mkF m pc' L (.int (x &&& y) :: st)))) : Fi p e below s n0 C S Q (T.setTop (mkF m pc L (.int y :: .int x :: st))) := by
  obtain ⟨locs, Y, -⟩ := X
  subst hp
  exact Fi.of (fun _ q => XS.iand Y.here K.1 rfl (hb K.2.2.1 hd) rfl q) r
theorem g_land (K : Cx Z p s m meth c own bytes ml rt nm) (X : Wk p l e R s m args below meth c n0 T h cells slots) {pc pc' : Nat} {L : Array Slot} {st : List Value} {x y : Int64} (hd : decode bytes pc = .ok (.land, 1)) (hp : pc + 1 = pc')  (r : Fi p e below s n0 C S Q (T.setTop (mkF m pc' L (.long (x &&& y) :: st)))) : Fi p e below s n0 C S Q (T.setTop (mkF m pc L (.long y :: .long x :: st))) := by
  obtain ⟨locs, Y, -⟩ := X
  subst hp
  exact Fi.of (fun _ q => XS.land Y.here K.1 rfl (hb K.2.2.1 hd) rfl q) r
theorem g_ior (K : Cx Z p s m meth c own bytes ml rt nm) (X : Wk p l e R s m args below meth c n0 T h cells slots) {pc pc' : Nat} {L : Array Slot} {st : List Value} {x y : Int32} (hd : decode bytes pc = .ok (.ior, 1)) (hp : pc + 1 = pc')  (r : Fi p e below s n0 C S Q (T.setTop (mkF m pc' L (.int (x ||| y) :: st)))) : Fi p e below s n0 C S Q (T.setTop (mkF m pc L (.int y :: .int x :: st))) := by
  obtain ⟨locs, Y, -⟩ := X
  subst hp
  exact Fi.of (fun _ q => XS.ior Y.here K.1 rfl (hb K.2.2.1 hd) rfl q) r
theorem g_lor (K : Cx Z p s m meth c own bytes ml rt nm) (X : Wk p l e R s m args below meth c n0 T h cells slots) {pc pc' : Nat} {L : Array Slot} {st : List Value} {x y : Int64} (hd : decode bytes pc = .ok (.lor, 1)) (hp : pc + 1 = pc')  (r : Fi p e below s n0 C S Q (T.setTop (mkF m pc' L (.long (x ||| y) :: st)))) : Fi p e below s n0 C S Q (T.setTop (mkF m pc L (.long y :: .long x :: st))) := by
  obtain ⟨locs, Y, -⟩ := X
  subst hp
  exact Fi.of (fun _ q => XS.lor Y.here K.1 rfl (hb K.2.2.1 hd) rfl q) r
theorem g_ixor (K : Cx Z p s m meth c own bytes ml rt nm) (X : Wk p l e R s m args below meth c n0 T h cells slots) {pc pc' : Nat} {L : Array Slot} {st : List Value} {x y : Int32} (hd : decode bytes pc = .ok (.ixor, 1)) (hp : pc + 1 = pc')  (r : Fi p e below s n0 C S Q (T.setTop (mkF m pc' L (.int (x ^^^ y) :: st)))) : Fi p e below s n0 C S Q (T.setTop (mkF m pc L (.int y :: .int x :: st))) := by
  obtain ⟨locs, Y, -⟩ := X
  subst hp
  exact Fi.of (fun _ q => XS.ixor Y.here K.1 rfl (hb K.2.2.1 hd) rfl q) r
theorem g_lxor (K : Cx Z p s m meth c own bytes ml rt nm) (X : Wk p l e R s m args below meth c n0 T h cells slots) {pc pc' : Nat} {L : Array Slot} {st : List Value} {x y : Int64} (hd : decode bytes pc = .ok (.lxor, 1)) (hp : pc + 1 = pc')  (r : Fi p e below s n0 C S Q (T.setTop (mkF m pc' L (.long (x ^^^ y) :: st)))) : Fi p e below s n0 C S Q (T.setTop (mkF m pc L (.long y :: .long x :: st))) := by
  obtain ⟨locs, Y, -⟩ := X
  subst hp
  exact Fi.of (fun _ q => XS.lxor Y.here K.1 rfl (hb K.2.2.1 hd) rfl q) r
theorem g_ishl (K : Cx Z p s m meth c own bytes ml rt nm) (X : Wk p l e R s m args below meth c n0 T h cells slots) {pc pc' : Nat} {L : Array Slot} {st : List Value} {x y : Int32} (hd : decode bytes pc = .ok (.ishl, 1)) (hp : pc + 1 = pc')  (r : Fi p e below s n0 C S Q (T.setTop (mkF m pc' L (.int (jshl x y) :: st)))) : Fi p e below s n0 C S Q (T.setTop (mkF m pc L (.int y :: .int x :: st))) := by
  obtain ⟨locs, Y, -⟩ := X
  subst hp
  exact Fi.of (fun _ q => XS.ishl Y.here K.1 rfl (hb K.2.2.1 hd) rfl q) r
theorem g_lshl (K : Cx Z p s m meth c own bytes ml rt nm) (X : Wk p l e R s m args below meth c n0 T h cells slots) {pc pc' : Nat} {L : Array Slot} {st : List Value} {x : Int64} {y : Int32} (hd : decode bytes pc = .ok (.lshl, 1)) (hp : pc + 1 = pc')  (r : Fi p e below s n0 C S Q (T.setTop (mkF m pc' L (.long (jshlL x y) :: st)))) : Fi p e below s n0 C S Q (T.setTop (mkF m pc L (.int y :: .long x :: st))) := by
  obtain ⟨locs, Y, -⟩ := X
  subst hp
  exact Fi.of (fun _ q => XS.lshl Y.here K.1 rfl (hb K.2.2.1 hd) rfl q) r
theorem g_ishr (K : Cx Z p s m meth c own bytes ml rt nm) (X : Wk p l e R s m args below meth c n0 T h cells slots) {pc pc' : Nat} {L : Array Slot} {st : List Value} {x y : Int32} (hd : decode bytes pc = .ok (.ishr, 1)) (hp : pc + 1 = pc')  (r : Fi p e below s n0 C S Q (T.setTop (mkF m pc' L (.int (jshr x y) :: st)))) : Fi p e below s n0 C S Q (T.setTop (mkF m pc L (.int y :: .int x :: st))) := by
  obtain ⟨locs, Y, -⟩ := X
  subst hp
  exact Fi.of (fun _ q => XS.ishr Y.here K.1 rfl (hb K.2.2.1 hd) rfl q) r
theorem g_lshr (K : Cx Z p s m meth c own bytes ml rt nm) (X : Wk p l e R s m args below meth c n0 T h cells slots) {pc pc' : Nat} {L : Array Slot} {st : List Value} {x : Int64} {y : Int32} (hd : decode bytes pc = .ok (.lshr, 1)) (hp : pc + 1 = pc')  (r : Fi p e below s n0 C S Q (T.setTop (mkF m pc' L (.long (jshrL x y) :: st)))) : Fi p e below s n0 C S Q (T.setTop (mkF m pc L (.int y :: .long x :: st))) := by
  obtain ⟨locs, Y, -⟩ := X
  subst hp
  exact Fi.of (fun _ q => XS.lshr Y.here K.1 rfl (hb K.2.2.1 hd) rfl q) r
theorem g_iushr (K : Cx Z p s m meth c own bytes ml rt nm) (X : Wk p l e R s m args below meth c n0 T h cells slots) {pc pc' : Nat} {L : Array Slot} {st : List Value} {x y : Int32} (hd : decode bytes pc = .ok (.iushr, 1)) (hp : pc + 1 = pc')  (r : Fi p e below s n0 C S Q (T.setTop (mkF m pc' L (.int (jushr x y) :: st)))) : Fi p e below s n0 C S Q (T.setTop (mkF m pc L (.int y :: .int x :: st))) := by
  obtain ⟨locs, Y, -⟩ := X
  subst hp
  exact Fi.of (fun _ q => XS.iushr Y.here K.1 rfl (hb K.2.2.1 hd) rfl q) r
theorem g_lushr (K : Cx Z p s m meth c own bytes ml rt nm) (X : Wk p l e R s m args below meth c n0 T h cells slots) {pc pc' : Nat} {L : Array Slot} {st : List Value} {x : Int64} {y : Int32} (hd : decode bytes pc = .ok (.lushr, 1)) (hp : pc + 1 = pc')  (r : Fi p e below s n0 C S Q (T.setTop (mkF m pc' L (.long (jushrL x y) :: st)))) : Fi p e below s n0 C S Q (T.setTop (mkF m pc L (.int y :: .long x :: st))) := by
  obtain ⟨locs, Y, -⟩ := X
  subst hp
  exact Fi.of (fun _ q => XS.lushr Y.here K.1 rfl (hb K.2.2.1 hd) rfl q) r
theorem g_i2b (K : Cx Z p s m meth c own bytes ml rt nm) (X : Wk p l e R s m args below meth c n0 T h cells slots) {pc pc' : Nat} {L : Array Slot} {st : List Value} {x : Int32} (hd : decode bytes pc = .ok (.i2b, 1)) (hp : pc + 1 = pc')  (r : Fi p e below s n0 C S Q (T.setTop (mkF m pc' L (.int (jb x) :: st)))) : Fi p e below s n0 C S Q (T.setTop (mkF m pc L (.int x :: st))) := by
  obtain ⟨locs, Y, -⟩ := X
  subst hp
  exact Fi.of (fun _ q => XS.i2b Y.here K.1 rfl (hb K.2.2.1 hd) rfl q) r
theorem g_i2c (K : Cx Z p s m meth c own bytes ml rt nm) (X : Wk p l e R s m args below meth c n0 T h cells slots) {pc pc' : Nat} {L : Array Slot} {st : List Value} {x : Int32} (hd : decode bytes pc = .ok (.i2c, 1)) (hp : pc + 1 = pc')  (r : Fi p e below s n0 C S Q (T.setTop (mkF m pc' L (.int (jc x) :: st)))) : Fi p e below s n0 C S Q (T.setTop (mkF m pc L (.int x :: st))) := by
  obtain ⟨locs, Y, -⟩ := X
  subst hp
  exact Fi.of (fun _ q => XS.i2c Y.here K.1 rfl (hb K.2.2.1 hd) rfl q) r
theorem g_i2s (K : Cx Z p s m meth c own bytes ml rt nm) (X : Wk p l e R s m args below meth c n0 T h cells slots) {pc pc' : Nat} {L : Array Slot} {st : List Value} {x : Int32} (hd : decode bytes pc = .ok (.i2s, 1)) (hp : pc + 1 = pc')  (r : Fi p e below s n0 C S Q (T.setTop (mkF m pc' L (.int (js x) :: st)))) : Fi p e below s n0 C S Q (T.setTop (mkF m pc L (.int x :: st))) := by
  obtain ⟨locs, Y, -⟩ := X
  subst hp
  exact Fi.of (fun _ q => XS.i2s Y.here K.1 rfl (hb K.2.2.1 hd) rfl q) r
theorem g_i2l (K : Cx Z p s m meth c own bytes ml rt nm) (X : Wk p l e R s m args below meth c n0 T h cells slots) {pc pc' : Nat} {L : Array Slot} {st : List Value} {x : Int32} (hd : decode bytes pc = .ok (.i2l, 1)) (hp : pc + 1 = pc')  (r : Fi p e below s n0 C S Q (T.setTop (mkF m pc' L (.long (x.toInt64) :: st)))) : Fi p e below s n0 C S Q (T.setTop (mkF m pc L (.int x :: st))) := by
  obtain ⟨locs, Y, -⟩ := X
  subst hp
  exact Fi.of (fun _ q => XS.i2l Y.here K.1 rfl (hb K.2.2.1 hd) rfl q) r
theorem g_l2i (K : Cx Z p s m meth c own bytes ml rt nm) (X : Wk p l e R s m args below meth c n0 T h cells slots) {pc pc' : Nat} {L : Array Slot} {st : List Value} {x : Int64} (hd : decode bytes pc = .ok (.l2i, 1)) (hp : pc + 1 = pc')  (r : Fi p e below s n0 C S Q (T.setTop (mkF m pc' L (.int (x.toInt32) :: st)))) : Fi p e below s n0 C S Q (T.setTop (mkF m pc L (.long x :: st))) := by
  obtain ⟨locs, Y, -⟩ := X
  subst hp
  exact Fi.of (fun _ q => XS.l2i Y.here K.1 rfl (hb K.2.2.1 hd) rfl q) r
theorem g_ineg (K : Cx Z p s m meth c own bytes ml rt nm) (X : Wk p l e R s m args below meth c n0 T h cells slots) {pc pc' : Nat} {L : Array Slot} {st : List Value} {x : Int32} (hd : decode bytes pc = .ok (.ineg, 1)) (hp : pc + 1 = pc')  (r : Fi p e below s n0 C S Q (T.setTop (mkF m pc' L (.int (-x) :: st)))) : Fi p e below s n0 C S Q (T.setTop (mkF m pc L (.int x :: st))) := by
  obtain ⟨locs, Y, -⟩ := X
  subst hp
  exact Fi.of (fun _ q => XS.ineg Y.here K.1 rfl (hb K.2.2.1 hd) rfl q) r
theorem g_lneg (K : Cx Z p s m meth c own bytes ml rt nm) (X : Wk p l e R s m args below meth c n0 T h cells slots) {pc pc' : Nat} {L : Array Slot} {st : List Value} {x : Int64} (hd : decode bytes pc = .ok (.lneg, 1)) (hp : pc + 1 = pc')  (r : Fi p e below s n0 C S Q (T.setTop (mkF m pc' L (.long (-x) :: st)))) : Fi p e below s n0 C S Q (T.setTop (mkF m pc L (.long x :: st))) := by
  obtain ⟨locs, Y, -⟩ := X
  subst hp
  exact Fi.of (fun _ q => XS.lneg Y.here K.1 rfl (hb K.2.2.1 hd) rfl q) r
theorem g_idiv (K : Cx Z p s m meth c own bytes ml rt nm) (X : Wk p l e R s m args below meth c n0 T h cells slots) {pc pc' : Nat} {L : Array Slot} {st : List Value} {x y : Int32} (hd : decode bytes pc = .ok (.idiv, 1)) (hp : pc + 1 = pc') (hy : y ≠ 0) (r : Fi p e below s n0 C S Q (T.setTop (mkF m pc' L (.int (x / y) :: st)))) : Fi p e below s n0 C S Q (T.setTop (mkF m pc L (.int y :: .int x :: st))) := by
  obtain ⟨locs, Y, -⟩ := X
  subst hp
  exact Fi.of (fun _ q => XS.idiv Y.here K.1 rfl (hb K.2.2.1 hd) rfl hy q) r
theorem g_ldiv (K : Cx Z p s m meth c own bytes ml rt nm) (X : Wk p l e R s m args below meth c n0 T h cells slots) {pc pc' : Nat} {L : Array Slot} {st : List Value} {x y : Int64} (hd : decode bytes pc = .ok (.ldiv, 1)) (hp : pc + 1 = pc') (hy : y ≠ 0) (r : Fi p e below s n0 C S Q (T.setTop (mkF m pc' L (.long (x / y) :: st)))) : Fi p e below s n0 C S Q (T.setTop (mkF m pc L (.long y :: .long x :: st))) := by
  obtain ⟨locs, Y, -⟩ := X
  subst hp
  exact Fi.of (fun _ q => XS.ldiv Y.here K.1 rfl (hb K.2.2.1 hd) rfl hy q) r
theorem g_irem (K : Cx Z p s m meth c own bytes ml rt nm) (X : Wk p l e R s m args below meth c n0 T h cells slots) {pc pc' : Nat} {L : Array Slot} {st : List Value} {x y : Int32} (hd : decode bytes pc = .ok (.irem, 1)) (hp : pc + 1 = pc') (hy : y ≠ 0) (r : Fi p e below s n0 C S Q (T.setTop (mkF m pc' L (.int (x % y) :: st)))) : Fi p e below s n0 C S Q (T.setTop (mkF m pc L (.int y :: .int x :: st))) := by
  obtain ⟨locs, Y, -⟩ := X
  subst hp
  exact Fi.of (fun _ q => iremM Y K.1 rfl (hb K.2.2.1 hd) rfl hy q) r
theorem g_lrem (K : Cx Z p s m meth c own bytes ml rt nm) (X : Wk p l e R s m args below meth c n0 T h cells slots) {pc pc' : Nat} {L : Array Slot} {st : List Value} {x y : Int64} (hd : decode bytes pc = .ok (.lrem, 1)) (hp : pc + 1 = pc') (hy : y ≠ 0) (r : Fi p e below s n0 C S Q (T.setTop (mkF m pc' L (.long (x % y) :: st)))) : Fi p e below s n0 C S Q (T.setTop (mkF m pc L (.long y :: .long x :: st))) := by
  obtain ⟨locs, Y, -⟩ := X
  subst hp
  exact Fi.of (fun _ q => XS.lrem Y.here K.1 rfl (hb K.2.2.1 hd) rfl hy (by rw [lrem_mod]; exact q)) r
theorem g_iinc (K : Cx Z p s m meth c own bytes ml rt nm) (X : Wk p l e R s m args below meth c n0 T h cells slots) {pc pc' : Nat} {L : Array Slot} {st : List Value} {k : Nat} {cst : Int} {x z : Int32} {L' : Array Slot} (hd : decode bytes pc = .ok (.iinc k cst, 3)) (hp : pc + 3 = pc') (hl : L[k]? = some (.val (.int x))) (hz : x + Int32.ofInt cst = z) (hl' : storeLocals L k (.int z) = some L') (r : Fi p e below s n0 C S Q (T.setTop (mkF m pc' L' (st)))) : Fi p e below s n0 C S Q (T.setTop (mkF m pc L (st))) := by
  obtain ⟨locs, Y, -⟩ := X
  subst hp
  subst hz
  exact Fi.of (fun _ q => XS.iinc Y.here K.1 rfl (hb K.2.2.1 hd) hl hl' q) r
theorem g_dup (K : Cx Z p s m meth c own bytes ml rt nm) (X : Wk p l e R s m args below meth c n0 T h cells slots) {pc pc' : Nat} {L : Array Slot} {st : List Value} {v : Value} (hd : decode bytes pc = .ok (.dup, 1)) (hp : pc + 1 = pc') (hv : v.category = 1) (r : Fi p e below s n0 C S Q (T.setTop (mkF m pc' L (v :: v :: st)))) : Fi p e below s n0 C S Q (T.setTop (mkF m pc L (v :: st))) := by
  obtain ⟨locs, Y, -⟩ := X
  subst hp
  exact Fi.of (fun _ q => XS.dup Y.here K.1 rfl (hb K.2.2.1 hd) rfl hv q) r
theorem g_pop (K : Cx Z p s m meth c own bytes ml rt nm) (X : Wk p l e R s m args below meth c n0 T h cells slots) {pc pc' : Nat} {L : Array Slot} {st : List Value} {v : Value} (hd : decode bytes pc = .ok (.pop, 1)) (hp : pc + 1 = pc') (hv : v.category = 1) (r : Fi p e below s n0 C S Q (T.setTop (mkF m pc' L (st)))) : Fi p e below s n0 C S Q (T.setTop (mkF m pc L (v :: st))) := by
  obtain ⟨locs, Y, -⟩ := X
  subst hp
  exact Fi.of (fun _ q => XS.pop Y.here K.1 rfl (hb K.2.2.1 hd) rfl hv q) r
theorem g_goto (K : Cx Z p s m meth c own bytes ml rt nm) (X : Wk p l e R s m args below meth c n0 T h cells slots) {pc pc' : Nat} {L : Array Slot} {st : List Value} {o : Int} (hd : decode bytes pc = .ok (.goto o, 3)) (hp : (pc : Int) + o = (pc' : Int)) (r : Fi p e below s n0 C S Q (T.setTop (mkF m pc' L (st)))) : Fi p e below s n0 C S Q (T.setTop (mkF m pc L (st))) := by
  obtain ⟨locs, Y, -⟩ := X
  exact Fi.of (fun _ q => XS.goto Y.here K.1 rfl (pc0 := pc) (pc' := pc') rfl (hb K.2.2.1 hd) (by omega) (by omega) q) r
theorem i32_eq {x y : Int32} : x = y ↔ x.toInt = y.toInt := Int32.toInt_inj.symm
theorem i64_eq {x y : Int64} : x = y ↔ x.toInt = y.toInt := Int64.toInt_inj.symm
theorem h_icmp_eq {x y : Int32} : if_icmp.holds .eq x y = true ↔ x.toInt = y.toInt := by
  simp only [if_icmp.holds, decide_eq_true_eq, bne_iff_ne, beq_iff_eq, ne_eq, i32_eq, Int32.lt_iff_toInt_lt, Int32.le_iff_toInt_le, GT.gt, GE.ge]
theorem h_icmp_ne {x y : Int32} : if_icmp.holds .ne x y = true ↔ x.toInt ≠ y.toInt := by
  simp only [if_icmp.holds, decide_eq_true_eq, bne_iff_ne, beq_iff_eq, ne_eq, i32_eq, Int32.lt_iff_toInt_lt, Int32.le_iff_toInt_le, GT.gt, GE.ge]
theorem h_icmp_lt {x y : Int32} : if_icmp.holds .lt x y = true ↔ x.toInt < y.toInt := by
  simp only [if_icmp.holds, decide_eq_true_eq, bne_iff_ne, beq_iff_eq, ne_eq, i32_eq, Int32.lt_iff_toInt_lt, Int32.le_iff_toInt_le, GT.gt, GE.ge]
theorem h_icmp_ge {x y : Int32} : if_icmp.holds .ge x y = true ↔ x.toInt ≥ y.toInt := by
  simp only [if_icmp.holds, decide_eq_true_eq, bne_iff_ne, beq_iff_eq, ne_eq, i32_eq, Int32.lt_iff_toInt_lt, Int32.le_iff_toInt_le, GT.gt, GE.ge]
theorem h_icmp_gt {x y : Int32} : if_icmp.holds .gt x y = true ↔ x.toInt > y.toInt := by
  simp only [if_icmp.holds, decide_eq_true_eq, bne_iff_ne, beq_iff_eq, ne_eq, i32_eq, Int32.lt_iff_toInt_lt, Int32.le_iff_toInt_le, GT.gt, GE.ge]
theorem h_icmp_le {x y : Int32} : if_icmp.holds .le x y = true ↔ x.toInt ≤ y.toInt := by
  simp only [if_icmp.holds, decide_eq_true_eq, bne_iff_ne, beq_iff_eq, ne_eq, i32_eq, Int32.lt_iff_toInt_lt, Int32.le_iff_toInt_le, GT.gt, GE.ge]
theorem g_icmp_eq (K : Cx Z p s m meth c own bytes ml rt nm) (X : Wk p l e R s m args below meth c n0 T h cells slots) {pc pc' pc'' : Nat} {L : Array Slot} {st : List Value} {x y : Int32} {o : Int} (xv yv : Int) (hd : decode bytes pc = .ok (.if_icmp .eq o, 3)) (hp : (pc : Int) + o = (pc' : Int)) (hp' : pc + 3 = pc'') (hxv : x.toInt = xv) (hyv : y.toInt = yv) (r1 : xv = yv → Fi p e below s n0 C S Q (T.setTop (mkF m pc' L (st)))) (r2 : xv ≠ yv → Fi p e below s n0 C S Q (T.setTop (mkF m pc'' L (st)))) : Fi p e below s n0 C S Q (T.setTop (mkF m pc L (.int y :: .int x :: st))) := by
  obtain ⟨locs, Y, -⟩ := X
  subst hxv hyv hp'
  by_cases hq : if_icmp.holds .eq x y = true
  · exact Fi.of (fun _ q => XS.icmpYes Y.here K.1 rfl (pc0 := pc) (pc' := pc') rfl (hb K.2.2.1 hd) rfl hq (by omega) (by omega) q) (r1 (h_icmp_eq.mp hq))
  · exact Fi.of (fun _ q => XS.icmpNo Y.here K.1 rfl (hb K.2.2.1 hd) rfl (Bool.eq_false_iff.mpr hq) q) (r2 (by have := mt h_icmp_eq.mpr hq; omega))
theorem g_if_eq (K : Cx Z p s m meth c own bytes ml rt nm) (X : Wk p l e R s m args below meth c n0 T h cells slots) {pc pc' pc'' : Nat} {L : Array Slot} {st : List Value} {x : Int32} {o : Int} (xv : Int) (hd : decode bytes pc = .ok (.ifCond .eq o, 3)) (hp : (pc : Int) + o = (pc' : Int)) (hp' : pc + 3 = pc'') (hxv : x.toInt = xv) (r1 : xv = 0 → Fi p e below s n0 C S Q (T.setTop (mkF m pc' L (st)))) (r2 : xv ≠ 0 → Fi p e below s n0 C S Q (T.setTop (mkF m pc'' L (st)))) : Fi p e below s n0 C S Q (T.setTop (mkF m pc L (.int x :: st))) := by
  obtain ⟨locs, Y, -⟩ := X
  subst hxv hp'
  have z0 : (0 : Int32).toInt = 0 := rfl
  by_cases hq : if_icmp.holds .eq x 0 = true
  · exact Fi.of (fun _ q => XS.ifYes Y.here K.1 rfl (pc0 := pc) (pc' := pc') rfl (hb K.2.2.1 hd) rfl ((if0 _ _).trans hq) (by omega) (by omega) q) (r1 (by have := h_icmp_eq.mp hq; omega))
  · exact Fi.of (fun _ q => XS.ifNo Y.here K.1 rfl (hb K.2.2.1 hd) rfl ((if0 _ _).trans (Bool.eq_false_iff.mpr hq)) q) (r2 (by have := mt h_icmp_eq.mpr hq; omega))
theorem g_lcmp_eq (K : Cx Z p s m meth c own bytes ml rt nm) (X : Wk p l e R s m args below meth c n0 T h cells slots) {pc pc1 pc' pc'' : Nat} {L : Array Slot} {st : List Value} {x y : Int64} {o : Int} (xv yv : Int) (hd : decode bytes pc = .ok (.lcmp, 1)) (hp1 : pc + 1 = pc1) (hd1 : decode bytes pc1 = .ok (.ifCond .eq o, 3)) (hp : (pc1 : Int) + o = (pc' : Int)) (hp' : pc1 + 3 = pc'') (hxv : x.toInt = xv) (hyv : y.toInt = yv) (r1 : xv = yv → Fi p e below s n0 C S Q (T.setTop (mkF m pc' L (st)))) (r2 : xv ≠ yv → Fi p e below s n0 C S Q (T.setTop (mkF m pc'' L (st)))) : Fi p e below s n0 C S Q (T.setTop (mkF m pc L (.long y :: .long x :: st))) := by
  obtain ⟨locs, Y, -⟩ := X
  subst hxv hyv hp' hp1
  have hs : ∀ t, Steps p.tables e below (T.setTop (mkF m (pc + 1) L (.int (XT.cmpL x y) :: st))) t → Steps p.tables e below (T.setTop (mkF m pc L (.long y :: .long x :: st))) t := fun _ q => XS.lcmp Y.here K.1 rfl (hb K.2.2.1 hd) rfl q
  by_cases hq : x.toInt = y.toInt
  · exact Fi.of (fun _ q => hs _ (XS.ifYes Y.here K.1 rfl (pc0 := pc + 1) (pc' := pc') rfl (hb K.2.2.1 hd1) rfl (XT.ll_eq_t (by simpa only [ge_iff_le, gt_iff_lt, ne_eq, i64_eq, Int64.lt_iff_toInt_lt, Int64.le_iff_toInt_le, Int.not_lt] using hq)) (by omega) (by omega) q)) (r1 hq)
  · exact Fi.of (fun _ q => hs _ (XS.ifNo Y.here K.1 rfl (hb K.2.2.1 hd1) rfl (XT.ll_eq_f (by simpa only [ge_iff_le, gt_iff_lt, ne_eq, Decidable.not_not, i64_eq, Int64.lt_iff_toInt_lt, Int64.le_iff_toInt_le, Int.not_lt, Int.not_le] using hq)) q)) (r2 (by omega))
theorem g_icmp_ne (K : Cx Z p s m meth c own bytes ml rt nm) (X : Wk p l e R s m args below meth c n0 T h cells slots) {pc pc' pc'' : Nat} {L : Array Slot} {st : List Value} {x y : Int32} {o : Int} (xv yv : Int) (hd : decode bytes pc = .ok (.if_icmp .ne o, 3)) (hp : (pc : Int) + o = (pc' : Int)) (hp' : pc + 3 = pc'') (hxv : x.toInt = xv) (hyv : y.toInt = yv) (r1 : xv ≠ yv → Fi p e below s n0 C S Q (T.setTop (mkF m pc' L (st)))) (r2 : xv = yv → Fi p e below s n0 C S Q (T.setTop (mkF m pc'' L (st)))) : Fi p e below s n0 C S Q (T.setTop (mkF m pc L (.int y :: .int x :: st))) := by
  obtain ⟨locs, Y, -⟩ := X
  subst hxv hyv hp'
  by_cases hq : if_icmp.holds .ne x y = true
  · exact Fi.of (fun _ q => XS.icmpYes Y.here K.1 rfl (pc0 := pc) (pc' := pc') rfl (hb K.2.2.1 hd) rfl hq (by omega) (by omega) q) (r1 (h_icmp_ne.mp hq))
  · exact Fi.of (fun _ q => XS.icmpNo Y.here K.1 rfl (hb K.2.2.1 hd) rfl (Bool.eq_false_iff.mpr hq) q) (r2 (by have := mt h_icmp_ne.mpr hq; omega))
theorem g_if_ne (K : Cx Z p s m meth c own bytes ml rt nm) (X : Wk p l e R s m args below meth c n0 T h cells slots) {pc pc' pc'' : Nat} {L : Array Slot} {st : List Value} {x : Int32} {o : Int} (xv : Int) (hd : decode bytes pc = .ok (.ifCond .ne o, 3)) (hp : (pc : Int) + o = (pc' : Int)) (hp' : pc + 3 = pc'') (hxv : x.toInt = xv) (r1 : xv ≠ 0 → Fi p e below s n0 C S Q (T.setTop (mkF m pc' L (st)))) (r2 : xv = 0 → Fi p e below s n0 C S Q (T.setTop (mkF m pc'' L (st)))) : Fi p e below s n0 C S Q (T.setTop (mkF m pc L (.int x :: st))) := by
  obtain ⟨locs, Y, -⟩ := X
  subst hxv hp'
  have z0 : (0 : Int32).toInt = 0 := rfl
  by_cases hq : if_icmp.holds .ne x 0 = true
  · exact Fi.of (fun _ q => XS.ifYes Y.here K.1 rfl (pc0 := pc) (pc' := pc') rfl (hb K.2.2.1 hd) rfl ((if0 _ _).trans hq) (by omega) (by omega) q) (r1 (by have := h_icmp_ne.mp hq; omega))
  · exact Fi.of (fun _ q => XS.ifNo Y.here K.1 rfl (hb K.2.2.1 hd) rfl ((if0 _ _).trans (Bool.eq_false_iff.mpr hq)) q) (r2 (by have := mt h_icmp_ne.mpr hq; omega))
theorem g_lcmp_ne (K : Cx Z p s m meth c own bytes ml rt nm) (X : Wk p l e R s m args below meth c n0 T h cells slots) {pc pc1 pc' pc'' : Nat} {L : Array Slot} {st : List Value} {x y : Int64} {o : Int} (xv yv : Int) (hd : decode bytes pc = .ok (.lcmp, 1)) (hp1 : pc + 1 = pc1) (hd1 : decode bytes pc1 = .ok (.ifCond .ne o, 3)) (hp : (pc1 : Int) + o = (pc' : Int)) (hp' : pc1 + 3 = pc'') (hxv : x.toInt = xv) (hyv : y.toInt = yv) (r1 : xv ≠ yv → Fi p e below s n0 C S Q (T.setTop (mkF m pc' L (st)))) (r2 : xv = yv → Fi p e below s n0 C S Q (T.setTop (mkF m pc'' L (st)))) : Fi p e below s n0 C S Q (T.setTop (mkF m pc L (.long y :: .long x :: st))) := by
  obtain ⟨locs, Y, -⟩ := X
  subst hxv hyv hp' hp1
  have hs : ∀ t, Steps p.tables e below (T.setTop (mkF m (pc + 1) L (.int (XT.cmpL x y) :: st))) t → Steps p.tables e below (T.setTop (mkF m pc L (.long y :: .long x :: st))) t := fun _ q => XS.lcmp Y.here K.1 rfl (hb K.2.2.1 hd) rfl q
  by_cases hq : x.toInt ≠ y.toInt
  · exact Fi.of (fun _ q => hs _ (XS.ifYes Y.here K.1 rfl (pc0 := pc + 1) (pc' := pc') rfl (hb K.2.2.1 hd1) rfl (XT.ll_ne_t (by simpa only [ge_iff_le, gt_iff_lt, ne_eq, i64_eq, Int64.lt_iff_toInt_lt, Int64.le_iff_toInt_le, Int.not_lt] using hq)) (by omega) (by omega) q)) (r1 hq)
  · exact Fi.of (fun _ q => hs _ (XS.ifNo Y.here K.1 rfl (hb K.2.2.1 hd1) rfl (XT.ll_ne_f (by simpa only [ge_iff_le, gt_iff_lt, ne_eq, Decidable.not_not, i64_eq, Int64.lt_iff_toInt_lt, Int64.le_iff_toInt_le, Int.not_lt, Int.not_le] using hq)) q)) (r2 (by omega))
theorem g_icmp_lt (K : Cx Z p s m meth c own bytes ml rt nm) (X : Wk p l e R s m args below meth c n0 T h cells slots) {pc pc' pc'' : Nat} {L : Array Slot} {st : List Value} {x y : Int32} {o : Int} (xv yv : Int) (hd : decode bytes pc = .ok (.if_icmp .lt o, 3)) (hp : (pc : Int) + o = (pc' : Int)) (hp' : pc + 3 = pc'') (hxv : x.toInt = xv) (hyv : y.toInt = yv) (r1 : xv < yv → Fi p e below s n0 C S Q (T.setTop (mkF m pc' L (st)))) (r2 : xv ≥ yv → Fi p e below s n0 C S Q (T.setTop (mkF m pc'' L (st)))) : Fi p e below s n0 C S Q (T.setTop (mkF m pc L (.int y :: .int x :: st))) := by
  obtain ⟨locs, Y, -⟩ := X
  subst hxv hyv hp'
  by_cases hq : if_icmp.holds .lt x y = true
  · exact Fi.of (fun _ q => XS.icmpYes Y.here K.1 rfl (pc0 := pc) (pc' := pc') rfl (hb K.2.2.1 hd) rfl hq (by omega) (by omega) q) (r1 (h_icmp_lt.mp hq))
  · exact Fi.of (fun _ q => XS.icmpNo Y.here K.1 rfl (hb K.2.2.1 hd) rfl (Bool.eq_false_iff.mpr hq) q) (r2 (by have := mt h_icmp_lt.mpr hq; omega))
theorem g_if_lt (K : Cx Z p s m meth c own bytes ml rt nm) (X : Wk p l e R s m args below meth c n0 T h cells slots) {pc pc' pc'' : Nat} {L : Array Slot} {st : List Value} {x : Int32} {o : Int} (xv : Int) (hd : decode bytes pc = .ok (.ifCond .lt o, 3)) (hp : (pc : Int) + o = (pc' : Int)) (hp' : pc + 3 = pc'') (hxv : x.toInt = xv) (r1 : xv < 0 → Fi p e below s n0 C S Q (T.setTop (mkF m pc' L (st)))) (r2 : xv ≥ 0 → Fi p e below s n0 C S Q (T.setTop (mkF m pc'' L (st)))) : Fi p e below s n0 C S Q (T.setTop (mkF m pc L (.int x :: st))) := by
  obtain ⟨locs, Y, -⟩ := X
  subst hxv hp'
  have z0 : (0 : Int32).toInt = 0 := rfl
  by_cases hq : if_icmp.holds .lt x 0 = true
  · exact Fi.of (fun _ q => XS.ifYes Y.here K.1 rfl (pc0 := pc) (pc' := pc') rfl (hb K.2.2.1 hd) rfl ((if0 _ _).trans hq) (by omega) (by omega) q) (r1 (by have := h_icmp_lt.mp hq; omega))
  · exact Fi.of (fun _ q => XS.ifNo Y.here K.1 rfl (hb K.2.2.1 hd) rfl ((if0 _ _).trans (Bool.eq_false_iff.mpr hq)) q) (r2 (by have := mt h_icmp_lt.mpr hq; omega))
theorem g_lcmp_lt (K : Cx Z p s m meth c own bytes ml rt nm) (X : Wk p l e R s m args below meth c n0 T h cells slots) {pc pc1 pc' pc'' : Nat} {L : Array Slot} {st : List Value} {x y : Int64} {o : Int} (xv yv : Int) (hd : decode bytes pc = .ok (.lcmp, 1)) (hp1 : pc + 1 = pc1) (hd1 : decode bytes pc1 = .ok (.ifCond .lt o, 3)) (hp : (pc1 : Int) + o = (pc' : Int)) (hp' : pc1 + 3 = pc'') (hxv : x.toInt = xv) (hyv : y.toInt = yv) (r1 : xv < yv → Fi p e below s n0 C S Q (T.setTop (mkF m pc' L (st)))) (r2 : xv ≥ yv → Fi p e below s n0 C S Q (T.setTop (mkF m pc'' L (st)))) : Fi p e below s n0 C S Q (T.setTop (mkF m pc L (.long y :: .long x :: st))) := by
  obtain ⟨locs, Y, -⟩ := X
  subst hxv hyv hp' hp1
  have hs : ∀ t, Steps p.tables e below (T.setTop (mkF m (pc + 1) L (.int (XT.cmpL x y) :: st))) t → Steps p.tables e below (T.setTop (mkF m pc L (.long y :: .long x :: st))) t := fun _ q => XS.lcmp Y.here K.1 rfl (hb K.2.2.1 hd) rfl q
  by_cases hq : x.toInt < y.toInt
  · exact Fi.of (fun _ q => hs _ (XS.ifYes Y.here K.1 rfl (pc0 := pc + 1) (pc' := pc') rfl (hb K.2.2.1 hd1) rfl (XT.ll_lt_t (by simpa only [ge_iff_le, gt_iff_lt, ne_eq, i64_eq, Int64.lt_iff_toInt_lt, Int64.le_iff_toInt_le, Int.not_lt] using hq)) (by omega) (by omega) q)) (r1 hq)
  · exact Fi.of (fun _ q => hs _ (XS.ifNo Y.here K.1 rfl (hb K.2.2.1 hd1) rfl (XT.ll_lt_f (by simpa only [ge_iff_le, gt_iff_lt, ne_eq, Decidable.not_not, i64_eq, Int64.lt_iff_toInt_lt, Int64.le_iff_toInt_le, Int.not_lt, Int.not_le] using hq)) q)) (r2 (by omega))
theorem g_icmp_ge (K : Cx Z p s m meth c own bytes ml rt nm) (X : Wk p l e R s m args below meth c n0 T h cells slots) {pc pc' pc'' : Nat} {L : Array Slot} {st : List Value} {x y : Int32} {o : Int} (xv yv : Int) (hd : decode bytes pc = .ok (.if_icmp .ge o, 3)) (hp : (pc : Int) + o = (pc' : Int)) (hp' : pc + 3 = pc'') (hxv : x.toInt = xv) (hyv : y.toInt = yv) (r1 : xv ≥ yv → Fi p e below s n0 C S Q (T.setTop (mkF m pc' L (st)))) (r2 : xv < yv → Fi p e below s n0 C S Q (T.setTop (mkF m pc'' L (st)))) : Fi p e below s n0 C S Q (T.setTop (mkF m pc L (.int y :: .int x :: st))) := by
  obtain ⟨locs, Y, -⟩ := X
  subst hxv hyv hp'
  by_cases hq : if_icmp.holds .ge x y = true
  · exact Fi.of (fun _ q => XS.icmpYes Y.here K.1 rfl (pc0 := pc) (pc' := pc') rfl (hb K.2.2.1 hd) rfl hq (by omega) (by omega) q) (r1 (h_icmp_ge.mp hq))
  · exact Fi.of (fun _ q => XS.icmpNo Y.here K.1 rfl (hb K.2.2.1 hd) rfl (Bool.eq_false_iff.mpr hq) q) (r2 (by have := mt h_icmp_ge.mpr hq; omega))
theorem g_if_ge (K : Cx Z p s m meth c own bytes ml rt nm) (X : Wk p l e R s m args below meth c n0 T h cells slots) {pc pc' pc'' : Nat} {L : Array Slot} {st : List Value} {x : Int32} {o : Int} (xv : Int) (hd : decode bytes pc = .ok (.ifCond .ge o, 3)) (hp : (pc : Int) + o = (pc' : Int)) (hp' : pc + 3 = pc'') (hxv : x.toInt = xv) (r1 : xv ≥ 0 → Fi p e below s n0 C S Q (T.setTop (mkF m pc' L (st)))) (r2 : xv < 0 → Fi p e below s n0 C S Q (T.setTop (mkF m pc'' L (st)))) : Fi p e below s n0 C S Q (T.setTop (mkF m pc L (.int x :: st))) := by
  obtain ⟨locs, Y, -⟩ := X
  subst hxv hp'
  have z0 : (0 : Int32).toInt = 0 := rfl
  by_cases hq : if_icmp.holds .ge x 0 = true
  · exact Fi.of (fun _ q => XS.ifYes Y.here K.1 rfl (pc0 := pc) (pc' := pc') rfl (hb K.2.2.1 hd) rfl ((if0 _ _).trans hq) (by omega) (by omega) q) (r1 (by have := h_icmp_ge.mp hq; omega))
  · exact Fi.of (fun _ q => XS.ifNo Y.here K.1 rfl (hb K.2.2.1 hd) rfl ((if0 _ _).trans (Bool.eq_false_iff.mpr hq)) q) (r2 (by have := mt h_icmp_ge.mpr hq; omega))
theorem g_lcmp_ge (K : Cx Z p s m meth c own bytes ml rt nm) (X : Wk p l e R s m args below meth c n0 T h cells slots) {pc pc1 pc' pc'' : Nat} {L : Array Slot} {st : List Value} {x y : Int64} {o : Int} (xv yv : Int) (hd : decode bytes pc = .ok (.lcmp, 1)) (hp1 : pc + 1 = pc1) (hd1 : decode bytes pc1 = .ok (.ifCond .ge o, 3)) (hp : (pc1 : Int) + o = (pc' : Int)) (hp' : pc1 + 3 = pc'') (hxv : x.toInt = xv) (hyv : y.toInt = yv) (r1 : xv ≥ yv → Fi p e below s n0 C S Q (T.setTop (mkF m pc' L (st)))) (r2 : xv < yv → Fi p e below s n0 C S Q (T.setTop (mkF m pc'' L (st)))) : Fi p e below s n0 C S Q (T.setTop (mkF m pc L (.long y :: .long x :: st))) := by
  obtain ⟨locs, Y, -⟩ := X
  subst hxv hyv hp' hp1
  have hs : ∀ t, Steps p.tables e below (T.setTop (mkF m (pc + 1) L (.int (XT.cmpL x y) :: st))) t → Steps p.tables e below (T.setTop (mkF m pc L (.long y :: .long x :: st))) t := fun _ q => XS.lcmp Y.here K.1 rfl (hb K.2.2.1 hd) rfl q
  by_cases hq : x.toInt ≥ y.toInt
  · exact Fi.of (fun _ q => hs _ (XS.ifYes Y.here K.1 rfl (pc0 := pc + 1) (pc' := pc') rfl (hb K.2.2.1 hd1) rfl (XT.ll_ge_t (by simpa only [ge_iff_le, gt_iff_lt, ne_eq, i64_eq, Int64.lt_iff_toInt_lt, Int64.le_iff_toInt_le, Int.not_lt] using hq)) (by omega) (by omega) q)) (r1 hq)
  · exact Fi.of (fun _ q => hs _ (XS.ifNo Y.here K.1 rfl (hb K.2.2.1 hd1) rfl (XT.ll_ge_f (by simpa only [ge_iff_le, gt_iff_lt, ne_eq, Decidable.not_not, i64_eq, Int64.lt_iff_toInt_lt, Int64.le_iff_toInt_le, Int.not_lt, Int.not_le] using hq)) q)) (r2 (by omega))
theorem g_icmp_gt (K : Cx Z p s m meth c own bytes ml rt nm) (X : Wk p l e R s m args below meth c n0 T h cells slots) {pc pc' pc'' : Nat} {L : Array Slot} {st : List Value} {x y : Int32} {o : Int} (xv yv : Int) (hd : decode bytes pc = .ok (.if_icmp .gt o, 3)) (hp : (pc : Int) + o = (pc' : Int)) (hp' : pc + 3 = pc'') (hxv : x.toInt = xv) (hyv : y.toInt = yv) (r1 : xv > yv → Fi p e below s n0 C S Q (T.setTop (mkF m pc' L (st)))) (r2 : xv ≤ yv → Fi p e below s n0 C S Q (T.setTop (mkF m pc'' L (st)))) : Fi p e below s n0 C S Q (T.setTop (mkF m pc L (.int y :: .int x :: st))) := by
  obtain ⟨locs, Y, -⟩ := X
  subst hxv hyv hp'
  by_cases hq : if_icmp.holds .gt x y = true
  · exact Fi.of (fun _ q => XS.icmpYes Y.here K.1 rfl (pc0 := pc) (pc' := pc') rfl (hb K.2.2.1 hd) rfl hq (by omega) (by omega) q) (r1 (h_icmp_gt.mp hq))
  · exact Fi.of (fun _ q => XS.icmpNo Y.here K.1 rfl (hb K.2.2.1 hd) rfl (Bool.eq_false_iff.mpr hq) q) (r2 (by have := mt h_icmp_gt.mpr hq; omega))
theorem g_if_gt (K : Cx Z p s m meth c own bytes ml rt nm) (X : Wk p l e R s m args below meth c n0 T h cells slots) {pc pc' pc'' : Nat} {L : Array Slot} {st : List Value} {x : Int32} {o : Int} (xv : Int) (hd : decode bytes pc = .ok (.ifCond .gt o, 3)) (hp : (pc : Int) + o = (pc' : Int)) (hp' : pc + 3 = pc'') (hxv : x.toInt = xv) (r1 : xv > 0 → Fi p e below s n0 C S Q (T.setTop (mkF m pc' L (st)))) (r2 : xv ≤ 0 → Fi p e below s n0 C S Q (T.setTop (mkF m pc'' L (st)))) : Fi p e below s n0 C S Q (T.setTop (mkF m pc L (.int x :: st))) := by
  obtain ⟨locs, Y, -⟩ := X
  subst hxv hp'
  have z0 : (0 : Int32).toInt = 0 := rfl
  by_cases hq : if_icmp.holds .gt x 0 = true
  · exact Fi.of (fun _ q => XS.ifYes Y.here K.1 rfl (pc0 := pc) (pc' := pc') rfl (hb K.2.2.1 hd) rfl ((if0 _ _).trans hq) (by omega) (by omega) q) (r1 (by have := h_icmp_gt.mp hq; omega))
  · exact Fi.of (fun _ q => XS.ifNo Y.here K.1 rfl (hb K.2.2.1 hd) rfl ((if0 _ _).trans (Bool.eq_false_iff.mpr hq)) q) (r2 (by have := mt h_icmp_gt.mpr hq; omega))
theorem g_lcmp_gt (K : Cx Z p s m meth c own bytes ml rt nm) (X : Wk p l e R s m args below meth c n0 T h cells slots) {pc pc1 pc' pc'' : Nat} {L : Array Slot} {st : List Value} {x y : Int64} {o : Int} (xv yv : Int) (hd : decode bytes pc = .ok (.lcmp, 1)) (hp1 : pc + 1 = pc1) (hd1 : decode bytes pc1 = .ok (.ifCond .gt o, 3)) (hp : (pc1 : Int) + o = (pc' : Int)) (hp' : pc1 + 3 = pc'') (hxv : x.toInt = xv) (hyv : y.toInt = yv) (r1 : xv > yv → Fi p e below s n0 C S Q (T.setTop (mkF m pc' L (st)))) (r2 : xv ≤ yv → Fi p e below s n0 C S Q (T.setTop (mkF m pc'' L (st)))) : Fi p e below s n0 C S Q (T.setTop (mkF m pc L (.long y :: .long x :: st))) := by
  obtain ⟨locs, Y, -⟩ := X
  subst hxv hyv hp' hp1
  have hs : ∀ t, Steps p.tables e below (T.setTop (mkF m (pc + 1) L (.int (XT.cmpL x y) :: st))) t → Steps p.tables e below (T.setTop (mkF m pc L (.long y :: .long x :: st))) t := fun _ q => XS.lcmp Y.here K.1 rfl (hb K.2.2.1 hd) rfl q
  by_cases hq : x.toInt > y.toInt
  · exact Fi.of (fun _ q => hs _ (XS.ifYes Y.here K.1 rfl (pc0 := pc + 1) (pc' := pc') rfl (hb K.2.2.1 hd1) rfl (XT.ll_gt_t (by simpa only [ge_iff_le, gt_iff_lt, ne_eq, i64_eq, Int64.lt_iff_toInt_lt, Int64.le_iff_toInt_le, Int.not_lt] using hq)) (by omega) (by omega) q)) (r1 hq)
  · exact Fi.of (fun _ q => hs _ (XS.ifNo Y.here K.1 rfl (hb K.2.2.1 hd1) rfl (XT.ll_gt_f (by simpa only [ge_iff_le, gt_iff_lt, ne_eq, Decidable.not_not, i64_eq, Int64.lt_iff_toInt_lt, Int64.le_iff_toInt_le, Int.not_lt, Int.not_le] using hq)) q)) (r2 (by omega))
theorem g_icmp_le (K : Cx Z p s m meth c own bytes ml rt nm) (X : Wk p l e R s m args below meth c n0 T h cells slots) {pc pc' pc'' : Nat} {L : Array Slot} {st : List Value} {x y : Int32} {o : Int} (xv yv : Int) (hd : decode bytes pc = .ok (.if_icmp .le o, 3)) (hp : (pc : Int) + o = (pc' : Int)) (hp' : pc + 3 = pc'') (hxv : x.toInt = xv) (hyv : y.toInt = yv) (r1 : xv ≤ yv → Fi p e below s n0 C S Q (T.setTop (mkF m pc' L (st)))) (r2 : xv > yv → Fi p e below s n0 C S Q (T.setTop (mkF m pc'' L (st)))) : Fi p e below s n0 C S Q (T.setTop (mkF m pc L (.int y :: .int x :: st))) := by
  obtain ⟨locs, Y, -⟩ := X
  subst hxv hyv hp'
  by_cases hq : if_icmp.holds .le x y = true
  · exact Fi.of (fun _ q => XS.icmpYes Y.here K.1 rfl (pc0 := pc) (pc' := pc') rfl (hb K.2.2.1 hd) rfl hq (by omega) (by omega) q) (r1 (h_icmp_le.mp hq))
  · exact Fi.of (fun _ q => XS.icmpNo Y.here K.1 rfl (hb K.2.2.1 hd) rfl (Bool.eq_false_iff.mpr hq) q) (r2 (by have := mt h_icmp_le.mpr hq; omega))
theorem g_if_le (K : Cx Z p s m meth c own bytes ml rt nm) (X : Wk p l e R s m args below meth c n0 T h cells slots) {pc pc' pc'' : Nat} {L : Array Slot} {st : List Value} {x : Int32} {o : Int} (xv : Int) (hd : decode bytes pc = .ok (.ifCond .le o, 3)) (hp : (pc : Int) + o = (pc' : Int)) (hp' : pc + 3 = pc'') (hxv : x.toInt = xv) (r1 : xv ≤ 0 → Fi p e below s n0 C S Q (T.setTop (mkF m pc' L (st)))) (r2 : xv > 0 → Fi p e below s n0 C S Q (T.setTop (mkF m pc'' L (st)))) : Fi p e below s n0 C S Q (T.setTop (mkF m pc L (.int x :: st))) := by
  obtain ⟨locs, Y, -⟩ := X
  subst hxv hp'
  have z0 : (0 : Int32).toInt = 0 := rfl
  by_cases hq : if_icmp.holds .le x 0 = true
  · exact Fi.of (fun _ q => XS.ifYes Y.here K.1 rfl (pc0 := pc) (pc' := pc') rfl (hb K.2.2.1 hd) rfl ((if0 _ _).trans hq) (by omega) (by omega) q) (r1 (by have := h_icmp_le.mp hq; omega))
  · exact Fi.of (fun _ q => XS.ifNo Y.here K.1 rfl (hb K.2.2.1 hd) rfl ((if0 _ _).trans (Bool.eq_false_iff.mpr hq)) q) (r2 (by have := mt h_icmp_le.mpr hq; omega))
theorem g_lcmp_le (K : Cx Z p s m meth c own bytes ml rt nm) (X : Wk p l e R s m args below meth c n0 T h cells slots) {pc pc1 pc' pc'' : Nat} {L : Array Slot} {st : List Value} {x y : Int64} {o : Int} (xv yv : Int) (hd : decode bytes pc = .ok (.lcmp, 1)) (hp1 : pc + 1 = pc1) (hd1 : decode bytes pc1 = .ok (.ifCond .le o, 3)) (hp : (pc1 : Int) + o = (pc' : Int)) (hp' : pc1 + 3 = pc'') (hxv : x.toInt = xv) (hyv : y.toInt = yv) (r1 : xv ≤ yv → Fi p e below s n0 C S Q (T.setTop (mkF m pc' L (st)))) (r2 : xv > yv → Fi p e below s n0 C S Q (T.setTop (mkF m pc'' L (st)))) : Fi p e below s n0 C S Q (T.setTop (mkF m pc L (.long y :: .long x :: st))) := by
  obtain ⟨locs, Y, -⟩ := X
  subst hxv hyv hp' hp1
  have hs : ∀ t, Steps p.tables e below (T.setTop (mkF m (pc + 1) L (.int (XT.cmpL x y) :: st))) t → Steps p.tables e below (T.setTop (mkF m pc L (.long y :: .long x :: st))) t := fun _ q => XS.lcmp Y.here K.1 rfl (hb K.2.2.1 hd) rfl q
  by_cases hq : x.toInt ≤ y.toInt
  · exact Fi.of (fun _ q => hs _ (XS.ifYes Y.here K.1 rfl (pc0 := pc + 1) (pc' := pc') rfl (hb K.2.2.1 hd1) rfl (XT.ll_le_t (by simpa only [ge_iff_le, gt_iff_lt, ne_eq, i64_eq, Int64.lt_iff_toInt_lt, Int64.le_iff_toInt_le, Int.not_lt] using hq)) (by omega) (by omega) q)) (r1 hq)
  · exact Fi.of (fun _ q => hs _ (XS.ifNo Y.here K.1 rfl (hb K.2.2.1 hd1) rfl (XT.ll_le_f (by simpa only [ge_iff_le, gt_iff_lt, ne_eq, Decidable.not_not, i64_eq, Int64.lt_iff_toInt_lt, Int64.le_iff_toInt_le, Int.not_lt, Int.not_le] using hq)) q)) (r2 (by omega))
theorem g_leave (K : Cx Z p s m meth c own bytes ml rt nm) (X : Wk p l e R s m args below meth c n0 T h cells slots) {v : Option Value} {t0 : State} (hv : rt = none → v = none) (hc : cells ≤ C) (hs : slots ≤ S) (hq : Q v h)
    (st : ∀ fs, (∀ (f : JFrame) (acts : List Action), f.method = m → f.locked = none → f.entered = [] → (doReturn e (T.setTop f) acts v).1 = T.setFrames fs) → Steps p.tables e below t0 (T.setFrames fs)) : Fi p e below s n0 C S Q t0 := by
  obtain ⟨locs, Y, rfl, hF, -⟩ := X
  obtain ⟨fs, hr, hrun, hended, hW, hsame⟩ := Y.leave (v := v) (fun q => hv (K.2.2.2.2.2.1.symm.trans q)) K.2.2.2.2.2.2.1
  exact ⟨_, _, st fs hr, hrun, hended, v, locs, rfl, ⟨hq, hF⟩, ⟨_, rfl⟩, hW, hsame.mono hc hs⟩
theorem g_retN {t : FieldType} (K : Cx Z p s m meth c own bytes ml (some t) nm) (X : Wk p l e R s m args below meth c n0 T h cells slots) {pc : Nat} {L : Array Slot} {z : Int32} {rest : List Value} (hd : decode bytes pc = .ok (.ireturn, 1)) (ht : t = .boolean ∨ t = .byte ∨ t = .char ∨ t = .short) (hc : cells ≤ C) (hs : slots ≤ S) (hq : Q (some (.int (nar t z))) h) : Fi p e below s n0 C S Q (T.setTop (mkF m pc L (.int z :: rest))) := by
  refine g_leave K X (v := some (.int (nar t z))) (fun q => by cases q) hc hs hq (fun fs hr => ?_)
  obtain ⟨locs, Y, -⟩ := X
  exact retN Y K.1 (t := t) K.2.2.2.2.2.1 ht (hb K.2.2.1 hd) hr
theorem g_retI (K : Cx Z p s m meth c own bytes ml (some .int) nm) (X : Wk p l e R s m args below meth c n0 T h cells slots) {pc : Nat} {L : Array Slot} {z : Int32} {rest : List Value} (hd : decode bytes pc = .ok (.ireturn, 1)) (hc : cells ≤ C) (hs : slots ≤ S) (hq : Q (some (.int z)) h) : Fi p e below s n0 C S Q (T.setTop (mkF m pc L (.int z :: rest))) := by
  refine g_leave K X (v := some (.int z)) (fun q => by cases q) hc hs hq (fun fs hr => ?_)
  obtain ⟨locs, Y, -⟩ := X
  exact retOut Y K.1 K.2.2.2.2.2.1 rfl (Or.inl ⟨rfl, Or.inl rfl, _, rfl⟩) (hb K.2.2.1 hd) hr
theorem g_retL (K : Cx Z p s m meth c own bytes ml (some .long) nm) (X : Wk p l e R s m args below meth c n0 T h cells slots) {pc : Nat} {L : Array Slot} {z : Int64} {rest : List Value} (hd : decode bytes pc = .ok (.lreturn, 1)) (hc : cells ≤ C) (hs : slots ≤ S) (hq : Q (some (.long z)) h) : Fi p e below s n0 C S Q (T.setTop (mkF m pc L (.long z :: rest))) := by
  refine g_leave K X (v := some (.long z)) (fun q => by cases q) hc hs hq (fun fs hr => ?_)
  obtain ⟨locs, Y, -⟩ := X
  exact retOut Y K.1 K.2.2.2.2.2.1 rfl (Or.inr (Or.inl ⟨rfl, rfl, _, rfl⟩)) (hb K.2.2.1 hd) hr
theorem g_retA {t : FieldType} (K : Cx Z p s m meth c own bytes ml (some t) nm) (X : Wk p l e R s m args below meth c n0 T h cells slots) {pc : Nat} {L : Array Slot} {a : Addr} {rest : List Value} (hd : decode bytes pc = .ok (.areturn, 1)) (ht : t.isReference = true) (hnw : narrow t (.ref a) = .ref a) (hc : cells ≤ C) (hs : slots ≤ S) (hq : Q (some (.ref a)) h) : Fi p e below s n0 C S Q (T.setTop (mkF m pc L (.ref a :: rest))) := by
  refine g_leave K X (v := some (.ref a)) (fun q => by cases q) hc hs hq (fun fs hr => ?_)
  obtain ⟨locs, Y, -⟩ := X
  exact retOut Y K.1 K.2.2.2.2.2.1 hnw (Or.inr (Or.inr (Or.inr (Or.inr ⟨rfl, ht, rfl⟩)))) (hb K.2.2.1 hd) hr
theorem g_ret0 (K : Cx Z p s m meth c own bytes ml none nm) (X : Wk p l e R s m args below meth c n0 T h cells slots) {pc : Nat} {L : Array Slot} (hd : decode bytes pc = .ok (.return_, 1)) (hc : cells ≤ C) (hs : slots ≤ S) (hq : Q none h) : Fi p e below s n0 C S Q (T.setTop (mkF m pc L [])) := by
  refine g_leave K X (v := none) (fun q => rfl) hc hs hq (fun fs hr => ?_)
  obtain ⟨locs, Y, -⟩ := X
  exact Y.returnOut K.1 K.2.2.2.2.2.1 (hb K.2.2.1 hd) hr
theorem keep_same {h0 h1 h2 : Heap} {ws : List Addr} (K1 : Keep h0 h1 ws) (K2 : Keep h1 h2 ws) : Keep h0 h2 ws := K1.trans K2 (fun x hx => Or.inl hx)
/-! arrays by a function of the place -/
def upd {α : Type} (f : Nat → α) (i : Nat) (v : α) : Nat → α := fun j => if j = i then v else f j
theorem upd_hit {α : Type} (f : Nat → α) (i : Nat) (v : α) : upd f i v i = v := by simp [upd]
theorem upd_miss {α : Type} (f : Nat → α) {i j : Nat} (v : α) (hn : j ≠ i) : upd f i v j = f j := by simp [upd, hn]
def AN (Z : State) (h : Heap) (a : Addr) (ty : FieldType) (n : Nat) (f : Nat → Int32) : Prop := ∃ c : Cell, Arr Z h a c ty ∧ c.slots.size = n ∧ n < 2147483648 ∧ ∀ i, i < n → c.slots[i]? = some (.int (f i))
def AL (Z : State) (h : Heap) (a : Addr) (n : Nat) (f : Nat → Int64) : Prop := ∃ c : Cell, Arr Z h a c .long ∧ c.slots.size = n ∧ n < 2147483648 ∧ ∀ i, i < n → c.slots[i]? = some (.long (f i))
theorem j_in {j : Int32} {i n : Nat} (hj : j.toInt = (i : Int)) (hi : i < n) : ¬ (j < 0 ∨ n ≤ j.toNatClampNeg) ∧ j.toNatClampNeg = i := by
  have h1 : j.toNatClampNeg = i := by
    show j.toInt.toNat = i
    omega
  have h2 : ¬ j < 0 := by rw [Int32.lt_iff_toInt_lt]; show ¬ j.toInt < 0; omega
  exact ⟨fun q => q.elim h2 (by omega), h1⟩
theorem AN.lt {a : Addr} {ty : FieldType} {n : Nat} {f : Nat → Int32} (A : AN Z h a ty n f) : a < h.size := by obtain ⟨c, A, -⟩ := A; exact A.lt
theorem AN.ext {h' : Heap} {a : Addr} {ty : FieldType} {n : Nat} {f : Nat → Int32} (A : AN Z h a ty n f) (E : Ext h h') : AN Z h' a ty n f := by obtain ⟨c, A, r⟩ := A; exact ⟨c, A.ext E, r⟩
theorem AN.keep {h' : Heap} {ws : List Addr} {a : Addr} {ty : FieldType} {n : Nat} {f : Nat → Int32} (A : AN Z h a ty n f) (K : Keep h h' ws) (q : a ∉ ws) : AN Z h' a ty n f := by obtain ⟨c, A, r⟩ := A; exact ⟨c, ⟨K.2.1 a c A.1 q, A.2⟩, r⟩
theorem AN.congr {a : Addr} {ty : FieldType} {n : Nat} {f f' : Nat → Int32} (A : AN Z h a ty n f) (q : ∀ i, i < n → f i = f' i) : AN Z h a ty n f' := by obtain ⟨c, A, r1, r2, r3⟩ := A; exact ⟨c, A, r1, r2, fun i hi => by rw [← q i hi]; exact r3 i hi⟩
theorem AN.set {h' : Heap} {a : Addr} {ty : FieldType} {n i : Nat} {f : Nat → Int32} {v : Int32} {c : Cell} (A : Arr Z h a c ty) (q1 : c.slots.size = n) (q2 : n < 2147483648) (q3 : ∀ i, i < n → c.slots[i]? = some (.int (f i))) (hi : i < n) (W : Wr h h' a i (.int v)) : AN Z h' a ty n (upd f i v) := by
  refine ⟨_, A.same W, ?_, q2, fun k hk => ?_⟩
  · rw [sz_set]; exact q1
  · by_cases hki : k = i
    · subst hki
      simp [Cell.setSlot, upd, q1, hi]
    · have : ¬ i = k := fun q => hki q.symm
      simp [Cell.setSlot, upd, hki, this, q3 k hk, Array.getElem?_setIfInBounds]
theorem AL.lt {a : Addr} {n : Nat} {f : Nat → Int64} (A : AL Z h a n f) : a < h.size := by obtain ⟨c, A, -⟩ := A; exact A.lt
theorem AL.ext {h' : Heap} {a : Addr} {n : Nat} {f : Nat → Int64} (A : AL Z h a n f) (E : Ext h h') : AL Z h' a n f := by obtain ⟨c, A, r⟩ := A; exact ⟨c, A.ext E, r⟩
theorem AL.keep {h' : Heap} {ws : List Addr} {a : Addr} {n : Nat} {f : Nat → Int64} (A : AL Z h a n f) (K : Keep h h' ws) (q : a ∉ ws) : AL Z h' a n f := by obtain ⟨c, A, r⟩ := A; exact ⟨c, ⟨K.2.1 a c A.1 q, A.2⟩, r⟩
theorem AL.congr {a : Addr} {n : Nat} {f f' : Nat → Int64} (A : AL Z h a n f) (q : ∀ i, i < n → f i = f' i) : AL Z h a n f' := by obtain ⟨c, A, r1, r2, r3⟩ := A; exact ⟨c, A, r1, r2, fun i hi => by rw [← q i hi]; exact r3 i hi⟩
theorem AL.set {h' : Heap} {a : Addr} {n i : Nat} {f : Nat → Int64} {v : Int64} {c : Cell} (A : Arr Z h a c .long) (q1 : c.slots.size = n) (q2 : n < 2147483648) (q3 : ∀ i, i < n → c.slots[i]? = some (.long (f i))) (hi : i < n) (W : Wr h h' a i (.long v)) : AL Z h' a n (upd f i v) := by
  refine ⟨_, A.same W, ?_, q2, fun k hk => ?_⟩
  · rw [sz_set]; exact q1
  · by_cases hki : k = i
    · subst hki
      simp [Cell.setSlot, upd, q1, hi]
    · have : ¬ i = k := fun q => hki q.symm
      simp [Cell.setSlot, upd, hki, this, q3 k hk, Array.getElem?_setIfInBounds]
theorem AN.len {a : Addr} {ty : FieldType} {n : Nat} {f : Nat → Int32} (A : AN Z h a ty n f) : (Int32.ofNat n).toInt = (n : Int) := by
  obtain ⟨c, _, _, q2, _⟩ := A
  exact Int32.toInt_ofNat_of_lt q2
theorem jb_rng (x : Int32) : (jb x).toInt % 256 = x.toInt % 256 ∧ -128 ≤ (jb x).toInt ∧ (jb x).toInt < 128 := by
  have := c_i2b x
  unfold jb
  omega
theorem jb_id {x : Int32} (h1 : -128 ≤ x.toInt) (h2 : x.toInt < 128) : jb x = x := by
  have := jb_rng x
  rw [i32_eq]; omega
theorem jb_jb (x : Int32) : jb (jb x) = jb x := by
  have := jb_rng x
  exact jb_id (by omega) (by omega)
theorem jc_rng (x : Int32) : (jc x).toInt % 65536 = x.toInt % 65536 ∧ 0 ≤ (jc x).toInt ∧ (jc x).toInt < 65536 := by
  have := c_i2c x
  unfold jc
  omega
theorem jc_id {x : Int32} (h1 : 0 ≤ x.toInt) (h2 : x.toInt < 65536) : jc x = x := by
  have := jc_rng x
  rw [i32_eq]; omega
theorem nar_c (x : Int32) : nar .char x = jc x := rfl
theorem nar_b (x : Int32) : nar .byte x = jb x := rfl
theorem g_baload (K : Cx Z p s m meth c own bytes ml rt nm) (X : Wk p l e R s m args below meth c n0 T h cells slots) {pc pc' : Nat} {L : Array Slot} {st : List Value} {j : Int32} {a : Addr} {i n : Nat} {f : Nat → Int32} (hd : decode bytes pc = .ok (.baload, 1)) (hp : pc + 1 = pc') (A : AN Z h a .byte n f) (hj : j.toInt = (i : Int)) (hi : i < n) (r : Fi p e below s n0 C S Q (T.setTop (mkF m pc' L (.int (f i) :: st)))) : Fi p e below s n0 C S Q (T.setTop (mkF m pc L (.int j :: .ref a :: st))) := by
  obtain ⟨locs, Y, hh, -⟩ := X
  subst hp
  obtain ⟨cl, B, rfl, q2, q3⟩ := A
  obtain ⟨hin, e⟩ := j_in hj hi
  exact Fi.of (fun _ q => Y.baloadBytes K.1 (j := j) (v := .int (f i)) (by rw [hh]; exact B.1) (State.isArrayOf_alike K.2.1.alike B.2.1) B.2.2 hin (by rw [e]; exact q3 i hi) (g := mkF m pc L (.int j :: .ref a :: st)) rfl rfl (hb K.2.2.1 hd) _ q) r
theorem g_iaload (K : Cx Z p s m meth c own bytes ml rt nm) (X : Wk p l e R s m args below meth c n0 T h cells slots) {pc pc' : Nat} {L : Array Slot} {st : List Value} {j : Int32} {a : Addr} {i n : Nat} {f : Nat → Int32} (hd : decode bytes pc = .ok (.iaload, 1)) (hp : pc + 1 = pc') (A : AN Z h a .int n f) (hj : j.toInt = (i : Int)) (hi : i < n) (r : Fi p e below s n0 C S Q (T.setTop (mkF m pc' L (.int (f i) :: st)))) : Fi p e below s n0 C S Q (T.setTop (mkF m pc L (.int j :: .ref a :: st))) := by
  obtain ⟨locs, Y, hh, -⟩ := X
  subst hp
  obtain ⟨cl, B, rfl, q2, q3⟩ := A
  obtain ⟨hin, e⟩ := j_in hj hi
  exact Fi.of (fun _ q => Y.iaload K.1 (j := j) (v := .int (f i)) (by rw [hh]; exact B.1) (State.isArrayOf_alike K.2.1.alike B.2.1) B.2.2 hin (by rw [e]; exact q3 i hi) (g := mkF m pc L (.int j :: .ref a :: st)) rfl rfl (hb K.2.2.1 hd) _ q) r
theorem g_laload (K : Cx Z p s m meth c own bytes ml rt nm) (X : Wk p l e R s m args below meth c n0 T h cells slots) {pc pc' : Nat} {L : Array Slot} {st : List Value} {j : Int32} {a : Addr} {i n : Nat} {f : Nat → Int64} (hd : decode bytes pc = .ok (.laload, 1)) (hp : pc + 1 = pc') (A : AL Z h a n f) (hj : j.toInt = (i : Int)) (hi : i < n) (r : Fi p e below s n0 C S Q (T.setTop (mkF m pc' L (.long (f i) :: st)))) : Fi p e below s n0 C S Q (T.setTop (mkF m pc L (.int j :: .ref a :: st))) := by
  obtain ⟨locs, Y, hh, -⟩ := X
  subst hp
  obtain ⟨cl, B, rfl, q2, q3⟩ := A
  obtain ⟨hin, e⟩ := j_in hj hi
  exact Fi.of (fun _ q => Y.laload K.1 (j := j) (v := .long (f i)) (by rw [hh]; exact B.1) (State.isArrayOf_alike K.2.1.alike B.2.1) B.2.2 hin (by rw [e]; exact q3 i hi) (g := mkF m pc L (.int j :: .ref a :: st)) rfl rfl (hb K.2.2.1 hd) _ q) r
theorem g_bastore (K : Cx Z p s m meth c own bytes ml rt nm) (X : Wk p l e R s m args below meth c n0 T h cells slots) {pc pc' : Nat} {L : Array Slot} {st : List Value} {j : Int32} {x : Int32} {a : Addr} {i n : Nat} {f : Nat → Int32} (hd : decode bytes pc = .ok (.bastore, 1)) (hp : pc + 1 = pc') (A : AN Z h a .byte n f) (ha : n0 ≤ a) (hj : j.toInt = (i : Int)) (hi : i < n)
    (r : ∀ T' h', Wk p l e R s m args below meth c n0 T' h' cells slots → Keep h h' [a] → AN Z h' a .byte n (upd f i (jb x)) → Fi p e below s n0 C S Q (T'.setTop (mkF m pc' L (st)))) : Fi p e below s n0 C S Q (T.setTop (mkF m pc L (.int x :: .int j :: .ref a :: st))) := by
  obtain ⟨locs, Y, hh, hF, hn⟩ := X
  subst hp
  obtain ⟨cl, B, rfl, q2, q3⟩ := A
  obtain ⟨hin, e1⟩ := j_in hj hi
  obtain ⟨T', h', X', e', W, st'⟩ := stB Y K.1 K.2.1 hh B (j := j) hin (g := mkF m pc L (.int x :: .int j :: .ref a :: st)) rfl rfl (hb K.2.2.1 hd)
  rw [e1] at W
  exact Fi.of st' (r T' h' ⟨_, X', e', Fr.snoc X' hF ha, by rw [W.size]; exact hn⟩ (Keep.of_wr W) (AN.set B rfl q2 q3 hi W))
theorem g_iastore (K : Cx Z p s m meth c own bytes ml rt nm) (X : Wk p l e R s m args below meth c n0 T h cells slots) {pc pc' : Nat} {L : Array Slot} {st : List Value} {j : Int32} {x : Int32} {a : Addr} {i n : Nat} {f : Nat → Int32} (hd : decode bytes pc = .ok (.iastore, 1)) (hp : pc + 1 = pc') (A : AN Z h a .int n f) (ha : n0 ≤ a) (hj : j.toInt = (i : Int)) (hi : i < n)
    (r : ∀ T' h', Wk p l e R s m args below meth c n0 T' h' cells slots → Keep h h' [a] → AN Z h' a .int n (upd f i x) → Fi p e below s n0 C S Q (T'.setTop (mkF m pc' L (st)))) : Fi p e below s n0 C S Q (T.setTop (mkF m pc L (.int x :: .int j :: .ref a :: st))) := by
  obtain ⟨locs, Y, hh, hF, hn⟩ := X
  subst hp
  obtain ⟨cl, B, rfl, q2, q3⟩ := A
  obtain ⟨hin, e1⟩ := j_in hj hi
  obtain ⟨T', h', X', e', W, st'⟩ := stI Y K.1 K.2.1 hh B (j := j) hin (g := mkF m pc L (.int x :: .int j :: .ref a :: st)) rfl rfl (hb K.2.2.1 hd)
  rw [e1] at W
  exact Fi.of st' (r T' h' ⟨_, X', e', Fr.snoc X' hF ha, by rw [W.size]; exact hn⟩ (Keep.of_wr W) (AN.set B rfl q2 q3 hi W))
theorem g_lastore (K : Cx Z p s m meth c own bytes ml rt nm) (X : Wk p l e R s m args below meth c n0 T h cells slots) {pc pc' : Nat} {L : Array Slot} {st : List Value} {j : Int32} {x : Int64} {a : Addr} {i n : Nat} {f : Nat → Int64} (hd : decode bytes pc = .ok (.lastore, 1)) (hp : pc + 1 = pc') (A : AL Z h a n f) (ha : n0 ≤ a) (hj : j.toInt = (i : Int)) (hi : i < n)
    (r : ∀ T' h', Wk p l e R s m args below meth c n0 T' h' cells slots → Keep h h' [a] → AL Z h' a n (upd f i x) → Fi p e below s n0 C S Q (T'.setTop (mkF m pc' L (st)))) : Fi p e below s n0 C S Q (T.setTop (mkF m pc L (.long x :: .int j :: .ref a :: st))) := by
  obtain ⟨locs, Y, hh, hF, hn⟩ := X
  subst hp
  obtain ⟨cl, B, rfl, q2, q3⟩ := A
  obtain ⟨hin, e1⟩ := j_in hj hi
  obtain ⟨T', h', X', e', W, st'⟩ := stJ Y K.1 K.2.1 hh B (j := j) hin (g := mkF m pc L (.long x :: .int j :: .ref a :: st)) rfl rfl (hb K.2.2.1 hd)
  rw [e1] at W
  exact Fi.of st' (r T' h' ⟨_, X', e', Fr.snoc X' hF ha, by rw [W.size]; exact hn⟩ (Keep.of_wr W) (AL.set B rfl q2 q3 hi W))
theorem g_arraylength (K : Cx Z p s m meth c own bytes ml rt nm) (X : Wk p l e R s m args below meth c n0 T h cells slots) {pc pc' : Nat} {L : Array Slot} {st : List Value} {v : Int32} {a : Addr} {n : Nat} {ty : FieldType} {f : Nat → Int32} (hd : decode bytes pc = .ok (.arraylength, 1)) (hp : pc + 1 = pc') (A : AN Z h a ty n f) (hv : v.toInt = (n : Int)) (r : Fi p e below s n0 C S Q (T.setTop (mkF m pc' L (.int v :: st)))) : Fi p e below s n0 C S Q (T.setTop (mkF m pc L (.ref a :: st))) := by
  obtain ⟨locs, Y, hh, -⟩ := X
  subst hp
  obtain ⟨cl, B, e1, q2, q3⟩ := A
  have e2 : cl.slots.size.toInt32 = v := by
    rw [i32_eq, hv, e1]
    exact Int32.toInt_ofNat_of_lt q2
  exact Fi.of (fun _ q => Y.arraylength K.1 (by rw [hh]; exact B.1) (State.isArrayOf_alike K.2.1.alike B.2.1) (g := mkF m pc L (.ref a :: st)) rfl rfl (hb K.2.2.1 hd) _ (by rw [e2]; exact q)) r
theorem cnt_of {z : Int32} {n : Nat} (hz : z.toInt = (n : Int)) : ¬ z < 0 ∧ z.toNatClampNeg = n ∧ n < 2147483648 := by
  have h2 : ¬ z < 0 := by rw [Int32.lt_iff_toInt_lt]; show ¬ z.toInt < 0; omega
  have h3 := z.toInt_lt
  exact ⟨h2, by show z.toInt.toNat = n; omega, by omega⟩
theorem g_newarray_byte (K : Cx Z p s m meth c own bytes ml rt nm) (X : Wk p l e R s m args below meth c n0 T h cells slots) {pc pc' : Nat} {L : Array Slot} {st : List Value} {z : Int32} {n : Nat} (cap : Nat) (hd : decode bytes pc = .ok (.newarray .byte, 2)) (hp : pc + 2 = pc') (w : (Cond.arrayClass .byte).before a0 Z = true) (hz : z.toInt = (n : Int)) (hcap : n ≤ cap) (hbnd : cap * 8 ≤ 536870912) (hc : cells + 1 ≤ R.cells) (hs : slots + cap ≤ R.slots)
    (r : ∀ T' h' a, Wk p l e R s m args below meth c n0 T' h' (cells + 1) (slots + cap) → Ext h h' → a = h.size → n0 ≤ a → AN Z h' a .byte n (fun _ => (0 : Int32)) → Fi p e below s n0 C S Q (T'.setTop (mkF m pc' L (.ref a :: st)))) : Fi p e below s n0 C S Q (T.setTop (mkF m pc L (.int z :: st))) := by
  obtain ⟨locs, Y, hh, hF, hn⟩ := X
  subst hp
  obtain ⟨z1, z2, z3⟩ := cnt_of hz
  obtain ⟨T', h', k, X', e', E, A, st'⟩ := newP Y K.1 K.2.1 (aty := .byte) w hh (g := mkF m pc L (.int z :: st)) rfl (hb K.2.2.1 hd) rfl z1 (cap := cap) (by rw [z2]; exact hcap) hbnd hc hs
  refine Fi.of st' (r T' h' _ ⟨_, X', e', hF, Nat.le_trans hn E.1⟩ E rfl hn ⟨_, A, ?_, z3, fun i hi => ?_⟩)
  · rw [sz_new]; exact z2
  · simp [newA, z2, hi, newarray.typeOf, defaultValue]
theorem g_newarray_int (K : Cx Z p s m meth c own bytes ml rt nm) (X : Wk p l e R s m args below meth c n0 T h cells slots) {pc pc' : Nat} {L : Array Slot} {st : List Value} {z : Int32} {n : Nat} (cap : Nat) (hd : decode bytes pc = .ok (.newarray .int, 2)) (hp : pc + 2 = pc') (w : (Cond.arrayClass .int).before a0 Z = true) (hz : z.toInt = (n : Int)) (hcap : n ≤ cap) (hbnd : cap * 8 ≤ 536870912) (hc : cells + 1 ≤ R.cells) (hs : slots + cap ≤ R.slots)
    (r : ∀ T' h' a, Wk p l e R s m args below meth c n0 T' h' (cells + 1) (slots + cap) → Ext h h' → a = h.size → n0 ≤ a → AN Z h' a .int n (fun _ => (0 : Int32)) → Fi p e below s n0 C S Q (T'.setTop (mkF m pc' L (.ref a :: st)))) : Fi p e below s n0 C S Q (T.setTop (mkF m pc L (.int z :: st))) := by
  obtain ⟨locs, Y, hh, hF, hn⟩ := X
  subst hp
  obtain ⟨z1, z2, z3⟩ := cnt_of hz
  obtain ⟨T', h', k, X', e', E, A, st'⟩ := newP Y K.1 K.2.1 (aty := .int) w hh (g := mkF m pc L (.int z :: st)) rfl (hb K.2.2.1 hd) rfl z1 (cap := cap) (by rw [z2]; exact hcap) hbnd hc hs
  refine Fi.of st' (r T' h' _ ⟨_, X', e', hF, Nat.le_trans hn E.1⟩ E rfl hn ⟨_, A, ?_, z3, fun i hi => ?_⟩)
  · rw [sz_new]; exact z2
  · simp [newA, z2, hi, newarray.typeOf, defaultValue]
theorem g_newarray_long (K : Cx Z p s m meth c own bytes ml rt nm) (X : Wk p l e R s m args below meth c n0 T h cells slots) {pc pc' : Nat} {L : Array Slot} {st : List Value} {z : Int32} {n : Nat} (cap : Nat) (hd : decode bytes pc = .ok (.newarray .long, 2)) (hp : pc + 2 = pc') (w : (Cond.arrayClass .long).before a0 Z = true) (hz : z.toInt = (n : Int)) (hcap : n ≤ cap) (hbnd : cap * 8 ≤ 536870912) (hc : cells + 1 ≤ R.cells) (hs : slots + cap ≤ R.slots)
    (r : ∀ T' h' a, Wk p l e R s m args below meth c n0 T' h' (cells + 1) (slots + cap) → Ext h h' → a = h.size → n0 ≤ a → AL Z h' a n (fun _ => (0 : Int64)) → Fi p e below s n0 C S Q (T'.setTop (mkF m pc' L (.ref a :: st)))) : Fi p e below s n0 C S Q (T.setTop (mkF m pc L (.int z :: st))) := by
  obtain ⟨locs, Y, hh, hF, hn⟩ := X
  subst hp
  obtain ⟨z1, z2, z3⟩ := cnt_of hz
  obtain ⟨T', h', k, X', e', E, A, st'⟩ := newP Y K.1 K.2.1 (aty := .long) w hh (g := mkF m pc L (.int z :: st)) rfl (hb K.2.2.1 hd) rfl z1 (cap := cap) (by rw [z2]; exact hcap) hbnd hc hs
  refine Fi.of st' (r T' h' _ ⟨_, X', e', hF, Nat.le_trans hn E.1⟩ E rfl hn ⟨_, A, ?_, z3, fun i hi => ?_⟩)
  · rw [sz_new]; exact z2
  · simp [newA, z2, hi, newarray.typeOf, defaultValue]
theorem g_new (K : Cx Z p s m meth c own bytes ml rt nm) (X : Wk p l e R s m args below meth c n0 T h cells slots) {pc pc' : Nat} {L : Array Slot} {st : List Value} {index n : Nat} {Cl : String} (hd : decode bytes pc = .ok (.new index, 3)) (hp : pc + 3 = pc') (w1 : (Cond.classLink own index Cl).before a0 Z = true) (w2 : (Cond.instantiable Cl n).before a0 Z = true) (w3 : (Cond.initialized Cl).before a0 Z = true) (hc : cells + 1 ≤ R.cells) (hs : slots + n ≤ R.slots)
    (r : ∀ T' h' a, Wk p l e R s m args below meth c n0 T' h' (cells + 1) (slots + n) → Ext h h' → a = h.size → n0 ≤ a → Exa Z h' a Cl → (∀ {O nm d : String} {ty : FieldType}, Laid Z a0 Cl O nm d → parseFieldDescriptor d = some ty → Fld Z h' a O nm d (defaultValue ty)) → Fi p e below s n0 C S Q (T'.setTop (mkF m pc' L (.ref a :: st)))) : Fi p e below s n0 C S Q (T.setTop (mkF m pc L (st))) := by
  obtain ⟨locs, Y, hh, hF, hn⟩ := X
  subst hp
  obtain ⟨T', h', X', e', E, A, D, -, st'⟩ := newO Y K.1 K.2.1 K.2.2.2.2.1 w1 w2 w3 hh (g := mkF m pc L st) rfl (hb K.2.2.1 hd) hc hs
  exact Fi.of st' (r T' h' _ ⟨_, X', e', hF, Nat.le_trans hn E.1⟩ E rfl hn A D)
theorem g_getfield (K : Cx Z p s m meth c own bytes ml rt nm) (X : Wk p l e R s m args below meth c n0 T h cells slots) {pc pc' : Nat} {L : Array Slot} {st : List Value} {index : Nat} {O n d : String} {a : Addr} {v : Value} (hd : decode bytes pc = .ok (.getfield index, 3)) (hp : pc + 3 = pc') (w : (Cond.fieldLink own index O n d).before a0 Z = true) (F : Fld Z h a O n d v)
    (r : ∀ T', Wk p l e R s m args below meth c n0 T' h cells slots → Fi p e below s n0 C S Q (T'.setTop (mkF m pc' L (v :: st)))) : Fi p e below s n0 C S Q (T.setTop (mkF m pc L (.ref a :: st))) := by
  obtain ⟨locs, Y, hh, hF, hn⟩ := X
  subst hp
  obtain ⟨T', X', e', st'⟩ := getF Y K.1 K.2.1 K.2.2.2.2.1 (host := "") (Or.inl w) Via.refl hh F (g := mkF m pc L (.ref a :: st)) rfl rfl (hb K.2.2.1 hd)
  exact Fi.of st' (r T' ⟨_, X', e', hF, hn⟩)
theorem g_putfield (K : Cx Z p s m meth c own bytes ml rt nm) (X : Wk p l e R s m args below meth c n0 T h cells slots) {pc pc' : Nat} {L : Array Slot} {st : List Value} {index kk : Nat} {O n d Cl : String} {ty : FieldType} {a : Addr} {v ov : Value} (hd : decode bytes pc = .ok (.putfield index, 3)) (hp : pc + 3 = pc') (w : (Cond.fieldLink own index O n d).before a0 Z = true) (F : Fld Z h a O n d ov) (E : Exa Z h a Cl) (Ly : (Cond.lays Cl O n d).before a0 Z = true ∨ ((Cond.laysFinal Cl O n d).before a0 Z = true ∧ own = O ∧ nm = "<init>")) (wi : (Cond.instantiable Cl kk).before a0 Z = true) (hty : parseFieldDescriptor d = some ty) (hnr : narrow ty v = v) (hft : fits ty v = true) (ha : n0 ≤ a)
    (r : ∀ T' h', Wk p l e R s m args below meth c n0 T' h' cells slots → Wr h h' a (RoadKit.slotOf Z O n d) v → Keep h h' [a] → Exa Z h' a Cl → Fld Z h' a O n d v → Fi p e below s n0 C S Q (T'.setTop (mkF m pc' L (st)))) : Fi p e below s n0 C S Q (T.setTop (mkF m pc L (v :: .ref a :: st))) := by
  obtain ⟨locs, Y, hh, hF, hn⟩ := X
  subst hp
  obtain ⟨T', h', X', e', W, st'⟩ := putF Y K.1 K.2.1 K.2.2.2.2.1 (host := "") (Or.inl w) Via.refl hh F E (Ly.imp id fun q => ⟨q.1, q.2.1, by rw [K.2.2.2.2.2.2.2]; exact q.2.2⟩) wi hty hnr hft (g := mkF m pc L (v :: .ref a :: st)) rfl rfl (hb K.2.2.1 hd)
  exact Fi.of st' (r T' h' ⟨_, X', e', Fr.snoc X' hF ha, by rw [W.size]; exact hn⟩ W (Keep.of_wr W) (E.wr W) (F.same W))
theorem g_objinit (K : Cx Z p s m meth c own bytes ml rt nm) (X : Wk p l e R s m args below meth c n0 T h cells slots) {pc pc' : Nat} {L : Array Slot} {st : List Value} {index : Nat} {a : Addr} (hd : decode bytes pc = .ok (.invokespecial index, 3)) (hp : pc + 3 = pc') (w1 : (Cond.methodLink own index Lib.objectInit).before a0 Z = true) (w2 : (Cond.instanceMethod Lib.objectInit).before a0 Z = true) (w3 : (Cond.code Lib.objectInit object_method_1_code 1 none).before a0 Z = true) (hL : L.size = ml) (W : Nat) (hf : 1 ≤ R.frames) (hW : (st.map fun v => v.category).sum ≤ W) (hl : W + 12 ≤ R.locals)
    (r : ∀ T', Wk p l e R s m args below meth c n0 T' h cells slots → Fi p e below s n0 C S Q (T'.setTop (mkF m pc' L (st)))) : Fi p e below s n0 C S Q (T.setTop (mkF m pc L (.ref a :: st))) := by
  obtain ⟨locs, Y, hh, hF, hn⟩ := X
  subst hp
  obtain ⟨T', X', e', st'⟩ := initO Y K.1 K.2.1 K.2.2.2.2.1 w1 w2 w3 hh (g := mkF m pc L (.ref a :: st)) rfl (by rw [K.2.2.2.1]; exact hL) rfl (hb K.2.2.1 hd) hf (W := W) (by show 2 * 0 + _ ≤ _; omega) hl
  exact Fi.of st' (r T' ⟨_, X', e', hF, hn⟩)
theorem fr_ready {locs : List Loc} (Y : Stand p l e R s m args below meth c T locs cells slots) (hZ : Z.Warmed39 s.vm) {index : Nat} {O n d : String} (hown : s.vm.findClass own = some m.cls) (w : (Cond.fieldRef own index O n d).before a0 Z = true) {cf i : Nat} {k : Class} {f : Field} (hf : Z.fieldFound? O n d = some (cf, k, i, f)) : T.vm.fieldReady m.cls index cf f := by
  have hT : Z.Warmed39 T.vm := wtrans hZ Y.warmed
  have w' := Cond.fieldRef_warmed39 hT w
  have hownZ : (Z.setVm T.vm).vm.findClass own = some m.cls := (Y.warmed.alike.findClass _ _).trans hown
  obtain ⟨c', k', i', f', hi, hr⟩ := Cond.fieldRef_spec hownZ w'
  obtain ⟨k2, hf2, -⟩ := State.fieldFound?_setVm (s := Z) hT.alike hf
  cases hf2.symm.trans hi
  exact hr
theorem g_getfieldR (K : Cx Z p s m meth c own bytes ml rt nm) (X : Wk p l e R s m args below meth c n0 T h cells slots) {pc pc' : Nat} {L : Array Slot} {st : List Value} {index : Nat} {O n d : String} {a : Addr} {v : Value} (hd : decode bytes pc = .ok (.getfield index, 3)) (hp : pc + 3 = pc') (w : (Cond.fieldRef own index O n d).before a0 Z = true) (F : Fld Z h a O n d v)
    (r : ∀ T', Wk p l e R s m args below meth c n0 T' h cells slots → Fi p e below s n0 C S Q (T'.setTop (mkF m pc' L (v :: st)))) : Fi p e below s n0 C S Q (T.setTop (mkF m pc L (.ref a :: st))) := by
  have hX := X
  obtain ⟨locs, Y, hh, hF, hn⟩ := X
  subst hp
  obtain ⟨cell, cf, k, i, f, h1, h2, h3, h4, -, -, h7⟩ := F
  have hready := fr_ready Y K.2.1 K.2.2.2.2.1 w h2
  refine Fi.of (fun target hrest => ?_) (r T hX)
  have hx := K.1
  have hd' := hb K.2.2.1 hd
  show Steps p.tables e below (T.setTop { method := m, pc := pc, locals := L, stack := .ref a :: st, locked := none }) _
  jvm_step Y.here [hx, hd', getfield.wp_ready (e := e) (s := T) (f := mkF m pc L (.ref a :: st)) Y.here.top hready h3 rfl (show T.heap[a]? = some cell by rw [hh]; exact h1) h4 h7]
  exact hrest
theorem g_putfieldR (K : Cx Z p s m meth c own bytes ml rt nm) (X : Wk p l e R s m args below meth c n0 T h cells slots) {pc pc' : Nat} {L : Array Slot} {st : List Value} {index kk : Nat} {O n d Cl : String} {ty : FieldType} {a : Addr} {v ov : Value} (hd : decode bytes pc = .ok (.putfield index, 3)) (hp : pc + 3 = pc') (w : (Cond.fieldRef own index O n d).before a0 Z = true) (F : Fld Z h a O n d ov) (E : Exa Z h a Cl) (Ly : (Cond.lays Cl O n d).before a0 Z = true) (wi : (Cond.instantiable Cl kk).before a0 Z = true) (hty : parseFieldDescriptor d = some ty) (hnr : narrow ty v = v) (hft : fits ty v = true) (ha : n0 ≤ a)
    (r : ∀ T' h', Wk p l e R s m args below meth c n0 T' h' cells slots → Wr h h' a (RoadKit.slotOf Z O n d) v → Keep h h' [a] → Exa Z h' a Cl → Fld Z h' a O n d v → Fi p e below s n0 C S Q (T'.setTop (mkF m pc' L (st)))) : Fi p e below s n0 C S Q (T.setTop (mkF m pc L (v :: .ref a :: st))) := by
  obtain ⟨locs, Y, hh, hF, hn⟩ := X
  subst hp
  have F0 := F
  have E0 := E
  obtain ⟨cell, cf, k, i, f, h1, h2, h3, h4, h5, -, h7⟩ := F
  have hready := fr_ready Y K.2.1 K.2.2.2.2.1 w h2
  obtain ⟨cell', kc, e1, e2, e3, -⟩ := E
  cases h1.symm.trans e1
  obtain ⟨c1, k1, cf1, kf1, i1, f1, a1, a2, a3, -, a5, -⟩ := Cond.lays_spec Ly
  cases h2.symm.trans a3
  cases e2.symm.trans a1
  obtain ⟨_, _, _, _, _, _, b1, b2, b3, -, -, b6, -⟩ := Laid.spec (a0 := a0) (Or.inl Ly)
  cases h2.symm.trans b3
  cases e2.symm.trans b1
  obtain ⟨c2, k2, j1, j2, j3, -⟩ := Cond.instantiable_spec wi
  cases e2.symm.trans j1
  cases b2.symm.trans j2
  have ht := (State.fieldFound?_type h2 hty).2
  have hT : Z.Warmed39 T.vm := wtrans K.2.1 Y.warmed
  have hfit : Z.fitsSlot cell.cls cell.vm f.slot v = true := by
    have q : Z.slotType? cell.cls cell.vm f.slot = some ty := by
      simp only [State.slotType?, b2, Option.bind_eq_bind, Option.bind_some, j3]
      cases hq : cell.vm <;> first | (rw [hq] at h5; exact Bool.noConfusion h5) | (rw [b6, ht])
    simp [State.fitsSlot, q, hft]
  have hfitT : T.fitsSlot cell.cls cell.vm f.slot v = true := by
    rw [← State.fitsSlot_setVm hT.alike] at hfit; exact hfit
  have hlt := (Array.getElem?_eq_some_iff.mp h7).1
  have es : RoadKit.slotOf Z O n d = f.slot := by simp [RoadKit.slotOf, h2]
  obtain ⟨X', st'⟩ := Y.putfieldReady K.1 hready h3 (Or.inl a5) (a := a) (cell := cell) (v := v) (by rw [hh]; exact h1) h4 hlt (by rw [ht]; exact hnr) hfitT (g := mkF m pc L (v :: .ref a :: st)) rfl rfl (hb K.2.2.1 hd)
  have W : Wr h (T.setCell a (cell.setSlot f.slot v)).heap a (RoadKit.slotOf Z O n d) v := ⟨cell, h1, h5, by rw [es]; exact hlt, by rw [es, ← hh]; rfl⟩
  exact Fi.of st' (r (T.setCell a (cell.setSlot f.slot v)) _ ⟨_, X', rfl, Fr.snoc X' hF ha, by rw [W.size]; exact hn⟩ W (Keep.of_wr W) (E0.wr W) (F0.same W))
theorem g_callS (K : Cx Z p s m meth c own bytes ml rt nm) (X : Wk p l e R s m args below meth c n0 T h cells slots) {pc pc' : Nat} {L : Array Slot} {st rest argsL : List Value} {index : Nat} {y : MethodName} {yb : ByteArray} {yml : Nat} {yrt : Option FieldType} {rm : Room} {Q' : Option Value → Heap → Prop} (W : Nat) (hd : decode bytes pc = .ok (.invokestatic index, 3)) (hp : pc + 3 = pc') (w1 : (Cond.methodLink own index y).before a0 Z = true) (w2 : (Cond.static y).before a0 Z = true) (w3 : (Cond.initialized y.cls).before a0 Z = true) (w4 : (Cond.code y yb yml yrt).before a0 Z = true) (hy : y.cls ≠ "java/lang/invoke/MethodHandle" ∧ y.cls ≠ "java/lang/invoke/VarHandle")
    (hM : Mt l Z y yb yml yrt rm argsL.toArray h n0 Q') (hfr : rm.frames + 1 ≤ R.frames) (hlo : W + (yml + 11) + rm.locals ≤ R.locals) (hc : cells + rm.cells ≤ R.cells) (hs : slots + rm.slots ≤ R.slots) (hlen : ∀ sig, parseMethodDescriptor y.desc = some sig → argsL.length = sig.parameters.length) (hL : L.size = ml) (hst : st = argsL.reverse ++ rest) (hW : (rest.map fun v => v.category).sum ≤ W)
    (r : ∀ v T' h', Wk p l e R s m args below meth c n0 T' h' (cells + rm.cells) (slots + rm.slots) → Q' v h' → Fi p e below s n0 C S Q (T'.setTop (mkF m pc' L (v.toList ++ rest)))) (hgrow : ∀ v h', Q' v h' → h.size ≤ h'.size) : Fi p e below s n0 C S Q (T.setTop (mkF m pc L (st))) := by
  obtain ⟨locs, Y, hh, hF, hn⟩ := X
  subst hp
  obtain ⟨v, vm1, ⟨T', L', k', n'⟩, -, X', ⟨Lc, ⟨hQ, hN⟩, l1, l2, l3⟩, st'⟩ := Jvm.LawKit.callS Y K.1 (y := y) K.2.2.2.2.1 (mvT K.2.1 w1) (mvT K.2.1 w2) (mvT K.2.1 w3) (mvT K.2.1 w4) hy (backOf (W := W) (Q := fun v h L => Q' v h ∧ Fr n0 L) (hM []) K.2.1 w4 w3 hfr hlo) (g := mkF m pc L st) rfl (by rw [K.2.2.2.1]; exact hL) (argsL := argsL) (rest := rest) hlen hst (by show 2 * 0 + _ ≤ _; omega) (hb K.2.2.1 hd) (fun _ _ => ⟨rfl, hh, hc, hs⟩)
  dsimp only [Pt.U, Pt.locs, Pt.cells, Pt.slots] at X' l1 l2 l3 st' hQ
  subst l1 l2 l3
  exact Fi.of st' (r v T' _ ⟨_, X', rfl, Fr.app hF hN, Nat.le_trans hn (hgrow _ _ hQ)⟩ hQ)
theorem g_special (K : Cx Z p s m meth c own bytes ml rt nm) (X : Wk p l e R s m args below meth c n0 T h cells slots) {pc pc' : Nat} {L : Array Slot} {st rest argsL : List Value} {index : Nat} {a : Addr} {y : MethodName} {yb : ByteArray} {yml : Nat} {rm : Room} {Q' : Option Value → Heap → Prop} (W : Nat) (hd : decode bytes pc = .ok (.invokespecial index, 3)) (hp : pc + 3 = pc') (w1 : (Cond.methodLink own index y).before a0 Z = true) (w2 : (Cond.instanceMethod y).before a0 Z = true) (w3 : (Cond.initialized y.cls).before a0 Z = true) (w4 : (Cond.code y yb yml none).before a0 Z = true) (hi : y.name = "<init>") (hy : y.cls ≠ "java/lang/invoke/MethodHandle" ∧ y.cls ≠ "java/lang/invoke/VarHandle")
    (hM : Mt l Z y yb yml none rm (.ref a :: argsL).toArray h n0 Q') (hfr : rm.frames + 1 ≤ R.frames) (hlo : W + (yml + 11) + rm.locals ≤ R.locals) (hc : cells + rm.cells ≤ R.cells) (hs : slots + rm.slots ≤ R.slots) (hlen : ∀ sig, parseMethodDescriptor y.desc = some sig → argsL.length = sig.parameters.length) (hL : L.size = ml) (hst : st = argsL.reverse ++ .ref a :: rest) (hW : (rest.map fun v => v.category).sum ≤ W)
    (r : ∀ v T' h', Wk p l e R s m args below meth c n0 T' h' (cells + rm.cells) (slots + rm.slots) → Q' v h' → Fi p e below s n0 C S Q (T'.setTop (mkF m pc' L (v.toList ++ rest)))) (hgrow : ∀ v h', Q' v h' → h.size ≤ h'.size) : Fi p e below s n0 C S Q (T.setTop (mkF m pc L (st))) := by
  obtain ⟨locs, Y, hh, hF, hn⟩ := X
  subst hp
  obtain ⟨v, vm1, ⟨T', L', k', n'⟩, -, X', ⟨Lc, ⟨hQ, hN⟩, l1, l2, l3⟩, st'⟩ := Y.specialBack K.1 (y := y) hi K.2.2.2.2.1 (mvT K.2.1 w1) (mvT K.2.1 w2) (mvT K.2.1 w4) hy (backOf (W := W) (Q := fun v h L => Q' v h ∧ Fr n0 L) (hM []) K.2.1 w4 w3 hfr hlo) (g := mkF m pc L st) rfl (by rw [K.2.2.2.1]; exact hL) (Steps.refl _) (a := a) (argsL := argsL) (rest := rest) hlen hst (by show 2 * 0 + _ ≤ _; omega) (hb K.2.2.1 hd) (fun _ _ => ⟨rfl, hh, hc, hs⟩)
  dsimp only [Pt.U, Pt.locs, Pt.cells, Pt.slots] at X' l1 l2 l3 st' hQ
  subst l1 l2 l3
  exact Fi.of (fun _ q => st'.trans q) (r v T' _ ⟨_, X', rfl, Fr.app hF hN, Nat.le_trans hn (hgrow _ _ hQ)⟩ hQ)
theorem g_virtual (K : Cx Z p s m meth c own bytes ml rt nm) (X : Wk p l e R s m args below meth c n0 T h cells slots) {pc pc' : Nat} {L : Array Slot} {st rest argsL : List Value} {index : Nat} {a : Addr} {Cl : String} {y : MethodName} {yb : ByteArray} {yml : Nat} {yrt : Option FieldType} {rm : Room} {Q' : Option Value → Heap → Prop} (W : Nat) (hd : decode bytes pc = .ok (.invokevirtual index, 3)) (hp : pc + 3 = pc') (w1 : (Cond.methodLink own index y).before a0 Z = true) (w2 : (Cond.declares y).before a0 Z = true) (w5 : (Cond.selects Cl y y).before a0 Z = true) (w6 : (Cond.instanceMethod y).before a0 Z = true) (w3 : (Cond.initialized y.cls).before a0 Z = true) (w4 : (Cond.code y yb yml yrt).before a0 Z = true) (hy : y.cls ≠ "java/lang/invoke/MethodHandle" ∧ y.cls ≠ "java/lang/invoke/VarHandle") (E : Exa Z h a Cl)
    (hM : Mt l Z y yb yml yrt rm (.ref a :: argsL).toArray h n0 Q') (hfr : rm.frames + 1 ≤ R.frames) (hlo : W + (yml + 11) + rm.locals ≤ R.locals) (hc : cells + rm.cells ≤ R.cells) (hs : slots + rm.slots ≤ R.slots) (hlen : ∀ sig, parseMethodDescriptor y.desc = some sig → argsL.length = sig.parameters.length) (hL : L.size = ml) (hst : st = argsL.reverse ++ .ref a :: rest) (hW : (rest.map fun v => v.category).sum ≤ W)
    (r : ∀ v T' h', Wk p l e R s m args below meth c n0 T' h' (cells + rm.cells) (slots + rm.slots) → Q' v h' → Fi p e below s n0 C S Q (T'.setTop (mkF m pc' L (v.toList ++ rest)))) (hgrow : ∀ v h', Q' v h' → h.size ≤ h'.size) : Fi p e below s n0 C S Q (T.setTop (mkF m pc L (st))) := by
  obtain ⟨locs, Y, hh, hF, hn⟩ := X
  subst hp
  obtain ⟨cB, kB, qa, -, qc⟩ := isOf K.2.1 hh E
  obtain ⟨v, vm1, ⟨T', L', k', n'⟩, -, X', ⟨Lc, ⟨hQ, hN⟩, l1, l2, l3⟩, st'⟩ := Y.virtualBack K.1 (y := y) (z := y) K.2.2.2.2.1 (mvT K.2.1 w1) (mvT K.2.1 w2) (notFace_of_selects (args := #[]) (mvT K.2.1 w5)) (mvT K.2.1 w5) (mvT K.2.1 w6) hy (backOf (W := W) (Q := fun v h L => Q' v h ∧ Fr n0 L) (hM []) K.2.1 w4 w3 hfr hlo) qa qc (g := mkF m pc L st) rfl (by rw [K.2.2.2.1]; exact hL) (Steps.refl _) (argsL := argsL) (rest := rest) hlen hst (by show 2 * 0 + _ ≤ _; omega) (hb K.2.2.1 hd) (fun _ _ => ⟨rfl, hh, hc, hs⟩)
  dsimp only [Pt.U, Pt.locs, Pt.cells, Pt.slots] at X' l1 l2 l3 st' hQ
  subst l1 l2 l3
  exact Fi.of (fun _ q => st'.trans q) (r v T' _ ⟨_, X', rfl, Fr.app hF hN, Nat.le_trans hn (hgrow _ _ hQ)⟩ hQ)
theorem g_private (K : Cx Z p s m meth c own bytes ml rt nm) (X : Wk p l e R s m args below meth c n0 T h cells slots) {pc pc' : Nat} {L : Array Slot} {st rest argsL : List Value} {index kk : Nat} {a : Addr} {Cl : String} {y : MethodName} {yb : ByteArray} {yml : Nat} {yrt : Option FieldType} {rm : Room} {Q' : Option Value → Heap → Prop} (W : Nat) (hd : decode bytes pc = .ok (.invokevirtual index, 3)) (hp : pc + 3 = pc') (w1 : (Cond.methodLink own index y).before a0 Z = true) (w2 : (Cond.instanceMethod y).before a0 Z = true) (w5 : (Cond.privateMethod y).before a0 Z = true) (w6 : (Cond.instantiable y.cls kk).before a0 Z = true) (w3 : (Cond.initialized y.cls).before a0 Z = true) (w4 : (Cond.code y yb yml yrt).before a0 Z = true) (hy : y.cls ≠ "java/lang/invoke/MethodHandle" ∧ y.cls ≠ "java/lang/invoke/VarHandle") (E : Exa Z h a Cl)
    (hM : Mt l Z y yb yml yrt rm (.ref a :: argsL).toArray h n0 Q') (hfr : rm.frames + 1 ≤ R.frames) (hlo : W + (yml + 11) + rm.locals ≤ R.locals) (hc : cells + rm.cells ≤ R.cells) (hs : slots + rm.slots ≤ R.slots) (hlen : ∀ sig, parseMethodDescriptor y.desc = some sig → argsL.length = sig.parameters.length) (hL : L.size = ml) (hst : st = argsL.reverse ++ .ref a :: rest) (hW : (rest.map fun v => v.category).sum ≤ W)
    (r : ∀ v T' h', Wk p l e R s m args below meth c n0 T' h' (cells + rm.cells) (slots + rm.slots) → Q' v h' → Fi p e below s n0 C S Q (T'.setTop (mkF m pc' L (v.toList ++ rest)))) (hgrow : ∀ v h', Q' v h' → h.size ≤ h'.size) : Fi p e below s n0 C S Q (T.setTop (mkF m pc L (st))) := by
  obtain ⟨locs, Y, hh, hF, hn⟩ := X
  subst hp
  obtain ⟨cq, q1, q2⟩ := E.cell
  have hpriv : s.PrivateAt y := Cond.privateMethod_at (mvP K.2.1 w5 (args := #[]))
  obtain ⟨cI, kI, i1, i2, -, i4, -⟩ := Cond.instantiable_spec (mv (args := args) K.2.1 w6)
  have hsel : (Cond.selects y.cls y y).before args s = true := selects_self_of_private i1 i2 (Bool.or_eq_false_iff.mp i4).1 hpriv (mvT K.2.1 w2) hy
  obtain ⟨v, vm1, ⟨T', L', k', n'⟩, -, X', ⟨Lc, ⟨hQ, hN⟩, l1, l2, l3⟩, st'⟩ := Y.privateBack K.1 (y := y) K.2.2.2.2.1 (mvT K.2.1 w1) (mvT K.2.1 w2) hsel hpriv (mvT K.2.1 w4) hy (backOf (W := W) (Q := fun v h L => Q' v h ∧ Fr n0 L) (hM []) K.2.1 w4 w3 hfr hlo) (g := mkF m pc L st) rfl (by rw [K.2.2.2.1]; exact hL) (Steps.refl _) (a := a) (by rw [hh]; exact q1) q2 (argsL := argsL) (rest := rest) hlen hst (by show 2 * 0 + _ ≤ _; omega) (hb K.2.2.1 hd) (fun _ _ => ⟨rfl, hh, hc, hs⟩)
  dsimp only [Pt.U, Pt.locs, Pt.cells, Pt.slots] at X' l1 l2 l3 st' hQ
  subst l1 l2 l3
  exact Fi.of (fun _ q => st'.trans q) (r v T' _ ⟨_, X', rfl, Fr.app hF hN, Nat.le_trans hn (hgrow _ _ hQ)⟩ hQ)
def PureI (h : Heap) (P : Int32 → Prop) : Option Value → Heap → Prop := fun v h' => ∃ r, v = some (.int r) ∧ P r ∧ h = h'
def PureJ (h : Heap) (P : Int64 → Prop) : Option Value → Heap → Prop := fun v h' => ∃ r, v = some (.long r) ∧ P r ∧ h = h'
def KeepI (h : Heap) (ws : List Addr) (P : Int32 → Heap → Prop) : Option Value → Heap → Prop := fun v h' => ∃ r, v = some (.int r) ∧ Keep h h' ws ∧ P r h'
def KeepA (h : Heap) (ws : List Addr) (P : Addr → Heap → Prop) : Option Value → Heap → Prop := fun v h' => ∃ r, v = some (.ref r) ∧ Keep h h' ws ∧ P r h'
def Keep0 (h : Heap) (ws : List Addr) (P : Heap → Prop) : Option Value → Heap → Prop := fun v h' => v = none ∧ Keep h h' ws ∧ P h'

theorem g_callSI (K : Cx Z p s m meth c own bytes ml rt nm) (X : Wk p l e R s m args below meth c n0 T h cells slots) {pc pc' : Nat} {L : Array Slot} {st rest argsL : List Value} {index : Nat} {y : MethodName} {yb : ByteArray} {yml : Nat} {yrt : Option FieldType} {rm : Room} {P : Int32 → Prop} (W : Nat) (hd : decode bytes pc = .ok (.invokestatic index, 3)) (hp : pc + 3 = pc') (w1 : (Cond.methodLink own index y).before a0 Z = true) (w2 : (Cond.static y).before a0 Z = true) (w3 : (Cond.initialized y.cls).before a0 Z = true) (w4 : (Cond.code y yb yml yrt).before a0 Z = true) (hy : y.cls ≠ "java/lang/invoke/MethodHandle" ∧ y.cls ≠ "java/lang/invoke/VarHandle")
    (hM : Mt l Z y yb yml yrt rm argsL.toArray h n0 (PureI h P)) (hfr : rm.frames + 1 ≤ R.frames) (hlo : W + (yml + 11) + rm.locals ≤ R.locals) (hc : cells + rm.cells ≤ R.cells) (hs : slots + rm.slots ≤ R.slots) (hlen : ∀ sig, parseMethodDescriptor y.desc = some sig → argsL.length = sig.parameters.length) (hL : L.size = ml) (hst : st = argsL.reverse ++ rest) (hW : (rest.map fun v => v.category).sum ≤ W)
    (kont : ∀ r T', Wk p l e R s m args below meth c n0 T' h (cells + rm.cells) (slots + rm.slots) → P r → Fi p e below s n0 C S Q (T'.setTop (mkF m pc' L (.int r :: rest)))) : Fi p e below s n0 C S Q (T.setTop (mkF m pc L (st))) := by
  refine g_callS K X (argsL := argsL) (rest := rest) W hd hp w1 w2 w3 w4 hy hM hfr hlo hc hs hlen hL hst hW (fun v T' h' X' hq => ?_) (fun _ _ q => by obtain ⟨_, _, _, rfl⟩ := q; exact Nat.le_refl _)
  obtain ⟨r, rfl, hP, rfl⟩ := hq
  exact kont r T' X' hP
theorem g_callSJ (K : Cx Z p s m meth c own bytes ml rt nm) (X : Wk p l e R s m args below meth c n0 T h cells slots) {pc pc' : Nat} {L : Array Slot} {st rest argsL : List Value} {index : Nat} {y : MethodName} {yb : ByteArray} {yml : Nat} {yrt : Option FieldType} {rm : Room} {P : Int64 → Prop} (W : Nat) (hd : decode bytes pc = .ok (.invokestatic index, 3)) (hp : pc + 3 = pc') (w1 : (Cond.methodLink own index y).before a0 Z = true) (w2 : (Cond.static y).before a0 Z = true) (w3 : (Cond.initialized y.cls).before a0 Z = true) (w4 : (Cond.code y yb yml yrt).before a0 Z = true) (hy : y.cls ≠ "java/lang/invoke/MethodHandle" ∧ y.cls ≠ "java/lang/invoke/VarHandle")
    (hM : Mt l Z y yb yml yrt rm argsL.toArray h n0 (PureJ h P)) (hfr : rm.frames + 1 ≤ R.frames) (hlo : W + (yml + 11) + rm.locals ≤ R.locals) (hc : cells + rm.cells ≤ R.cells) (hs : slots + rm.slots ≤ R.slots) (hlen : ∀ sig, parseMethodDescriptor y.desc = some sig → argsL.length = sig.parameters.length) (hL : L.size = ml) (hst : st = argsL.reverse ++ rest) (hW : (rest.map fun v => v.category).sum ≤ W)
    (kont : ∀ r T', Wk p l e R s m args below meth c n0 T' h (cells + rm.cells) (slots + rm.slots) → P r → Fi p e below s n0 C S Q (T'.setTop (mkF m pc' L (.long r :: rest)))) : Fi p e below s n0 C S Q (T.setTop (mkF m pc L (st))) := by
  refine g_callS K X (argsL := argsL) (rest := rest) W hd hp w1 w2 w3 w4 hy hM hfr hlo hc hs hlen hL hst hW (fun v T' h' X' hq => ?_) (fun _ _ q => by obtain ⟨_, _, _, rfl⟩ := q; exact Nat.le_refl _)
  obtain ⟨r, rfl, hP, rfl⟩ := hq
  exact kont r T' X' hP
theorem g_callSKI (K : Cx Z p s m meth c own bytes ml rt nm) (X : Wk p l e R s m args below meth c n0 T h cells slots) {pc pc' : Nat} {L : Array Slot} {st rest argsL : List Value} {index : Nat} {y : MethodName} {yb : ByteArray} {yml : Nat} {yrt : Option FieldType} {rm : Room} {P : Int32 → Heap → Prop} {ws : List Addr} (W : Nat) (hd : decode bytes pc = .ok (.invokestatic index, 3)) (hp : pc + 3 = pc') (w1 : (Cond.methodLink own index y).before a0 Z = true) (w2 : (Cond.static y).before a0 Z = true) (w3 : (Cond.initialized y.cls).before a0 Z = true) (w4 : (Cond.code y yb yml yrt).before a0 Z = true) (hy : y.cls ≠ "java/lang/invoke/MethodHandle" ∧ y.cls ≠ "java/lang/invoke/VarHandle")
    (hM : Mt l Z y yb yml yrt rm argsL.toArray h n0 (KeepI h ws P)) (hfr : rm.frames + 1 ≤ R.frames) (hlo : W + (yml + 11) + rm.locals ≤ R.locals) (hc : cells + rm.cells ≤ R.cells) (hs : slots + rm.slots ≤ R.slots) (hlen : ∀ sig, parseMethodDescriptor y.desc = some sig → argsL.length = sig.parameters.length) (hL : L.size = ml) (hst : st = argsL.reverse ++ rest) (hW : (rest.map fun v => v.category).sum ≤ W)
    (kont : ∀ r T' h', Wk p l e R s m args below meth c n0 T' h' (cells + rm.cells) (slots + rm.slots) → Keep h h' ws → P r h' → Fi p e below s n0 C S Q (T'.setTop (mkF m pc' L (.int r :: rest)))) : Fi p e below s n0 C S Q (T.setTop (mkF m pc L (st))) := by
  refine g_callS K X (argsL := argsL) (rest := rest) W hd hp w1 w2 w3 w4 hy hM hfr hlo hc hs hlen hL hst hW (fun v T' h' X' hq => ?_) (fun _ _ q => by obtain ⟨_, _, k, _⟩ := q; exact k.1)
  obtain ⟨r, rfl, hK, hP⟩ := hq
  exact kont r T' h' X' hK hP
theorem g_callSKA (K : Cx Z p s m meth c own bytes ml rt nm) (X : Wk p l e R s m args below meth c n0 T h cells slots) {pc pc' : Nat} {L : Array Slot} {st rest argsL : List Value} {index : Nat} {y : MethodName} {yb : ByteArray} {yml : Nat} {yrt : Option FieldType} {rm : Room} {P : Addr → Heap → Prop} {ws : List Addr} (W : Nat) (hd : decode bytes pc = .ok (.invokestatic index, 3)) (hp : pc + 3 = pc') (w1 : (Cond.methodLink own index y).before a0 Z = true) (w2 : (Cond.static y).before a0 Z = true) (w3 : (Cond.initialized y.cls).before a0 Z = true) (w4 : (Cond.code y yb yml yrt).before a0 Z = true) (hy : y.cls ≠ "java/lang/invoke/MethodHandle" ∧ y.cls ≠ "java/lang/invoke/VarHandle")
    (hM : Mt l Z y yb yml yrt rm argsL.toArray h n0 (KeepA h ws P)) (hfr : rm.frames + 1 ≤ R.frames) (hlo : W + (yml + 11) + rm.locals ≤ R.locals) (hc : cells + rm.cells ≤ R.cells) (hs : slots + rm.slots ≤ R.slots) (hlen : ∀ sig, parseMethodDescriptor y.desc = some sig → argsL.length = sig.parameters.length) (hL : L.size = ml) (hst : st = argsL.reverse ++ rest) (hW : (rest.map fun v => v.category).sum ≤ W)
    (kont : ∀ r T' h', Wk p l e R s m args below meth c n0 T' h' (cells + rm.cells) (slots + rm.slots) → Keep h h' ws → P r h' → Fi p e below s n0 C S Q (T'.setTop (mkF m pc' L (.ref r :: rest)))) : Fi p e below s n0 C S Q (T.setTop (mkF m pc L (st))) := by
  refine g_callS K X (argsL := argsL) (rest := rest) W hd hp w1 w2 w3 w4 hy hM hfr hlo hc hs hlen hL hst hW (fun v T' h' X' hq => ?_) (fun _ _ q => by obtain ⟨_, _, k, _⟩ := q; exact k.1)
  obtain ⟨r, rfl, hK, hP⟩ := hq
  exact kont r T' h' X' hK hP
theorem g_callSK0 (K : Cx Z p s m meth c own bytes ml rt nm) (X : Wk p l e R s m args below meth c n0 T h cells slots) {pc pc' : Nat} {L : Array Slot} {st rest argsL : List Value} {index : Nat} {y : MethodName} {yb : ByteArray} {yml : Nat} {yrt : Option FieldType} {rm : Room} {P : Heap → Prop} {ws : List Addr} (W : Nat) (hd : decode bytes pc = .ok (.invokestatic index, 3)) (hp : pc + 3 = pc') (w1 : (Cond.methodLink own index y).before a0 Z = true) (w2 : (Cond.static y).before a0 Z = true) (w3 : (Cond.initialized y.cls).before a0 Z = true) (w4 : (Cond.code y yb yml yrt).before a0 Z = true) (hy : y.cls ≠ "java/lang/invoke/MethodHandle" ∧ y.cls ≠ "java/lang/invoke/VarHandle")
    (hM : Mt l Z y yb yml yrt rm argsL.toArray h n0 (Keep0 h ws P)) (hfr : rm.frames + 1 ≤ R.frames) (hlo : W + (yml + 11) + rm.locals ≤ R.locals) (hc : cells + rm.cells ≤ R.cells) (hs : slots + rm.slots ≤ R.slots) (hlen : ∀ sig, parseMethodDescriptor y.desc = some sig → argsL.length = sig.parameters.length) (hL : L.size = ml) (hst : st = argsL.reverse ++ rest) (hW : (rest.map fun v => v.category).sum ≤ W)
    (kont : ∀ T' h', Wk p l e R s m args below meth c n0 T' h' (cells + rm.cells) (slots + rm.slots) → Keep h h' ws → P h' → Fi p e below s n0 C S Q (T'.setTop (mkF m pc' L (rest)))) : Fi p e below s n0 C S Q (T.setTop (mkF m pc L (st))) := by
  refine g_callS K X (argsL := argsL) (rest := rest) W hd hp w1 w2 w3 w4 hy hM hfr hlo hc hs hlen hL hst hW (fun v T' h' X' hq => ?_) (fun _ _ q => q.2.1.1)
  obtain ⟨rfl, hK, hP⟩ := hq
  exact kont T' h' X' hK hP
theorem g_specialK0 (K : Cx Z p s m meth c own bytes ml rt nm) (X : Wk p l e R s m args below meth c n0 T h cells slots) {pc pc' : Nat} {L : Array Slot} {st rest argsL : List Value} {index : Nat} {a : Addr} {y : MethodName} {yb : ByteArray} {yml : Nat} {rm : Room} {P : Heap → Prop} {ws : List Addr} (W : Nat) (hd : decode bytes pc = .ok (.invokespecial index, 3)) (hp : pc + 3 = pc') (w1 : (Cond.methodLink own index y).before a0 Z = true) (w2 : (Cond.instanceMethod y).before a0 Z = true) (w3 : (Cond.initialized y.cls).before a0 Z = true) (w4 : (Cond.code y yb yml none).before a0 Z = true) (hi : y.name = "<init>") (hy : y.cls ≠ "java/lang/invoke/MethodHandle" ∧ y.cls ≠ "java/lang/invoke/VarHandle")
    (hM : Mt l Z y yb yml none rm (.ref a :: argsL).toArray h n0 (Keep0 h ws P)) (hfr : rm.frames + 1 ≤ R.frames) (hlo : W + (yml + 11) + rm.locals ≤ R.locals) (hc : cells + rm.cells ≤ R.cells) (hs : slots + rm.slots ≤ R.slots) (hlen : ∀ sig, parseMethodDescriptor y.desc = some sig → argsL.length = sig.parameters.length) (hL : L.size = ml) (hst : st = argsL.reverse ++ .ref a :: rest) (hW : (rest.map fun v => v.category).sum ≤ W)
    (kont : ∀ T' h', Wk p l e R s m args below meth c n0 T' h' (cells + rm.cells) (slots + rm.slots) → Keep h h' ws → P h' → Fi p e below s n0 C S Q (T'.setTop (mkF m pc' L (rest)))) : Fi p e below s n0 C S Q (T.setTop (mkF m pc L (st))) := by
  refine g_special K X (a := a) (argsL := argsL) (rest := rest) W hd hp w1 w2 w3 w4 hi hy hM hfr hlo hc hs hlen hL hst hW (fun v T' h' X' hq => ?_) (fun _ _ q => q.2.1.1)
  obtain ⟨rfl, hK, hP⟩ := hq
  exact kont T' h' X' hK hP
theorem g_virtualI (K : Cx Z p s m meth c own bytes ml rt nm) (X : Wk p l e R s m args below meth c n0 T h cells slots) {pc pc' : Nat} {L : Array Slot} {st rest argsL : List Value} {index : Nat} {a : Addr} {Cl : String} {y : MethodName} {yb : ByteArray} {yml : Nat} {yrt : Option FieldType} {rm : Room} {P : Int32 → Prop} (W : Nat) (hd : decode bytes pc = .ok (.invokevirtual index, 3)) (hp : pc + 3 = pc') (w1 : (Cond.methodLink own index y).before a0 Z = true) (w2 : (Cond.declares y).before a0 Z = true) (w5 : (Cond.selects Cl y y).before a0 Z = true) (w6 : (Cond.instanceMethod y).before a0 Z = true) (w3 : (Cond.initialized y.cls).before a0 Z = true) (w4 : (Cond.code y yb yml yrt).before a0 Z = true) (hy : y.cls ≠ "java/lang/invoke/MethodHandle" ∧ y.cls ≠ "java/lang/invoke/VarHandle") (E : Exa Z h a Cl)
    (hM : Mt l Z y yb yml yrt rm (.ref a :: argsL).toArray h n0 (PureI h P)) (hfr : rm.frames + 1 ≤ R.frames) (hlo : W + (yml + 11) + rm.locals ≤ R.locals) (hc : cells + rm.cells ≤ R.cells) (hs : slots + rm.slots ≤ R.slots) (hlen : ∀ sig, parseMethodDescriptor y.desc = some sig → argsL.length = sig.parameters.length) (hL : L.size = ml) (hst : st = argsL.reverse ++ .ref a :: rest) (hW : (rest.map fun v => v.category).sum ≤ W)
    (kont : ∀ r T', Wk p l e R s m args below meth c n0 T' h (cells + rm.cells) (slots + rm.slots) → P r → Fi p e below s n0 C S Q (T'.setTop (mkF m pc' L (.int r :: rest)))) : Fi p e below s n0 C S Q (T.setTop (mkF m pc L (st))) := by
  refine g_virtual K X (a := a) (argsL := argsL) (rest := rest) W hd hp w1 w2 w5 w6 w3 w4 hy E hM hfr hlo hc hs hlen hL hst hW (fun v T' h' X' hq => ?_) (fun _ _ q => by obtain ⟨_, _, _, rfl⟩ := q; exact Nat.le_refl _)
  obtain ⟨r, rfl, hP, rfl⟩ := hq
  exact kont r T' X' hP
theorem g_virtualJ (K : Cx Z p s m meth c own bytes ml rt nm) (X : Wk p l e R s m args below meth c n0 T h cells slots) {pc pc' : Nat} {L : Array Slot} {st rest argsL : List Value} {index : Nat} {a : Addr} {Cl : String} {y : MethodName} {yb : ByteArray} {yml : Nat} {yrt : Option FieldType} {rm : Room} {P : Int64 → Prop} (W : Nat) (hd : decode bytes pc = .ok (.invokevirtual index, 3)) (hp : pc + 3 = pc') (w1 : (Cond.methodLink own index y).before a0 Z = true) (w2 : (Cond.declares y).before a0 Z = true) (w5 : (Cond.selects Cl y y).before a0 Z = true) (w6 : (Cond.instanceMethod y).before a0 Z = true) (w3 : (Cond.initialized y.cls).before a0 Z = true) (w4 : (Cond.code y yb yml yrt).before a0 Z = true) (hy : y.cls ≠ "java/lang/invoke/MethodHandle" ∧ y.cls ≠ "java/lang/invoke/VarHandle") (E : Exa Z h a Cl)
    (hM : Mt l Z y yb yml yrt rm (.ref a :: argsL).toArray h n0 (PureJ h P)) (hfr : rm.frames + 1 ≤ R.frames) (hlo : W + (yml + 11) + rm.locals ≤ R.locals) (hc : cells + rm.cells ≤ R.cells) (hs : slots + rm.slots ≤ R.slots) (hlen : ∀ sig, parseMethodDescriptor y.desc = some sig → argsL.length = sig.parameters.length) (hL : L.size = ml) (hst : st = argsL.reverse ++ .ref a :: rest) (hW : (rest.map fun v => v.category).sum ≤ W)
    (kont : ∀ r T', Wk p l e R s m args below meth c n0 T' h (cells + rm.cells) (slots + rm.slots) → P r → Fi p e below s n0 C S Q (T'.setTop (mkF m pc' L (.long r :: rest)))) : Fi p e below s n0 C S Q (T.setTop (mkF m pc L (st))) := by
  refine g_virtual K X (a := a) (argsL := argsL) (rest := rest) W hd hp w1 w2 w5 w6 w3 w4 hy E hM hfr hlo hc hs hlen hL hst hW (fun v T' h' X' hq => ?_) (fun _ _ q => by obtain ⟨_, _, _, rfl⟩ := q; exact Nat.le_refl _)
  obtain ⟨r, rfl, hP, rfl⟩ := hq
  exact kont r T' X' hP
theorem g_virtualKI (K : Cx Z p s m meth c own bytes ml rt nm) (X : Wk p l e R s m args below meth c n0 T h cells slots) {pc pc' : Nat} {L : Array Slot} {st rest argsL : List Value} {index : Nat} {a : Addr} {Cl : String} {y : MethodName} {yb : ByteArray} {yml : Nat} {yrt : Option FieldType} {rm : Room} {P : Int32 → Heap → Prop} {ws : List Addr} (W : Nat) (hd : decode bytes pc = .ok (.invokevirtual index, 3)) (hp : pc + 3 = pc') (w1 : (Cond.methodLink own index y).before a0 Z = true) (w2 : (Cond.declares y).before a0 Z = true) (w5 : (Cond.selects Cl y y).before a0 Z = true) (w6 : (Cond.instanceMethod y).before a0 Z = true) (w3 : (Cond.initialized y.cls).before a0 Z = true) (w4 : (Cond.code y yb yml yrt).before a0 Z = true) (hy : y.cls ≠ "java/lang/invoke/MethodHandle" ∧ y.cls ≠ "java/lang/invoke/VarHandle") (E : Exa Z h a Cl)
    (hM : Mt l Z y yb yml yrt rm (.ref a :: argsL).toArray h n0 (KeepI h ws P)) (hfr : rm.frames + 1 ≤ R.frames) (hlo : W + (yml + 11) + rm.locals ≤ R.locals) (hc : cells + rm.cells ≤ R.cells) (hs : slots + rm.slots ≤ R.slots) (hlen : ∀ sig, parseMethodDescriptor y.desc = some sig → argsL.length = sig.parameters.length) (hL : L.size = ml) (hst : st = argsL.reverse ++ .ref a :: rest) (hW : (rest.map fun v => v.category).sum ≤ W)
    (kont : ∀ r T' h', Wk p l e R s m args below meth c n0 T' h' (cells + rm.cells) (slots + rm.slots) → Keep h h' ws → P r h' → Fi p e below s n0 C S Q (T'.setTop (mkF m pc' L (.int r :: rest)))) : Fi p e below s n0 C S Q (T.setTop (mkF m pc L (st))) := by
  refine g_virtual K X (a := a) (argsL := argsL) (rest := rest) W hd hp w1 w2 w5 w6 w3 w4 hy E hM hfr hlo hc hs hlen hL hst hW (fun v T' h' X' hq => ?_) (fun _ _ q => by obtain ⟨_, _, k, _⟩ := q; exact k.1)
  obtain ⟨r, rfl, hK, hP⟩ := hq
  exact kont r T' h' X' hK hP
theorem g_virtualKA (K : Cx Z p s m meth c own bytes ml rt nm) (X : Wk p l e R s m args below meth c n0 T h cells slots) {pc pc' : Nat} {L : Array Slot} {st rest argsL : List Value} {index : Nat} {a : Addr} {Cl : String} {y : MethodName} {yb : ByteArray} {yml : Nat} {yrt : Option FieldType} {rm : Room} {P : Addr → Heap → Prop} {ws : List Addr} (W : Nat) (hd : decode bytes pc = .ok (.invokevirtual index, 3)) (hp : pc + 3 = pc') (w1 : (Cond.methodLink own index y).before a0 Z = true) (w2 : (Cond.declares y).before a0 Z = true) (w5 : (Cond.selects Cl y y).before a0 Z = true) (w6 : (Cond.instanceMethod y).before a0 Z = true) (w3 : (Cond.initialized y.cls).before a0 Z = true) (w4 : (Cond.code y yb yml yrt).before a0 Z = true) (hy : y.cls ≠ "java/lang/invoke/MethodHandle" ∧ y.cls ≠ "java/lang/invoke/VarHandle") (E : Exa Z h a Cl)
    (hM : Mt l Z y yb yml yrt rm (.ref a :: argsL).toArray h n0 (KeepA h ws P)) (hfr : rm.frames + 1 ≤ R.frames) (hlo : W + (yml + 11) + rm.locals ≤ R.locals) (hc : cells + rm.cells ≤ R.cells) (hs : slots + rm.slots ≤ R.slots) (hlen : ∀ sig, parseMethodDescriptor y.desc = some sig → argsL.length = sig.parameters.length) (hL : L.size = ml) (hst : st = argsL.reverse ++ .ref a :: rest) (hW : (rest.map fun v => v.category).sum ≤ W)
    (kont : ∀ r T' h', Wk p l e R s m args below meth c n0 T' h' (cells + rm.cells) (slots + rm.slots) → Keep h h' ws → P r h' → Fi p e below s n0 C S Q (T'.setTop (mkF m pc' L (.ref r :: rest)))) : Fi p e below s n0 C S Q (T.setTop (mkF m pc L (st))) := by
  refine g_virtual K X (a := a) (argsL := argsL) (rest := rest) W hd hp w1 w2 w5 w6 w3 w4 hy E hM hfr hlo hc hs hlen hL hst hW (fun v T' h' X' hq => ?_) (fun _ _ q => by obtain ⟨_, _, k, _⟩ := q; exact k.1)
  obtain ⟨r, rfl, hK, hP⟩ := hq
  exact kont r T' h' X' hK hP
theorem g_virtualK0 (K : Cx Z p s m meth c own bytes ml rt nm) (X : Wk p l e R s m args below meth c n0 T h cells slots) {pc pc' : Nat} {L : Array Slot} {st rest argsL : List Value} {index : Nat} {a : Addr} {Cl : String} {y : MethodName} {yb : ByteArray} {yml : Nat} {yrt : Option FieldType} {rm : Room} {P : Heap → Prop} {ws : List Addr} (W : Nat) (hd : decode bytes pc = .ok (.invokevirtual index, 3)) (hp : pc + 3 = pc') (w1 : (Cond.methodLink own index y).before a0 Z = true) (w2 : (Cond.declares y).before a0 Z = true) (w5 : (Cond.selects Cl y y).before a0 Z = true) (w6 : (Cond.instanceMethod y).before a0 Z = true) (w3 : (Cond.initialized y.cls).before a0 Z = true) (w4 : (Cond.code y yb yml yrt).before a0 Z = true) (hy : y.cls ≠ "java/lang/invoke/MethodHandle" ∧ y.cls ≠ "java/lang/invoke/VarHandle") (E : Exa Z h a Cl)
    (hM : Mt l Z y yb yml yrt rm (.ref a :: argsL).toArray h n0 (Keep0 h ws P)) (hfr : rm.frames + 1 ≤ R.frames) (hlo : W + (yml + 11) + rm.locals ≤ R.locals) (hc : cells + rm.cells ≤ R.cells) (hs : slots + rm.slots ≤ R.slots) (hlen : ∀ sig, parseMethodDescriptor y.desc = some sig → argsL.length = sig.parameters.length) (hL : L.size = ml) (hst : st = argsL.reverse ++ .ref a :: rest) (hW : (rest.map fun v => v.category).sum ≤ W)
    (kont : ∀ T' h', Wk p l e R s m args below meth c n0 T' h' (cells + rm.cells) (slots + rm.slots) → Keep h h' ws → P h' → Fi p e below s n0 C S Q (T'.setTop (mkF m pc' L (rest)))) : Fi p e below s n0 C S Q (T.setTop (mkF m pc L (st))) := by
  refine g_virtual K X (a := a) (argsL := argsL) (rest := rest) W hd hp w1 w2 w5 w6 w3 w4 hy E hM hfr hlo hc hs hlen hL hst hW (fun v T' h' X' hq => ?_) (fun _ _ q => q.2.1.1)
  obtain ⟨rfl, hK, hP⟩ := hq
  exact kont T' h' X' hK hP
theorem g_privateI (K : Cx Z p s m meth c own bytes ml rt nm) (X : Wk p l e R s m args below meth c n0 T h cells slots) {pc pc' : Nat} {L : Array Slot} {st rest argsL : List Value} {index kk : Nat} {a : Addr} {Cl : String} {y : MethodName} {yb : ByteArray} {yml : Nat} {yrt : Option FieldType} {rm : Room} {P : Int32 → Prop} (W : Nat) (hd : decode bytes pc = .ok (.invokevirtual index, 3)) (hp : pc + 3 = pc') (w1 : (Cond.methodLink own index y).before a0 Z = true) (w2 : (Cond.instanceMethod y).before a0 Z = true) (w5 : (Cond.privateMethod y).before a0 Z = true) (w6 : (Cond.instantiable y.cls kk).before a0 Z = true) (w3 : (Cond.initialized y.cls).before a0 Z = true) (w4 : (Cond.code y yb yml yrt).before a0 Z = true) (hy : y.cls ≠ "java/lang/invoke/MethodHandle" ∧ y.cls ≠ "java/lang/invoke/VarHandle") (E : Exa Z h a Cl)
    (hM : Mt l Z y yb yml yrt rm (.ref a :: argsL).toArray h n0 (PureI h P)) (hfr : rm.frames + 1 ≤ R.frames) (hlo : W + (yml + 11) + rm.locals ≤ R.locals) (hc : cells + rm.cells ≤ R.cells) (hs : slots + rm.slots ≤ R.slots) (hlen : ∀ sig, parseMethodDescriptor y.desc = some sig → argsL.length = sig.parameters.length) (hL : L.size = ml) (hst : st = argsL.reverse ++ .ref a :: rest) (hW : (rest.map fun v => v.category).sum ≤ W)
    (kont : ∀ r T', Wk p l e R s m args below meth c n0 T' h (cells + rm.cells) (slots + rm.slots) → P r → Fi p e below s n0 C S Q (T'.setTop (mkF m pc' L (.int r :: rest)))) : Fi p e below s n0 C S Q (T.setTop (mkF m pc L (st))) := by
  refine g_private K X (a := a) (argsL := argsL) (rest := rest) W hd hp w1 w2 w5 w6 w3 w4 hy E hM hfr hlo hc hs hlen hL hst hW (fun v T' h' X' hq => ?_) (fun _ _ q => by obtain ⟨_, _, _, rfl⟩ := q; exact Nat.le_refl _)
  obtain ⟨r, rfl, hP, rfl⟩ := hq
  exact kont r T' X' hP
theorem g_privateJ (K : Cx Z p s m meth c own bytes ml rt nm) (X : Wk p l e R s m args below meth c n0 T h cells slots) {pc pc' : Nat} {L : Array Slot} {st rest argsL : List Value} {index kk : Nat} {a : Addr} {Cl : String} {y : MethodName} {yb : ByteArray} {yml : Nat} {yrt : Option FieldType} {rm : Room} {P : Int64 → Prop} (W : Nat) (hd : decode bytes pc = .ok (.invokevirtual index, 3)) (hp : pc + 3 = pc') (w1 : (Cond.methodLink own index y).before a0 Z = true) (w2 : (Cond.instanceMethod y).before a0 Z = true) (w5 : (Cond.privateMethod y).before a0 Z = true) (w6 : (Cond.instantiable y.cls kk).before a0 Z = true) (w3 : (Cond.initialized y.cls).before a0 Z = true) (w4 : (Cond.code y yb yml yrt).before a0 Z = true) (hy : y.cls ≠ "java/lang/invoke/MethodHandle" ∧ y.cls ≠ "java/lang/invoke/VarHandle") (E : Exa Z h a Cl)
    (hM : Mt l Z y yb yml yrt rm (.ref a :: argsL).toArray h n0 (PureJ h P)) (hfr : rm.frames + 1 ≤ R.frames) (hlo : W + (yml + 11) + rm.locals ≤ R.locals) (hc : cells + rm.cells ≤ R.cells) (hs : slots + rm.slots ≤ R.slots) (hlen : ∀ sig, parseMethodDescriptor y.desc = some sig → argsL.length = sig.parameters.length) (hL : L.size = ml) (hst : st = argsL.reverse ++ .ref a :: rest) (hW : (rest.map fun v => v.category).sum ≤ W)
    (kont : ∀ r T', Wk p l e R s m args below meth c n0 T' h (cells + rm.cells) (slots + rm.slots) → P r → Fi p e below s n0 C S Q (T'.setTop (mkF m pc' L (.long r :: rest)))) : Fi p e below s n0 C S Q (T.setTop (mkF m pc L (st))) := by
  refine g_private K X (a := a) (argsL := argsL) (rest := rest) W hd hp w1 w2 w5 w6 w3 w4 hy E hM hfr hlo hc hs hlen hL hst hW (fun v T' h' X' hq => ?_) (fun _ _ q => by obtain ⟨_, _, _, rfl⟩ := q; exact Nat.le_refl _)
  obtain ⟨r, rfl, hP, rfl⟩ := hq
  exact kont r T' X' hP
theorem g_privateKI (K : Cx Z p s m meth c own bytes ml rt nm) (X : Wk p l e R s m args below meth c n0 T h cells slots) {pc pc' : Nat} {L : Array Slot} {st rest argsL : List Value} {index kk : Nat} {a : Addr} {Cl : String} {y : MethodName} {yb : ByteArray} {yml : Nat} {yrt : Option FieldType} {rm : Room} {P : Int32 → Heap → Prop} {ws : List Addr} (W : Nat) (hd : decode bytes pc = .ok (.invokevirtual index, 3)) (hp : pc + 3 = pc') (w1 : (Cond.methodLink own index y).before a0 Z = true) (w2 : (Cond.instanceMethod y).before a0 Z = true) (w5 : (Cond.privateMethod y).before a0 Z = true) (w6 : (Cond.instantiable y.cls kk).before a0 Z = true) (w3 : (Cond.initialized y.cls).before a0 Z = true) (w4 : (Cond.code y yb yml yrt).before a0 Z = true) (hy : y.cls ≠ "java/lang/invoke/MethodHandle" ∧ y.cls ≠ "java/lang/invoke/VarHandle") (E : Exa Z h a Cl)
    (hM : Mt l Z y yb yml yrt rm (.ref a :: argsL).toArray h n0 (KeepI h ws P)) (hfr : rm.frames + 1 ≤ R.frames) (hlo : W + (yml + 11) + rm.locals ≤ R.locals) (hc : cells + rm.cells ≤ R.cells) (hs : slots + rm.slots ≤ R.slots) (hlen : ∀ sig, parseMethodDescriptor y.desc = some sig → argsL.length = sig.parameters.length) (hL : L.size = ml) (hst : st = argsL.reverse ++ .ref a :: rest) (hW : (rest.map fun v => v.category).sum ≤ W)
    (kont : ∀ r T' h', Wk p l e R s m args below meth c n0 T' h' (cells + rm.cells) (slots + rm.slots) → Keep h h' ws → P r h' → Fi p e below s n0 C S Q (T'.setTop (mkF m pc' L (.int r :: rest)))) : Fi p e below s n0 C S Q (T.setTop (mkF m pc L (st))) := by
  refine g_private K X (a := a) (argsL := argsL) (rest := rest) W hd hp w1 w2 w5 w6 w3 w4 hy E hM hfr hlo hc hs hlen hL hst hW (fun v T' h' X' hq => ?_) (fun _ _ q => by obtain ⟨_, _, k, _⟩ := q; exact k.1)
  obtain ⟨r, rfl, hK, hP⟩ := hq
  exact kont r T' h' X' hK hP
theorem g_privateKA (K : Cx Z p s m meth c own bytes ml rt nm) (X : Wk p l e R s m args below meth c n0 T h cells slots) {pc pc' : Nat} {L : Array Slot} {st rest argsL : List Value} {index kk : Nat} {a : Addr} {Cl : String} {y : MethodName} {yb : ByteArray} {yml : Nat} {yrt : Option FieldType} {rm : Room} {P : Addr → Heap → Prop} {ws : List Addr} (W : Nat) (hd : decode bytes pc = .ok (.invokevirtual index, 3)) (hp : pc + 3 = pc') (w1 : (Cond.methodLink own index y).before a0 Z = true) (w2 : (Cond.instanceMethod y).before a0 Z = true) (w5 : (Cond.privateMethod y).before a0 Z = true) (w6 : (Cond.instantiable y.cls kk).before a0 Z = true) (w3 : (Cond.initialized y.cls).before a0 Z = true) (w4 : (Cond.code y yb yml yrt).before a0 Z = true) (hy : y.cls ≠ "java/lang/invoke/MethodHandle" ∧ y.cls ≠ "java/lang/invoke/VarHandle") (E : Exa Z h a Cl)
    (hM : Mt l Z y yb yml yrt rm (.ref a :: argsL).toArray h n0 (KeepA h ws P)) (hfr : rm.frames + 1 ≤ R.frames) (hlo : W + (yml + 11) + rm.locals ≤ R.locals) (hc : cells + rm.cells ≤ R.cells) (hs : slots + rm.slots ≤ R.slots) (hlen : ∀ sig, parseMethodDescriptor y.desc = some sig → argsL.length = sig.parameters.length) (hL : L.size = ml) (hst : st = argsL.reverse ++ .ref a :: rest) (hW : (rest.map fun v => v.category).sum ≤ W)
    (kont : ∀ r T' h', Wk p l e R s m args below meth c n0 T' h' (cells + rm.cells) (slots + rm.slots) → Keep h h' ws → P r h' → Fi p e below s n0 C S Q (T'.setTop (mkF m pc' L (.ref r :: rest)))) : Fi p e below s n0 C S Q (T.setTop (mkF m pc L (st))) := by
  refine g_private K X (a := a) (argsL := argsL) (rest := rest) W hd hp w1 w2 w5 w6 w3 w4 hy E hM hfr hlo hc hs hlen hL hst hW (fun v T' h' X' hq => ?_) (fun _ _ q => by obtain ⟨_, _, k, _⟩ := q; exact k.1)
  obtain ⟨r, rfl, hK, hP⟩ := hq
  exact kont r T' h' X' hK hP
theorem g_privateK0 (K : Cx Z p s m meth c own bytes ml rt nm) (X : Wk p l e R s m args below meth c n0 T h cells slots) {pc pc' : Nat} {L : Array Slot} {st rest argsL : List Value} {index kk : Nat} {a : Addr} {Cl : String} {y : MethodName} {yb : ByteArray} {yml : Nat} {yrt : Option FieldType} {rm : Room} {P : Heap → Prop} {ws : List Addr} (W : Nat) (hd : decode bytes pc = .ok (.invokevirtual index, 3)) (hp : pc + 3 = pc') (w1 : (Cond.methodLink own index y).before a0 Z = true) (w2 : (Cond.instanceMethod y).before a0 Z = true) (w5 : (Cond.privateMethod y).before a0 Z = true) (w6 : (Cond.instantiable y.cls kk).before a0 Z = true) (w3 : (Cond.initialized y.cls).before a0 Z = true) (w4 : (Cond.code y yb yml yrt).before a0 Z = true) (hy : y.cls ≠ "java/lang/invoke/MethodHandle" ∧ y.cls ≠ "java/lang/invoke/VarHandle") (E : Exa Z h a Cl)
    (hM : Mt l Z y yb yml yrt rm (.ref a :: argsL).toArray h n0 (Keep0 h ws P)) (hfr : rm.frames + 1 ≤ R.frames) (hlo : W + (yml + 11) + rm.locals ≤ R.locals) (hc : cells + rm.cells ≤ R.cells) (hs : slots + rm.slots ≤ R.slots) (hlen : ∀ sig, parseMethodDescriptor y.desc = some sig → argsL.length = sig.parameters.length) (hL : L.size = ml) (hst : st = argsL.reverse ++ .ref a :: rest) (hW : (rest.map fun v => v.category).sum ≤ W)
    (kont : ∀ T' h', Wk p l e R s m args below meth c n0 T' h' (cells + rm.cells) (slots + rm.slots) → Keep h h' ws → P h' → Fi p e below s n0 C S Q (T'.setTop (mkF m pc' L (rest)))) : Fi p e below s n0 C S Q (T.setTop (mkF m pc L (st))) := by
  refine g_private K X (a := a) (argsL := argsL) (rest := rest) W hd hp w1 w2 w5 w6 w3 w4 hy E hM hfr hlo hc hs hlen hL hst hW (fun v T' h' X' hq => ?_) (fun _ _ q => q.2.1.1)
  obtain ⟨rfl, hK, hP⟩ := hq
  exact kont T' h' X' hK hP
end OwnKit
theorem pn_0 : plainName "com/example/benchwright/benchwright/data/DecimalTextReadPlainPinLaw" = true := by first | (simp [plainName, overriddenIn]; done) | decide +kernel
theorem pn_1 : plainName "com/example/benchwright/benchwright/data/DecimalText$Plain" = true := by first | (simp [plainName, overriddenIn]; done) | decide +kernel
theorem pn_2 : plainName "com/example/benchwright/benchwright/data/DecimalText" = true := by first | (simp [plainName, overriddenIn]; done) | decide +kernel
theorem pd_0 : parseMethodDescriptor "([BIILcom/example/benchwright/benchwright/data/DecimalText$Plain;)I" = some ⟨[(.array .byte), .int, .int, (.object "com/example/benchwright/benchwright/data/DecimalText$Plain")], some .int⟩ := by decide +kernel
theorem pd_1 : parseMethodDescriptor "(JJII)B" = some ⟨[.long, .long, .int, .int], some .byte⟩ := by decide +kernel
theorem pd_2 : parseMethodDescriptor "([J[BIII)V" = some ⟨[(.array .long), (.array .byte), .int, .int, .int], none⟩ := by decide +kernel
theorem pd_3 : parseMethodDescriptor "()V" = some ⟨[], none⟩ := by decide +kernel
theorem pd_4 : parseMethodDescriptor "([BIILcom/example/benchwright/benchwright/data/DecimalText$Plain;)Z" = some ⟨[(.array .byte), .int, .int, (.object "com/example/benchwright/benchwright/data/DecimalText$Plain")], some .boolean⟩ := by decide +kernel
theorem pd_5 : parseMethodDescriptor "()J" = some ⟨[], some .long⟩ := by decide +kernel
theorem pd_6 : parseMethodDescriptor "()I" = some ⟨[], some .int⟩ := by decide +kernel
def stpD (g : Nat → Int64) (c : Int32) : Nat → Int64 :=
  if ((if (upd g 1 (g 1 + (1 : Int64)) 1).toInt ≤ 18 then upd (upd g 1 (g 1 + (1 : Int64))) 3 (upd g 1 (g 1 + (1 : Int64)) 3 * (10 : Int64) + (c - (48 : Int32)).toInt64) else upd g 1 (g 1 + (1 : Int64))) 2).toInt = 0 then
    (if (upd g 1 (g 1 + (1 : Int64)) 1).toInt ≤ 18 then upd (upd g 1 (g 1 + (1 : Int64))) 3 (upd g 1 (g 1 + (1 : Int64)) 3 * (10 : Int64) + (c - (48 : Int32)).toInt64) else upd g 1 (g 1 + (1 : Int64)))
  else upd (if (upd g 1 (g 1 + (1 : Int64)) 1).toInt ≤ 18 then upd (upd g 1 (g 1 + (1 : Int64))) 3 (upd g 1 (g 1 + (1 : Int64)) 3 * (10 : Int64) + (c - (48 : Int32)).toInt64) else upd g 1 (g 1 + (1 : Int64))) 4 ((if (upd g 1 (g 1 + (1 : Int64)) 1).toInt ≤ 18 then upd (upd g 1 (g 1 + (1 : Int64))) 3 (upd g 1 (g 1 + (1 : Int64)) 3 * (10 : Int64) + (c - (48 : Int32)).toInt64) else upd g 1 (g 1 + (1 : Int64))) 4 + (1 : Int64))
def stp (g : Nat → Int64) (c : Int32) (k fr to : Int) : Nat → Int64 :=
  if k < fr ∨ to ≤ k then g
  else if 48 ≤ c.toInt ∧ c.toInt ≤ 57 then stpD g c
  else if c.toInt = 46 then (if (g 2).toInt = 0 then upd g 2 (1 : Int64) else upd g 0 (0 : Int64))
  else if (c.toInt = 45 ∨ c.toInt = 43) ∧ k = fr then (if c.toInt = 45 then upd g 5 (1 : Int64) else g)
  else upd g 0 (0 : Int64)
def runS (g : Nat → Int64) (fb : Nat → Int32) (fr to : Int) : Nat → Nat → Int64
  | 0 => g
  | k + 1 => stp (runS g fb fr to k) (fb k) (k : Int) fr to
theorem stpD_le {g : Nat → Int64} {c : Int32} (h : (g 1 + (1 : Int64)).toInt ≤ 18) : stpD g c 0 = g 0 ∧ stpD g c 1 = g 1 + 1 ∧ stpD g c 2 = g 2 ∧ stpD g c 3 = g 3 * (10 : Int64) + (c - (48 : Int32)).toInt64 ∧ stpD g c 4 = (if (g 2).toInt = 0 then g 4 else g 4 + 1) ∧ stpD g c 5 = g 5 := by
  have h1 : (upd g 1 (g 1 + (1 : Int64)) 1).toInt ≤ 18 := by rw [upd_hit]; exact h
  unfold stpD
  simp only [if_pos h1]
  by_cases h2 : (g 2).toInt = 0
  · simp [upd, h2]
  · simp [upd, h2]
theorem stpD_01 (g : Nat → Int64) (c : Int32) : stpD g c 0 = g 0 ∧ stpD g c 1 = g 1 + 1 := by
  unfold stpD
  by_cases h1 : (upd g 1 (g 1 + (1 : Int64)) 1).toInt ≤ 18
  · simp only [if_pos h1]
    by_cases h2 : (g 2).toInt = 0
    · simp [upd, h2]
    · simp [upd, h2]
  · simp only [if_neg h1]
    by_cases h2 : (g 2).toInt = 0
    · simp [upd, h2]
    · simp [upd, h2]
theorem stp_01 (g : Nat → Int64) (c : Int32) (k fr to : Int) : (stp g c k fr to 0 = g 0 ∨ stp g c k fr to 0 = 0) ∧ (stp g c k fr to 1 = g 1 ∨ stp g c k fr to 1 = g 1 + 1) := by
  have hD := stpD_01 g c
  unfold stp
  split
  · exact ⟨Or.inl rfl, Or.inl rfl⟩
  · split
    · exact ⟨Or.inl hD.1, Or.inr hD.2⟩
    · split
      · split
        · exact ⟨Or.inl (by simp [upd]), Or.inl (by simp [upd])⟩
        · exact ⟨Or.inr (by simp [upd]), Or.inl (by simp [upd])⟩
      · split
        · split
          · exact ⟨Or.inl (by simp [upd]), Or.inl (by simp [upd])⟩
          · exact ⟨Or.inl rfl, Or.inl rfl⟩
        · exact ⟨Or.inr (by simp [upd]), Or.inl (by simp [upd])⟩
theorem runS_succ (g : Nat → Int64) (fb : Nat → Int32) (fr to : Int) (k : Nat) : runS g fb fr to (k + 1) = stp (runS g fb fr to k) (fb k) (k : Int) fr to := rfl
theorem runS_lo {g : Nat → Int64} {fb : Nat → Int32} {fr to : Int} : ∀ k : Nat, (k : Int) ≤ fr → runS g fb fr to k = g := by
  intro k
  induction k with
  | zero => intro _; rfl
  | succ k ih =>
    intro hk
    rw [runS_succ, ih (by omega)]
    unfold stp
    rw [if_pos (by omega)]
theorem runS_hi {g : Nat → Int64} {fb : Nat → Int32} {fr to : Int} {u : Nat} (hu : to ≤ (u : Int)) : ∀ d : Nat, runS g fb fr to (u + d) = runS g fb fr to u := by
  intro d
  induction d with
  | zero => rfl
  | succ d ih =>
    rw [Nat.add_succ, runS_succ, ih]
    unfold stp
    rw [if_pos (by omega)]
theorem runS_zero {g : Nat → Int64} {fb : Nat → Int32} {fr to : Int} {k : Nat} (h0 : (runS g fb fr to k 0).toInt = 0) : ∀ d : Nat, (runS g fb fr to (k + d) 0).toInt = 0 := by
  intro d
  induction d with
  | zero => exact h0
  | succ d ih =>
    rw [Nat.add_succ, runS_succ]
    rcases (stp_01 (runS g fb fr to (k + d)) (fb (k + d)) ((k + d : Nat) : Int) fr to).1 with q | q
    · rw [q]; exact ih
    · rw [q]; rfl
theorem runS_cnt {g : Nat → Int64} {fb : Nat → Int32} {fr to : Int} (h0 : (g 1).toInt = 0) : ∀ k : Nat, k ≤ 100 → 0 ≤ (runS g fb fr to k 1).toInt ∧ (runS g fb fr to k 1).toInt ≤ k := by
  intro k
  induction k with
  | zero => intro _; show 0 ≤ (g 1).toInt ∧ (g 1).toInt ≤ _; omega
  | succ k ih =>
    intro hk
    have := ih (by omega)
    rw [runS_succ]
    rcases (stp_01 (runS g fb fr to k) (fb k) (k : Int) fr to).2 with q | q
    · rw [q]; omega
    · rw [q]
      have e := c_ladd (runS g fb fr to k 1) 1
      rw [show (1 : Int64).toInt = 1 from rfl] at e
      have r := rng64 (runS g fb fr to k 1 + 1)
      omega
theorem runS_mono {g : Nat → Int64} {fb : Nat → Int32} {fr to : Int} (h0 : (g 1).toInt = 0) (k : Nat) : ∀ d : Nat, k + d ≤ 100 → (runS g fb fr to k 1).toInt ≤ (runS g fb fr to (k + d) 1).toInt := by
  intro d
  induction d with
  | zero => intro _; exact Int.le_refl _
  | succ d ih =>
    intro hk
    have := ih (by omega)
    have hc := runS_cnt (fb := fb) (fr := fr) (to := to) h0 (k + d) (by omega)
    rw [Nat.add_succ, runS_succ]
    rcases (stp_01 (runS g fb fr to (k + d)) (fb (k + d)) ((k + d : Nat) : Int) fr to).2 with q | q
    · rw [q]; exact this
    · rw [q]
      have e := c_ladd (runS g fb fr to (k + d) 1) 1
      rw [show (1 : Int64).toInt = 1 from rfl] at e
      have r := rng64 (runS g fb fr to (k + d) 1 + 1)
      omega
def BAD (G : Nat → Int64) : Prop := (G 0).toInt = 0 ∨ 19 ≤ (G 1).toInt
def BASE (g : Nat → Int64) : Prop := g 0 = 1 ∧ g 1 = 0 ∧ g 2 = 0 ∧ g 3 = 0 ∧ g 4 = 0 ∧ g 5 = 0
def CORE (R : Nat → Int64) (t k : Nat) (cnt : Int32) (val : Int64) (dot neg : Int32) : Prop :=
  R 0 = 1 ∧ (R 1).toInt = cnt.toInt ∧ 0 ≤ cnt.toInt ∧ cnt.toInt ≤ 18 ∧ R 3 = val ∧
  ((dot.toInt = -1 ∧ (R 2).toInt = 0 ∧ (R 4).toInt = 0) ∨ ((t : Int) ≤ dot.toInt ∧ dot.toInt < k ∧ (R 2).toInt ≠ 0 ∧ (R 4).toInt = k - dot.toInt - 1)) ∧
  ((neg.toInt = 1 ∧ (R 5).toInt = 1) ∨ (neg.toInt = 0 ∧ (R 5).toInt = 0))
def IV (g : Nat → Int64) (fb : Nat → Int32) (t u k : Nat) (cnt : Int32) (val : Int64) (dot neg : Int32) : Prop :=
  t ≤ k ∧ k ≤ u ∧ (k = t → k < u → (fb t).toInt ≠ 45 ∧ (fb t).toInt ≠ 43) ∧ CORE (runS g fb t u k) t k cnt val dot neg
theorem own_i1 (x : Int32) (h0 : 0 ≤ x.toInt) (h1 : x.toInt ≤ 1000) : (x + (1 : Int32)).toInt = x.toInt + 1 := by
  have e := c_iadd x 1
  rw [show (1 : Int32).toInt = 1 from rfl] at e
  have r := rng32 (x + 1)
  omega
theorem own_l1 (x : Int64) (h0 : 0 ≤ x.toInt) (h1 : x.toInt ≤ 1000) : (x + (1 : Int64)).toInt = x.toInt + 1 := by
  have e := c_ladd x 1
  rw [show (1 : Int64).toInt = 1 from rfl] at e
  have r := rng64 (x + 1)
  omega
theorem iv_digit {g : Nat → Int64} {fb : Nat → Int32} {t u k : Nat} {cnt : Int32} {val : Int64} {dot neg : Int32} (H : IV g fb t u k cnt val dot neg) (hu : u ≤ 20) (hk : k < u) (h1 : 48 ≤ (fb k).toInt) (h2 : (fb k).toInt ≤ 57) (h3 : cnt.toInt < 18) :
    IV g fb t u (k + 1) (cnt + (1 : Int32)) (val * (10 : Int64) + (fb k - (48 : Int32)).toInt64) dot neg := by
  obtain ⟨a1, a2, a3, c0, c1, c2, c3, c4, c5, c6⟩ := H
  refine ⟨by omega, by omega, fun q => by omega, ?_⟩
  have hs : runS g fb t u (k + 1) = stpD (runS g fb t u k) (fb k) := by
    rw [runS_succ]; unfold stp; rw [if_neg (by omega), if_pos ⟨h1, h2⟩]
  rw [hs]
  generalize runS g fb t u k = R at *
  have e1 := own_l1 (R 1) (by omega) (by omega)
  obtain ⟨s0, s1, s2, s3, s4, s5⟩ := stpD_le (g := R) (c := fb k) (by omega)
  refine ⟨by rw [s0]; exact c0, by rw [s1, own_i1 cnt (by omega) (by omega), e1, c1], by rw [own_i1 cnt (by omega) (by omega)]; omega, by rw [own_i1 cnt (by omega) (by omega)]; omega, by rw [s3, c4], ?_, by rw [s5]; exact c6⟩
  rw [s2, s4]
  rcases c5 with ⟨d1, d2, d3⟩ | ⟨d1, d2, d3, d4⟩
  · left
    rw [if_pos d2]
    exact ⟨d1, d2, d3⟩
  · right
    rw [if_neg d3, own_l1 (R 4) (by omega) (by omega)]
    exact ⟨d1, by omega, d3, by omega⟩
theorem iv_dot {g : Nat → Int64} {fb : Nat → Int32} {t u k : Nat} {cnt : Int32} {val : Int64} {dot neg i : Int32} (H : IV g fb t u k cnt val dot neg) (hk : k < u) (h1 : (fb k).toInt = 46) (h3 : dot.toInt < 0) (hi : i.toInt = (k : Int)) :
    IV g fb t u (k + 1) cnt val i neg := by
  obtain ⟨a1, a2, a3, c0, c1, c2, c3, c4, c5, c6⟩ := H
  refine ⟨by omega, by omega, fun q => by omega, ?_⟩
  have d2 : (runS g fb t u k 2).toInt = 0 ∧ (runS g fb t u k 4).toInt = 0 := by
    rcases c5 with ⟨d1, d2, d3⟩ | ⟨d1, d2, d3, d4⟩
    · exact ⟨d2, d3⟩
    · omega
  have hs : runS g fb t u (k + 1) = upd (runS g fb t u k) 2 (1 : Int64) := by
    rw [runS_succ]; unfold stp; rw [if_neg (by omega), if_neg (by omega), if_pos h1, if_pos d2.1]
  rw [hs]
  generalize runS g fb t u k = R at *
  refine ⟨by rw [upd_miss _ _ (by decide)]; exact c0, by rw [upd_miss _ _ (by decide)]; exact c1, c2, c3, by rw [upd_miss _ _ (by decide)]; exact c4, Or.inr ⟨by omega, by omega, by rw [upd_hit]; decide, by rw [upd_miss _ _ (by decide)]; omega⟩, by rw [upd_miss _ _ (by decide)]; exact c6⟩
theorem bad_at {g : Nat → Int64} {fb : Nat → Int32} {t u k : Nat} (hb : BASE g) (hk : k + 1 ≤ 20) (h : (runS g fb t u (k + 1) 0).toInt = 0 ∨ 19 ≤ (runS g fb t u (k + 1) 1).toInt) : BAD (runS g fb t u 20) := by
  have e : 20 = (k + 1) + (20 - (k + 1)) := by omega
  rcases h with h | h
  · left
    rw [e]; exact runS_zero h _
  · right
    have := runS_mono (g := g) (fb := fb) (fr := t) (to := u) (by rw [hb.2.1]; rfl) (k + 1) (20 - (k + 1)) (by omega)
    rw [← e] at this
    omega
theorem iv_other {g : Nat → Int64} {fb : Nat → Int32} {t u k : Nat} {cnt : Int32} {val : Int64} {dot neg : Int32} (hb : BASE g) (H : IV g fb t u k cnt val dot neg) (hu : u ≤ 20) (hk : k < u) (h1 : ¬ (48 ≤ (fb k).toInt ∧ (fb k).toInt ≤ 57)) (h2 : (fb k).toInt ≠ 46) : BAD (runS g fb t u 20) := by
  obtain ⟨a1, a2, a3, -⟩ := H
  have hn : ¬ (((fb k).toInt = 45 ∨ (fb k).toInt = 43) ∧ (k : Int) = t) := fun q => by
    have hkt : k = t := by omega
    have := a3 hkt hk
    rw [hkt] at q
    omega
  refine bad_at (k := k) hb (by omega) (Or.inl ?_)
  rw [runS_succ]; unfold stp
  rw [if_neg (by omega), if_neg h1, if_neg h2, if_neg hn, upd_hit]
  rfl
theorem iv_dot2 {g : Nat → Int64} {fb : Nat → Int32} {t u k : Nat} {cnt : Int32} {val : Int64} {dot neg : Int32} (hb : BASE g) (H : IV g fb t u k cnt val dot neg) (hu : u ≤ 20) (hk : k < u) (h1 : (fb k).toInt = 46) (h2 : 0 ≤ dot.toInt) : BAD (runS g fb t u 20) := by
  obtain ⟨a1, a2, a3, c0, c1, c2, c3, c4, c5, c6⟩ := H
  have d2 : ¬ (runS g fb t u k 2).toInt = 0 := by
    rcases c5 with ⟨d1, d2, d3⟩ | ⟨d1, d2, d3, d4⟩
    · omega
    · exact d3
  refine bad_at (k := k) hb (by omega) (Or.inl ?_)
  rw [runS_succ]; unfold stp
  rw [if_neg (by omega), if_neg (by omega), if_pos h1, if_neg d2, upd_hit]
  rfl
theorem iv_19 {g : Nat → Int64} {fb : Nat → Int32} {t u k : Nat} {cnt : Int32} {val : Int64} {dot neg : Int32} (hb : BASE g) (H : IV g fb t u k cnt val dot neg) (hu : u ≤ 20) (hk : k < u) (h1 : 48 ≤ (fb k).toInt) (h2 : (fb k).toInt ≤ 57) (h3 : 18 ≤ cnt.toInt) : BAD (runS g fb t u 20) := by
  obtain ⟨a1, a2, a3, c0, c1, c2, c3, c4, c5, c6⟩ := H
  refine bad_at (k := k) hb (by omega) (Or.inr ?_)
  rw [runS_succ]; unfold stp
  rw [if_neg (by omega), if_pos ⟨h1, h2⟩, (stpD_01 _ _).2, own_l1 _ (by omega) (by omega)]
  omega
theorem iv_start {g : Nat → Int64} {fb : Nat → Int32} {t u : Nat} (hb : BASE g) (h1 : t ≤ u) (h2 : t < u → (fb t).toInt ≠ 45 ∧ (fb t).toInt ≠ 43) : IV g fb t u t 0 0 (-1) 0 := by
  refine ⟨Nat.le_refl _, h1, fun _ q => h2 q, ?_⟩
  rw [runS_lo t (Int.le_refl _)]
  obtain ⟨b0, b1, b2, b3, b4, b5⟩ := hb
  exact ⟨b0, by rw [b1]; rfl, by decide, by decide, b3, Or.inl ⟨by decide, by rw [b2]; rfl, by rw [b4]; rfl⟩, Or.inr ⟨by decide, by rw [b5]; rfl⟩⟩
theorem iv_sign {g : Nat → Int64} {fb : Nat → Int32} {t u : Nat} (hb : BASE g) (h1 : t < u) {neg : Int32} (h2 : ((fb t).toInt = 45 ∧ neg.toInt = 1) ∨ ((fb t).toInt = 43 ∧ neg.toInt = 0)) : IV g fb t u (t + 1) 0 0 (-1) neg := by
  refine ⟨by omega, by omega, fun q => by omega, ?_⟩
  obtain ⟨b0, b1, b2, b3, b4, b5⟩ := hb
  rw [runS_succ, runS_lo t (Int.le_refl _)]
  unfold stp
  rw [if_neg (by omega), if_neg (by omega), if_neg (by omega), if_pos ⟨by omega, rfl⟩]
  rcases h2 with ⟨q1, q2⟩ | ⟨q1, q2⟩
  · rw [if_pos q1]
    exact ⟨by rw [upd_miss _ _ (by decide)]; exact b0, by rw [upd_miss _ _ (by decide), b1]; rfl, by decide, by decide, by rw [upd_miss _ _ (by decide)]; exact b3, Or.inl ⟨by decide, by rw [upd_miss _ _ (by decide), b2]; rfl, by rw [upd_miss _ _ (by decide), b4]; rfl⟩, Or.inl ⟨q2, by rw [upd_hit]; rfl⟩⟩
  · rw [if_neg (by omega)]
    exact ⟨b0, by rw [b1]; rfl, by decide, by decide, b3, Or.inl ⟨by decide, by rw [b2]; rfl, by rw [b4]; rfl⟩, Or.inr ⟨q2, by rw [b5]; rfl⟩⟩
def OUT (g : Nat → Int64) (fb : Nat → Int32) (t u k : Nat) (cnt : Int32) (val : Int64) (dot neg : Int32) : Prop :=
  k ≤ u ∧ -1 ≤ dot.toInt ∧ dot.toInt ≤ 20 ∧ ((k < u ∧ BAD (runS g fb t u 20)) ∨ (k = u ∧ CORE (runS g fb t u 20) t u cnt val dot neg))
theorem iv_out {g : Nat → Int64} {fb : Nat → Int32} {t u k : Nat} {cnt : Int32} {val : Int64} {dot neg : Int32} (H : IV g fb t u k cnt val dot neg) (hu : u ≤ 20) (hk : u ≤ k) : OUT g fb t u k cnt val dot neg := by
  obtain ⟨a1, a2, a3, c⟩ := H
  have hku : k = u := by omega
  subst hku
  have c' := c
  obtain ⟨c0, c1, c2, c3, c4, c5, c6⟩ := c
  refine ⟨Nat.le_refl _, by omega, by omega, Or.inr ⟨rfl, ?_⟩⟩
  rw [show 20 = k + (20 - k) by omega, runS_hi (Int.le_refl _)]
  exact c'
theorem iv_bad {g : Nat → Int64} {fb : Nat → Int32} {t u k : Nat} {cnt : Int32} {val : Int64} {dot neg : Int32} (H : IV g fb t u k cnt val dot neg) (hu : u ≤ 20) (hk : k < u) (hB : BAD (runS g fb t u 20)) : OUT g fb t u k cnt val dot neg := by
  obtain ⟨a1, a2, a3, c0, c1, c2, c3, c4, c5, c6⟩ := H
  exact ⟨by omega, by omega, by omega, Or.inl ⟨hk, hB⟩⟩
def SCN (G : Nat → Int64) (u : Nat) (r : Int32) (dg : Int64) (sc : Int32) : Prop :=
  (r.toInt < u ∧ BAD G) ∨ (r.toInt = u ∧ (G 0).toInt = 1 ∧ 0 ≤ (G 1).toInt ∧ (G 1).toInt ≤ 18 ∧ ((G 5).toInt = 1 → dg = -(G 3)) ∧ ((G 5).toInt ≠ 1 → dg = G 3) ∧ ((G 1).toInt = 0 → sc.toInt = -1) ∧ (1 ≤ (G 1).toInt → sc.toInt = (G 4).toInt ∧ 0 ≤ sc.toInt))
theorem own_sc (i dot : Int32) (k : Nat) (hi : i.toInt = (k : Int)) (hk : k ≤ 20) (h0 : 0 ≤ dot.toInt) (h1 : dot.toInt ≤ 20) : ((i - dot) - (1 : Int32)).toInt = k - dot.toInt - 1 := by
  have e := c_isub i dot
  have r := rng32 (i - dot)
  have e2 := c_isub (i - dot) 1
  rw [show (1 : Int32).toInt = 1 from rfl] at e2
  have r2 := rng32 (i - dot - 1)
  omega
theorem own_fin {g : Nat → Int64} {fb : Nat → Int32} {t u k : Nat} {cnt : Int32} {val dg : Int64} {dot neg i sc : Int32} (H : OUT g fb t u k cnt val dot neg) (hu : u ≤ 20) (hi : i.toInt = (k : Int)) (h1 : neg.toInt = 0 → dg = val) (h2 : neg.toInt ≠ 0 → dg = -val) (h3 : cnt.toInt = 0 → sc.toInt = -1) (h4 : cnt.toInt ≠ 0 → dot.toInt < 0 → sc.toInt = 0) (h5 : cnt.toInt ≠ 0 → 0 ≤ dot.toInt → sc = (i - dot) - (1 : Int32)) : SCN (runS g fb t u 20) u i dg sc := by
  obtain ⟨a1, a2, a3, a4⟩ := H
  rcases a4 with ⟨q1, q2⟩ | ⟨q1, c0, c1, c2, c3, c4, c5, c6⟩
  · exact Or.inl ⟨by omega, q2⟩
  · right
    refine ⟨by omega, by rw [c0]; rfl, by omega, by omega, fun q => ?_, fun q => ?_, fun q => h3 (by omega), fun q => ?_⟩
    · rw [c4]; exact h2 (by omega)
    · rw [c4]; exact h1 (by omega)
    · by_cases hd : dot.toInt < 0
      · have := h4 (by omega) hd
        omega
      · have e := own_sc i dot k hi (by omega) (by omega) (by omega)
        rw [h5 (by omega) (by omega), e]
        omega
theorem d1_0 : decode method_2_code 0 = .ok (.lload_n 0, 1) := by decide +kernel
theorem d1_1 : decode method_2_code 1 = .ok (.iconst 3, 1) := by decide +kernel
theorem d1_2 : decode method_2_code 2 = .ok (.iload 5, 2) := by decide +kernel
theorem d1_4 : decode method_2_code 4 = .ok (.imul, 1) := by decide +kernel
theorem d1_5 : decode method_2_code 5 = .ok (.lushr, 1) := by decide +kernel
theorem d1_6 : decode method_2_code 6 = .ok (.ldc2_w 7, 3) := by decide +kernel
theorem d1_9 : decode method_2_code 9 = .ok (.land, 1) := by decide +kernel
theorem d1_10 : decode method_2_code 10 = .ok (.l2i, 1) := by decide +kernel
theorem d1_11 : decode method_2_code 11 = .ok (.istore 6, 2) := by decide +kernel
theorem d1_13 : decode method_2_code 13 = .ok (.iload 6, 2) := by decide +kernel
theorem d1_15 : decode method_2_code 15 = .ok (.ifCond .ne 6, 3) := by decide +kernel
theorem d1_18 : decode method_2_code 18 = .ok (.bipush 45, 2) := by decide +kernel
theorem d1_20 : decode method_2_code 20 = .ok (.ireturn, 1) := by decide +kernel
theorem d1_21 : decode method_2_code 21 = .ok (.iload 6, 2) := by decide +kernel
theorem d1_23 : decode method_2_code 23 = .ok (.iconst 1, 1) := by decide +kernel
theorem d1_24 : decode method_2_code 24 = .ok (.if_icmp .ne 6, 3) := by decide +kernel
theorem d1_27 : decode method_2_code 27 = .ok (.bipush 43, 2) := by decide +kernel
theorem d1_29 : decode method_2_code 29 = .ok (.ireturn, 1) := by decide +kernel
theorem d1_30 : decode method_2_code 30 = .ok (.iload 6, 2) := by decide +kernel
theorem d1_32 : decode method_2_code 32 = .ok (.iconst 2, 1) := by decide +kernel
theorem d1_33 : decode method_2_code 33 = .ok (.if_icmp .ne 6, 3) := by decide +kernel
theorem d1_36 : decode method_2_code 36 = .ok (.bipush 46, 2) := by decide +kernel
theorem d1_38 : decode method_2_code 38 = .ok (.ireturn, 1) := by decide +kernel
theorem d1_39 : decode method_2_code 39 = .ok (.iload 6, 2) := by decide +kernel
theorem d1_41 : decode method_2_code 41 = .ok (.iconst 3, 1) := by decide +kernel
theorem d1_42 : decode method_2_code 42 = .ok (.if_icmp .ne 15, 3) := by decide +kernel
theorem d1_45 : decode method_2_code 45 = .ok (.iload 4, 2) := by decide +kernel
theorem d1_47 : decode method_2_code 47 = .ok (.iload 5, 2) := by decide +kernel
theorem d1_49 : decode method_2_code 49 = .ok (.iconst 3, 1) := by decide +kernel
theorem d1_50 : decode method_2_code 50 = .ok (.iand, 1) := by decide +kernel
theorem d1_51 : decode method_2_code 51 = .ok (.bipush 8, 2) := by decide +kernel
theorem d1_53 : decode method_2_code 53 = .ok (.imul, 1) := by decide +kernel
theorem d1_54 : decode method_2_code 54 = .ok (.iushr, 1) := by decide +kernel
theorem d1_55 : decode method_2_code 55 = .ok (.i2b, 1) := by decide +kernel
theorem d1_56 : decode method_2_code 56 = .ok (.ireturn, 1) := by decide +kernel
theorem d1_57 : decode method_2_code 57 = .ok (.bipush 48, 2) := by decide +kernel
theorem d1_59 : decode method_2_code 59 = .ok (.lload_n 2, 1) := by decide +kernel
theorem d1_60 : decode method_2_code 60 = .ok (.iconst 3, 1) := by decide +kernel
theorem d1_61 : decode method_2_code 61 = .ok (.iload 5, 2) := by decide +kernel
theorem d1_63 : decode method_2_code 63 = .ok (.imul, 1) := by decide +kernel
theorem d1_64 : decode method_2_code 64 = .ok (.lushr, 1) := by decide +kernel
theorem d1_65 : decode method_2_code 65 = .ok (.ldc2_w 9, 3) := by decide +kernel
theorem d1_68 : decode method_2_code 68 = .ok (.land, 1) := by decide +kernel
theorem d1_69 : decode method_2_code 69 = .ok (.ldc2_w 11, 3) := by decide +kernel
theorem d1_72 : decode method_2_code 72 = .ok (.lrem, 1) := by decide +kernel
theorem d1_73 : decode method_2_code 73 = .ok (.l2i, 1) := by decide +kernel
theorem d1_74 : decode method_2_code 74 = .ok (.iadd, 1) := by decide +kernel
theorem d1_75 : decode method_2_code 75 = .ok (.i2b, 1) := by decide +kernel
theorem d1_76 : decode method_2_code 76 = .ok (.ireturn, 1) := by decide +kernel
theorem ef_1 (m : MethodId) (x0 : Int64) (x1 : Int64) (x2 : Int32) (x3 : Int32) : entryFrame m #[.long x0, .long x1, .int x2, .int x3] 7 = mkF m 0 #[.val (.long x0), .second, .val (.long x1), .second, .val (.int x2), .val (.int x3), .unset] [] := by first | (simp [entryFrame, mkF, argsToLocals, Value.category, maxLocals]; done) | rfl
set_option maxRecDepth 65536 in
set_option maxHeartbeats 40000000 in
theorem rm_gen (l : Launch) (Z : State) (a0 : Array Value) (hw : ∀ d ∈ tables_1, d.before a0 Z = true) (p1 p2 : Int64) (p3 p4 : Int32) (h : Heap) (n0 : Nat) (Z0 : n0 ≤ h.size)  :
    Mt l Z (⟨"com/example/benchwright/benchwright/data/DecimalTextReadPlainPinLaw", "gen", "(JJII)B"⟩ : MethodName) method_2_code 7 (some .byte) ({ frames := 0, cells := 0, slots := 0, locals := 0 } : Room) #[.long p1, .long p2, .int p3, .int p4] h n0 (PureI h (fun r => -128 ≤ r.toInt ∧ r.toInt < 128)) := by
  refine Mt.of (own := "com/example/benchwright/benchwright/data/DecimalTextReadPlainPinLaw") (nm := "gen") (Ls := #[.val (.long p1), .second, .val (.long p2), .second, .val (.int p3), .val (.int p4), .unset]) rfl rfl (plainFor_of_name pn_0) Z0 (fun m => ef_1 m p1 p2 p3 p4) ?_
  intro p e s m below meth c T K X
  refine g_lloadN K X (pc' := 1) d1_0 rfl rfl ?_
  refine g_iconst K X (pc' := 2) (v := (3 : Int32)) d1_1 rfl rfl ?_
  refine g_iload K X (pc' := 4) d1_2 rfl rfl ?_
  refine g_imul K X (pc' := 5) d1_4 rfl ?_
  refine g_lushr K X (pc' := 6) d1_5 rfl ?_
  refine g_ldc2J K X (pc' := 9) (v := (7 : Int64)) d1_6 rfl (hw _ (List.mem_of_getElem? (i := 5) rfl)) ?_
  refine g_land K X (pc' := 10) d1_9 rfl ?_
  refine g_l2i K X (pc' := 11) d1_10 rfl ?_
  refine g_istore K X (pc' := 13) (L' := #[.val (.long p1), .second, .val (.long p2), .second, .val (.int p3), .val (.int p4), .val (.int ((((jushrL p1 ((3 : Int32) * p4)) &&& (7 : Int64))).toInt32))]) d1_11 rfl rfl ?_
  refine g_iload K X (pc' := 15) d1_13 rfl rfl ?_
  refine g_if_ne K X (pc' := 21) (pc'' := 18) ((((jushrL p1 ((3 : Int32) * p4)) &&& (7 : Int64))).toInt32).toInt d1_15 (by decide) rfl rfl ?_ ?_
  · intro b15
    refine g_iload K X (pc' := 23) d1_21 rfl rfl ?_
    refine g_iconst K X (pc' := 24) (v := (1 : Int32)) d1_23 rfl rfl ?_
    refine g_icmp_ne K X (pc' := 30) (pc'' := 27) ((((jushrL p1 ((3 : Int32) * p4)) &&& (7 : Int64))).toInt32).toInt 1 d1_24 (by decide) rfl rfl rfl ?_ ?_
    · intro b24
      refine g_iload K X (pc' := 32) d1_30 rfl rfl ?_
      refine g_iconst K X (pc' := 33) (v := (2 : Int32)) d1_32 rfl rfl ?_
      refine g_icmp_ne K X (pc' := 39) (pc'' := 36) ((((jushrL p1 ((3 : Int32) * p4)) &&& (7 : Int64))).toInt32).toInt 2 d1_33 (by decide) rfl rfl rfl ?_ ?_
      · intro b33
        refine g_iload K X (pc' := 41) d1_39 rfl rfl ?_
        refine g_iconst K X (pc' := 42) (v := (3 : Int32)) d1_41 rfl rfl ?_
        refine g_icmp_ne K X (pc' := 57) (pc'' := 45) ((((jushrL p1 ((3 : Int32) * p4)) &&& (7 : Int64))).toInt32).toInt 3 d1_42 (by decide) rfl rfl rfl ?_ ?_
        · intro b42
          refine g_bipush K X (pc' := 59) (v := (48 : Int32)) d1_57 rfl rfl ?_
          refine g_lloadN K X (pc' := 60) d1_59 rfl rfl ?_
          refine g_iconst K X (pc' := 61) (v := (3 : Int32)) d1_60 rfl rfl ?_
          refine g_iload K X (pc' := 63) d1_61 rfl rfl ?_
          refine g_imul K X (pc' := 64) d1_63 rfl ?_
          refine g_lushr K X (pc' := 65) d1_64 rfl ?_
          refine g_ldc2J K X (pc' := 68) (v := (15 : Int64)) d1_65 rfl (hw _ (List.mem_of_getElem? (i := 30) rfl)) ?_
          refine g_land K X (pc' := 69) d1_68 rfl ?_
          refine g_ldc2J K X (pc' := 72) (v := (10 : Int64)) d1_69 rfl (hw _ (List.mem_of_getElem? (i := 31) rfl)) ?_
          refine g_lrem K X (pc' := 73) d1_72 rfl (by decide) ?_
          refine g_l2i K X (pc' := 74) d1_73 rfl ?_
          refine g_iadd K X (pc' := 75) d1_74 rfl ?_
          refine g_i2b K X (pc' := 76) d1_75 rfl ?_
          exact g_retN K X d1_76 (by simp) (by decide) (by decide) ⟨_, rfl, (jb_rng _).2, rfl⟩
        · intro b42
          refine g_iload K X (pc' := 47) d1_45 rfl rfl ?_
          refine g_iload K X (pc' := 49) d1_47 rfl rfl ?_
          refine g_iconst K X (pc' := 50) (v := (3 : Int32)) d1_49 rfl rfl ?_
          refine g_iand K X (pc' := 51) d1_50 rfl ?_
          refine g_bipush K X (pc' := 53) (v := (8 : Int32)) d1_51 rfl rfl ?_
          refine g_imul K X (pc' := 54) d1_53 rfl ?_
          refine g_iushr K X (pc' := 55) d1_54 rfl ?_
          refine g_i2b K X (pc' := 56) d1_55 rfl ?_
          exact g_retN K X d1_56 (by simp) (by decide) (by decide) ⟨_, rfl, (jb_rng _).2, rfl⟩
      · intro b33
        refine g_bipush K X (pc' := 38) (v := (46 : Int32)) d1_36 rfl rfl ?_
        exact g_retN K X d1_38 (by simp) (by decide) (by decide) ⟨_, rfl, (jb_rng _).2, rfl⟩
    · intro b24
      refine g_bipush K X (pc' := 29) (v := (43 : Int32)) d1_27 rfl rfl ?_
      exact g_retN K X d1_29 (by simp) (by decide) (by decide) ⟨_, rfl, (jb_rng _).2, rfl⟩
  · intro b15
    refine g_bipush K X (pc' := 20) (v := (45 : Int32)) d1_18 rfl rfl ?_
    exact g_retN K X d1_20 (by simp) (by decide) (by decide) ⟨_, rfl, (jb_rng _).2, rfl⟩

theorem d2_0 : decode method_3_code 0 = .ok (.iload_n 2, 1) := by decide +kernel
theorem d2_1 : decode method_3_code 1 = .ok (.iload_n 3, 1) := by decide +kernel
theorem d2_2 : decode method_3_code 2 = .ok (.if_icmp .lt 9, 3) := by decide +kernel
theorem d2_5 : decode method_3_code 5 = .ok (.iload_n 2, 1) := by decide +kernel
theorem d2_6 : decode method_3_code 6 = .ok (.iload 4, 2) := by decide +kernel
theorem d2_8 : decode method_3_code 8 = .ok (.if_icmp .lt 4, 3) := by decide +kernel
theorem d2_11 : decode method_3_code 11 = .ok (.return_, 1) := by decide +kernel
theorem d2_12 : decode method_3_code 12 = .ok (.aload_n 1, 1) := by decide +kernel
theorem d2_13 : decode method_3_code 13 = .ok (.iload_n 2, 1) := by decide +kernel
theorem d2_14 : decode method_3_code 14 = .ok (.baload, 1) := by decide +kernel
theorem d2_15 : decode method_3_code 15 = .ok (.istore 5, 2) := by decide +kernel
theorem d2_17 : decode method_3_code 17 = .ok (.iload 5, 2) := by decide +kernel
theorem d2_19 : decode method_3_code 19 = .ok (.bipush 48, 2) := by decide +kernel
theorem d2_21 : decode method_3_code 21 = .ok (.if_icmp .lt 64, 3) := by decide +kernel
theorem d2_24 : decode method_3_code 24 = .ok (.iload 5, 2) := by decide +kernel
theorem d2_26 : decode method_3_code 26 = .ok (.bipush 57, 2) := by decide +kernel
theorem d2_28 : decode method_3_code 28 = .ok (.if_icmp .gt 57, 3) := by decide +kernel
theorem d2_31 : decode method_3_code 31 = .ok (.aload_n 0, 1) := by decide +kernel
theorem d2_32 : decode method_3_code 32 = .ok (.iconst 1, 1) := by decide +kernel
theorem d2_33 : decode method_3_code 33 = .ok (.aload_n 0, 1) := by decide +kernel
theorem d2_34 : decode method_3_code 34 = .ok (.iconst 1, 1) := by decide +kernel
theorem d2_35 : decode method_3_code 35 = .ok (.laload, 1) := by decide +kernel
theorem d2_36 : decode method_3_code 36 = .ok (.lconst 1, 1) := by decide +kernel
theorem d2_37 : decode method_3_code 37 = .ok (.ladd, 1) := by decide +kernel
theorem d2_38 : decode method_3_code 38 = .ok (.lastore, 1) := by decide +kernel
theorem d2_39 : decode method_3_code 39 = .ok (.aload_n 0, 1) := by decide +kernel
theorem d2_40 : decode method_3_code 40 = .ok (.iconst 1, 1) := by decide +kernel
theorem d2_41 : decode method_3_code 41 = .ok (.laload, 1) := by decide +kernel
theorem d2_42 : decode method_3_code 42 = .ok (.ldc2_w 13, 3) := by decide +kernel
theorem d2_45 : decode method_3_code 45 = .ok (.lcmp, 1) := by decide +kernel
theorem d2_46 : decode method_3_code 46 = .ok (.ifCond .gt 20, 3) := by decide +kernel
theorem d2_49 : decode method_3_code 49 = .ok (.aload_n 0, 1) := by decide +kernel
theorem d2_50 : decode method_3_code 50 = .ok (.iconst 3, 1) := by decide +kernel
theorem d2_51 : decode method_3_code 51 = .ok (.aload_n 0, 1) := by decide +kernel
theorem d2_52 : decode method_3_code 52 = .ok (.iconst 3, 1) := by decide +kernel
theorem d2_53 : decode method_3_code 53 = .ok (.laload, 1) := by decide +kernel
theorem d2_54 : decode method_3_code 54 = .ok (.ldc2_w 11, 3) := by decide +kernel
theorem d2_57 : decode method_3_code 57 = .ok (.lmul, 1) := by decide +kernel
theorem d2_58 : decode method_3_code 58 = .ok (.iload 5, 2) := by decide +kernel
theorem d2_60 : decode method_3_code 60 = .ok (.bipush 48, 2) := by decide +kernel
theorem d2_62 : decode method_3_code 62 = .ok (.isub, 1) := by decide +kernel
theorem d2_63 : decode method_3_code 63 = .ok (.i2l, 1) := by decide +kernel
theorem d2_64 : decode method_3_code 64 = .ok (.ladd, 1) := by decide +kernel
theorem d2_65 : decode method_3_code 65 = .ok (.lastore, 1) := by decide +kernel
theorem d2_66 : decode method_3_code 66 = .ok (.aload_n 0, 1) := by decide +kernel
theorem d2_67 : decode method_3_code 67 = .ok (.iconst 2, 1) := by decide +kernel
theorem d2_68 : decode method_3_code 68 = .ok (.laload, 1) := by decide +kernel
theorem d2_69 : decode method_3_code 69 = .ok (.lconst 0, 1) := by decide +kernel
theorem d2_70 : decode method_3_code 70 = .ok (.lcmp, 1) := by decide +kernel
theorem d2_71 : decode method_3_code 71 = .ok (.ifCond .eq 80, 3) := by decide +kernel
theorem d2_74 : decode method_3_code 74 = .ok (.aload_n 0, 1) := by decide +kernel
theorem d2_75 : decode method_3_code 75 = .ok (.iconst 4, 1) := by decide +kernel
theorem d2_76 : decode method_3_code 76 = .ok (.aload_n 0, 1) := by decide +kernel
theorem d2_77 : decode method_3_code 77 = .ok (.iconst 4, 1) := by decide +kernel
theorem d2_78 : decode method_3_code 78 = .ok (.laload, 1) := by decide +kernel
theorem d2_79 : decode method_3_code 79 = .ok (.lconst 1, 1) := by decide +kernel
theorem d2_80 : decode method_3_code 80 = .ok (.ladd, 1) := by decide +kernel
theorem d2_81 : decode method_3_code 81 = .ok (.lastore, 1) := by decide +kernel
theorem d2_82 : decode method_3_code 82 = .ok (.goto 69, 3) := by decide +kernel
theorem d2_85 : decode method_3_code 85 = .ok (.iload 5, 2) := by decide +kernel
theorem d2_87 : decode method_3_code 87 = .ok (.bipush 46, 2) := by decide +kernel
theorem d2_89 : decode method_3_code 89 = .ok (.if_icmp .ne 25, 3) := by decide +kernel
theorem d2_92 : decode method_3_code 92 = .ok (.aload_n 0, 1) := by decide +kernel
theorem d2_93 : decode method_3_code 93 = .ok (.iconst 2, 1) := by decide +kernel
theorem d2_94 : decode method_3_code 94 = .ok (.laload, 1) := by decide +kernel
theorem d2_95 : decode method_3_code 95 = .ok (.lconst 0, 1) := by decide +kernel
theorem d2_96 : decode method_3_code 96 = .ok (.lcmp, 1) := by decide +kernel
theorem d2_97 : decode method_3_code 97 = .ok (.ifCond .eq 10, 3) := by decide +kernel
theorem d2_100 : decode method_3_code 100 = .ok (.aload_n 0, 1) := by decide +kernel
theorem d2_101 : decode method_3_code 101 = .ok (.iconst 0, 1) := by decide +kernel
theorem d2_102 : decode method_3_code 102 = .ok (.lconst 0, 1) := by decide +kernel
theorem d2_103 : decode method_3_code 103 = .ok (.lastore, 1) := by decide +kernel
theorem d2_104 : decode method_3_code 104 = .ok (.goto 47, 3) := by decide +kernel
theorem d2_107 : decode method_3_code 107 = .ok (.aload_n 0, 1) := by decide +kernel
theorem d2_108 : decode method_3_code 108 = .ok (.iconst 2, 1) := by decide +kernel
theorem d2_109 : decode method_3_code 109 = .ok (.lconst 1, 1) := by decide +kernel
theorem d2_110 : decode method_3_code 110 = .ok (.lastore, 1) := by decide +kernel
theorem d2_111 : decode method_3_code 111 = .ok (.goto 40, 3) := by decide +kernel
theorem d2_114 : decode method_3_code 114 = .ok (.iload 5, 2) := by decide +kernel
theorem d2_116 : decode method_3_code 116 = .ok (.bipush 45, 2) := by decide +kernel
theorem d2_118 : decode method_3_code 118 = .ok (.if_icmp .eq 10, 3) := by decide +kernel
theorem d2_121 : decode method_3_code 121 = .ok (.iload 5, 2) := by decide +kernel
theorem d2_123 : decode method_3_code 123 = .ok (.bipush 43, 2) := by decide +kernel
theorem d2_125 : decode method_3_code 125 = .ok (.if_icmp .ne 22, 3) := by decide +kernel
theorem d2_128 : decode method_3_code 128 = .ok (.iload_n 2, 1) := by decide +kernel
theorem d2_129 : decode method_3_code 129 = .ok (.iload_n 3, 1) := by decide +kernel
theorem d2_130 : decode method_3_code 130 = .ok (.if_icmp .ne 17, 3) := by decide +kernel
theorem d2_133 : decode method_3_code 133 = .ok (.iload 5, 2) := by decide +kernel
theorem d2_135 : decode method_3_code 135 = .ok (.bipush 45, 2) := by decide +kernel
theorem d2_137 : decode method_3_code 137 = .ok (.if_icmp .ne 14, 3) := by decide +kernel
theorem d2_140 : decode method_3_code 140 = .ok (.aload_n 0, 1) := by decide +kernel
theorem d2_141 : decode method_3_code 141 = .ok (.iconst 5, 1) := by decide +kernel
theorem d2_142 : decode method_3_code 142 = .ok (.lconst 1, 1) := by decide +kernel
theorem d2_143 : decode method_3_code 143 = .ok (.lastore, 1) := by decide +kernel
theorem d2_144 : decode method_3_code 144 = .ok (.goto 7, 3) := by decide +kernel
theorem d2_147 : decode method_3_code 147 = .ok (.aload_n 0, 1) := by decide +kernel
theorem d2_148 : decode method_3_code 148 = .ok (.iconst 0, 1) := by decide +kernel
theorem d2_149 : decode method_3_code 149 = .ok (.lconst 0, 1) := by decide +kernel
theorem d2_150 : decode method_3_code 150 = .ok (.lastore, 1) := by decide +kernel
theorem d2_151 : decode method_3_code 151 = .ok (.return_, 1) := by decide +kernel
theorem ef_2 (m : MethodId) (x0 : Addr) (x1 : Addr) (x2 : Int32) (x3 : Int32) (x4 : Int32) : entryFrame m #[.ref x0, .ref x1, .int x2, .int x3, .int x4] 6 = mkF m 0 #[.val (.ref x0), .val (.ref x1), .val (.int x2), .val (.int x3), .val (.int x4), .unset] [] := by first | (simp [entryFrame, mkF, argsToLocals, Value.category, maxLocals]; done) | rfl
set_option maxRecDepth 65536 in
set_option maxHeartbeats 40000000 in
theorem rm_step (l : Launch) (Z : State) (a0 : Array Value) (hw : ∀ d ∈ tables_1, d.before a0 Z = true) (as ab : Addr) (p3 p4 p5 : Int32) (k : Nat) (fr to : Int) (g : Nat → Int64) (fb : Nat → Int32) (h : Heap) (n0 : Nat) (Z0 : n0 ≤ h.size) (g1 : n0 ≤ as) (A : AL Z h as 6 g) (B : AN Z h ab .byte 20 fb) (hne : ab ≠ as) (hi : p3.toInt = (k : Int)) (hk : k < 20) (hfr : p4.toInt = fr) (hto : p5.toInt = to) :
    Mt l Z (⟨"com/example/benchwright/benchwright/data/DecimalTextReadPlainPinLaw", "step", "([J[BIII)V"⟩ : MethodName) method_3_code 6 none ({ frames := 0, cells := 0, slots := 0, locals := 0 } : Room) #[.ref as, .ref ab, .int p3, .int p4, .int p5] h n0 (Keep0 h [as] (fun h' => AL Z h' as 6 (stp g (fb k) (k : Int) fr to))) := by
  refine Mt.of (own := "com/example/benchwright/benchwright/data/DecimalTextReadPlainPinLaw") (nm := "step") (Ls := #[.val (.ref as), .val (.ref ab), .val (.int p3), .val (.int p4), .val (.int p5), .unset]) rfl rfl (plainFor_of_name pn_0) Z0 (fun m => ef_2 m as ab p3 p4 p5) ?_
  intro p e s m below meth c T K X
  subst hfr
  subst hto
  refine g_iloadN K X (pc' := 1) d2_0 rfl rfl ?_
  refine g_iloadN K X (pc' := 2) d2_1 rfl rfl ?_
  refine g_icmp_lt K X (pc' := 11) (pc'' := 5) p3.toInt p4.toInt d2_2 (by decide) rfl rfl rfl ?_ ?_
  · intro b2
    exact g_ret0 K X d2_11 (by decide) (by decide) ⟨rfl, Keep.refl _ _, (by unfold stp; rw [if_pos (by omega)]; exact A)⟩
  · intro b2
    refine g_iloadN K X (pc' := 6) d2_5 rfl rfl ?_
    refine g_iload K X (pc' := 8) d2_6 rfl rfl ?_
    refine g_icmp_lt K X (pc' := 12) (pc'' := 11) p3.toInt p5.toInt d2_8 (by decide) rfl rfl rfl ?_ ?_
    · intro b8
      refine g_aloadN K X (pc' := 13) d2_12 rfl rfl rfl ?_
      refine g_iloadN K X (pc' := 14) d2_13 rfl rfl ?_
      refine g_baload K X (pc' := 15) (i := k) d2_14 rfl B hi (by omega) ?_
      refine g_istore K X (pc' := 17) (L' := #[.val (.ref as), .val (.ref ab), .val (.int p3), .val (.int p4), .val (.int p5), .val (.int (fb k))]) d2_15 rfl rfl ?_
      refine g_iload K X (pc' := 19) d2_17 rfl rfl ?_
      refine g_bipush K X (pc' := 21) (v := (48 : Int32)) d2_19 rfl rfl ?_
      refine g_icmp_lt K X (pc' := 85) (pc'' := 24) (fb k).toInt 48 d2_21 (by decide) rfl rfl rfl ?_ ?_
      · intro b21
        refine g_iload K X (pc' := 87) d2_85 rfl rfl ?_
        refine g_bipush K X (pc' := 89) (v := (46 : Int32)) d2_87 rfl rfl ?_
        refine g_icmp_ne K X (pc' := 114) (pc'' := 92) (fb k).toInt 46 d2_89 (by decide) rfl rfl rfl ?_ ?_
        · intro b89
          refine g_iload K X (pc' := 116) d2_114 rfl rfl ?_
          refine g_bipush K X (pc' := 118) (v := (45 : Int32)) d2_116 rfl rfl ?_
          refine g_icmp_eq K X (pc' := 128) (pc'' := 121) (fb k).toInt 45 d2_118 (by decide) rfl rfl rfl ?_ ?_
          · intro b118
            refine g_iloadN K X (pc' := 129) d2_128 rfl rfl ?_
            refine g_iloadN K X (pc' := 130) d2_129 rfl rfl ?_
            refine g_icmp_ne K X (pc' := 147) (pc'' := 133) p3.toInt p4.toInt d2_130 (by decide) rfl rfl rfl ?_ ?_
            · intro b130
              refine g_aloadN K X (pc' := 148) d2_147 rfl rfl rfl ?_
              refine g_iconst K X (pc' := 149) (v := (0 : Int32)) d2_148 rfl rfl ?_
              refine g_lconst K X (pc' := 150) (v := (0 : Int64)) d2_149 rfl rfl ?_
              refine g_lastore K X (pc' := 151) (i := 0) d2_150 rfl A g1 rfl (by decide) (fun T1 h2 X3 Kp4 A5 => ?_)
              obtain ⟨f6, hf7⟩ : ∃ q, q = upd g 0 (0 : Int64) := ⟨_, rfl⟩
              rw [← hf7] at A5
              have f8 := AN.keep B Kp4 (ninS hne nin0)
              have KK9 := Kp4
              exact g_ret0 K X3 d2_151 (by decide) (by decide) ⟨rfl, KK9, (by subst hf7; unfold stp; rw [if_neg (by omega), if_neg (by omega), if_neg (by omega), if_neg (by omega)]; exact A5)⟩
            · intro b130
              refine g_iload K X (pc' := 135) d2_133 rfl rfl ?_
              refine g_bipush K X (pc' := 137) (v := (45 : Int32)) d2_135 rfl rfl ?_
              refine g_icmp_ne K X (pc' := 151) (pc'' := 140) (fb k).toInt 45 d2_137 (by decide) rfl rfl rfl ?_ ?_
              · intro b137
                omega
              · intro b137
                refine g_aloadN K X (pc' := 141) d2_140 rfl rfl rfl ?_
                refine g_iconst K X (pc' := 142) (v := (5 : Int32)) d2_141 rfl rfl ?_
                refine g_lconst K X (pc' := 143) (v := (1 : Int64)) d2_142 rfl rfl ?_
                refine g_lastore K X (pc' := 144) (i := 5) d2_143 rfl A g1 rfl (by decide) (fun T10 h11 X12 Kp13 A14 => ?_)
                obtain ⟨f15, hf16⟩ : ∃ q, q = upd g 5 (1 : Int64) := ⟨_, rfl⟩
                rw [← hf16] at A14
                have f17 := AN.keep B Kp13 (ninS hne nin0)
                have KK18 := Kp13
                refine g_goto K X12 (pc' := 151) d2_144 (by decide) ?_
                exact g_ret0 K X12 d2_151 (by decide) (by decide) ⟨rfl, KK18, (by subst hf16; unfold stp; rw [if_neg (by omega), if_neg (by omega), if_neg (by omega), if_pos (by omega), if_pos (by omega)]; exact A14)⟩
          · intro b118
            refine g_iload K X (pc' := 123) d2_121 rfl rfl ?_
            refine g_bipush K X (pc' := 125) (v := (43 : Int32)) d2_123 rfl rfl ?_
            refine g_icmp_ne K X (pc' := 147) (pc'' := 128) (fb k).toInt 43 d2_125 (by decide) rfl rfl rfl ?_ ?_
            · intro b125
              refine g_aloadN K X (pc' := 148) d2_147 rfl rfl rfl ?_
              refine g_iconst K X (pc' := 149) (v := (0 : Int32)) d2_148 rfl rfl ?_
              refine g_lconst K X (pc' := 150) (v := (0 : Int64)) d2_149 rfl rfl ?_
              refine g_lastore K X (pc' := 151) (i := 0) d2_150 rfl A g1 rfl (by decide) (fun T19 h20 X21 Kp22 A23 => ?_)
              obtain ⟨f24, hf25⟩ : ∃ q, q = upd g 0 (0 : Int64) := ⟨_, rfl⟩
              rw [← hf25] at A23
              have f26 := AN.keep B Kp22 (ninS hne nin0)
              have KK27 := Kp22
              exact g_ret0 K X21 d2_151 (by decide) (by decide) ⟨rfl, KK27, (by subst hf25; unfold stp; rw [if_neg (by omega), if_neg (by omega), if_neg (by omega), if_neg (by omega)]; exact A23)⟩
            · intro b125
              refine g_iloadN K X (pc' := 129) d2_128 rfl rfl ?_
              refine g_iloadN K X (pc' := 130) d2_129 rfl rfl ?_
              refine g_icmp_ne K X (pc' := 147) (pc'' := 133) p3.toInt p4.toInt d2_130 (by decide) rfl rfl rfl ?_ ?_
              · intro b130
                refine g_aloadN K X (pc' := 148) d2_147 rfl rfl rfl ?_
                refine g_iconst K X (pc' := 149) (v := (0 : Int32)) d2_148 rfl rfl ?_
                refine g_lconst K X (pc' := 150) (v := (0 : Int64)) d2_149 rfl rfl ?_
                refine g_lastore K X (pc' := 151) (i := 0) d2_150 rfl A g1 rfl (by decide) (fun T28 h29 X30 Kp31 A32 => ?_)
                obtain ⟨f33, hf34⟩ : ∃ q, q = upd g 0 (0 : Int64) := ⟨_, rfl⟩
                rw [← hf34] at A32
                have f35 := AN.keep B Kp31 (ninS hne nin0)
                have KK36 := Kp31
                exact g_ret0 K X30 d2_151 (by decide) (by decide) ⟨rfl, KK36, (by subst hf34; unfold stp; rw [if_neg (by omega), if_neg (by omega), if_neg (by omega), if_neg (by omega)]; exact A32)⟩
              · intro b130
                refine g_iload K X (pc' := 135) d2_133 rfl rfl ?_
                refine g_bipush K X (pc' := 137) (v := (45 : Int32)) d2_135 rfl rfl ?_
                refine g_icmp_ne K X (pc' := 151) (pc'' := 140) (fb k).toInt 45 d2_137 (by decide) rfl rfl rfl ?_ ?_
                · intro b137
                  exact g_ret0 K X d2_151 (by decide) (by decide) ⟨rfl, Keep.refl _ _, (by unfold stp; rw [if_neg (by omega), if_neg (by omega), if_neg (by omega), if_pos (by omega), if_neg (by omega)]; exact A)⟩
                · intro b137
                  omega
        · intro b89
          refine g_aloadN K X (pc' := 93) d2_92 rfl rfl rfl ?_
          refine g_iconst K X (pc' := 94) (v := (2 : Int32)) d2_93 rfl rfl ?_
          refine g_laload K X (pc' := 95) (i := 2) d2_94 rfl A rfl (by decide) ?_
          refine g_lconst K X (pc' := 96) (v := (0 : Int64)) d2_95 rfl rfl ?_
          refine g_lcmp_eq K X (pc1 := 97) (pc' := 107) (pc'' := 100) (g 2).toInt 0 d2_96 rfl d2_97 (by decide) rfl rfl rfl ?_ ?_
          · intro b97
            refine g_aloadN K X (pc' := 108) d2_107 rfl rfl rfl ?_
            refine g_iconst K X (pc' := 109) (v := (2 : Int32)) d2_108 rfl rfl ?_
            refine g_lconst K X (pc' := 110) (v := (1 : Int64)) d2_109 rfl rfl ?_
            refine g_lastore K X (pc' := 111) (i := 2) d2_110 rfl A g1 rfl (by decide) (fun T37 h38 X39 Kp40 A41 => ?_)
            obtain ⟨f42, hf43⟩ : ∃ q, q = upd g 2 (1 : Int64) := ⟨_, rfl⟩
            rw [← hf43] at A41
            have f44 := AN.keep B Kp40 (ninS hne nin0)
            have KK45 := Kp40
            refine g_goto K X39 (pc' := 151) d2_111 (by decide) ?_
            exact g_ret0 K X39 d2_151 (by decide) (by decide) ⟨rfl, KK45, (by subst hf43; unfold stp; rw [if_neg (by omega), if_neg (by omega), if_pos (by omega), if_pos (by omega)]; exact A41)⟩
          · intro b97
            refine g_aloadN K X (pc' := 101) d2_100 rfl rfl rfl ?_
            refine g_iconst K X (pc' := 102) (v := (0 : Int32)) d2_101 rfl rfl ?_
            refine g_lconst K X (pc' := 103) (v := (0 : Int64)) d2_102 rfl rfl ?_
            refine g_lastore K X (pc' := 104) (i := 0) d2_103 rfl A g1 rfl (by decide) (fun T46 h47 X48 Kp49 A50 => ?_)
            obtain ⟨f51, hf52⟩ : ∃ q, q = upd g 0 (0 : Int64) := ⟨_, rfl⟩
            rw [← hf52] at A50
            have f53 := AN.keep B Kp49 (ninS hne nin0)
            have KK54 := Kp49
            refine g_goto K X48 (pc' := 151) d2_104 (by decide) ?_
            exact g_ret0 K X48 d2_151 (by decide) (by decide) ⟨rfl, KK54, (by subst hf52; unfold stp; rw [if_neg (by omega), if_neg (by omega), if_pos (by omega), if_neg (by omega)]; exact A50)⟩
      · intro b21
        refine g_iload K X (pc' := 26) d2_24 rfl rfl ?_
        refine g_bipush K X (pc' := 28) (v := (57 : Int32)) d2_26 rfl rfl ?_
        refine g_icmp_gt K X (pc' := 85) (pc'' := 31) (fb k).toInt 57 d2_28 (by decide) rfl rfl rfl ?_ ?_
        · intro b28
          refine g_iload K X (pc' := 87) d2_85 rfl rfl ?_
          refine g_bipush K X (pc' := 89) (v := (46 : Int32)) d2_87 rfl rfl ?_
          refine g_icmp_ne K X (pc' := 114) (pc'' := 92) (fb k).toInt 46 d2_89 (by decide) rfl rfl rfl ?_ ?_
          · intro b89
            refine g_iload K X (pc' := 116) d2_114 rfl rfl ?_
            refine g_bipush K X (pc' := 118) (v := (45 : Int32)) d2_116 rfl rfl ?_
            refine g_icmp_eq K X (pc' := 128) (pc'' := 121) (fb k).toInt 45 d2_118 (by decide) rfl rfl rfl ?_ ?_
            · intro b118
              refine g_iloadN K X (pc' := 129) d2_128 rfl rfl ?_
              refine g_iloadN K X (pc' := 130) d2_129 rfl rfl ?_
              refine g_icmp_ne K X (pc' := 147) (pc'' := 133) p3.toInt p4.toInt d2_130 (by decide) rfl rfl rfl ?_ ?_
              · intro b130
                refine g_aloadN K X (pc' := 148) d2_147 rfl rfl rfl ?_
                refine g_iconst K X (pc' := 149) (v := (0 : Int32)) d2_148 rfl rfl ?_
                refine g_lconst K X (pc' := 150) (v := (0 : Int64)) d2_149 rfl rfl ?_
                refine g_lastore K X (pc' := 151) (i := 0) d2_150 rfl A g1 rfl (by decide) (fun T55 h56 X57 Kp58 A59 => ?_)
                obtain ⟨f60, hf61⟩ : ∃ q, q = upd g 0 (0 : Int64) := ⟨_, rfl⟩
                rw [← hf61] at A59
                have f62 := AN.keep B Kp58 (ninS hne nin0)
                have KK63 := Kp58
                exact g_ret0 K X57 d2_151 (by decide) (by decide) ⟨rfl, KK63, (by subst hf61; unfold stp; rw [if_neg (by omega), if_neg (by omega), if_neg (by omega), if_neg (by omega)]; exact A59)⟩
              · intro b130
                refine g_iload K X (pc' := 135) d2_133 rfl rfl ?_
                refine g_bipush K X (pc' := 137) (v := (45 : Int32)) d2_135 rfl rfl ?_
                refine g_icmp_ne K X (pc' := 151) (pc'' := 140) (fb k).toInt 45 d2_137 (by decide) rfl rfl rfl ?_ ?_
                · intro b137
                  omega
                · intro b137
                  refine g_aloadN K X (pc' := 141) d2_140 rfl rfl rfl ?_
                  refine g_iconst K X (pc' := 142) (v := (5 : Int32)) d2_141 rfl rfl ?_
                  refine g_lconst K X (pc' := 143) (v := (1 : Int64)) d2_142 rfl rfl ?_
                  refine g_lastore K X (pc' := 144) (i := 5) d2_143 rfl A g1 rfl (by decide) (fun T64 h65 X66 Kp67 A68 => ?_)
                  obtain ⟨f69, hf70⟩ : ∃ q, q = upd g 5 (1 : Int64) := ⟨_, rfl⟩
                  rw [← hf70] at A68
                  have f71 := AN.keep B Kp67 (ninS hne nin0)
                  have KK72 := Kp67
                  refine g_goto K X66 (pc' := 151) d2_144 (by decide) ?_
                  exact g_ret0 K X66 d2_151 (by decide) (by decide) ⟨rfl, KK72, (by subst hf70; unfold stp; rw [if_neg (by omega), if_neg (by omega), if_neg (by omega), if_pos (by omega), if_pos (by omega)]; exact A68)⟩
            · intro b118
              refine g_iload K X (pc' := 123) d2_121 rfl rfl ?_
              refine g_bipush K X (pc' := 125) (v := (43 : Int32)) d2_123 rfl rfl ?_
              refine g_icmp_ne K X (pc' := 147) (pc'' := 128) (fb k).toInt 43 d2_125 (by decide) rfl rfl rfl ?_ ?_
              · intro b125
                refine g_aloadN K X (pc' := 148) d2_147 rfl rfl rfl ?_
                refine g_iconst K X (pc' := 149) (v := (0 : Int32)) d2_148 rfl rfl ?_
                refine g_lconst K X (pc' := 150) (v := (0 : Int64)) d2_149 rfl rfl ?_
                refine g_lastore K X (pc' := 151) (i := 0) d2_150 rfl A g1 rfl (by decide) (fun T73 h74 X75 Kp76 A77 => ?_)
                obtain ⟨f78, hf79⟩ : ∃ q, q = upd g 0 (0 : Int64) := ⟨_, rfl⟩
                rw [← hf79] at A77
                have f80 := AN.keep B Kp76 (ninS hne nin0)
                have KK81 := Kp76
                exact g_ret0 K X75 d2_151 (by decide) (by decide) ⟨rfl, KK81, (by subst hf79; unfold stp; rw [if_neg (by omega), if_neg (by omega), if_neg (by omega), if_neg (by omega)]; exact A77)⟩
              · intro b125
                refine g_iloadN K X (pc' := 129) d2_128 rfl rfl ?_
                refine g_iloadN K X (pc' := 130) d2_129 rfl rfl ?_
                refine g_icmp_ne K X (pc' := 147) (pc'' := 133) p3.toInt p4.toInt d2_130 (by decide) rfl rfl rfl ?_ ?_
                · intro b130
                  refine g_aloadN K X (pc' := 148) d2_147 rfl rfl rfl ?_
                  refine g_iconst K X (pc' := 149) (v := (0 : Int32)) d2_148 rfl rfl ?_
                  refine g_lconst K X (pc' := 150) (v := (0 : Int64)) d2_149 rfl rfl ?_
                  refine g_lastore K X (pc' := 151) (i := 0) d2_150 rfl A g1 rfl (by decide) (fun T82 h83 X84 Kp85 A86 => ?_)
                  obtain ⟨f87, hf88⟩ : ∃ q, q = upd g 0 (0 : Int64) := ⟨_, rfl⟩
                  rw [← hf88] at A86
                  have f89 := AN.keep B Kp85 (ninS hne nin0)
                  have KK90 := Kp85
                  exact g_ret0 K X84 d2_151 (by decide) (by decide) ⟨rfl, KK90, (by subst hf88; unfold stp; rw [if_neg (by omega), if_neg (by omega), if_neg (by omega), if_neg (by omega)]; exact A86)⟩
                · intro b130
                  refine g_iload K X (pc' := 135) d2_133 rfl rfl ?_
                  refine g_bipush K X (pc' := 137) (v := (45 : Int32)) d2_135 rfl rfl ?_
                  refine g_icmp_ne K X (pc' := 151) (pc'' := 140) (fb k).toInt 45 d2_137 (by decide) rfl rfl rfl ?_ ?_
                  · intro b137
                    exact g_ret0 K X d2_151 (by decide) (by decide) ⟨rfl, Keep.refl _ _, (by unfold stp; rw [if_neg (by omega), if_neg (by omega), if_neg (by omega), if_pos (by omega), if_neg (by omega)]; exact A)⟩
                  · intro b137
                    omega
          · intro b89
            refine g_aloadN K X (pc' := 93) d2_92 rfl rfl rfl ?_
            refine g_iconst K X (pc' := 94) (v := (2 : Int32)) d2_93 rfl rfl ?_
            refine g_laload K X (pc' := 95) (i := 2) d2_94 rfl A rfl (by decide) ?_
            refine g_lconst K X (pc' := 96) (v := (0 : Int64)) d2_95 rfl rfl ?_
            refine g_lcmp_eq K X (pc1 := 97) (pc' := 107) (pc'' := 100) (g 2).toInt 0 d2_96 rfl d2_97 (by decide) rfl rfl rfl ?_ ?_
            · intro b97
              refine g_aloadN K X (pc' := 108) d2_107 rfl rfl rfl ?_
              refine g_iconst K X (pc' := 109) (v := (2 : Int32)) d2_108 rfl rfl ?_
              refine g_lconst K X (pc' := 110) (v := (1 : Int64)) d2_109 rfl rfl ?_
              refine g_lastore K X (pc' := 111) (i := 2) d2_110 rfl A g1 rfl (by decide) (fun T91 h92 X93 Kp94 A95 => ?_)
              obtain ⟨f96, hf97⟩ : ∃ q, q = upd g 2 (1 : Int64) := ⟨_, rfl⟩
              rw [← hf97] at A95
              have f98 := AN.keep B Kp94 (ninS hne nin0)
              have KK99 := Kp94
              refine g_goto K X93 (pc' := 151) d2_111 (by decide) ?_
              exact g_ret0 K X93 d2_151 (by decide) (by decide) ⟨rfl, KK99, (by subst hf97; unfold stp; rw [if_neg (by omega), if_neg (by omega), if_pos (by omega), if_pos (by omega)]; exact A95)⟩
            · intro b97
              refine g_aloadN K X (pc' := 101) d2_100 rfl rfl rfl ?_
              refine g_iconst K X (pc' := 102) (v := (0 : Int32)) d2_101 rfl rfl ?_
              refine g_lconst K X (pc' := 103) (v := (0 : Int64)) d2_102 rfl rfl ?_
              refine g_lastore K X (pc' := 104) (i := 0) d2_103 rfl A g1 rfl (by decide) (fun T100 h101 X102 Kp103 A104 => ?_)
              obtain ⟨f105, hf106⟩ : ∃ q, q = upd g 0 (0 : Int64) := ⟨_, rfl⟩
              rw [← hf106] at A104
              have f107 := AN.keep B Kp103 (ninS hne nin0)
              have KK108 := Kp103
              refine g_goto K X102 (pc' := 151) d2_104 (by decide) ?_
              exact g_ret0 K X102 d2_151 (by decide) (by decide) ⟨rfl, KK108, (by subst hf106; unfold stp; rw [if_neg (by omega), if_neg (by omega), if_pos (by omega), if_neg (by omega)]; exact A104)⟩
        · intro b28
          refine g_aloadN K X (pc' := 32) d2_31 rfl rfl rfl ?_
          refine g_iconst K X (pc' := 33) (v := (1 : Int32)) d2_32 rfl rfl ?_
          refine g_aloadN K X (pc' := 34) d2_33 rfl rfl rfl ?_
          refine g_iconst K X (pc' := 35) (v := (1 : Int32)) d2_34 rfl rfl ?_
          refine g_laload K X (pc' := 36) (i := 1) d2_35 rfl A rfl (by decide) ?_
          refine g_lconst K X (pc' := 37) (v := (1 : Int64)) d2_36 rfl rfl ?_
          refine g_ladd K X (pc' := 38) d2_37 rfl ?_
          refine g_lastore K X (pc' := 39) (i := 1) d2_38 rfl A g1 rfl (by decide) (fun T109 h110 X111 Kp112 A113 => ?_)
          obtain ⟨f114, hf115⟩ : ∃ q, q = upd g 1 ((g 1) + (1 : Int64)) := ⟨_, rfl⟩
          rw [← hf115] at A113
          have f116 := AN.keep B Kp112 (ninS hne nin0)
          have KK117 := Kp112
          refine g_aloadN K X111 (pc' := 40) d2_39 rfl rfl rfl ?_
          refine g_iconst K X111 (pc' := 41) (v := (1 : Int32)) d2_40 rfl rfl ?_
          refine g_laload K X111 (pc' := 42) (i := 1) d2_41 rfl A113 rfl (by decide) ?_
          refine g_ldc2J K X111 (pc' := 45) (v := (18 : Int64)) d2_42 rfl (hw _ (List.mem_of_getElem? (i := 32) rfl)) ?_
          refine g_lcmp_gt K X111 (pc1 := 46) (pc' := 66) (pc'' := 49) (f114 1).toInt 18 d2_45 rfl d2_46 (by decide) rfl rfl rfl ?_ ?_
          · intro b46
            refine g_aloadN K X111 (pc' := 67) d2_66 rfl rfl rfl ?_
            refine g_iconst K X111 (pc' := 68) (v := (2 : Int32)) d2_67 rfl rfl ?_
            refine g_laload K X111 (pc' := 69) (i := 2) d2_68 rfl A113 rfl (by decide) ?_
            refine g_lconst K X111 (pc' := 70) (v := (0 : Int64)) d2_69 rfl rfl ?_
            refine g_lcmp_eq K X111 (pc1 := 71) (pc' := 151) (pc'' := 74) (f114 2).toInt 0 d2_70 rfl d2_71 (by decide) rfl rfl rfl ?_ ?_
            · intro b71
              exact g_ret0 K X111 d2_151 (by decide) (by decide) ⟨rfl, KK117, (by subst hf115; unfold stp; rw [if_neg (by omega), if_pos (by omega)]; unfold stpD; simp only [if_neg (show ¬ (upd g 1 (g 1 + (1 : Int64)) 1).toInt ≤ 18 by omega)]; rw [if_pos b71]; exact A113)⟩
            · intro b71
              refine g_aloadN K X111 (pc' := 75) d2_74 rfl rfl rfl ?_
              refine g_iconst K X111 (pc' := 76) (v := (4 : Int32)) d2_75 rfl rfl ?_
              refine g_aloadN K X111 (pc' := 77) d2_76 rfl rfl rfl ?_
              refine g_iconst K X111 (pc' := 78) (v := (4 : Int32)) d2_77 rfl rfl ?_
              refine g_laload K X111 (pc' := 79) (i := 4) d2_78 rfl A113 rfl (by decide) ?_
              refine g_lconst K X111 (pc' := 80) (v := (1 : Int64)) d2_79 rfl rfl ?_
              refine g_ladd K X111 (pc' := 81) d2_80 rfl ?_
              refine g_lastore K X111 (pc' := 82) (i := 4) d2_81 rfl A113 g1 rfl (by decide) (fun T118 h119 X120 Kp121 A122 => ?_)
              obtain ⟨f123, hf124⟩ : ∃ q, q = upd f114 4 ((f114 4) + (1 : Int64)) := ⟨_, rfl⟩
              rw [← hf124] at A122
              have f125 := AN.keep f116 Kp121 (ninS hne nin0)
              have KK126 := keep_same KK117 Kp121
              refine g_goto K X120 (pc' := 151) d2_82 (by decide) ?_
              exact g_ret0 K X120 d2_151 (by decide) (by decide) ⟨rfl, KK126, (by subst hf115; subst hf124; unfold stp; rw [if_neg (by omega), if_pos (by omega)]; unfold stpD; simp only [if_neg (show ¬ (upd g 1 (g 1 + (1 : Int64)) 1).toInt ≤ 18 by omega)]; rw [if_neg b71]; exact A122)⟩
          · intro b46
            refine g_aloadN K X111 (pc' := 50) d2_49 rfl rfl rfl ?_
            refine g_iconst K X111 (pc' := 51) (v := (3 : Int32)) d2_50 rfl rfl ?_
            refine g_aloadN K X111 (pc' := 52) d2_51 rfl rfl rfl ?_
            refine g_iconst K X111 (pc' := 53) (v := (3 : Int32)) d2_52 rfl rfl ?_
            refine g_laload K X111 (pc' := 54) (i := 3) d2_53 rfl A113 rfl (by decide) ?_
            refine g_ldc2J K X111 (pc' := 57) (v := (10 : Int64)) d2_54 rfl (hw _ (List.mem_of_getElem? (i := 31) rfl)) ?_
            refine g_lmul K X111 (pc' := 58) d2_57 rfl ?_
            refine g_iload K X111 (pc' := 60) d2_58 rfl rfl ?_
            refine g_bipush K X111 (pc' := 62) (v := (48 : Int32)) d2_60 rfl rfl ?_
            refine g_isub K X111 (pc' := 63) d2_62 rfl ?_
            refine g_i2l K X111 (pc' := 64) d2_63 rfl ?_
            refine g_ladd K X111 (pc' := 65) d2_64 rfl ?_
            refine g_lastore K X111 (pc' := 66) (i := 3) d2_65 rfl A113 g1 rfl (by decide) (fun T127 h128 X129 Kp130 A131 => ?_)
            obtain ⟨f132, hf133⟩ : ∃ q, q = upd f114 3 (((f114 3) * (10 : Int64)) + ((((fb k) - (48 : Int32))).toInt64)) := ⟨_, rfl⟩
            rw [← hf133] at A131
            have f134 := AN.keep f116 Kp130 (ninS hne nin0)
            have KK135 := keep_same KK117 Kp130
            refine g_aloadN K X129 (pc' := 67) d2_66 rfl rfl rfl ?_
            refine g_iconst K X129 (pc' := 68) (v := (2 : Int32)) d2_67 rfl rfl ?_
            refine g_laload K X129 (pc' := 69) (i := 2) d2_68 rfl A131 rfl (by decide) ?_
            refine g_lconst K X129 (pc' := 70) (v := (0 : Int64)) d2_69 rfl rfl ?_
            refine g_lcmp_eq K X129 (pc1 := 71) (pc' := 151) (pc'' := 74) (f132 2).toInt 0 d2_70 rfl d2_71 (by decide) rfl rfl rfl ?_ ?_
            · intro b71
              exact g_ret0 K X129 d2_151 (by decide) (by decide) ⟨rfl, KK135, (by subst hf115; subst hf133; unfold stp; rw [if_neg (by omega), if_pos (by omega)]; unfold stpD; simp only [if_pos (show  (upd g 1 (g 1 + (1 : Int64)) 1).toInt ≤ 18 by exact b46)]; rw [if_pos b71]; exact A131)⟩
            · intro b71
              refine g_aloadN K X129 (pc' := 75) d2_74 rfl rfl rfl ?_
              refine g_iconst K X129 (pc' := 76) (v := (4 : Int32)) d2_75 rfl rfl ?_
              refine g_aloadN K X129 (pc' := 77) d2_76 rfl rfl rfl ?_
              refine g_iconst K X129 (pc' := 78) (v := (4 : Int32)) d2_77 rfl rfl ?_
              refine g_laload K X129 (pc' := 79) (i := 4) d2_78 rfl A131 rfl (by decide) ?_
              refine g_lconst K X129 (pc' := 80) (v := (1 : Int64)) d2_79 rfl rfl ?_
              refine g_ladd K X129 (pc' := 81) d2_80 rfl ?_
              refine g_lastore K X129 (pc' := 82) (i := 4) d2_81 rfl A131 g1 rfl (by decide) (fun T136 h137 X138 Kp139 A140 => ?_)
              obtain ⟨f141, hf142⟩ : ∃ q, q = upd f132 4 ((f132 4) + (1 : Int64)) := ⟨_, rfl⟩
              rw [← hf142] at A140
              have f143 := AN.keep f134 Kp139 (ninS hne nin0)
              have KK144 := keep_same KK135 Kp139
              refine g_goto K X138 (pc' := 151) d2_82 (by decide) ?_
              exact g_ret0 K X138 d2_151 (by decide) (by decide) ⟨rfl, KK144, (by subst hf115; subst hf133; subst hf142; unfold stp; rw [if_neg (by omega), if_pos (by omega)]; unfold stpD; simp only [if_pos (show  (upd g 1 (g 1 + (1 : Int64)) 1).toInt ≤ 18 by exact b46)]; rw [if_neg b71]; exact A140)⟩
    · intro b8
      exact g_ret0 K X d2_11 (by decide) (by decide) ⟨rfl, Keep.refl _ _, (by unfold stp; rw [if_pos (by omega)]; exact A)⟩

def PL (Z : State) (h : Heap) (a : Addr) (dg : Int64) (sc : Int32) : Prop := Exa Z h a "com/example/benchwright/benchwright/data/DecimalText$Plain" ∧ Fld Z h a "com/example/benchwright/benchwright/data/DecimalText$Plain" "digits" "J" (.long dg) ∧ Fld Z h a "com/example/benchwright/benchwright/data/DecimalText$Plain" "scale" "I" (.int sc)
theorem d3_0 : decode prog_115_method_1_code 0 = .ok (.aload_n 0, 1) := by decide +kernel
theorem d3_1 : decode prog_115_method_1_code 1 = .ok (.invokespecial 1, 3) := by decide +kernel
theorem d3_4 : decode prog_115_method_1_code 4 = .ok (.return_, 1) := by decide +kernel
theorem ef_3 (m : MethodId) (x0 : Addr) : entryFrame m #[.ref x0] 1 = mkF m 0 #[.val (.ref x0)] [] := by first | (simp [entryFrame, mkF, argsToLocals, Value.category, maxLocals]; done) | rfl
set_option maxRecDepth 65536 in
set_option maxHeartbeats 40000000 in
theorem rm_init (l : Launch) (Z : State) (a0 : Array Value) (hw : ∀ d ∈ tables_1, d.before a0 Z = true) (a1 : Addr) (h : Heap) (n0 : Nat) (Z0 : n0 ≤ h.size)  :
    Mt l Z (⟨"com/example/benchwright/benchwright/data/DecimalText$Plain", "<init>", "()V"⟩ : MethodName) prog_115_method_1_code 1 none ({ frames := 1, cells := 0, slots := 0, locals := 12 } : Room) #[.ref a1] h n0 (Keep0 h [] (fun _ => True)) := by
  refine Mt.of (own := "com/example/benchwright/benchwright/data/DecimalText$Plain") (nm := "<init>") (Ls := #[.val (.ref a1)]) rfl rfl (plainFor_of_name pn_1) Z0 (fun m => ef_3 m a1) ?_
  intro p e s m below meth c T K X
  refine g_aloadN K X (pc' := 1) d3_0 rfl rfl rfl ?_
  refine g_objinit K X (pc' := 4) d3_1 rfl (hw _ (List.mem_of_getElem? (i := 16) rfl)) (hw _ (List.mem_of_getElem? (i := 17) rfl)) (hw _ (List.mem_of_getElem? (i := 18) rfl)) rfl 0 (by decide) (Nat.le_of_ble_eq_true rfl) (by decide) (fun T1 X2 => ?_)
  exact g_ret0 K X2 d3_4 (by decide) (by decide) ⟨rfl, Keep.refl _ _, trivial⟩

theorem d7_0 : decode prog_115_method_2_code 0 = .ok (.aload_n 0, 1) := by decide +kernel
theorem d7_1 : decode prog_115_method_2_code 1 = .ok (.getfield 7, 3) := by decide +kernel
theorem d7_4 : decode prog_115_method_2_code 4 = .ok (.lreturn, 1) := by decide +kernel
theorem ef_7 (m : MethodId) (x0 : Addr) : entryFrame m #[.ref x0] 1 = mkF m 0 #[.val (.ref x0)] [] := by first | (simp [entryFrame, mkF, argsToLocals, Value.category, maxLocals]; done) | rfl
set_option maxRecDepth 65536 in
set_option maxHeartbeats 40000000 in
theorem rm_digits (l : Launch) (Z : State) (a0 : Array Value) (hw : ∀ d ∈ tables_1, d.before a0 Z = true) (a1 : Addr) (dg : Int64) (sc : Int32) (h : Heap) (n0 : Nat) (Z0 : n0 ≤ h.size) (A : PL Z h a1 dg sc) :
    Mt l Z (⟨"com/example/benchwright/benchwright/data/DecimalText$Plain", "digits", "()J"⟩ : MethodName) prog_115_method_2_code 1 (some .long) ({ frames := 0, cells := 0, slots := 0, locals := 0 } : Room) #[.ref a1] h n0 (PureJ h (fun r => r = dg)) := by
  refine Mt.of (own := "com/example/benchwright/benchwright/data/DecimalText$Plain") (nm := "digits") (Ls := #[.val (.ref a1)]) rfl rfl (plainFor_of_name pn_1) Z0 (fun m => ef_7 m a1) ?_
  intro p e s m below meth c T K X
  refine g_aloadN K X (pc' := 1) d7_0 rfl rfl rfl ?_
  refine g_getfield K X (pc' := 4) d7_1 rfl (hw _ (List.mem_of_getElem? (i := 39) rfl)) A.2.1 (fun T1 X2 => ?_)
  exact g_retL K X2 d7_4 (by decide) (by decide) ⟨_, rfl, rfl, rfl⟩

theorem d8_0 : decode prog_115_method_3_code 0 = .ok (.aload_n 0, 1) := by decide +kernel
theorem d8_1 : decode prog_115_method_3_code 1 = .ok (.getfield 13, 3) := by decide +kernel
theorem d8_4 : decode prog_115_method_3_code 4 = .ok (.ireturn, 1) := by decide +kernel
theorem ef_8 (m : MethodId) (x0 : Addr) : entryFrame m #[.ref x0] 1 = mkF m 0 #[.val (.ref x0)] [] := by first | (simp [entryFrame, mkF, argsToLocals, Value.category, maxLocals]; done) | rfl
set_option maxRecDepth 65536 in
set_option maxHeartbeats 40000000 in
theorem rm_scale (l : Launch) (Z : State) (a0 : Array Value) (hw : ∀ d ∈ tables_1, d.before a0 Z = true) (a1 : Addr) (dg : Int64) (sc : Int32) (h : Heap) (n0 : Nat) (Z0 : n0 ≤ h.size) (A : PL Z h a1 dg sc) :
    Mt l Z (⟨"com/example/benchwright/benchwright/data/DecimalText$Plain", "scale", "()I"⟩ : MethodName) prog_115_method_3_code 1 (some .int) ({ frames := 0, cells := 0, slots := 0, locals := 0 } : Room) #[.ref a1] h n0 (PureI h (fun r => r = sc)) := by
  refine Mt.of (own := "com/example/benchwright/benchwright/data/DecimalText$Plain") (nm := "scale") (Ls := #[.val (.ref a1)]) rfl rfl (plainFor_of_name pn_1) Z0 (fun m => ef_8 m a1) ?_
  intro p e s m below meth c T K X
  refine g_aloadN K X (pc' := 1) d8_0 rfl rfl rfl ?_
  refine g_getfield K X (pc' := 4) d8_1 rfl (hw _ (List.mem_of_getElem? (i := 45) rfl)) A.2.2 (fun T1 X2 => ?_)
  exact g_retI K X2 d8_4 (by decide) (by decide) ⟨_, rfl, rfl, rfl⟩

theorem own_s48 (x : Int32) (h0 : -128 ≤ x.toInt) (h1 : x.toInt < 128) : (x - (48 : Int32)).toInt = x.toInt - 48 := by
  have e := c_isub x 48
  rw [show (48 : Int32).toInt = 48 from rfl] at e
  have r := rng32 (x - 48)
  omega
theorem d6_0 : decode prog_114_method_4_code 0 = .ok (.iload_n 1, 1) := by decide +kernel
theorem d6_1 : decode prog_114_method_4_code 1 = .ok (.istore 4, 2) := by decide +kernel
theorem d6_3 : decode prog_114_method_4_code 3 = .ok (.iconst 0, 1) := by decide +kernel
theorem d6_4 : decode prog_114_method_4_code 4 = .ok (.istore 5, 2) := by decide +kernel
theorem d6_6 : decode prog_114_method_4_code 6 = .ok (.iload 4, 2) := by decide +kernel
theorem d6_8 : decode prog_114_method_4_code 8 = .ok (.iload_n 2, 1) := by decide +kernel
theorem d6_9 : decode prog_114_method_4_code 9 = .ok (.if_icmp .ge 40, 3) := by decide +kernel
theorem d6_12 : decode prog_114_method_4_code 12 = .ok (.aload_n 0, 1) := by decide +kernel
theorem d6_13 : decode prog_114_method_4_code 13 = .ok (.iload 4, 2) := by decide +kernel
theorem d6_15 : decode prog_114_method_4_code 15 = .ok (.baload, 1) := by decide +kernel
theorem d6_16 : decode prog_114_method_4_code 16 = .ok (.bipush 45, 2) := by decide +kernel
theorem d6_18 : decode prog_114_method_4_code 18 = .ok (.if_icmp .eq 12, 3) := by decide +kernel
theorem d6_21 : decode prog_114_method_4_code 21 = .ok (.aload_n 0, 1) := by decide +kernel
theorem d6_22 : decode prog_114_method_4_code 22 = .ok (.iload 4, 2) := by decide +kernel
theorem d6_24 : decode prog_114_method_4_code 24 = .ok (.baload, 1) := by decide +kernel
theorem d6_25 : decode prog_114_method_4_code 25 = .ok (.bipush 43, 2) := by decide +kernel
theorem d6_27 : decode prog_114_method_4_code 27 = .ok (.if_icmp .ne 22, 3) := by decide +kernel
theorem d6_30 : decode prog_114_method_4_code 30 = .ok (.aload_n 0, 1) := by decide +kernel
theorem d6_31 : decode prog_114_method_4_code 31 = .ok (.iload 4, 2) := by decide +kernel
theorem d6_33 : decode prog_114_method_4_code 33 = .ok (.baload, 1) := by decide +kernel
theorem d6_34 : decode prog_114_method_4_code 34 = .ok (.bipush 45, 2) := by decide +kernel
theorem d6_36 : decode prog_114_method_4_code 36 = .ok (.if_icmp .ne 7, 3) := by decide +kernel
theorem d6_39 : decode prog_114_method_4_code 39 = .ok (.iconst 1, 1) := by decide +kernel
theorem d6_40 : decode prog_114_method_4_code 40 = .ok (.goto 4, 3) := by decide +kernel
theorem d6_43 : decode prog_114_method_4_code 43 = .ok (.iconst 0, 1) := by decide +kernel
theorem d6_44 : decode prog_114_method_4_code 44 = .ok (.istore 5, 2) := by decide +kernel
theorem d6_46 : decode prog_114_method_4_code 46 = .ok (.iinc 4 1, 3) := by decide +kernel
theorem d6_49 : decode prog_114_method_4_code 49 = .ok (.lconst 0, 1) := by decide +kernel
theorem d6_50 : decode prog_114_method_4_code 50 = .ok (.lstore 6, 2) := by decide +kernel
theorem d6_52 : decode prog_114_method_4_code 52 = .ok (.iconst 0, 1) := by decide +kernel
theorem d6_53 : decode prog_114_method_4_code 53 = .ok (.istore 8, 2) := by decide +kernel
theorem d6_55 : decode prog_114_method_4_code 55 = .ok (.iconst (-1), 1) := by decide +kernel
theorem d6_56 : decode prog_114_method_4_code 56 = .ok (.istore 9, 2) := by decide +kernel
theorem d6_58 : decode prog_114_method_4_code 58 = .ok (.iload 4, 2) := by decide +kernel
theorem d6_60 : decode prog_114_method_4_code 60 = .ok (.iload_n 2, 1) := by decide +kernel
theorem d6_61 : decode prog_114_method_4_code 61 = .ok (.if_icmp .ge 73, 3) := by decide +kernel
theorem d6_64 : decode prog_114_method_4_code 64 = .ok (.aload_n 0, 1) := by decide +kernel
theorem d6_65 : decode prog_114_method_4_code 65 = .ok (.iload 4, 2) := by decide +kernel
theorem d6_67 : decode prog_114_method_4_code 67 = .ok (.baload, 1) := by decide +kernel
theorem d6_68 : decode prog_114_method_4_code 68 = .ok (.bipush 48, 2) := by decide +kernel
theorem d6_70 : decode prog_114_method_4_code 70 = .ok (.isub, 1) := by decide +kernel
theorem d6_71 : decode prog_114_method_4_code 71 = .ok (.istore 10, 2) := by decide +kernel
theorem d6_73 : decode prog_114_method_4_code 73 = .ok (.iload 10, 2) := by decide +kernel
theorem d6_75 : decode prog_114_method_4_code 75 = .ok (.ifCond .lt 35, 3) := by decide +kernel
theorem d6_78 : decode prog_114_method_4_code 78 = .ok (.iload 10, 2) := by decide +kernel
theorem d6_80 : decode prog_114_method_4_code 80 = .ok (.bipush 9, 2) := by decide +kernel
theorem d6_82 : decode prog_114_method_4_code 82 = .ok (.if_icmp .gt 28, 3) := by decide +kernel
theorem d6_85 : decode prog_114_method_4_code 85 = .ok (.iload 8, 2) := by decide +kernel
theorem d6_87 : decode prog_114_method_4_code 87 = .ok (.bipush 18, 2) := by decide +kernel
theorem d6_89 : decode prog_114_method_4_code 89 = .ok (.if_icmp .ge 21, 3) := by decide +kernel
theorem d6_92 : decode prog_114_method_4_code 92 = .ok (.lload 6, 2) := by decide +kernel
theorem d6_94 : decode prog_114_method_4_code 94 = .ok (.ldc2_w 48, 3) := by decide +kernel
theorem d6_97 : decode prog_114_method_4_code 97 = .ok (.lmul, 1) := by decide +kernel
theorem d6_98 : decode prog_114_method_4_code 98 = .ok (.iload 10, 2) := by decide +kernel
theorem d6_100 : decode prog_114_method_4_code 100 = .ok (.i2l, 1) := by decide +kernel
theorem d6_101 : decode prog_114_method_4_code 101 = .ok (.ladd, 1) := by decide +kernel
theorem d6_102 : decode prog_114_method_4_code 102 = .ok (.lstore 6, 2) := by decide +kernel
theorem d6_104 : decode prog_114_method_4_code 104 = .ok (.iinc 8 1, 3) := by decide +kernel
theorem d6_107 : decode prog_114_method_4_code 107 = .ok (.goto 21, 3) := by decide +kernel
theorem d6_110 : decode prog_114_method_4_code 110 = .ok (.aload_n 0, 1) := by decide +kernel
theorem d6_111 : decode prog_114_method_4_code 111 = .ok (.iload 4, 2) := by decide +kernel
theorem d6_113 : decode prog_114_method_4_code 113 = .ok (.baload, 1) := by decide +kernel
theorem d6_114 : decode prog_114_method_4_code 114 = .ok (.bipush 46, 2) := by decide +kernel
theorem d6_116 : decode prog_114_method_4_code 116 = .ok (.if_icmp .ne 18, 3) := by decide +kernel
theorem d6_119 : decode prog_114_method_4_code 119 = .ok (.iload 9, 2) := by decide +kernel
theorem d6_121 : decode prog_114_method_4_code 121 = .ok (.ifCond .ge 13, 3) := by decide +kernel
theorem d6_124 : decode prog_114_method_4_code 124 = .ok (.iload 4, 2) := by decide +kernel
theorem d6_126 : decode prog_114_method_4_code 126 = .ok (.istore 9, 2) := by decide +kernel
theorem d6_128 : decode prog_114_method_4_code 128 = .ok (.iinc 4 1, 3) := by decide +kernel
theorem d6_131 : decode prog_114_method_4_code 131 = .ok (.goto (-73), 3) := by decide +kernel
theorem d6_134 : decode prog_114_method_4_code 134 = .ok (.aload_n 3, 1) := by decide +kernel
theorem d6_135 : decode prog_114_method_4_code 135 = .ok (.iload 5, 2) := by decide +kernel
theorem d6_137 : decode prog_114_method_4_code 137 = .ok (.ifCond .eq 9, 3) := by decide +kernel
theorem d6_140 : decode prog_114_method_4_code 140 = .ok (.lload 6, 2) := by decide +kernel
theorem d6_142 : decode prog_114_method_4_code 142 = .ok (.lneg, 1) := by decide +kernel
theorem d6_143 : decode prog_114_method_4_code 143 = .ok (.goto 5, 3) := by decide +kernel
theorem d6_146 : decode prog_114_method_4_code 146 = .ok (.lload 6, 2) := by decide +kernel
theorem d6_148 : decode prog_114_method_4_code 148 = .ok (.putfield 32, 3) := by decide +kernel
theorem d6_151 : decode prog_114_method_4_code 151 = .ok (.aload_n 3, 1) := by decide +kernel
theorem d6_152 : decode prog_114_method_4_code 152 = .ok (.iload 8, 2) := by decide +kernel
theorem d6_154 : decode prog_114_method_4_code 154 = .ok (.ifCond .ne 7, 3) := by decide +kernel
theorem d6_157 : decode prog_114_method_4_code 157 = .ok (.iconst (-1), 1) := by decide +kernel
theorem d6_158 : decode prog_114_method_4_code 158 = .ok (.goto 19, 3) := by decide +kernel
theorem d6_161 : decode prog_114_method_4_code 161 = .ok (.iload 9, 2) := by decide +kernel
theorem d6_163 : decode prog_114_method_4_code 163 = .ok (.ifCond .ge 7, 3) := by decide +kernel
theorem d6_166 : decode prog_114_method_4_code 166 = .ok (.iconst 0, 1) := by decide +kernel
theorem d6_167 : decode prog_114_method_4_code 167 = .ok (.goto 10, 3) := by decide +kernel
theorem d6_170 : decode prog_114_method_4_code 170 = .ok (.iload 4, 2) := by decide +kernel
theorem d6_172 : decode prog_114_method_4_code 172 = .ok (.iload 9, 2) := by decide +kernel
theorem d6_174 : decode prog_114_method_4_code 174 = .ok (.isub, 1) := by decide +kernel
theorem d6_175 : decode prog_114_method_4_code 175 = .ok (.iconst 1, 1) := by decide +kernel
theorem d6_176 : decode prog_114_method_4_code 176 = .ok (.isub, 1) := by decide +kernel
theorem d6_177 : decode prog_114_method_4_code 177 = .ok (.putfield 36, 3) := by decide +kernel
theorem d6_180 : decode prog_114_method_4_code 180 = .ok (.iload 4, 2) := by decide +kernel
theorem d6_182 : decode prog_114_method_4_code 182 = .ok (.ireturn, 1) := by decide +kernel
theorem ef_6 (m : MethodId) (x0 : Addr) (x1 : Int32) (x2 : Int32) (x3 : Addr) : entryFrame m #[.ref x0, .int x1, .int x2, .ref x3] 11 = mkF m 0 #[.val (.ref x0), .val (.int x1), .val (.int x2), .val (.ref x3), .unset, .unset, .unset, .unset, .unset, .unset, .unset] [] := by first | (simp [entryFrame, mkF, argsToLocals, Value.category, maxLocals]; done) | rfl
set_option maxRecDepth 65536 in
set_option maxHeartbeats 40000000 in
theorem rm_scan (l : Launch) (Z : State) (a0 : Array Value) (hw : ∀ d ∈ tables_1, d.before a0 Z = true) (ab ap : Addr) (q w : Int32) (t u : Nat) (g : Nat → Int64) (fb : Nat → Int32) (dg0 : Int64) (sc0 : Int32) (h : Heap) (n0 : Nat) (Z0 : n0 ≤ h.size) (g1 : n0 ≤ ap) (A : PL Z h ap dg0 sc0) (B : AN Z h ab .byte 20 fb) (hr : ∀ i, i < 20 → -128 ≤ (fb i).toInt ∧ (fb i).toInt < 128) (hb : BASE g) (hne : ab ≠ ap) (hq : q.toInt = (t : Int)) (hw' : w.toInt = (u : Int)) (htu : t ≤ u) (hu20 : u ≤ 20) :
    Mt l Z (⟨"com/example/benchwright/benchwright/data/DecimalText", "scanPlain", "([BIILcom/example/benchwright/benchwright/data/DecimalText$Plain;)I"⟩ : MethodName) prog_114_method_4_code 11 (some .int) ({ frames := 0, cells := 0, slots := 0, locals := 0 } : Room) #[.ref ab, .int q, .int w, .ref ap] h n0 (KeepI h [ap] (fun r h' => ∃ dg sc, PL Z h' ap dg sc ∧ SCN (runS g fb t u 20) u r dg sc)) := by
  refine Mt.of (own := "com/example/benchwright/benchwright/data/DecimalText") (nm := "scanPlain") (Ls := #[.val (.ref ab), .val (.int q), .val (.int w), .val (.ref ap), .unset, .unset, .unset, .unset, .unset, .unset, .unset]) rfl rfl (plainFor_of_name pn_2) Z0 (fun m => ef_6 m ab q w ap) ?_
  intro p e s m below meth c T K X
  have hub : u ≤ 20 := hu20
  have J49 : ∀ (k0 : Nat) (i0 neg : Int32), i0.toInt = (k0 : Int) → IV g fb t u k0 0 0 (-1) neg → Fi p e below s n0 ({ frames := 0, cells := 0, slots := 0, locals := 0 } : Room).cells ({ frames := 0, cells := 0, slots := 0, locals := 0 } : Room).slots (KeepI h [ap] (fun r h' => ∃ dg sc, PL Z h' ap dg sc ∧ SCN (runS g fb t u 20) u r dg sc)) (T.setTop (mkF m 49 #[.val (.ref ab), .val (.int q), .val (.int w), .val (.ref ap), .val (.int i0), .val (.int neg), .unset, .unset, .unset, .unset, .unset] [])) := by
    intro k0 i0 neg hi0 hI0
    have J134 : ∀ (k : Nat) (i cnt : Int32) (val : Int64) (dot : Int32) (sl : Slot), One sl → i.toInt = (k : Int) → OUT g fb t u k cnt val dot neg → Fi p e below s n0 ({ frames := 0, cells := 0, slots := 0, locals := 0 } : Room).cells ({ frames := 0, cells := 0, slots := 0, locals := 0 } : Room).slots (KeepI h [ap] (fun r h' => ∃ dg sc, PL Z h' ap dg sc ∧ SCN (runS g fb t u 20) u r dg sc)) (T.setTop (mkF m 134 #[.val (.ref ab), .val (.int q), .val (.int w), .val (.ref ap), .val (.int i), .val (.int neg), .val (.long val), .second, .val (.int cnt), .val (.int dot), sl] [])) := by
      intro k i cnt val dot sl hsl hi hO
      refine g_aloadN K X (pc' := 135) d6_134 rfl rfl rfl ?_
      refine g_iload K X (pc' := 137) d6_135 rfl rfl ?_
      refine g_if_eq K X (pc' := 146) (pc'' := 140) neg.toInt d6_137 (by decide) rfl rfl ?_ ?_
      · intro b137
        refine g_lload K X (pc' := 148) d6_146 rfl rfl ?_
        refine g_putfieldR K X (pc' := 151) d6_148 rfl (hw _ (List.mem_of_getElem? (i := 26) rfl)) A.2.1 A.1 (hw _ (List.mem_of_getElem? (i := 27) rfl)) (hw _ (List.mem_of_getElem? (i := 11) rfl)) (ty := .long) (by decide) rfl rfl g1 (fun T1 h2 X3 W4 Kp5 E6 F7 => ?_)
        have f8 := Fld.other W4 A.2.2 (Or.inr (slot_ne (C := "com/example/benchwright/benchwright/data/DecimalText$Plain") (Or.inl (hw _ (List.mem_of_getElem? (i := 29) rfl))) (Or.inl (hw _ (List.mem_of_getElem? (i := 27) rfl))) (by decide) (t := .int) (by decide) (t' := .long) (by decide)))
        have f9 := AN.keep B Kp5 (ninS hne nin0)
        have f10 := Exa.keep A.1 Kp5
        have KK11 := Kp5
        refine g_aloadN K X3 (pc' := 152) d6_151 rfl rfl rfl ?_
        refine g_iload K X3 (pc' := 154) d6_152 rfl rfl ?_
        refine g_if_ne K X3 (pc' := 161) (pc'' := 157) cnt.toInt d6_154 (by decide) rfl rfl ?_ ?_
        · intro b154
          refine g_iload K X3 (pc' := 163) d6_161 rfl rfl ?_
          refine g_if_ge K X3 (pc' := 170) (pc'' := 166) dot.toInt d6_163 (by decide) rfl rfl ?_ ?_
          · intro b163
            refine g_iload K X3 (pc' := 172) d6_170 rfl rfl ?_
            refine g_iload K X3 (pc' := 174) d6_172 rfl rfl ?_
            refine g_isub K X3 (pc' := 175) d6_174 rfl ?_
            refine g_iconst K X3 (pc' := 176) (v := (1 : Int32)) d6_175 rfl rfl ?_
            refine g_isub K X3 (pc' := 177) d6_176 rfl ?_
            refine g_putfieldR K X3 (pc' := 180) d6_177 rfl (hw _ (List.mem_of_getElem? (i := 28) rfl)) f8 E6 (hw _ (List.mem_of_getElem? (i := 29) rfl)) (hw _ (List.mem_of_getElem? (i := 11) rfl)) (ty := .int) (by decide) rfl rfl g1 (fun T12 h13 X14 W15 Kp16 E17 F18 => ?_)
            have f19 := Fld.other W15 F7 (Or.inr (slot_ne (C := "com/example/benchwright/benchwright/data/DecimalText$Plain") (Or.inl (hw _ (List.mem_of_getElem? (i := 27) rfl))) (Or.inl (hw _ (List.mem_of_getElem? (i := 29) rfl))) (by decide) (t := .long) (by decide) (t' := .int) (by decide)))
            have f20 := AN.keep f9 Kp16 (ninS hne nin0)
            have f21 := Exa.keep E6 Kp16
            have KK22 := keep_same KK11 Kp16
            refine g_iload K X14 (pc' := 182) d6_180 rfl rfl ?_
            exact g_retI K X14 d6_182 (by decide) (by decide) ⟨_, rfl, KK22, val, ((i - dot) - (1 : Int32)), ⟨E17, f19, F18⟩, own_fin hO (by omega) hi (fun q => rfl) (fun q => by omega) (fun q => by omega) (fun q q' => by omega) (fun q q' => rfl)⟩
          · intro b163
            refine g_iconst K X3 (pc' := 167) (v := (0 : Int32)) d6_166 rfl rfl ?_
            refine g_goto K X3 (pc' := 177) d6_167 (by decide) ?_
            refine g_putfieldR K X3 (pc' := 180) d6_177 rfl (hw _ (List.mem_of_getElem? (i := 28) rfl)) f8 E6 (hw _ (List.mem_of_getElem? (i := 29) rfl)) (hw _ (List.mem_of_getElem? (i := 11) rfl)) (ty := .int) (by decide) rfl rfl g1 (fun T23 h24 X25 W26 Kp27 E28 F29 => ?_)
            have f30 := Fld.other W26 F7 (Or.inr (slot_ne (C := "com/example/benchwright/benchwright/data/DecimalText$Plain") (Or.inl (hw _ (List.mem_of_getElem? (i := 27) rfl))) (Or.inl (hw _ (List.mem_of_getElem? (i := 29) rfl))) (by decide) (t := .long) (by decide) (t' := .int) (by decide)))
            have f31 := AN.keep f9 Kp27 (ninS hne nin0)
            have f32 := Exa.keep E6 Kp27
            have KK33 := keep_same KK11 Kp27
            refine g_iload K X25 (pc' := 182) d6_180 rfl rfl ?_
            exact g_retI K X25 d6_182 (by decide) (by decide) ⟨_, rfl, KK33, val, (0 : Int32), ⟨E28, f30, F29⟩, own_fin hO (by omega) hi (fun q => rfl) (fun q => by omega) (fun q => by omega) (fun q q' => rfl) (fun q q' => by omega)⟩
        · intro b154
          refine g_iconst K X3 (pc' := 158) (v := ((-1) : Int32)) d6_157 rfl rfl ?_
          refine g_goto K X3 (pc' := 177) d6_158 (by decide) ?_
          refine g_putfieldR K X3 (pc' := 180) d6_177 rfl (hw _ (List.mem_of_getElem? (i := 28) rfl)) f8 E6 (hw _ (List.mem_of_getElem? (i := 29) rfl)) (hw _ (List.mem_of_getElem? (i := 11) rfl)) (ty := .int) (by decide) rfl rfl g1 (fun T34 h35 X36 W37 Kp38 E39 F40 => ?_)
          have f41 := Fld.other W37 F7 (Or.inr (slot_ne (C := "com/example/benchwright/benchwright/data/DecimalText$Plain") (Or.inl (hw _ (List.mem_of_getElem? (i := 27) rfl))) (Or.inl (hw _ (List.mem_of_getElem? (i := 29) rfl))) (by decide) (t := .long) (by decide) (t' := .int) (by decide)))
          have f42 := AN.keep f9 Kp38 (ninS hne nin0)
          have f43 := Exa.keep E6 Kp38
          have KK44 := keep_same KK11 Kp38
          refine g_iload K X36 (pc' := 182) d6_180 rfl rfl ?_
          exact g_retI K X36 d6_182 (by decide) (by decide) ⟨_, rfl, KK44, val, ((-1) : Int32), ⟨E39, f41, F40⟩, own_fin hO (by omega) hi (fun q => rfl) (fun q => by omega) (fun q => rfl) (fun q q' => by omega) (fun q q' => by omega)⟩
      · intro b137
        refine g_lload K X (pc' := 142) d6_140 rfl rfl ?_
        refine g_lneg K X (pc' := 143) d6_142 rfl ?_
        refine g_goto K X (pc' := 148) d6_143 (by decide) ?_
        refine g_putfieldR K X (pc' := 151) d6_148 rfl (hw _ (List.mem_of_getElem? (i := 26) rfl)) A.2.1 A.1 (hw _ (List.mem_of_getElem? (i := 27) rfl)) (hw _ (List.mem_of_getElem? (i := 11) rfl)) (ty := .long) (by decide) rfl rfl g1 (fun T45 h46 X47 W48 Kp49 E50 F51 => ?_)
        have f52 := Fld.other W48 A.2.2 (Or.inr (slot_ne (C := "com/example/benchwright/benchwright/data/DecimalText$Plain") (Or.inl (hw _ (List.mem_of_getElem? (i := 29) rfl))) (Or.inl (hw _ (List.mem_of_getElem? (i := 27) rfl))) (by decide) (t := .int) (by decide) (t' := .long) (by decide)))
        have f53 := AN.keep B Kp49 (ninS hne nin0)
        have f54 := Exa.keep A.1 Kp49
        have KK55 := Kp49
        refine g_aloadN K X47 (pc' := 152) d6_151 rfl rfl rfl ?_
        refine g_iload K X47 (pc' := 154) d6_152 rfl rfl ?_
        refine g_if_ne K X47 (pc' := 161) (pc'' := 157) cnt.toInt d6_154 (by decide) rfl rfl ?_ ?_
        · intro b154
          refine g_iload K X47 (pc' := 163) d6_161 rfl rfl ?_
          refine g_if_ge K X47 (pc' := 170) (pc'' := 166) dot.toInt d6_163 (by decide) rfl rfl ?_ ?_
          · intro b163
            refine g_iload K X47 (pc' := 172) d6_170 rfl rfl ?_
            refine g_iload K X47 (pc' := 174) d6_172 rfl rfl ?_
            refine g_isub K X47 (pc' := 175) d6_174 rfl ?_
            refine g_iconst K X47 (pc' := 176) (v := (1 : Int32)) d6_175 rfl rfl ?_
            refine g_isub K X47 (pc' := 177) d6_176 rfl ?_
            refine g_putfieldR K X47 (pc' := 180) d6_177 rfl (hw _ (List.mem_of_getElem? (i := 28) rfl)) f52 E50 (hw _ (List.mem_of_getElem? (i := 29) rfl)) (hw _ (List.mem_of_getElem? (i := 11) rfl)) (ty := .int) (by decide) rfl rfl g1 (fun T56 h57 X58 W59 Kp60 E61 F62 => ?_)
            have f63 := Fld.other W59 F51 (Or.inr (slot_ne (C := "com/example/benchwright/benchwright/data/DecimalText$Plain") (Or.inl (hw _ (List.mem_of_getElem? (i := 27) rfl))) (Or.inl (hw _ (List.mem_of_getElem? (i := 29) rfl))) (by decide) (t := .long) (by decide) (t' := .int) (by decide)))
            have f64 := AN.keep f53 Kp60 (ninS hne nin0)
            have f65 := Exa.keep E50 Kp60
            have KK66 := keep_same KK55 Kp60
            refine g_iload K X58 (pc' := 182) d6_180 rfl rfl ?_
            exact g_retI K X58 d6_182 (by decide) (by decide) ⟨_, rfl, KK66, (-val), ((i - dot) - (1 : Int32)), ⟨E61, f63, F62⟩, own_fin hO (by omega) hi (fun q => by omega) (fun q => rfl) (fun q => by omega) (fun q q' => by omega) (fun q q' => rfl)⟩
          · intro b163
            refine g_iconst K X47 (pc' := 167) (v := (0 : Int32)) d6_166 rfl rfl ?_
            refine g_goto K X47 (pc' := 177) d6_167 (by decide) ?_
            refine g_putfieldR K X47 (pc' := 180) d6_177 rfl (hw _ (List.mem_of_getElem? (i := 28) rfl)) f52 E50 (hw _ (List.mem_of_getElem? (i := 29) rfl)) (hw _ (List.mem_of_getElem? (i := 11) rfl)) (ty := .int) (by decide) rfl rfl g1 (fun T67 h68 X69 W70 Kp71 E72 F73 => ?_)
            have f74 := Fld.other W70 F51 (Or.inr (slot_ne (C := "com/example/benchwright/benchwright/data/DecimalText$Plain") (Or.inl (hw _ (List.mem_of_getElem? (i := 27) rfl))) (Or.inl (hw _ (List.mem_of_getElem? (i := 29) rfl))) (by decide) (t := .long) (by decide) (t' := .int) (by decide)))
            have f75 := AN.keep f53 Kp71 (ninS hne nin0)
            have f76 := Exa.keep E50 Kp71
            have KK77 := keep_same KK55 Kp71
            refine g_iload K X69 (pc' := 182) d6_180 rfl rfl ?_
            exact g_retI K X69 d6_182 (by decide) (by decide) ⟨_, rfl, KK77, (-val), (0 : Int32), ⟨E72, f74, F73⟩, own_fin hO (by omega) hi (fun q => by omega) (fun q => rfl) (fun q => by omega) (fun q q' => rfl) (fun q q' => by omega)⟩
        · intro b154
          refine g_iconst K X47 (pc' := 158) (v := ((-1) : Int32)) d6_157 rfl rfl ?_
          refine g_goto K X47 (pc' := 177) d6_158 (by decide) ?_
          refine g_putfieldR K X47 (pc' := 180) d6_177 rfl (hw _ (List.mem_of_getElem? (i := 28) rfl)) f52 E50 (hw _ (List.mem_of_getElem? (i := 29) rfl)) (hw _ (List.mem_of_getElem? (i := 11) rfl)) (ty := .int) (by decide) rfl rfl g1 (fun T78 h79 X80 W81 Kp82 E83 F84 => ?_)
          have f85 := Fld.other W81 F51 (Or.inr (slot_ne (C := "com/example/benchwright/benchwright/data/DecimalText$Plain") (Or.inl (hw _ (List.mem_of_getElem? (i := 27) rfl))) (Or.inl (hw _ (List.mem_of_getElem? (i := 29) rfl))) (by decide) (t := .long) (by decide) (t' := .int) (by decide)))
          have f86 := AN.keep f53 Kp82 (ninS hne nin0)
          have f87 := Exa.keep E50 Kp82
          have KK88 := keep_same KK55 Kp82
          refine g_iload K X80 (pc' := 182) d6_180 rfl rfl ?_
          exact g_retI K X80 d6_182 (by decide) (by decide) ⟨_, rfl, KK88, (-val), ((-1) : Int32), ⟨E83, f85, F84⟩, own_fin hO (by omega) hi (fun q => by omega) (fun q => rfl) (fun q => rfl) (fun q q' => by omega) (fun q q' => by omega)⟩
    have J58 : ∀ (d k : Nat) (i cnt : Int32) (val : Int64) (dot : Int32) (sl : Slot), One sl → k + d = u → i.toInt = (k : Int) → IV g fb t u k cnt val dot neg → Fi p e below s n0 ({ frames := 0, cells := 0, slots := 0, locals := 0 } : Room).cells ({ frames := 0, cells := 0, slots := 0, locals := 0 } : Room).slots (KeepI h [ap] (fun r h' => ∃ dg sc, PL Z h' ap dg sc ∧ SCN (runS g fb t u 20) u r dg sc)) (T.setTop (mkF m 58 #[.val (.ref ab), .val (.int q), .val (.int w), .val (.ref ap), .val (.int i), .val (.int neg), .val (.long val), .second, .val (.int cnt), .val (.int dot), sl] [])) := by
      intro d
      induction d with
      | zero =>
        intro k i cnt val dot sl hsl hkd hi hI
        refine g_iload K X (pc' := 60) d6_58 rfl rfl ?_
        refine g_iloadN K X (pc' := 61) d6_60 rfl rfl ?_
        refine g_icmp_ge K X (pc' := 134) (pc'' := 64) i.toInt w.toInt d6_61 (by decide) rfl rfl rfl ?_ ?_
        · intro b61
          exact J134 k i cnt val dot (sl) hsl hi (iv_out hI (by omega) (by omega))
        · intro b61
          omega
      | succ d ih =>
        intro k i cnt val dot sl hsl hkd hi hI
        have hx := own_s48 (fb k) (hr k (by omega)).1 (hr k (by omega)).2
        refine g_iload K X (pc' := 60) d6_58 rfl rfl ?_
        refine g_iloadN K X (pc' := 61) d6_60 rfl rfl ?_
        refine g_icmp_ge K X (pc' := 134) (pc'' := 64) i.toInt w.toInt d6_61 (by decide) rfl rfl rfl ?_ ?_
        · intro b61
          omega
        · intro b61
          refine g_aloadN K X (pc' := 65) d6_64 rfl rfl rfl ?_
          refine g_iload K X (pc' := 67) d6_65 rfl rfl ?_
          refine g_baload K X (pc' := 68) (i := k) d6_67 rfl B hi (by omega) ?_
          refine g_bipush K X (pc' := 70) (v := (48 : Int32)) d6_68 rfl rfl ?_
          refine g_isub K X (pc' := 71) d6_70 rfl ?_
          refine g_istore K X (pc' := 73) (L' := #[.val (.ref ab), .val (.int q), .val (.int w), .val (.ref ap), .val (.int i), .val (.int neg), .val (.long val), .second, .val (.int cnt), .val (.int dot), .val (.int ((fb k) - (48 : Int32)))]) d6_71 rfl (by rcases hsl with rfl | ⟨w, rfl, hw⟩ <;> first | rfl | (cases w <;> first | rfl | (simp [Value.category] at hw))) ?_
          refine g_iload K X (pc' := 75) d6_73 rfl rfl ?_
          refine g_if_lt K X (pc' := 110) (pc'' := 78) ((fb k) - (48 : Int32)).toInt d6_75 (by decide) rfl rfl ?_ ?_
          · intro b75
            refine g_aloadN K X (pc' := 111) d6_110 rfl rfl rfl ?_
            refine g_iload K X (pc' := 113) d6_111 rfl rfl ?_
            refine g_baload K X (pc' := 114) (i := k) d6_113 rfl B hi (by omega) ?_
            refine g_bipush K X (pc' := 116) (v := (46 : Int32)) d6_114 rfl rfl ?_
            refine g_icmp_ne K X (pc' := 134) (pc'' := 119) (fb k).toInt 46 d6_116 (by decide) rfl rfl rfl ?_ ?_
            · intro b116
              exact J134 k i cnt val dot (.val (.int ((fb k) - (48 : Int32)))) (One.val rfl) hi (iv_bad hI (by omega) (by omega) (iv_other hb hI (by omega) (by omega) (by omega) (by omega)))
            · intro b116
              refine g_iload K X (pc' := 121) d6_119 rfl rfl ?_
              refine g_if_ge K X (pc' := 134) (pc'' := 124) dot.toInt d6_121 (by decide) rfl rfl ?_ ?_
              · intro b121
                exact J134 k i cnt val dot (.val (.int ((fb k) - (48 : Int32)))) (One.val rfl) hi (iv_bad hI (by omega) (by omega) (iv_dot2 hb hI (by omega) (by omega) (by omega) (by omega)))
              · intro b121
                refine g_iload K X (pc' := 126) d6_124 rfl rfl ?_
                refine g_istore K X (pc' := 128) (L' := #[.val (.ref ab), .val (.int q), .val (.int w), .val (.ref ap), .val (.int i), .val (.int neg), .val (.long val), .second, .val (.int cnt), .val (.int i), .val (.int ((fb k) - (48 : Int32)))]) d6_126 rfl rfl ?_
                refine g_iinc K X (pc' := 131) (z := (i + (1 : Int32))) (L' := #[.val (.ref ab), .val (.int q), .val (.int w), .val (.ref ap), .val (.int (i + (1 : Int32))), .val (.int neg), .val (.long val), .second, .val (.int cnt), .val (.int i), .val (.int ((fb k) - (48 : Int32)))]) d6_128 rfl rfl rfl rfl ?_
                refine g_goto K X (pc' := 58) d6_131 (by decide) ?_
                exact ih (k + 1) (i + (1 : Int32)) cnt val i (.val (.int ((fb k) - (48 : Int32)))) (One.val rfl) (by omega) (by have := own_i1 i (by omega) (by omega); omega) (iv_dot hI (by omega) (by omega) (by omega) hi)
          · intro b75
            refine g_iload K X (pc' := 80) d6_78 rfl rfl ?_
            refine g_bipush K X (pc' := 82) (v := (9 : Int32)) d6_80 rfl rfl ?_
            refine g_icmp_gt K X (pc' := 110) (pc'' := 85) ((fb k) - (48 : Int32)).toInt 9 d6_82 (by decide) rfl rfl rfl ?_ ?_
            · intro b82
              refine g_aloadN K X (pc' := 111) d6_110 rfl rfl rfl ?_
              refine g_iload K X (pc' := 113) d6_111 rfl rfl ?_
              refine g_baload K X (pc' := 114) (i := k) d6_113 rfl B hi (by omega) ?_
              refine g_bipush K X (pc' := 116) (v := (46 : Int32)) d6_114 rfl rfl ?_
              refine g_icmp_ne K X (pc' := 134) (pc'' := 119) (fb k).toInt 46 d6_116 (by decide) rfl rfl rfl ?_ ?_
              · intro b116
                exact J134 k i cnt val dot (.val (.int ((fb k) - (48 : Int32)))) (One.val rfl) hi (iv_bad hI (by omega) (by omega) (iv_other hb hI (by omega) (by omega) (by omega) (by omega)))
              · intro b116
                refine g_iload K X (pc' := 121) d6_119 rfl rfl ?_
                refine g_if_ge K X (pc' := 134) (pc'' := 124) dot.toInt d6_121 (by decide) rfl rfl ?_ ?_
                · intro b121
                  exact J134 k i cnt val dot (.val (.int ((fb k) - (48 : Int32)))) (One.val rfl) hi (iv_bad hI (by omega) (by omega) (iv_dot2 hb hI (by omega) (by omega) (by omega) (by omega)))
                · intro b121
                  refine g_iload K X (pc' := 126) d6_124 rfl rfl ?_
                  refine g_istore K X (pc' := 128) (L' := #[.val (.ref ab), .val (.int q), .val (.int w), .val (.ref ap), .val (.int i), .val (.int neg), .val (.long val), .second, .val (.int cnt), .val (.int i), .val (.int ((fb k) - (48 : Int32)))]) d6_126 rfl rfl ?_
                  refine g_iinc K X (pc' := 131) (z := (i + (1 : Int32))) (L' := #[.val (.ref ab), .val (.int q), .val (.int w), .val (.ref ap), .val (.int (i + (1 : Int32))), .val (.int neg), .val (.long val), .second, .val (.int cnt), .val (.int i), .val (.int ((fb k) - (48 : Int32)))]) d6_128 rfl rfl rfl rfl ?_
                  refine g_goto K X (pc' := 58) d6_131 (by decide) ?_
                  exact ih (k + 1) (i + (1 : Int32)) cnt val i (.val (.int ((fb k) - (48 : Int32)))) (One.val rfl) (by omega) (by have := own_i1 i (by omega) (by omega); omega) (iv_dot hI (by omega) (by omega) (by omega) hi)
            · intro b82
              refine g_iload K X (pc' := 87) d6_85 rfl rfl ?_
              refine g_bipush K X (pc' := 89) (v := (18 : Int32)) d6_87 rfl rfl ?_
              refine g_icmp_ge K X (pc' := 110) (pc'' := 92) cnt.toInt 18 d6_89 (by decide) rfl rfl rfl ?_ ?_
              · intro b89
                refine g_aloadN K X (pc' := 111) d6_110 rfl rfl rfl ?_
                refine g_iload K X (pc' := 113) d6_111 rfl rfl ?_
                refine g_baload K X (pc' := 114) (i := k) d6_113 rfl B hi (by omega) ?_
                refine g_bipush K X (pc' := 116) (v := (46 : Int32)) d6_114 rfl rfl ?_
                refine g_icmp_ne K X (pc' := 134) (pc'' := 119) (fb k).toInt 46 d6_116 (by decide) rfl rfl rfl ?_ ?_
                · intro b116
                  exact J134 k i cnt val dot (.val (.int ((fb k) - (48 : Int32)))) (One.val rfl) hi (iv_bad hI (by omega) (by omega) (iv_19 hb hI (by omega) (by omega) (by omega) (by omega) (by omega)))
                · intro b116
                  omega
              · intro b89
                refine g_lload K X (pc' := 94) d6_92 rfl rfl ?_
                refine g_ldc2J K X (pc' := 97) (v := (10 : Int64)) d6_94 rfl (hw _ (List.mem_of_getElem? (i := 33) rfl)) ?_
                refine g_lmul K X (pc' := 98) d6_97 rfl ?_
                refine g_iload K X (pc' := 100) d6_98 rfl rfl ?_
                refine g_i2l K X (pc' := 101) d6_100 rfl ?_
                refine g_ladd K X (pc' := 102) d6_101 rfl ?_
                refine g_lstore K X (pc' := 104) (L' := #[.val (.ref ab), .val (.int q), .val (.int w), .val (.ref ap), .val (.int i), .val (.int neg), .val (.long ((val * (10 : Int64)) + ((((fb k) - (48 : Int32))).toInt64))), .second, .val (.int cnt), .val (.int dot), .val (.int ((fb k) - (48 : Int32)))]) d6_102 rfl rfl ?_
                refine g_iinc K X (pc' := 107) (z := (cnt + (1 : Int32))) (L' := #[.val (.ref ab), .val (.int q), .val (.int w), .val (.ref ap), .val (.int i), .val (.int neg), .val (.long ((val * (10 : Int64)) + ((((fb k) - (48 : Int32))).toInt64))), .second, .val (.int (cnt + (1 : Int32))), .val (.int dot), .val (.int ((fb k) - (48 : Int32)))]) d6_104 rfl rfl rfl rfl ?_
                refine g_goto K X (pc' := 128) d6_107 (by decide) ?_
                refine g_iinc K X (pc' := 131) (z := (i + (1 : Int32))) (L' := #[.val (.ref ab), .val (.int q), .val (.int w), .val (.ref ap), .val (.int (i + (1 : Int32))), .val (.int neg), .val (.long ((val * (10 : Int64)) + ((((fb k) - (48 : Int32))).toInt64))), .second, .val (.int (cnt + (1 : Int32))), .val (.int dot), .val (.int ((fb k) - (48 : Int32)))]) d6_128 rfl rfl rfl rfl ?_
                refine g_goto K X (pc' := 58) d6_131 (by decide) ?_
                exact ih (k + 1) (i + (1 : Int32)) (cnt + (1 : Int32)) ((val * (10 : Int64)) + ((((fb k) - (48 : Int32))).toInt64)) dot (.val (.int ((fb k) - (48 : Int32)))) (One.val rfl) (by omega) (by have := own_i1 i (by omega) (by omega); omega) (iv_digit hI (by omega) (by omega) (by omega) (by omega) (by omega))
    refine g_lconst K X (pc' := 50) (v := (0 : Int64)) d6_49 rfl rfl ?_
    refine g_lstore K X (pc' := 52) (L' := #[.val (.ref ab), .val (.int q), .val (.int w), .val (.ref ap), .val (.int i0), .val (.int neg), .val (.long (0 : Int64)), .second, .unset, .unset, .unset]) d6_50 rfl rfl ?_
    refine g_iconst K X (pc' := 53) (v := (0 : Int32)) d6_52 rfl rfl ?_
    refine g_istore K X (pc' := 55) (L' := #[.val (.ref ab), .val (.int q), .val (.int w), .val (.ref ap), .val (.int i0), .val (.int neg), .val (.long (0 : Int64)), .second, .val (.int (0 : Int32)), .unset, .unset]) d6_53 rfl rfl ?_
    refine g_iconst K X (pc' := 56) (v := ((-1) : Int32)) d6_55 rfl rfl ?_
    refine g_istore K X (pc' := 58) (L' := #[.val (.ref ab), .val (.int q), .val (.int w), .val (.ref ap), .val (.int i0), .val (.int neg), .val (.long (0 : Int64)), .second, .val (.int (0 : Int32)), .val (.int ((-1) : Int32)), .unset]) d6_56 rfl rfl ?_
    exact J58 (u - k0) k0 i0 _ _ _ .unset One.u (by have := hI0.2.1; omega) hi0 hI0
  refine g_iloadN K X (pc' := 1) d6_0 rfl rfl ?_
  refine g_istore K X (pc' := 3) (L' := #[.val (.ref ab), .val (.int q), .val (.int w), .val (.ref ap), .val (.int q), .unset, .unset, .unset, .unset, .unset, .unset]) d6_1 rfl rfl ?_
  refine g_iconst K X (pc' := 4) (v := (0 : Int32)) d6_3 rfl rfl ?_
  refine g_istore K X (pc' := 6) (L' := #[.val (.ref ab), .val (.int q), .val (.int w), .val (.ref ap), .val (.int q), .val (.int (0 : Int32)), .unset, .unset, .unset, .unset, .unset]) d6_4 rfl rfl ?_
  refine g_iload K X (pc' := 8) d6_6 rfl rfl ?_
  refine g_iloadN K X (pc' := 9) d6_8 rfl rfl ?_
  refine g_icmp_ge K X (pc' := 49) (pc'' := 12) q.toInt w.toInt d6_9 (by decide) rfl rfl rfl ?_ ?_
  · intro b9
    exact J49 t q 0 hq (iv_start hb htu (fun q => by omega))
  · intro b9
    refine g_aloadN K X (pc' := 13) d6_12 rfl rfl rfl ?_
    refine g_iload K X (pc' := 15) d6_13 rfl rfl ?_
    refine g_baload K X (pc' := 16) (i := t) d6_15 rfl B hq (by omega) ?_
    refine g_bipush K X (pc' := 18) (v := (45 : Int32)) d6_16 rfl rfl ?_
    refine g_icmp_eq K X (pc' := 30) (pc'' := 21) (fb t).toInt 45 d6_18 (by decide) rfl rfl rfl ?_ ?_
    · intro b18
      refine g_aloadN K X (pc' := 31) d6_30 rfl rfl rfl ?_
      refine g_iload K X (pc' := 33) d6_31 rfl rfl ?_
      refine g_baload K X (pc' := 34) (i := t) d6_33 rfl B hq (by omega) ?_
      refine g_bipush K X (pc' := 36) (v := (45 : Int32)) d6_34 rfl rfl ?_
      refine g_icmp_ne K X (pc' := 43) (pc'' := 39) (fb t).toInt 45 d6_36 (by decide) rfl rfl rfl ?_ ?_
      · intro b36
        omega
      · intro b36
        refine g_iconst K X (pc' := 40) (v := (1 : Int32)) d6_39 rfl rfl ?_
        refine g_goto K X (pc' := 44) d6_40 (by decide) ?_
        refine g_istore K X (pc' := 46) (L' := #[.val (.ref ab), .val (.int q), .val (.int w), .val (.ref ap), .val (.int q), .val (.int (1 : Int32)), .unset, .unset, .unset, .unset, .unset]) d6_44 rfl rfl ?_
        refine g_iinc K X (pc' := 49) (z := (q + (1 : Int32))) (L' := #[.val (.ref ab), .val (.int q), .val (.int w), .val (.ref ap), .val (.int (q + (1 : Int32))), .val (.int (1 : Int32)), .unset, .unset, .unset, .unset, .unset]) d6_46 rfl rfl rfl rfl ?_
        exact J49 (t + 1) (q + (1 : Int32)) (1 : Int32) (by have := own_i1 q (by omega) (by omega); omega) (iv_sign hb (by omega) (by first | exact Or.inl ⟨by omega, rfl⟩ | exact Or.inr ⟨by omega, rfl⟩))
    · intro b18
      refine g_aloadN K X (pc' := 22) d6_21 rfl rfl rfl ?_
      refine g_iload K X (pc' := 24) d6_22 rfl rfl ?_
      refine g_baload K X (pc' := 25) (i := t) d6_24 rfl B hq (by omega) ?_
      refine g_bipush K X (pc' := 27) (v := (43 : Int32)) d6_25 rfl rfl ?_
      refine g_icmp_ne K X (pc' := 49) (pc'' := 30) (fb t).toInt 43 d6_27 (by decide) rfl rfl rfl ?_ ?_
      · intro b27
        exact J49 t q 0 hq (iv_start hb htu (fun _ => ⟨by omega, by omega⟩))
      · intro b27
        refine g_aloadN K X (pc' := 31) d6_30 rfl rfl rfl ?_
        refine g_iload K X (pc' := 33) d6_31 rfl rfl ?_
        refine g_baload K X (pc' := 34) (i := t) d6_33 rfl B hq (by omega) ?_
        refine g_bipush K X (pc' := 36) (v := (45 : Int32)) d6_34 rfl rfl ?_
        refine g_icmp_ne K X (pc' := 43) (pc'' := 39) (fb t).toInt 45 d6_36 (by decide) rfl rfl rfl ?_ ?_
        · intro b36
          refine g_iconst K X (pc' := 44) (v := (0 : Int32)) d6_43 rfl rfl ?_
          refine g_istore K X (pc' := 46) (L' := #[.val (.ref ab), .val (.int q), .val (.int w), .val (.ref ap), .val (.int q), .val (.int (0 : Int32)), .unset, .unset, .unset, .unset, .unset]) d6_44 rfl rfl ?_
          refine g_iinc K X (pc' := 49) (z := (q + (1 : Int32))) (L' := #[.val (.ref ab), .val (.int q), .val (.int w), .val (.ref ap), .val (.int (q + (1 : Int32))), .val (.int (0 : Int32)), .unset, .unset, .unset, .unset, .unset]) d6_46 rfl rfl rfl rfl ?_
          exact J49 (t + 1) (q + (1 : Int32)) (0 : Int32) (by have := own_i1 q (by omega) (by omega); omega) (iv_sign hb (by omega) (by first | exact Or.inl ⟨by omega, rfl⟩ | exact Or.inr ⟨by omega, rfl⟩))
        · intro b36
          omega

def RPN (G : Nat → Int64) (r : Int32) (dg : Int64) (sc : Int32) : Prop :=
  (r.toInt = 1 ∧ (G 0).toInt = 1 ∧ 1 ≤ (G 1).toInt ∧ (G 1).toInt ≤ 18 ∧ ((G 5).toInt = 1 → dg = -(G 3)) ∧ ((G 5).toInt ≠ 1 → dg = G 3) ∧ sc.toInt = (G 4).toInt) ∨ (r.toInt = 0 ∧ ¬ ((G 0).toInt = 1 ∧ 1 ≤ (G 1).toInt ∧ (G 1).toInt ≤ 18))
theorem own_rp0 {G : Nat → Int64} {u : Nat} {r : Int32} {dg : Int64} {sc : Int32} (H : SCN G u r dg sc) (h : r.toInt ≠ u ∨ sc.toInt < 0) {z : Int32} (hz : z.toInt = 0) : RPN G z dg sc := by
  right
  refine ⟨hz, fun q => ?_⟩
  rcases H with ⟨a, b⟩ | ⟨a, b, c, d, e, f, i, j⟩
  · unfold BAD at b; omega
  · have := j (by omega)
    omega
theorem own_rp1 {G : Nat → Int64} {u : Nat} {r : Int32} {dg : Int64} {sc : Int32} (H : SCN G u r dg sc) (h : r.toInt = u) (h' : 0 ≤ sc.toInt) {z : Int32} (hz : z.toInt = 1) : RPN G z dg sc := by
  left
  rcases H with ⟨a, b⟩ | ⟨a, b, c, d, e, f, i, j⟩
  · omega
  · have h1 : 1 ≤ (G 1).toInt := by
      by_cases q : (G 1).toInt = 0
      · have := i q; omega
      · omega
    exact ⟨hz, b, h1, d, e, f, (j h1).1⟩
theorem d5_0 : decode prog_114_method_3_code 0 = .ok (.aload_n 0, 1) := by decide +kernel
theorem d5_1 : decode prog_114_method_3_code 1 = .ok (.iload_n 1, 1) := by decide +kernel
theorem d5_2 : decode prog_114_method_3_code 2 = .ok (.iload_n 2, 1) := by decide +kernel
theorem d5_3 : decode prog_114_method_3_code 3 = .ok (.aload_n 3, 1) := by decide +kernel
theorem d5_4 : decode prog_114_method_3_code 4 = .ok (.invokestatic 44, 3) := by decide +kernel
theorem d5_7 : decode prog_114_method_3_code 7 = .ok (.iload_n 2, 1) := by decide +kernel
theorem d5_8 : decode prog_114_method_3_code 8 = .ok (.if_icmp .ne 14, 3) := by decide +kernel
theorem d5_11 : decode prog_114_method_3_code 11 = .ok (.aload_n 3, 1) := by decide +kernel
theorem d5_12 : decode prog_114_method_3_code 12 = .ok (.getfield 36, 3) := by decide +kernel
theorem d5_15 : decode prog_114_method_3_code 15 = .ok (.ifCond .lt 7, 3) := by decide +kernel
theorem d5_18 : decode prog_114_method_3_code 18 = .ok (.iconst 1, 1) := by decide +kernel
theorem d5_19 : decode prog_114_method_3_code 19 = .ok (.goto 4, 3) := by decide +kernel
theorem d5_22 : decode prog_114_method_3_code 22 = .ok (.iconst 0, 1) := by decide +kernel
theorem d5_23 : decode prog_114_method_3_code 23 = .ok (.ireturn, 1) := by decide +kernel
theorem ef_5 (m : MethodId) (x0 : Addr) (x1 : Int32) (x2 : Int32) (x3 : Addr) : entryFrame m #[.ref x0, .int x1, .int x2, .ref x3] 4 = mkF m 0 #[.val (.ref x0), .val (.int x1), .val (.int x2), .val (.ref x3)] [] := by first | (simp [entryFrame, mkF, argsToLocals, Value.category, maxLocals]; done) | rfl
set_option maxRecDepth 65536 in
set_option maxHeartbeats 40000000 in
theorem rm_read (l : Launch) (Z : State) (a0 : Array Value) (hw : ∀ d ∈ tables_1, d.before a0 Z = true) (ab ap : Addr) (q w : Int32) (t u : Nat) (g : Nat → Int64) (fb : Nat → Int32) (dg0 : Int64) (sc0 : Int32) (h : Heap) (n0 : Nat) (Z0 : n0 ≤ h.size) (g1 : n0 ≤ ap) (A : PL Z h ap dg0 sc0) (B : AN Z h ab .byte 20 fb) (hr : ∀ i, i < 20 → -128 ≤ (fb i).toInt ∧ (fb i).toInt < 128) (hb : BASE g) (hne : ab ≠ ap) (hq : q.toInt = (t : Int)) (hw' : w.toInt = (u : Int)) (htu : t ≤ u) (hu20 : u ≤ 20) :
    Mt l Z (⟨"com/example/benchwright/benchwright/data/DecimalText", "readPlain", "([BIILcom/example/benchwright/benchwright/data/DecimalText$Plain;)Z"⟩ : MethodName) prog_114_method_3_code 4 (some .boolean) ({ frames := 1, cells := 0, slots := 0, locals := 22 } : Room) #[.ref ab, .int q, .int w, .ref ap] h n0 (KeepI h [ap] (fun r h' => ∃ dg sc, PL Z h' ap dg sc ∧ RPN (runS g fb t u 20) r dg sc)) := by
  refine Mt.of (own := "com/example/benchwright/benchwright/data/DecimalText") (nm := "readPlain") (Ls := #[.val (.ref ab), .val (.int q), .val (.int w), .val (.ref ap)]) rfl rfl (plainFor_of_name pn_2) Z0 (fun m => ef_5 m ab q w ap) ?_
  intro p e s m below meth c T K X
  refine g_aloadN K X (pc' := 1) d5_0 rfl rfl rfl ?_
  refine g_iloadN K X (pc' := 2) d5_1 rfl rfl ?_
  refine g_iloadN K X (pc' := 3) d5_2 rfl rfl ?_
  refine g_aloadN K X (pc' := 4) d5_3 rfl rfl rfl ?_
  refine g_callSKI K X (pc' := 7) (argsL := [.ref ab, .int q, .int w, .ref ap]) (rest := []) 0 d5_4 rfl (hw _ (List.mem_of_getElem? (i := 23) rfl)) (hw _ (List.mem_of_getElem? (i := 24) rfl)) (hw _ (List.mem_of_getElem? (i := 21) rfl)) (hw _ (List.mem_of_getElem? (i := 25) rfl)) (by decide) (rm_scan l Z a0 hw ab ap q w t u g fb dg0 sc0 h n0 X.z g1 ⟨A.1, A.2.1, A.2.2⟩ B hr hb hne hq hw' htu hu20) (by decide) (by decide) (by decide) (by decide) (lenOf pd_0 rfl) rfl rfl (Nat.le_of_ble_eq_true rfl) (fun r T2 h4 X3 Kp5 hP1 => ?_)
  have f6 := AN.keep B Kp5 (ninS hne nin0)
  have f7 := Exa.keep A.1 Kp5
  have KK8 := Kp5
  obtain ⟨dg, sc, ⟨e1, u1, u2⟩, hS⟩ := hP1
  refine g_iloadN K X3 (pc' := 8) d5_7 rfl rfl ?_
  refine g_icmp_ne K X3 (pc' := 22) (pc'' := 11) r.toInt w.toInt d5_8 (by decide) rfl rfl rfl ?_ ?_
  · intro b8
    refine g_iconst K X3 (pc' := 23) (v := (0 : Int32)) d5_22 rfl rfl ?_
    exact g_retN K X3 d5_23 (by simp) (by decide) (by decide) ⟨_, rfl, KK8, dg, sc, ⟨e1, u1, u2⟩, own_rp0 hS (Or.inl (by omega)) rfl⟩
  · intro b8
    refine g_aloadN K X3 (pc' := 12) d5_11 rfl rfl rfl ?_
    refine g_getfieldR K X3 (pc' := 15) d5_12 rfl (hw _ (List.mem_of_getElem? (i := 28) rfl)) u2 (fun T9 X10 => ?_)
    refine g_if_lt K X10 (pc' := 22) (pc'' := 18) sc.toInt d5_15 (by decide) rfl rfl ?_ ?_
    · intro b15
      refine g_iconst K X10 (pc' := 23) (v := (0 : Int32)) d5_22 rfl rfl ?_
      exact g_retN K X10 d5_23 (by simp) (by decide) (by decide) ⟨_, rfl, KK8, dg, sc, ⟨e1, u1, u2⟩, own_rp0 hS (Or.inr (by omega)) rfl⟩
    · intro b15
      refine g_iconst K X10 (pc' := 19) (v := (1 : Int32)) d5_18 rfl rfl ?_
      refine g_goto K X10 (pc' := 23) d5_19 (by decide) ?_
      exact g_retN K X10 d5_23 (by simp) (by decide) (by decide) ⟨_, rfl, KK8, dg, sc, ⟨e1, u1, u2⟩, own_rp1 hS (by omega) (by omega) rfl⟩

theorem own_updr {f : Nat → Int32} {i j : Nat} {x : Int32} (hf : -128 ≤ (f i).toInt ∧ (f i).toInt < 128) : -128 ≤ (upd f j (jb x) i).toInt ∧ (upd f j (jb x) i).toInt < 128 := by
  unfold upd
  split
  · exact (jb_rng x).2
  · exact hf
theorem own_upd0 : -128 ≤ (0 : Int32).toInt ∧ (0 : Int32).toInt < 128 := by decide
theorem own_ft (x : Int32) : ∃ t u : Nat, t ≤ u ∧ u ≤ 20 ∧ ((x &&& (32767 : Int32)) % (21 : Int32)).toInt = (t : Int) ∧ ((21 : Int32) - ((x &&& (32767 : Int32)) % (21 : Int32))) ≠ 0 ∧ (((x &&& (32767 : Int32)) % (21 : Int32)) + ((jushr x (16 : Int32) &&& (32767 : Int32)) % ((21 : Int32) - ((x &&& (32767 : Int32)) % (21 : Int32))))).toInt = (u : Int) := by
  have e1 := c_mask x 32767 15 (by decide) (by decide)
  have e2 := c_mask (jushr x (16 : Int32)) 32767 15 (by decide) (by decide)
  generalize x &&& (32767 : Int32) = y at *
  generalize jushr x (16 : Int32) &&& (32767 : Int32) = z at *
  have e3 := (c_irem y 21 21 rfl).1 (by omega)
  generalize y % (21 : Int32) = q at *
  have e4 := c_isub 21 q
  rw [show (21 : Int32).toInt = 21 from rfl] at e4
  have r4 := rng32 (21 - q)
  have e5 := (c_iremV z ((21 : Int32) - q)).1 (by omega) (by omega)
  generalize z % ((21 : Int32) - q) = v at *
  have e6 := c_iadd q v
  have r6 := rng32 (q + v)
  refine ⟨q.toInt.toNat, (q + v).toInt.toNat, by omega, by omega, by omega, fun h => ?_, by omega⟩
  rw [h, show (0 : Int32).toInt = 0 from rfl] at e4
  omega
theorem ef_0 (m : MethodId) (x0 : Int64) (x1 : Int64) (x2 : Int32) (x3 : Int32) : entryFrame m #[.long x0, .long x1, .int x2, .int x3] maxLocals = mkF m 0 #[.val (.long x0), .second, .val (.long x1), .second, .val (.int x2), .val (.int x3), .unset, .unset, .unset, .unset, .unset, .unset, .unset, .unset, .unset] [] := by first | (simp [entryFrame, mkF, argsToLocals, Value.category, maxLocals]; done) | rfl
set_option maxRecDepth 65536 in
set_option maxHeartbeats 40000000 in
theorem rm0 (l : Launch) (Z : State) (a0 : Array Value) (hw : ∀ d ∈ tables_1, d.before a0 Z = true) (p1 p2 : Int64) (p3 p4 : Int32) (h : Heap) (n0 : Nat) (Z0 : n0 ≤ h.size)  :
    Mt l Z x code maxLocals ret room_1 #[.long p1, .long p2, .int p3, .int p4] h n0 (fun v _ => v = some (.int 1)) := by
  refine Mt.of (own := "com/example/benchwright/benchwright/data/DecimalTextReadPlainPinLaw") (nm := "law") (Ls := #[.val (.long p1), .second, .val (.long p2), .second, .val (.int p3), .val (.int p4), .unset, .unset, .unset, .unset, .unset, .unset, .unset, .unset, .unset]) rfl rfl (plainFor_of_name pn_0) Z0 (fun m => ef_0 m p1 p2 p3 p4) ?_
  intro p e s m below meth c T K X
  refine g_bipush K X (pc' := 2) (v := (20 : Int32)) at_0 rfl rfl ?_
  refine g_newarray_byte K X (pc' := 4) (n := 20) 20 at_2 rfl (hw _ (List.mem_of_getElem? (i := 0) rfl)) rfl (by decide) (by decide) (by decide) (by decide) (fun T1 h2 a3 X4 E5 ga6 na7 A8 => ?_)
  refine g_dup K X4 (pc' := 5) at_4 rfl rfl ?_
  refine g_iconst K X4 (pc' := 6) (v := (0 : Int32)) at_5 rfl rfl ?_
  refine g_lloadN K X4 (pc' := 7) at_6 rfl rfl ?_
  refine g_lloadN K X4 (pc' := 8) at_7 rfl rfl ?_
  refine g_iload K X4 (pc' := 10) at_8 rfl rfl ?_
  refine g_iconst K X4 (pc' := 11) (v := (0 : Int32)) at_10 rfl rfl ?_
  refine g_callSI K X4 (pc' := 14) (argsL := [.long p1, .long p2, .int p3, .int (0 : Int32)]) (rest := [.int (0 : Int32), .ref a3, .ref a3]) 3 at_11 rfl (hw _ (List.mem_of_getElem? (i := 1) rfl)) (hw _ (List.mem_of_getElem? (i := 2) rfl)) (hw _ (List.mem_of_getElem? (i := 3) rfl)) (hw _ (List.mem_of_getElem? (i := 4) rfl)) (by decide) (rm_gen l Z a0 hw p1 p2 p3 (0 : Int32) h2 n0 X4.z) (by decide) (by decide) (by decide) (by decide) (lenOf pd_1 rfl) rfl rfl (Nat.le_of_ble_eq_true rfl) (fun c9 T10 X11 _ => ?_)
  refine g_bastore K X11 (pc' := 15) (i := 0) at_14 rfl A8 na7 rfl (by decide) (fun T12 h13 X14 Kp15 A16 => ?_)
  obtain ⟨f17, hf18⟩ : ∃ q, q = upd (fun _ => (0 : Int32)) 0 (jb c9) := ⟨_, rfl⟩
  rw [← hf18] at A16
  refine g_dup K X14 (pc' := 16) at_15 rfl rfl ?_
  refine g_iconst K X14 (pc' := 17) (v := (1 : Int32)) at_16 rfl rfl ?_
  refine g_lloadN K X14 (pc' := 18) at_17 rfl rfl ?_
  refine g_lloadN K X14 (pc' := 19) at_18 rfl rfl ?_
  refine g_iload K X14 (pc' := 21) at_19 rfl rfl ?_
  refine g_iconst K X14 (pc' := 22) (v := (1 : Int32)) at_21 rfl rfl ?_
  refine g_callSI K X14 (pc' := 25) (argsL := [.long p1, .long p2, .int p3, .int (1 : Int32)]) (rest := [.int (1 : Int32), .ref a3, .ref a3]) 3 at_22 rfl (hw _ (List.mem_of_getElem? (i := 1) rfl)) (hw _ (List.mem_of_getElem? (i := 2) rfl)) (hw _ (List.mem_of_getElem? (i := 3) rfl)) (hw _ (List.mem_of_getElem? (i := 4) rfl)) (by decide) (rm_gen l Z a0 hw p1 p2 p3 (1 : Int32) h13 n0 X14.z) (by decide) (by decide) (by decide) (by decide) (lenOf pd_1 rfl) rfl rfl (Nat.le_of_ble_eq_true rfl) (fun c19 T20 X21 _ => ?_)
  refine g_bastore K X21 (pc' := 26) (i := 1) at_25 rfl A16 na7 rfl (by decide) (fun T22 h23 X24 Kp25 A26 => ?_)
  obtain ⟨f27, hf28⟩ : ∃ q, q = upd f17 1 (jb c19) := ⟨_, rfl⟩
  rw [← hf28] at A26
  refine g_dup K X24 (pc' := 27) at_26 rfl rfl ?_
  refine g_iconst K X24 (pc' := 28) (v := (2 : Int32)) at_27 rfl rfl ?_
  refine g_lloadN K X24 (pc' := 29) at_28 rfl rfl ?_
  refine g_lloadN K X24 (pc' := 30) at_29 rfl rfl ?_
  refine g_iload K X24 (pc' := 32) at_30 rfl rfl ?_
  refine g_iconst K X24 (pc' := 33) (v := (2 : Int32)) at_32 rfl rfl ?_
  refine g_callSI K X24 (pc' := 36) (argsL := [.long p1, .long p2, .int p3, .int (2 : Int32)]) (rest := [.int (2 : Int32), .ref a3, .ref a3]) 3 at_33 rfl (hw _ (List.mem_of_getElem? (i := 1) rfl)) (hw _ (List.mem_of_getElem? (i := 2) rfl)) (hw _ (List.mem_of_getElem? (i := 3) rfl)) (hw _ (List.mem_of_getElem? (i := 4) rfl)) (by decide) (rm_gen l Z a0 hw p1 p2 p3 (2 : Int32) h23 n0 X24.z) (by decide) (by decide) (by decide) (by decide) (lenOf pd_1 rfl) rfl rfl (Nat.le_of_ble_eq_true rfl) (fun c29 T30 X31 _ => ?_)
  refine g_bastore K X31 (pc' := 37) (i := 2) at_36 rfl A26 na7 rfl (by decide) (fun T32 h33 X34 Kp35 A36 => ?_)
  obtain ⟨f37, hf38⟩ : ∃ q, q = upd f27 2 (jb c29) := ⟨_, rfl⟩
  rw [← hf38] at A36
  refine g_dup K X34 (pc' := 38) at_37 rfl rfl ?_
  refine g_iconst K X34 (pc' := 39) (v := (3 : Int32)) at_38 rfl rfl ?_
  refine g_lloadN K X34 (pc' := 40) at_39 rfl rfl ?_
  refine g_lloadN K X34 (pc' := 41) at_40 rfl rfl ?_
  refine g_iload K X34 (pc' := 43) at_41 rfl rfl ?_
  refine g_iconst K X34 (pc' := 44) (v := (3 : Int32)) at_43 rfl rfl ?_
  refine g_callSI K X34 (pc' := 47) (argsL := [.long p1, .long p2, .int p3, .int (3 : Int32)]) (rest := [.int (3 : Int32), .ref a3, .ref a3]) 3 at_44 rfl (hw _ (List.mem_of_getElem? (i := 1) rfl)) (hw _ (List.mem_of_getElem? (i := 2) rfl)) (hw _ (List.mem_of_getElem? (i := 3) rfl)) (hw _ (List.mem_of_getElem? (i := 4) rfl)) (by decide) (rm_gen l Z a0 hw p1 p2 p3 (3 : Int32) h33 n0 X34.z) (by decide) (by decide) (by decide) (by decide) (lenOf pd_1 rfl) rfl rfl (Nat.le_of_ble_eq_true rfl) (fun c39 T40 X41 _ => ?_)
  refine g_bastore K X41 (pc' := 48) (i := 3) at_47 rfl A36 na7 rfl (by decide) (fun T42 h43 X44 Kp45 A46 => ?_)
  obtain ⟨f47, hf48⟩ : ∃ q, q = upd f37 3 (jb c39) := ⟨_, rfl⟩
  rw [← hf48] at A46
  refine g_dup K X44 (pc' := 49) at_48 rfl rfl ?_
  refine g_iconst K X44 (pc' := 50) (v := (4 : Int32)) at_49 rfl rfl ?_
  refine g_lloadN K X44 (pc' := 51) at_50 rfl rfl ?_
  refine g_lloadN K X44 (pc' := 52) at_51 rfl rfl ?_
  refine g_iload K X44 (pc' := 54) at_52 rfl rfl ?_
  refine g_iconst K X44 (pc' := 55) (v := (4 : Int32)) at_54 rfl rfl ?_
  refine g_callSI K X44 (pc' := 58) (argsL := [.long p1, .long p2, .int p3, .int (4 : Int32)]) (rest := [.int (4 : Int32), .ref a3, .ref a3]) 3 at_55 rfl (hw _ (List.mem_of_getElem? (i := 1) rfl)) (hw _ (List.mem_of_getElem? (i := 2) rfl)) (hw _ (List.mem_of_getElem? (i := 3) rfl)) (hw _ (List.mem_of_getElem? (i := 4) rfl)) (by decide) (rm_gen l Z a0 hw p1 p2 p3 (4 : Int32) h43 n0 X44.z) (by decide) (by decide) (by decide) (by decide) (lenOf pd_1 rfl) rfl rfl (Nat.le_of_ble_eq_true rfl) (fun c49 T50 X51 _ => ?_)
  refine g_bastore K X51 (pc' := 59) (i := 4) at_58 rfl A46 na7 rfl (by decide) (fun T52 h53 X54 Kp55 A56 => ?_)
  obtain ⟨f57, hf58⟩ : ∃ q, q = upd f47 4 (jb c49) := ⟨_, rfl⟩
  rw [← hf58] at A56
  refine g_dup K X54 (pc' := 60) at_59 rfl rfl ?_
  refine g_iconst K X54 (pc' := 61) (v := (5 : Int32)) at_60 rfl rfl ?_
  refine g_lloadN K X54 (pc' := 62) at_61 rfl rfl ?_
  refine g_lloadN K X54 (pc' := 63) at_62 rfl rfl ?_
  refine g_iload K X54 (pc' := 65) at_63 rfl rfl ?_
  refine g_iconst K X54 (pc' := 66) (v := (5 : Int32)) at_65 rfl rfl ?_
  refine g_callSI K X54 (pc' := 69) (argsL := [.long p1, .long p2, .int p3, .int (5 : Int32)]) (rest := [.int (5 : Int32), .ref a3, .ref a3]) 3 at_66 rfl (hw _ (List.mem_of_getElem? (i := 1) rfl)) (hw _ (List.mem_of_getElem? (i := 2) rfl)) (hw _ (List.mem_of_getElem? (i := 3) rfl)) (hw _ (List.mem_of_getElem? (i := 4) rfl)) (by decide) (rm_gen l Z a0 hw p1 p2 p3 (5 : Int32) h53 n0 X54.z) (by decide) (by decide) (by decide) (by decide) (lenOf pd_1 rfl) rfl rfl (Nat.le_of_ble_eq_true rfl) (fun c59 T60 X61 _ => ?_)
  refine g_bastore K X61 (pc' := 70) (i := 5) at_69 rfl A56 na7 rfl (by decide) (fun T62 h63 X64 Kp65 A66 => ?_)
  obtain ⟨f67, hf68⟩ : ∃ q, q = upd f57 5 (jb c59) := ⟨_, rfl⟩
  rw [← hf68] at A66
  refine g_dup K X64 (pc' := 71) at_70 rfl rfl ?_
  refine g_bipush K X64 (pc' := 73) (v := (6 : Int32)) at_71 rfl rfl ?_
  refine g_lloadN K X64 (pc' := 74) at_73 rfl rfl ?_
  refine g_lloadN K X64 (pc' := 75) at_74 rfl rfl ?_
  refine g_iload K X64 (pc' := 77) at_75 rfl rfl ?_
  refine g_bipush K X64 (pc' := 79) (v := (6 : Int32)) at_77 rfl rfl ?_
  refine g_callSI K X64 (pc' := 82) (argsL := [.long p1, .long p2, .int p3, .int (6 : Int32)]) (rest := [.int (6 : Int32), .ref a3, .ref a3]) 3 at_79 rfl (hw _ (List.mem_of_getElem? (i := 1) rfl)) (hw _ (List.mem_of_getElem? (i := 2) rfl)) (hw _ (List.mem_of_getElem? (i := 3) rfl)) (hw _ (List.mem_of_getElem? (i := 4) rfl)) (by decide) (rm_gen l Z a0 hw p1 p2 p3 (6 : Int32) h63 n0 X64.z) (by decide) (by decide) (by decide) (by decide) (lenOf pd_1 rfl) rfl rfl (Nat.le_of_ble_eq_true rfl) (fun c69 T70 X71 _ => ?_)
  refine g_bastore K X71 (pc' := 83) (i := 6) at_82 rfl A66 na7 rfl (by decide) (fun T72 h73 X74 Kp75 A76 => ?_)
  obtain ⟨f77, hf78⟩ : ∃ q, q = upd f67 6 (jb c69) := ⟨_, rfl⟩
  rw [← hf78] at A76
  refine g_dup K X74 (pc' := 84) at_83 rfl rfl ?_
  refine g_bipush K X74 (pc' := 86) (v := (7 : Int32)) at_84 rfl rfl ?_
  refine g_lloadN K X74 (pc' := 87) at_86 rfl rfl ?_
  refine g_lloadN K X74 (pc' := 88) at_87 rfl rfl ?_
  refine g_iload K X74 (pc' := 90) at_88 rfl rfl ?_
  refine g_bipush K X74 (pc' := 92) (v := (7 : Int32)) at_90 rfl rfl ?_
  refine g_callSI K X74 (pc' := 95) (argsL := [.long p1, .long p2, .int p3, .int (7 : Int32)]) (rest := [.int (7 : Int32), .ref a3, .ref a3]) 3 at_92 rfl (hw _ (List.mem_of_getElem? (i := 1) rfl)) (hw _ (List.mem_of_getElem? (i := 2) rfl)) (hw _ (List.mem_of_getElem? (i := 3) rfl)) (hw _ (List.mem_of_getElem? (i := 4) rfl)) (by decide) (rm_gen l Z a0 hw p1 p2 p3 (7 : Int32) h73 n0 X74.z) (by decide) (by decide) (by decide) (by decide) (lenOf pd_1 rfl) rfl rfl (Nat.le_of_ble_eq_true rfl) (fun c79 T80 X81 _ => ?_)
  refine g_bastore K X81 (pc' := 96) (i := 7) at_95 rfl A76 na7 rfl (by decide) (fun T82 h83 X84 Kp85 A86 => ?_)
  obtain ⟨f87, hf88⟩ : ∃ q, q = upd f77 7 (jb c79) := ⟨_, rfl⟩
  rw [← hf88] at A86
  refine g_dup K X84 (pc' := 97) at_96 rfl rfl ?_
  refine g_bipush K X84 (pc' := 99) (v := (8 : Int32)) at_97 rfl rfl ?_
  refine g_lloadN K X84 (pc' := 100) at_99 rfl rfl ?_
  refine g_lloadN K X84 (pc' := 101) at_100 rfl rfl ?_
  refine g_iload K X84 (pc' := 103) at_101 rfl rfl ?_
  refine g_bipush K X84 (pc' := 105) (v := (8 : Int32)) at_103 rfl rfl ?_
  refine g_callSI K X84 (pc' := 108) (argsL := [.long p1, .long p2, .int p3, .int (8 : Int32)]) (rest := [.int (8 : Int32), .ref a3, .ref a3]) 3 at_105 rfl (hw _ (List.mem_of_getElem? (i := 1) rfl)) (hw _ (List.mem_of_getElem? (i := 2) rfl)) (hw _ (List.mem_of_getElem? (i := 3) rfl)) (hw _ (List.mem_of_getElem? (i := 4) rfl)) (by decide) (rm_gen l Z a0 hw p1 p2 p3 (8 : Int32) h83 n0 X84.z) (by decide) (by decide) (by decide) (by decide) (lenOf pd_1 rfl) rfl rfl (Nat.le_of_ble_eq_true rfl) (fun c89 T90 X91 _ => ?_)
  refine g_bastore K X91 (pc' := 109) (i := 8) at_108 rfl A86 na7 rfl (by decide) (fun T92 h93 X94 Kp95 A96 => ?_)
  obtain ⟨f97, hf98⟩ : ∃ q, q = upd f87 8 (jb c89) := ⟨_, rfl⟩
  rw [← hf98] at A96
  refine g_dup K X94 (pc' := 110) at_109 rfl rfl ?_
  refine g_bipush K X94 (pc' := 112) (v := (9 : Int32)) at_110 rfl rfl ?_
  refine g_lloadN K X94 (pc' := 113) at_112 rfl rfl ?_
  refine g_lloadN K X94 (pc' := 114) at_113 rfl rfl ?_
  refine g_iload K X94 (pc' := 116) at_114 rfl rfl ?_
  refine g_bipush K X94 (pc' := 118) (v := (9 : Int32)) at_116 rfl rfl ?_
  refine g_callSI K X94 (pc' := 121) (argsL := [.long p1, .long p2, .int p3, .int (9 : Int32)]) (rest := [.int (9 : Int32), .ref a3, .ref a3]) 3 at_118 rfl (hw _ (List.mem_of_getElem? (i := 1) rfl)) (hw _ (List.mem_of_getElem? (i := 2) rfl)) (hw _ (List.mem_of_getElem? (i := 3) rfl)) (hw _ (List.mem_of_getElem? (i := 4) rfl)) (by decide) (rm_gen l Z a0 hw p1 p2 p3 (9 : Int32) h93 n0 X94.z) (by decide) (by decide) (by decide) (by decide) (lenOf pd_1 rfl) rfl rfl (Nat.le_of_ble_eq_true rfl) (fun c99 T100 X101 _ => ?_)
  refine g_bastore K X101 (pc' := 122) (i := 9) at_121 rfl A96 na7 rfl (by decide) (fun T102 h103 X104 Kp105 A106 => ?_)
  obtain ⟨f107, hf108⟩ : ∃ q, q = upd f97 9 (jb c99) := ⟨_, rfl⟩
  rw [← hf108] at A106
  refine g_dup K X104 (pc' := 123) at_122 rfl rfl ?_
  refine g_bipush K X104 (pc' := 125) (v := (10 : Int32)) at_123 rfl rfl ?_
  refine g_lloadN K X104 (pc' := 126) at_125 rfl rfl ?_
  refine g_lloadN K X104 (pc' := 127) at_126 rfl rfl ?_
  refine g_iload K X104 (pc' := 129) at_127 rfl rfl ?_
  refine g_bipush K X104 (pc' := 131) (v := (10 : Int32)) at_129 rfl rfl ?_
  refine g_callSI K X104 (pc' := 134) (argsL := [.long p1, .long p2, .int p3, .int (10 : Int32)]) (rest := [.int (10 : Int32), .ref a3, .ref a3]) 3 at_131 rfl (hw _ (List.mem_of_getElem? (i := 1) rfl)) (hw _ (List.mem_of_getElem? (i := 2) rfl)) (hw _ (List.mem_of_getElem? (i := 3) rfl)) (hw _ (List.mem_of_getElem? (i := 4) rfl)) (by decide) (rm_gen l Z a0 hw p1 p2 p3 (10 : Int32) h103 n0 X104.z) (by decide) (by decide) (by decide) (by decide) (lenOf pd_1 rfl) rfl rfl (Nat.le_of_ble_eq_true rfl) (fun c109 T110 X111 _ => ?_)
  refine g_bastore K X111 (pc' := 135) (i := 10) at_134 rfl A106 na7 rfl (by decide) (fun T112 h113 X114 Kp115 A116 => ?_)
  obtain ⟨f117, hf118⟩ : ∃ q, q = upd f107 10 (jb c109) := ⟨_, rfl⟩
  rw [← hf118] at A116
  refine g_dup K X114 (pc' := 136) at_135 rfl rfl ?_
  refine g_bipush K X114 (pc' := 138) (v := (11 : Int32)) at_136 rfl rfl ?_
  refine g_lloadN K X114 (pc' := 139) at_138 rfl rfl ?_
  refine g_lloadN K X114 (pc' := 140) at_139 rfl rfl ?_
  refine g_iload K X114 (pc' := 142) at_140 rfl rfl ?_
  refine g_bipush K X114 (pc' := 144) (v := (11 : Int32)) at_142 rfl rfl ?_
  refine g_callSI K X114 (pc' := 147) (argsL := [.long p1, .long p2, .int p3, .int (11 : Int32)]) (rest := [.int (11 : Int32), .ref a3, .ref a3]) 3 at_144 rfl (hw _ (List.mem_of_getElem? (i := 1) rfl)) (hw _ (List.mem_of_getElem? (i := 2) rfl)) (hw _ (List.mem_of_getElem? (i := 3) rfl)) (hw _ (List.mem_of_getElem? (i := 4) rfl)) (by decide) (rm_gen l Z a0 hw p1 p2 p3 (11 : Int32) h113 n0 X114.z) (by decide) (by decide) (by decide) (by decide) (lenOf pd_1 rfl) rfl rfl (Nat.le_of_ble_eq_true rfl) (fun c119 T120 X121 _ => ?_)
  refine g_bastore K X121 (pc' := 148) (i := 11) at_147 rfl A116 na7 rfl (by decide) (fun T122 h123 X124 Kp125 A126 => ?_)
  obtain ⟨f127, hf128⟩ : ∃ q, q = upd f117 11 (jb c119) := ⟨_, rfl⟩
  rw [← hf128] at A126
  refine g_dup K X124 (pc' := 149) at_148 rfl rfl ?_
  refine g_bipush K X124 (pc' := 151) (v := (12 : Int32)) at_149 rfl rfl ?_
  refine g_lloadN K X124 (pc' := 152) at_151 rfl rfl ?_
  refine g_lloadN K X124 (pc' := 153) at_152 rfl rfl ?_
  refine g_iload K X124 (pc' := 155) at_153 rfl rfl ?_
  refine g_bipush K X124 (pc' := 157) (v := (12 : Int32)) at_155 rfl rfl ?_
  refine g_callSI K X124 (pc' := 160) (argsL := [.long p1, .long p2, .int p3, .int (12 : Int32)]) (rest := [.int (12 : Int32), .ref a3, .ref a3]) 3 at_157 rfl (hw _ (List.mem_of_getElem? (i := 1) rfl)) (hw _ (List.mem_of_getElem? (i := 2) rfl)) (hw _ (List.mem_of_getElem? (i := 3) rfl)) (hw _ (List.mem_of_getElem? (i := 4) rfl)) (by decide) (rm_gen l Z a0 hw p1 p2 p3 (12 : Int32) h123 n0 X124.z) (by decide) (by decide) (by decide) (by decide) (lenOf pd_1 rfl) rfl rfl (Nat.le_of_ble_eq_true rfl) (fun c129 T130 X131 _ => ?_)
  refine g_bastore K X131 (pc' := 161) (i := 12) at_160 rfl A126 na7 rfl (by decide) (fun T132 h133 X134 Kp135 A136 => ?_)
  obtain ⟨f137, hf138⟩ : ∃ q, q = upd f127 12 (jb c129) := ⟨_, rfl⟩
  rw [← hf138] at A136
  refine g_dup K X134 (pc' := 162) at_161 rfl rfl ?_
  refine g_bipush K X134 (pc' := 164) (v := (13 : Int32)) at_162 rfl rfl ?_
  refine g_lloadN K X134 (pc' := 165) at_164 rfl rfl ?_
  refine g_lloadN K X134 (pc' := 166) at_165 rfl rfl ?_
  refine g_iload K X134 (pc' := 168) at_166 rfl rfl ?_
  refine g_bipush K X134 (pc' := 170) (v := (13 : Int32)) at_168 rfl rfl ?_
  refine g_callSI K X134 (pc' := 173) (argsL := [.long p1, .long p2, .int p3, .int (13 : Int32)]) (rest := [.int (13 : Int32), .ref a3, .ref a3]) 3 at_170 rfl (hw _ (List.mem_of_getElem? (i := 1) rfl)) (hw _ (List.mem_of_getElem? (i := 2) rfl)) (hw _ (List.mem_of_getElem? (i := 3) rfl)) (hw _ (List.mem_of_getElem? (i := 4) rfl)) (by decide) (rm_gen l Z a0 hw p1 p2 p3 (13 : Int32) h133 n0 X134.z) (by decide) (by decide) (by decide) (by decide) (lenOf pd_1 rfl) rfl rfl (Nat.le_of_ble_eq_true rfl) (fun c139 T140 X141 _ => ?_)
  refine g_bastore K X141 (pc' := 174) (i := 13) at_173 rfl A136 na7 rfl (by decide) (fun T142 h143 X144 Kp145 A146 => ?_)
  obtain ⟨f147, hf148⟩ : ∃ q, q = upd f137 13 (jb c139) := ⟨_, rfl⟩
  rw [← hf148] at A146
  refine g_dup K X144 (pc' := 175) at_174 rfl rfl ?_
  refine g_bipush K X144 (pc' := 177) (v := (14 : Int32)) at_175 rfl rfl ?_
  refine g_lloadN K X144 (pc' := 178) at_177 rfl rfl ?_
  refine g_lloadN K X144 (pc' := 179) at_178 rfl rfl ?_
  refine g_iload K X144 (pc' := 181) at_179 rfl rfl ?_
  refine g_bipush K X144 (pc' := 183) (v := (14 : Int32)) at_181 rfl rfl ?_
  refine g_callSI K X144 (pc' := 186) (argsL := [.long p1, .long p2, .int p3, .int (14 : Int32)]) (rest := [.int (14 : Int32), .ref a3, .ref a3]) 3 at_183 rfl (hw _ (List.mem_of_getElem? (i := 1) rfl)) (hw _ (List.mem_of_getElem? (i := 2) rfl)) (hw _ (List.mem_of_getElem? (i := 3) rfl)) (hw _ (List.mem_of_getElem? (i := 4) rfl)) (by decide) (rm_gen l Z a0 hw p1 p2 p3 (14 : Int32) h143 n0 X144.z) (by decide) (by decide) (by decide) (by decide) (lenOf pd_1 rfl) rfl rfl (Nat.le_of_ble_eq_true rfl) (fun c149 T150 X151 _ => ?_)
  refine g_bastore K X151 (pc' := 187) (i := 14) at_186 rfl A146 na7 rfl (by decide) (fun T152 h153 X154 Kp155 A156 => ?_)
  obtain ⟨f157, hf158⟩ : ∃ q, q = upd f147 14 (jb c149) := ⟨_, rfl⟩
  rw [← hf158] at A156
  refine g_dup K X154 (pc' := 188) at_187 rfl rfl ?_
  refine g_bipush K X154 (pc' := 190) (v := (15 : Int32)) at_188 rfl rfl ?_
  refine g_lloadN K X154 (pc' := 191) at_190 rfl rfl ?_
  refine g_lloadN K X154 (pc' := 192) at_191 rfl rfl ?_
  refine g_iload K X154 (pc' := 194) at_192 rfl rfl ?_
  refine g_bipush K X154 (pc' := 196) (v := (15 : Int32)) at_194 rfl rfl ?_
  refine g_callSI K X154 (pc' := 199) (argsL := [.long p1, .long p2, .int p3, .int (15 : Int32)]) (rest := [.int (15 : Int32), .ref a3, .ref a3]) 3 at_196 rfl (hw _ (List.mem_of_getElem? (i := 1) rfl)) (hw _ (List.mem_of_getElem? (i := 2) rfl)) (hw _ (List.mem_of_getElem? (i := 3) rfl)) (hw _ (List.mem_of_getElem? (i := 4) rfl)) (by decide) (rm_gen l Z a0 hw p1 p2 p3 (15 : Int32) h153 n0 X154.z) (by decide) (by decide) (by decide) (by decide) (lenOf pd_1 rfl) rfl rfl (Nat.le_of_ble_eq_true rfl) (fun c159 T160 X161 _ => ?_)
  refine g_bastore K X161 (pc' := 200) (i := 15) at_199 rfl A156 na7 rfl (by decide) (fun T162 h163 X164 Kp165 A166 => ?_)
  obtain ⟨f167, hf168⟩ : ∃ q, q = upd f157 15 (jb c159) := ⟨_, rfl⟩
  rw [← hf168] at A166
  refine g_dup K X164 (pc' := 201) at_200 rfl rfl ?_
  refine g_bipush K X164 (pc' := 203) (v := (16 : Int32)) at_201 rfl rfl ?_
  refine g_lloadN K X164 (pc' := 204) at_203 rfl rfl ?_
  refine g_lloadN K X164 (pc' := 205) at_204 rfl rfl ?_
  refine g_iload K X164 (pc' := 207) at_205 rfl rfl ?_
  refine g_bipush K X164 (pc' := 209) (v := (16 : Int32)) at_207 rfl rfl ?_
  refine g_callSI K X164 (pc' := 212) (argsL := [.long p1, .long p2, .int p3, .int (16 : Int32)]) (rest := [.int (16 : Int32), .ref a3, .ref a3]) 3 at_209 rfl (hw _ (List.mem_of_getElem? (i := 1) rfl)) (hw _ (List.mem_of_getElem? (i := 2) rfl)) (hw _ (List.mem_of_getElem? (i := 3) rfl)) (hw _ (List.mem_of_getElem? (i := 4) rfl)) (by decide) (rm_gen l Z a0 hw p1 p2 p3 (16 : Int32) h163 n0 X164.z) (by decide) (by decide) (by decide) (by decide) (lenOf pd_1 rfl) rfl rfl (Nat.le_of_ble_eq_true rfl) (fun c169 T170 X171 _ => ?_)
  refine g_bastore K X171 (pc' := 213) (i := 16) at_212 rfl A166 na7 rfl (by decide) (fun T172 h173 X174 Kp175 A176 => ?_)
  obtain ⟨f177, hf178⟩ : ∃ q, q = upd f167 16 (jb c169) := ⟨_, rfl⟩
  rw [← hf178] at A176
  refine g_dup K X174 (pc' := 214) at_213 rfl rfl ?_
  refine g_bipush K X174 (pc' := 216) (v := (17 : Int32)) at_214 rfl rfl ?_
  refine g_lloadN K X174 (pc' := 217) at_216 rfl rfl ?_
  refine g_lloadN K X174 (pc' := 218) at_217 rfl rfl ?_
  refine g_iload K X174 (pc' := 220) at_218 rfl rfl ?_
  refine g_bipush K X174 (pc' := 222) (v := (17 : Int32)) at_220 rfl rfl ?_
  refine g_callSI K X174 (pc' := 225) (argsL := [.long p1, .long p2, .int p3, .int (17 : Int32)]) (rest := [.int (17 : Int32), .ref a3, .ref a3]) 3 at_222 rfl (hw _ (List.mem_of_getElem? (i := 1) rfl)) (hw _ (List.mem_of_getElem? (i := 2) rfl)) (hw _ (List.mem_of_getElem? (i := 3) rfl)) (hw _ (List.mem_of_getElem? (i := 4) rfl)) (by decide) (rm_gen l Z a0 hw p1 p2 p3 (17 : Int32) h173 n0 X174.z) (by decide) (by decide) (by decide) (by decide) (lenOf pd_1 rfl) rfl rfl (Nat.le_of_ble_eq_true rfl) (fun c179 T180 X181 _ => ?_)
  refine g_bastore K X181 (pc' := 226) (i := 17) at_225 rfl A176 na7 rfl (by decide) (fun T182 h183 X184 Kp185 A186 => ?_)
  obtain ⟨f187, hf188⟩ : ∃ q, q = upd f177 17 (jb c179) := ⟨_, rfl⟩
  rw [← hf188] at A186
  refine g_dup K X184 (pc' := 227) at_226 rfl rfl ?_
  refine g_bipush K X184 (pc' := 229) (v := (18 : Int32)) at_227 rfl rfl ?_
  refine g_lloadN K X184 (pc' := 230) at_229 rfl rfl ?_
  refine g_lloadN K X184 (pc' := 231) at_230 rfl rfl ?_
  refine g_iload K X184 (pc' := 233) at_231 rfl rfl ?_
  refine g_bipush K X184 (pc' := 235) (v := (18 : Int32)) at_233 rfl rfl ?_
  refine g_callSI K X184 (pc' := 238) (argsL := [.long p1, .long p2, .int p3, .int (18 : Int32)]) (rest := [.int (18 : Int32), .ref a3, .ref a3]) 3 at_235 rfl (hw _ (List.mem_of_getElem? (i := 1) rfl)) (hw _ (List.mem_of_getElem? (i := 2) rfl)) (hw _ (List.mem_of_getElem? (i := 3) rfl)) (hw _ (List.mem_of_getElem? (i := 4) rfl)) (by decide) (rm_gen l Z a0 hw p1 p2 p3 (18 : Int32) h183 n0 X184.z) (by decide) (by decide) (by decide) (by decide) (lenOf pd_1 rfl) rfl rfl (Nat.le_of_ble_eq_true rfl) (fun c189 T190 X191 _ => ?_)
  refine g_bastore K X191 (pc' := 239) (i := 18) at_238 rfl A186 na7 rfl (by decide) (fun T192 h193 X194 Kp195 A196 => ?_)
  obtain ⟨f197, hf198⟩ : ∃ q, q = upd f187 18 (jb c189) := ⟨_, rfl⟩
  rw [← hf198] at A196
  refine g_dup K X194 (pc' := 240) at_239 rfl rfl ?_
  refine g_bipush K X194 (pc' := 242) (v := (19 : Int32)) at_240 rfl rfl ?_
  refine g_lloadN K X194 (pc' := 243) at_242 rfl rfl ?_
  refine g_lloadN K X194 (pc' := 244) at_243 rfl rfl ?_
  refine g_iload K X194 (pc' := 246) at_244 rfl rfl ?_
  refine g_bipush K X194 (pc' := 248) (v := (19 : Int32)) at_246 rfl rfl ?_
  refine g_callSI K X194 (pc' := 251) (argsL := [.long p1, .long p2, .int p3, .int (19 : Int32)]) (rest := [.int (19 : Int32), .ref a3, .ref a3]) 3 at_248 rfl (hw _ (List.mem_of_getElem? (i := 1) rfl)) (hw _ (List.mem_of_getElem? (i := 2) rfl)) (hw _ (List.mem_of_getElem? (i := 3) rfl)) (hw _ (List.mem_of_getElem? (i := 4) rfl)) (by decide) (rm_gen l Z a0 hw p1 p2 p3 (19 : Int32) h193 n0 X194.z) (by decide) (by decide) (by decide) (by decide) (lenOf pd_1 rfl) rfl rfl (Nat.le_of_ble_eq_true rfl) (fun c199 T200 X201 _ => ?_)
  refine g_bastore K X201 (pc' := 252) (i := 19) at_251 rfl A196 na7 rfl (by decide) (fun T202 h203 X204 Kp205 A206 => ?_)
  obtain ⟨f207, hf208⟩ : ∃ q, q = upd f197 19 (jb c199) := ⟨_, rfl⟩
  rw [← hf208] at A206
  refine g_astore K X204 (pc' := 254) (L' := #[.val (.long p1), .second, .val (.long p2), .second, .val (.int p3), .val (.int p4), .val (.ref a3), .unset, .unset, .unset, .unset, .unset, .unset, .unset, .unset]) at_252 rfl rfl rfl ?_
  have hrng : ∀ i, i < 20 → -128 ≤ (f207 i).toInt ∧ (f207 i).toInt < 128 := by
    intro i _
    simp only [hf208, hf198, hf188, hf178, hf168, hf158, hf148, hf138, hf128, hf118, hf108, hf98, hf88, hf78, hf68, hf58, hf48, hf38, hf28, hf18]
    repeat' (first | exact own_upd0 | refine own_updr ?_)
  obtain ⟨t, u, htu, hu20, hq, hnz, hw'⟩ := own_ft p4
  refine g_iload K X204 (pc' := 256) at_254 rfl rfl ?_
  refine g_sipush K X204 (pc' := 259) (v := (32767 : Int32)) at_256 rfl rfl ?_
  refine g_iand K X204 (pc' := 260) at_259 rfl ?_
  refine g_bipush K X204 (pc' := 262) (v := (21 : Int32)) at_260 rfl rfl ?_
  refine g_irem K X204 (pc' := 263) at_262 rfl (by decide) ?_
  refine g_istore K X204 (pc' := 265) (L' := #[.val (.long p1), .second, .val (.long p2), .second, .val (.int p3), .val (.int p4), .val (.ref a3), .val (.int ((p4 &&& (32767 : Int32)) % (21 : Int32))), .unset, .unset, .unset, .unset, .unset, .unset, .unset]) at_263 rfl rfl ?_
  refine g_iload K X204 (pc' := 267) at_265 rfl rfl ?_
  refine g_iload K X204 (pc' := 269) at_267 rfl rfl ?_
  refine g_bipush K X204 (pc' := 271) (v := (16 : Int32)) at_269 rfl rfl ?_
  refine g_iushr K X204 (pc' := 272) at_271 rfl ?_
  refine g_sipush K X204 (pc' := 275) (v := (32767 : Int32)) at_272 rfl rfl ?_
  refine g_iand K X204 (pc' := 276) at_275 rfl ?_
  refine g_bipush K X204 (pc' := 278) (v := (21 : Int32)) at_276 rfl rfl ?_
  refine g_iload K X204 (pc' := 280) at_278 rfl rfl ?_
  refine g_isub K X204 (pc' := 281) at_280 rfl ?_
  refine g_irem K X204 (pc' := 282) at_281 rfl hnz ?_
  refine g_iadd K X204 (pc' := 283) at_282 rfl ?_
  refine g_istore K X204 (pc' := 285) (L' := #[.val (.long p1), .second, .val (.long p2), .second, .val (.int p3), .val (.int p4), .val (.ref a3), .val (.int ((p4 &&& (32767 : Int32)) % (21 : Int32))), .val (.int (((p4 &&& (32767 : Int32)) % (21 : Int32)) + (((jushr p4 (16 : Int32)) &&& (32767 : Int32)) % ((21 : Int32) - ((p4 &&& (32767 : Int32)) % (21 : Int32)))))), .unset, .unset, .unset, .unset, .unset, .unset]) at_283 rfl rfl ?_
  generalize hqq : ((p4 &&& (32767 : Int32)) % (21 : Int32)) = q at *
  generalize hww : (q + (((jushr p4 (16 : Int32)) &&& (32767 : Int32)) % ((21 : Int32) - q))) = w at *
  refine g_bipush K X204 (pc' := 287) (v := (6 : Int32)) at_285 rfl rfl ?_
  refine g_newarray_long K X204 (pc' := 289) (n := 6) 6 at_287 rfl (hw _ (List.mem_of_getElem? (i := 6) rfl)) rfl (by decide) (by decide) (by decide) (by decide) (fun T209 h210 a211 X212 E213 ga214 na215 A216 => ?_)
  have ne_a3_a211 : a3 ≠ a211 := Nat.ne_of_lt (by rw [ga214]; exact A206.lt)
  have f217 := A206.ext E213
  refine g_dup K X212 (pc' := 290) at_289 rfl rfl ?_
  refine g_iconst K X212 (pc' := 291) (v := (0 : Int32)) at_290 rfl rfl ?_
  refine g_lconst K X212 (pc' := 292) (v := (1 : Int64)) at_291 rfl rfl ?_
  refine g_lastore K X212 (pc' := 293) (i := 0) at_292 rfl A216 na215 rfl (by decide) (fun T218 h219 X220 Kp221 A222 => ?_)
  obtain ⟨f223, hf224⟩ : ∃ q, q = upd (fun _ => (0 : Int64)) 0 (1 : Int64) := ⟨_, rfl⟩
  rw [← hf224] at A222
  have f225 := AN.keep f217 Kp221 (ninS ne_a3_a211 nin0)
  refine g_dup K X220 (pc' := 294) at_293 rfl rfl ?_
  refine g_iconst K X220 (pc' := 295) (v := (1 : Int32)) at_294 rfl rfl ?_
  refine g_lconst K X220 (pc' := 296) (v := (0 : Int64)) at_295 rfl rfl ?_
  refine g_lastore K X220 (pc' := 297) (i := 1) at_296 rfl A222 na215 rfl (by decide) (fun T226 h227 X228 Kp229 A230 => ?_)
  obtain ⟨f231, hf232⟩ : ∃ q, q = upd f223 1 (0 : Int64) := ⟨_, rfl⟩
  rw [← hf232] at A230
  have f233 := AN.keep f225 Kp229 (ninS ne_a3_a211 nin0)
  refine g_dup K X228 (pc' := 298) at_297 rfl rfl ?_
  refine g_iconst K X228 (pc' := 299) (v := (2 : Int32)) at_298 rfl rfl ?_
  refine g_lconst K X228 (pc' := 300) (v := (0 : Int64)) at_299 rfl rfl ?_
  refine g_lastore K X228 (pc' := 301) (i := 2) at_300 rfl A230 na215 rfl (by decide) (fun T234 h235 X236 Kp237 A238 => ?_)
  obtain ⟨f239, hf240⟩ : ∃ q, q = upd f231 2 (0 : Int64) := ⟨_, rfl⟩
  rw [← hf240] at A238
  have f241 := AN.keep f233 Kp237 (ninS ne_a3_a211 nin0)
  refine g_dup K X236 (pc' := 302) at_301 rfl rfl ?_
  refine g_iconst K X236 (pc' := 303) (v := (3 : Int32)) at_302 rfl rfl ?_
  refine g_lconst K X236 (pc' := 304) (v := (0 : Int64)) at_303 rfl rfl ?_
  refine g_lastore K X236 (pc' := 305) (i := 3) at_304 rfl A238 na215 rfl (by decide) (fun T242 h243 X244 Kp245 A246 => ?_)
  obtain ⟨f247, hf248⟩ : ∃ q, q = upd f239 3 (0 : Int64) := ⟨_, rfl⟩
  rw [← hf248] at A246
  have f249 := AN.keep f241 Kp245 (ninS ne_a3_a211 nin0)
  refine g_dup K X244 (pc' := 306) at_305 rfl rfl ?_
  refine g_iconst K X244 (pc' := 307) (v := (4 : Int32)) at_306 rfl rfl ?_
  refine g_lconst K X244 (pc' := 308) (v := (0 : Int64)) at_307 rfl rfl ?_
  refine g_lastore K X244 (pc' := 309) (i := 4) at_308 rfl A246 na215 rfl (by decide) (fun T250 h251 X252 Kp253 A254 => ?_)
  obtain ⟨f255, hf256⟩ : ∃ q, q = upd f247 4 (0 : Int64) := ⟨_, rfl⟩
  rw [← hf256] at A254
  have f257 := AN.keep f249 Kp253 (ninS ne_a3_a211 nin0)
  refine g_dup K X252 (pc' := 310) at_309 rfl rfl ?_
  refine g_iconst K X252 (pc' := 311) (v := (5 : Int32)) at_310 rfl rfl ?_
  refine g_lconst K X252 (pc' := 312) (v := (0 : Int64)) at_311 rfl rfl ?_
  refine g_lastore K X252 (pc' := 313) (i := 5) at_312 rfl A254 na215 rfl (by decide) (fun T258 h259 X260 Kp261 A262 => ?_)
  obtain ⟨f263, hf264⟩ : ∃ q, q = upd f255 5 (0 : Int64) := ⟨_, rfl⟩
  rw [← hf264] at A262
  have f265 := AN.keep f257 Kp261 (ninS ne_a3_a211 nin0)
  refine g_astore K X260 (pc' := 315) (L' := #[.val (.long p1), .second, .val (.long p2), .second, .val (.int p3), .val (.int p4), .val (.ref a3), .val (.int q), .val (.int w), .val (.ref a211), .unset, .unset, .unset, .unset, .unset]) at_313 rfl rfl rfl ?_
  refine g_aload K X260 (pc' := 317) at_315 rfl rfl rfl ?_
  refine g_aload K X260 (pc' := 319) at_317 rfl rfl rfl ?_
  refine g_iconst K X260 (pc' := 320) (v := (0 : Int32)) at_319 rfl rfl ?_
  refine g_iload K X260 (pc' := 322) at_320 rfl rfl ?_
  refine g_iload K X260 (pc' := 324) at_322 rfl rfl ?_
  have hb : BASE f263 := ⟨by simp [hf224, hf232, hf240, hf248, hf256, hf264, upd], by simp [hf224, hf232, hf240, hf248, hf256, hf264, upd], by simp [hf224, hf232, hf240, hf248, hf256, hf264, upd], by simp [hf224, hf232, hf240, hf248, hf256, hf264, upd], by simp [hf224, hf232, hf240, hf248, hf256, hf264, upd], by simp [hf224, hf232, hf240, hf248, hf256, hf264, upd]⟩
  refine g_callSK0 K X260 (pc' := 327) (argsL := [.ref a211, .ref a3, .int (0 : Int32), .int q, .int w]) (rest := []) 0 at_324 rfl (hw _ (List.mem_of_getElem? (i := 7) rfl)) (hw _ (List.mem_of_getElem? (i := 8) rfl)) (hw _ (List.mem_of_getElem? (i := 3) rfl)) (hw _ (List.mem_of_getElem? (i := 9) rfl)) (by decide) (rm_step l Z a0 hw a211 a3 (0 : Int32) q w 0 t u f263 f207 h259 n0 X260.z na215 A262 f265 ne_a3_a211 rfl (by decide) hq hw') (by decide) (by decide) (by decide) (by decide) (lenOf pd_2 rfl) rfl rfl (Nat.le_of_ble_eq_true rfl) (fun T267 h269 X268 Kp270 hP266 => ?_)
  have f271 := AN.keep f265 Kp270 (ninS ne_a3_a211 nin0)
  have A272 : AL Z h269 a211 6 (runS f263 f207 t u 1) := hP266
  refine g_aload K X268 (pc' := 329) at_327 rfl rfl rfl ?_
  refine g_aload K X268 (pc' := 331) at_329 rfl rfl rfl ?_
  refine g_iconst K X268 (pc' := 332) (v := (1 : Int32)) at_331 rfl rfl ?_
  refine g_iload K X268 (pc' := 334) at_332 rfl rfl ?_
  refine g_iload K X268 (pc' := 336) at_334 rfl rfl ?_
  refine g_callSK0 K X268 (pc' := 339) (argsL := [.ref a211, .ref a3, .int (1 : Int32), .int q, .int w]) (rest := []) 0 at_336 rfl (hw _ (List.mem_of_getElem? (i := 7) rfl)) (hw _ (List.mem_of_getElem? (i := 8) rfl)) (hw _ (List.mem_of_getElem? (i := 3) rfl)) (hw _ (List.mem_of_getElem? (i := 9) rfl)) (by decide) (rm_step l Z a0 hw a211 a3 (1 : Int32) q w 1 t u (runS f263 f207 t u 1) f207 h269 n0 X268.z na215 A272 f271 ne_a3_a211 rfl (by decide) hq hw') (by decide) (by decide) (by decide) (by decide) (lenOf pd_2 rfl) rfl rfl (Nat.le_of_ble_eq_true rfl) (fun T274 h276 X275 Kp277 hP273 => ?_)
  have f278 := AN.keep f271 Kp277 (ninS ne_a3_a211 nin0)
  have A279 : AL Z h276 a211 6 (runS f263 f207 t u 2) := hP273
  refine g_aload K X275 (pc' := 341) at_339 rfl rfl rfl ?_
  refine g_aload K X275 (pc' := 343) at_341 rfl rfl rfl ?_
  refine g_iconst K X275 (pc' := 344) (v := (2 : Int32)) at_343 rfl rfl ?_
  refine g_iload K X275 (pc' := 346) at_344 rfl rfl ?_
  refine g_iload K X275 (pc' := 348) at_346 rfl rfl ?_
  refine g_callSK0 K X275 (pc' := 351) (argsL := [.ref a211, .ref a3, .int (2 : Int32), .int q, .int w]) (rest := []) 0 at_348 rfl (hw _ (List.mem_of_getElem? (i := 7) rfl)) (hw _ (List.mem_of_getElem? (i := 8) rfl)) (hw _ (List.mem_of_getElem? (i := 3) rfl)) (hw _ (List.mem_of_getElem? (i := 9) rfl)) (by decide) (rm_step l Z a0 hw a211 a3 (2 : Int32) q w 2 t u (runS f263 f207 t u 2) f207 h276 n0 X275.z na215 A279 f278 ne_a3_a211 rfl (by decide) hq hw') (by decide) (by decide) (by decide) (by decide) (lenOf pd_2 rfl) rfl rfl (Nat.le_of_ble_eq_true rfl) (fun T281 h283 X282 Kp284 hP280 => ?_)
  have f285 := AN.keep f278 Kp284 (ninS ne_a3_a211 nin0)
  have A286 : AL Z h283 a211 6 (runS f263 f207 t u 3) := hP280
  refine g_aload K X282 (pc' := 353) at_351 rfl rfl rfl ?_
  refine g_aload K X282 (pc' := 355) at_353 rfl rfl rfl ?_
  refine g_iconst K X282 (pc' := 356) (v := (3 : Int32)) at_355 rfl rfl ?_
  refine g_iload K X282 (pc' := 358) at_356 rfl rfl ?_
  refine g_iload K X282 (pc' := 360) at_358 rfl rfl ?_
  refine g_callSK0 K X282 (pc' := 363) (argsL := [.ref a211, .ref a3, .int (3 : Int32), .int q, .int w]) (rest := []) 0 at_360 rfl (hw _ (List.mem_of_getElem? (i := 7) rfl)) (hw _ (List.mem_of_getElem? (i := 8) rfl)) (hw _ (List.mem_of_getElem? (i := 3) rfl)) (hw _ (List.mem_of_getElem? (i := 9) rfl)) (by decide) (rm_step l Z a0 hw a211 a3 (3 : Int32) q w 3 t u (runS f263 f207 t u 3) f207 h283 n0 X282.z na215 A286 f285 ne_a3_a211 rfl (by decide) hq hw') (by decide) (by decide) (by decide) (by decide) (lenOf pd_2 rfl) rfl rfl (Nat.le_of_ble_eq_true rfl) (fun T288 h290 X289 Kp291 hP287 => ?_)
  have f292 := AN.keep f285 Kp291 (ninS ne_a3_a211 nin0)
  have A293 : AL Z h290 a211 6 (runS f263 f207 t u 4) := hP287
  refine g_aload K X289 (pc' := 365) at_363 rfl rfl rfl ?_
  refine g_aload K X289 (pc' := 367) at_365 rfl rfl rfl ?_
  refine g_iconst K X289 (pc' := 368) (v := (4 : Int32)) at_367 rfl rfl ?_
  refine g_iload K X289 (pc' := 370) at_368 rfl rfl ?_
  refine g_iload K X289 (pc' := 372) at_370 rfl rfl ?_
  refine g_callSK0 K X289 (pc' := 375) (argsL := [.ref a211, .ref a3, .int (4 : Int32), .int q, .int w]) (rest := []) 0 at_372 rfl (hw _ (List.mem_of_getElem? (i := 7) rfl)) (hw _ (List.mem_of_getElem? (i := 8) rfl)) (hw _ (List.mem_of_getElem? (i := 3) rfl)) (hw _ (List.mem_of_getElem? (i := 9) rfl)) (by decide) (rm_step l Z a0 hw a211 a3 (4 : Int32) q w 4 t u (runS f263 f207 t u 4) f207 h290 n0 X289.z na215 A293 f292 ne_a3_a211 rfl (by decide) hq hw') (by decide) (by decide) (by decide) (by decide) (lenOf pd_2 rfl) rfl rfl (Nat.le_of_ble_eq_true rfl) (fun T295 h297 X296 Kp298 hP294 => ?_)
  have f299 := AN.keep f292 Kp298 (ninS ne_a3_a211 nin0)
  have A300 : AL Z h297 a211 6 (runS f263 f207 t u 5) := hP294
  refine g_aload K X296 (pc' := 377) at_375 rfl rfl rfl ?_
  refine g_aload K X296 (pc' := 379) at_377 rfl rfl rfl ?_
  refine g_iconst K X296 (pc' := 380) (v := (5 : Int32)) at_379 rfl rfl ?_
  refine g_iload K X296 (pc' := 382) at_380 rfl rfl ?_
  refine g_iload K X296 (pc' := 384) at_382 rfl rfl ?_
  refine g_callSK0 K X296 (pc' := 387) (argsL := [.ref a211, .ref a3, .int (5 : Int32), .int q, .int w]) (rest := []) 0 at_384 rfl (hw _ (List.mem_of_getElem? (i := 7) rfl)) (hw _ (List.mem_of_getElem? (i := 8) rfl)) (hw _ (List.mem_of_getElem? (i := 3) rfl)) (hw _ (List.mem_of_getElem? (i := 9) rfl)) (by decide) (rm_step l Z a0 hw a211 a3 (5 : Int32) q w 5 t u (runS f263 f207 t u 5) f207 h297 n0 X296.z na215 A300 f299 ne_a3_a211 rfl (by decide) hq hw') (by decide) (by decide) (by decide) (by decide) (lenOf pd_2 rfl) rfl rfl (Nat.le_of_ble_eq_true rfl) (fun T302 h304 X303 Kp305 hP301 => ?_)
  have f306 := AN.keep f299 Kp305 (ninS ne_a3_a211 nin0)
  have A307 : AL Z h304 a211 6 (runS f263 f207 t u 6) := hP301
  refine g_aload K X303 (pc' := 389) at_387 rfl rfl rfl ?_
  refine g_aload K X303 (pc' := 391) at_389 rfl rfl rfl ?_
  refine g_bipush K X303 (pc' := 393) (v := (6 : Int32)) at_391 rfl rfl ?_
  refine g_iload K X303 (pc' := 395) at_393 rfl rfl ?_
  refine g_iload K X303 (pc' := 397) at_395 rfl rfl ?_
  refine g_callSK0 K X303 (pc' := 400) (argsL := [.ref a211, .ref a3, .int (6 : Int32), .int q, .int w]) (rest := []) 0 at_397 rfl (hw _ (List.mem_of_getElem? (i := 7) rfl)) (hw _ (List.mem_of_getElem? (i := 8) rfl)) (hw _ (List.mem_of_getElem? (i := 3) rfl)) (hw _ (List.mem_of_getElem? (i := 9) rfl)) (by decide) (rm_step l Z a0 hw a211 a3 (6 : Int32) q w 6 t u (runS f263 f207 t u 6) f207 h304 n0 X303.z na215 A307 f306 ne_a3_a211 rfl (by decide) hq hw') (by decide) (by decide) (by decide) (by decide) (lenOf pd_2 rfl) rfl rfl (Nat.le_of_ble_eq_true rfl) (fun T309 h311 X310 Kp312 hP308 => ?_)
  have f313 := AN.keep f306 Kp312 (ninS ne_a3_a211 nin0)
  have A314 : AL Z h311 a211 6 (runS f263 f207 t u 7) := hP308
  refine g_aload K X310 (pc' := 402) at_400 rfl rfl rfl ?_
  refine g_aload K X310 (pc' := 404) at_402 rfl rfl rfl ?_
  refine g_bipush K X310 (pc' := 406) (v := (7 : Int32)) at_404 rfl rfl ?_
  refine g_iload K X310 (pc' := 408) at_406 rfl rfl ?_
  refine g_iload K X310 (pc' := 410) at_408 rfl rfl ?_
  refine g_callSK0 K X310 (pc' := 413) (argsL := [.ref a211, .ref a3, .int (7 : Int32), .int q, .int w]) (rest := []) 0 at_410 rfl (hw _ (List.mem_of_getElem? (i := 7) rfl)) (hw _ (List.mem_of_getElem? (i := 8) rfl)) (hw _ (List.mem_of_getElem? (i := 3) rfl)) (hw _ (List.mem_of_getElem? (i := 9) rfl)) (by decide) (rm_step l Z a0 hw a211 a3 (7 : Int32) q w 7 t u (runS f263 f207 t u 7) f207 h311 n0 X310.z na215 A314 f313 ne_a3_a211 rfl (by decide) hq hw') (by decide) (by decide) (by decide) (by decide) (lenOf pd_2 rfl) rfl rfl (Nat.le_of_ble_eq_true rfl) (fun T316 h318 X317 Kp319 hP315 => ?_)
  have f320 := AN.keep f313 Kp319 (ninS ne_a3_a211 nin0)
  have A321 : AL Z h318 a211 6 (runS f263 f207 t u 8) := hP315
  refine g_aload K X317 (pc' := 415) at_413 rfl rfl rfl ?_
  refine g_aload K X317 (pc' := 417) at_415 rfl rfl rfl ?_
  refine g_bipush K X317 (pc' := 419) (v := (8 : Int32)) at_417 rfl rfl ?_
  refine g_iload K X317 (pc' := 421) at_419 rfl rfl ?_
  refine g_iload K X317 (pc' := 423) at_421 rfl rfl ?_
  refine g_callSK0 K X317 (pc' := 426) (argsL := [.ref a211, .ref a3, .int (8 : Int32), .int q, .int w]) (rest := []) 0 at_423 rfl (hw _ (List.mem_of_getElem? (i := 7) rfl)) (hw _ (List.mem_of_getElem? (i := 8) rfl)) (hw _ (List.mem_of_getElem? (i := 3) rfl)) (hw _ (List.mem_of_getElem? (i := 9) rfl)) (by decide) (rm_step l Z a0 hw a211 a3 (8 : Int32) q w 8 t u (runS f263 f207 t u 8) f207 h318 n0 X317.z na215 A321 f320 ne_a3_a211 rfl (by decide) hq hw') (by decide) (by decide) (by decide) (by decide) (lenOf pd_2 rfl) rfl rfl (Nat.le_of_ble_eq_true rfl) (fun T323 h325 X324 Kp326 hP322 => ?_)
  have f327 := AN.keep f320 Kp326 (ninS ne_a3_a211 nin0)
  have A328 : AL Z h325 a211 6 (runS f263 f207 t u 9) := hP322
  refine g_aload K X324 (pc' := 428) at_426 rfl rfl rfl ?_
  refine g_aload K X324 (pc' := 430) at_428 rfl rfl rfl ?_
  refine g_bipush K X324 (pc' := 432) (v := (9 : Int32)) at_430 rfl rfl ?_
  refine g_iload K X324 (pc' := 434) at_432 rfl rfl ?_
  refine g_iload K X324 (pc' := 436) at_434 rfl rfl ?_
  refine g_callSK0 K X324 (pc' := 439) (argsL := [.ref a211, .ref a3, .int (9 : Int32), .int q, .int w]) (rest := []) 0 at_436 rfl (hw _ (List.mem_of_getElem? (i := 7) rfl)) (hw _ (List.mem_of_getElem? (i := 8) rfl)) (hw _ (List.mem_of_getElem? (i := 3) rfl)) (hw _ (List.mem_of_getElem? (i := 9) rfl)) (by decide) (rm_step l Z a0 hw a211 a3 (9 : Int32) q w 9 t u (runS f263 f207 t u 9) f207 h325 n0 X324.z na215 A328 f327 ne_a3_a211 rfl (by decide) hq hw') (by decide) (by decide) (by decide) (by decide) (lenOf pd_2 rfl) rfl rfl (Nat.le_of_ble_eq_true rfl) (fun T330 h332 X331 Kp333 hP329 => ?_)
  have f334 := AN.keep f327 Kp333 (ninS ne_a3_a211 nin0)
  have A335 : AL Z h332 a211 6 (runS f263 f207 t u 10) := hP329
  refine g_aload K X331 (pc' := 441) at_439 rfl rfl rfl ?_
  refine g_aload K X331 (pc' := 443) at_441 rfl rfl rfl ?_
  refine g_bipush K X331 (pc' := 445) (v := (10 : Int32)) at_443 rfl rfl ?_
  refine g_iload K X331 (pc' := 447) at_445 rfl rfl ?_
  refine g_iload K X331 (pc' := 449) at_447 rfl rfl ?_
  refine g_callSK0 K X331 (pc' := 452) (argsL := [.ref a211, .ref a3, .int (10 : Int32), .int q, .int w]) (rest := []) 0 at_449 rfl (hw _ (List.mem_of_getElem? (i := 7) rfl)) (hw _ (List.mem_of_getElem? (i := 8) rfl)) (hw _ (List.mem_of_getElem? (i := 3) rfl)) (hw _ (List.mem_of_getElem? (i := 9) rfl)) (by decide) (rm_step l Z a0 hw a211 a3 (10 : Int32) q w 10 t u (runS f263 f207 t u 10) f207 h332 n0 X331.z na215 A335 f334 ne_a3_a211 rfl (by decide) hq hw') (by decide) (by decide) (by decide) (by decide) (lenOf pd_2 rfl) rfl rfl (Nat.le_of_ble_eq_true rfl) (fun T337 h339 X338 Kp340 hP336 => ?_)
  have f341 := AN.keep f334 Kp340 (ninS ne_a3_a211 nin0)
  have A342 : AL Z h339 a211 6 (runS f263 f207 t u 11) := hP336
  refine g_aload K X338 (pc' := 454) at_452 rfl rfl rfl ?_
  refine g_aload K X338 (pc' := 456) at_454 rfl rfl rfl ?_
  refine g_bipush K X338 (pc' := 458) (v := (11 : Int32)) at_456 rfl rfl ?_
  refine g_iload K X338 (pc' := 460) at_458 rfl rfl ?_
  refine g_iload K X338 (pc' := 462) at_460 rfl rfl ?_
  refine g_callSK0 K X338 (pc' := 465) (argsL := [.ref a211, .ref a3, .int (11 : Int32), .int q, .int w]) (rest := []) 0 at_462 rfl (hw _ (List.mem_of_getElem? (i := 7) rfl)) (hw _ (List.mem_of_getElem? (i := 8) rfl)) (hw _ (List.mem_of_getElem? (i := 3) rfl)) (hw _ (List.mem_of_getElem? (i := 9) rfl)) (by decide) (rm_step l Z a0 hw a211 a3 (11 : Int32) q w 11 t u (runS f263 f207 t u 11) f207 h339 n0 X338.z na215 A342 f341 ne_a3_a211 rfl (by decide) hq hw') (by decide) (by decide) (by decide) (by decide) (lenOf pd_2 rfl) rfl rfl (Nat.le_of_ble_eq_true rfl) (fun T344 h346 X345 Kp347 hP343 => ?_)
  have f348 := AN.keep f341 Kp347 (ninS ne_a3_a211 nin0)
  have A349 : AL Z h346 a211 6 (runS f263 f207 t u 12) := hP343
  refine g_aload K X345 (pc' := 467) at_465 rfl rfl rfl ?_
  refine g_aload K X345 (pc' := 469) at_467 rfl rfl rfl ?_
  refine g_bipush K X345 (pc' := 471) (v := (12 : Int32)) at_469 rfl rfl ?_
  refine g_iload K X345 (pc' := 473) at_471 rfl rfl ?_
  refine g_iload K X345 (pc' := 475) at_473 rfl rfl ?_
  refine g_callSK0 K X345 (pc' := 478) (argsL := [.ref a211, .ref a3, .int (12 : Int32), .int q, .int w]) (rest := []) 0 at_475 rfl (hw _ (List.mem_of_getElem? (i := 7) rfl)) (hw _ (List.mem_of_getElem? (i := 8) rfl)) (hw _ (List.mem_of_getElem? (i := 3) rfl)) (hw _ (List.mem_of_getElem? (i := 9) rfl)) (by decide) (rm_step l Z a0 hw a211 a3 (12 : Int32) q w 12 t u (runS f263 f207 t u 12) f207 h346 n0 X345.z na215 A349 f348 ne_a3_a211 rfl (by decide) hq hw') (by decide) (by decide) (by decide) (by decide) (lenOf pd_2 rfl) rfl rfl (Nat.le_of_ble_eq_true rfl) (fun T351 h353 X352 Kp354 hP350 => ?_)
  have f355 := AN.keep f348 Kp354 (ninS ne_a3_a211 nin0)
  have A356 : AL Z h353 a211 6 (runS f263 f207 t u 13) := hP350
  refine g_aload K X352 (pc' := 480) at_478 rfl rfl rfl ?_
  refine g_aload K X352 (pc' := 482) at_480 rfl rfl rfl ?_
  refine g_bipush K X352 (pc' := 484) (v := (13 : Int32)) at_482 rfl rfl ?_
  refine g_iload K X352 (pc' := 486) at_484 rfl rfl ?_
  refine g_iload K X352 (pc' := 488) at_486 rfl rfl ?_
  refine g_callSK0 K X352 (pc' := 491) (argsL := [.ref a211, .ref a3, .int (13 : Int32), .int q, .int w]) (rest := []) 0 at_488 rfl (hw _ (List.mem_of_getElem? (i := 7) rfl)) (hw _ (List.mem_of_getElem? (i := 8) rfl)) (hw _ (List.mem_of_getElem? (i := 3) rfl)) (hw _ (List.mem_of_getElem? (i := 9) rfl)) (by decide) (rm_step l Z a0 hw a211 a3 (13 : Int32) q w 13 t u (runS f263 f207 t u 13) f207 h353 n0 X352.z na215 A356 f355 ne_a3_a211 rfl (by decide) hq hw') (by decide) (by decide) (by decide) (by decide) (lenOf pd_2 rfl) rfl rfl (Nat.le_of_ble_eq_true rfl) (fun T358 h360 X359 Kp361 hP357 => ?_)
  have f362 := AN.keep f355 Kp361 (ninS ne_a3_a211 nin0)
  have A363 : AL Z h360 a211 6 (runS f263 f207 t u 14) := hP357
  refine g_aload K X359 (pc' := 493) at_491 rfl rfl rfl ?_
  refine g_aload K X359 (pc' := 495) at_493 rfl rfl rfl ?_
  refine g_bipush K X359 (pc' := 497) (v := (14 : Int32)) at_495 rfl rfl ?_
  refine g_iload K X359 (pc' := 499) at_497 rfl rfl ?_
  refine g_iload K X359 (pc' := 501) at_499 rfl rfl ?_
  refine g_callSK0 K X359 (pc' := 504) (argsL := [.ref a211, .ref a3, .int (14 : Int32), .int q, .int w]) (rest := []) 0 at_501 rfl (hw _ (List.mem_of_getElem? (i := 7) rfl)) (hw _ (List.mem_of_getElem? (i := 8) rfl)) (hw _ (List.mem_of_getElem? (i := 3) rfl)) (hw _ (List.mem_of_getElem? (i := 9) rfl)) (by decide) (rm_step l Z a0 hw a211 a3 (14 : Int32) q w 14 t u (runS f263 f207 t u 14) f207 h360 n0 X359.z na215 A363 f362 ne_a3_a211 rfl (by decide) hq hw') (by decide) (by decide) (by decide) (by decide) (lenOf pd_2 rfl) rfl rfl (Nat.le_of_ble_eq_true rfl) (fun T365 h367 X366 Kp368 hP364 => ?_)
  have f369 := AN.keep f362 Kp368 (ninS ne_a3_a211 nin0)
  have A370 : AL Z h367 a211 6 (runS f263 f207 t u 15) := hP364
  refine g_aload K X366 (pc' := 506) at_504 rfl rfl rfl ?_
  refine g_aload K X366 (pc' := 508) at_506 rfl rfl rfl ?_
  refine g_bipush K X366 (pc' := 510) (v := (15 : Int32)) at_508 rfl rfl ?_
  refine g_iload K X366 (pc' := 512) at_510 rfl rfl ?_
  refine g_iload K X366 (pc' := 514) at_512 rfl rfl ?_
  refine g_callSK0 K X366 (pc' := 517) (argsL := [.ref a211, .ref a3, .int (15 : Int32), .int q, .int w]) (rest := []) 0 at_514 rfl (hw _ (List.mem_of_getElem? (i := 7) rfl)) (hw _ (List.mem_of_getElem? (i := 8) rfl)) (hw _ (List.mem_of_getElem? (i := 3) rfl)) (hw _ (List.mem_of_getElem? (i := 9) rfl)) (by decide) (rm_step l Z a0 hw a211 a3 (15 : Int32) q w 15 t u (runS f263 f207 t u 15) f207 h367 n0 X366.z na215 A370 f369 ne_a3_a211 rfl (by decide) hq hw') (by decide) (by decide) (by decide) (by decide) (lenOf pd_2 rfl) rfl rfl (Nat.le_of_ble_eq_true rfl) (fun T372 h374 X373 Kp375 hP371 => ?_)
  have f376 := AN.keep f369 Kp375 (ninS ne_a3_a211 nin0)
  have A377 : AL Z h374 a211 6 (runS f263 f207 t u 16) := hP371
  refine g_aload K X373 (pc' := 519) at_517 rfl rfl rfl ?_
  refine g_aload K X373 (pc' := 521) at_519 rfl rfl rfl ?_
  refine g_bipush K X373 (pc' := 523) (v := (16 : Int32)) at_521 rfl rfl ?_
  refine g_iload K X373 (pc' := 525) at_523 rfl rfl ?_
  refine g_iload K X373 (pc' := 527) at_525 rfl rfl ?_
  refine g_callSK0 K X373 (pc' := 530) (argsL := [.ref a211, .ref a3, .int (16 : Int32), .int q, .int w]) (rest := []) 0 at_527 rfl (hw _ (List.mem_of_getElem? (i := 7) rfl)) (hw _ (List.mem_of_getElem? (i := 8) rfl)) (hw _ (List.mem_of_getElem? (i := 3) rfl)) (hw _ (List.mem_of_getElem? (i := 9) rfl)) (by decide) (rm_step l Z a0 hw a211 a3 (16 : Int32) q w 16 t u (runS f263 f207 t u 16) f207 h374 n0 X373.z na215 A377 f376 ne_a3_a211 rfl (by decide) hq hw') (by decide) (by decide) (by decide) (by decide) (lenOf pd_2 rfl) rfl rfl (Nat.le_of_ble_eq_true rfl) (fun T379 h381 X380 Kp382 hP378 => ?_)
  have f383 := AN.keep f376 Kp382 (ninS ne_a3_a211 nin0)
  have A384 : AL Z h381 a211 6 (runS f263 f207 t u 17) := hP378
  refine g_aload K X380 (pc' := 532) at_530 rfl rfl rfl ?_
  refine g_aload K X380 (pc' := 534) at_532 rfl rfl rfl ?_
  refine g_bipush K X380 (pc' := 536) (v := (17 : Int32)) at_534 rfl rfl ?_
  refine g_iload K X380 (pc' := 538) at_536 rfl rfl ?_
  refine g_iload K X380 (pc' := 540) at_538 rfl rfl ?_
  refine g_callSK0 K X380 (pc' := 543) (argsL := [.ref a211, .ref a3, .int (17 : Int32), .int q, .int w]) (rest := []) 0 at_540 rfl (hw _ (List.mem_of_getElem? (i := 7) rfl)) (hw _ (List.mem_of_getElem? (i := 8) rfl)) (hw _ (List.mem_of_getElem? (i := 3) rfl)) (hw _ (List.mem_of_getElem? (i := 9) rfl)) (by decide) (rm_step l Z a0 hw a211 a3 (17 : Int32) q w 17 t u (runS f263 f207 t u 17) f207 h381 n0 X380.z na215 A384 f383 ne_a3_a211 rfl (by decide) hq hw') (by decide) (by decide) (by decide) (by decide) (lenOf pd_2 rfl) rfl rfl (Nat.le_of_ble_eq_true rfl) (fun T386 h388 X387 Kp389 hP385 => ?_)
  have f390 := AN.keep f383 Kp389 (ninS ne_a3_a211 nin0)
  have A391 : AL Z h388 a211 6 (runS f263 f207 t u 18) := hP385
  refine g_aload K X387 (pc' := 545) at_543 rfl rfl rfl ?_
  refine g_aload K X387 (pc' := 547) at_545 rfl rfl rfl ?_
  refine g_bipush K X387 (pc' := 549) (v := (18 : Int32)) at_547 rfl rfl ?_
  refine g_iload K X387 (pc' := 551) at_549 rfl rfl ?_
  refine g_iload K X387 (pc' := 553) at_551 rfl rfl ?_
  refine g_callSK0 K X387 (pc' := 556) (argsL := [.ref a211, .ref a3, .int (18 : Int32), .int q, .int w]) (rest := []) 0 at_553 rfl (hw _ (List.mem_of_getElem? (i := 7) rfl)) (hw _ (List.mem_of_getElem? (i := 8) rfl)) (hw _ (List.mem_of_getElem? (i := 3) rfl)) (hw _ (List.mem_of_getElem? (i := 9) rfl)) (by decide) (rm_step l Z a0 hw a211 a3 (18 : Int32) q w 18 t u (runS f263 f207 t u 18) f207 h388 n0 X387.z na215 A391 f390 ne_a3_a211 rfl (by decide) hq hw') (by decide) (by decide) (by decide) (by decide) (lenOf pd_2 rfl) rfl rfl (Nat.le_of_ble_eq_true rfl) (fun T393 h395 X394 Kp396 hP392 => ?_)
  have f397 := AN.keep f390 Kp396 (ninS ne_a3_a211 nin0)
  have A398 : AL Z h395 a211 6 (runS f263 f207 t u 19) := hP392
  refine g_aload K X394 (pc' := 558) at_556 rfl rfl rfl ?_
  refine g_aload K X394 (pc' := 560) at_558 rfl rfl rfl ?_
  refine g_bipush K X394 (pc' := 562) (v := (19 : Int32)) at_560 rfl rfl ?_
  refine g_iload K X394 (pc' := 564) at_562 rfl rfl ?_
  refine g_iload K X394 (pc' := 566) at_564 rfl rfl ?_
  refine g_callSK0 K X394 (pc' := 569) (argsL := [.ref a211, .ref a3, .int (19 : Int32), .int q, .int w]) (rest := []) 0 at_566 rfl (hw _ (List.mem_of_getElem? (i := 7) rfl)) (hw _ (List.mem_of_getElem? (i := 8) rfl)) (hw _ (List.mem_of_getElem? (i := 3) rfl)) (hw _ (List.mem_of_getElem? (i := 9) rfl)) (by decide) (rm_step l Z a0 hw a211 a3 (19 : Int32) q w 19 t u (runS f263 f207 t u 19) f207 h395 n0 X394.z na215 A398 f397 ne_a3_a211 rfl (by decide) hq hw') (by decide) (by decide) (by decide) (by decide) (lenOf pd_2 rfl) rfl rfl (Nat.le_of_ble_eq_true rfl) (fun T400 h402 X401 Kp403 hP399 => ?_)
  have f404 := AN.keep f397 Kp403 (ninS ne_a3_a211 nin0)
  have A405 : AL Z h402 a211 6 (runS f263 f207 t u 20) := hP399
  refine g_aload K X401 (pc' := 571) at_569 rfl rfl rfl ?_
  refine g_iconst K X401 (pc' := 572) (v := (0 : Int32)) at_571 rfl rfl ?_
  refine g_laload K X401 (pc' := 573) (i := 0) at_572 rfl A405 rfl (by decide) ?_
  refine g_lconst K X401 (pc' := 574) (v := (1 : Int64)) at_573 rfl rfl ?_
  refine g_lcmp_ne K X401 (pc1 := 575) (pc' := 602) (pc'' := 578) ((runS f263 f207 t u 20) 0).toInt 1 at_574 rfl at_575 (by decide) rfl rfl rfl ?_ ?_
  · intro b575
    refine g_iconst K X401 (pc' := 603) (v := (0 : Int32)) at_602 rfl rfl ?_
    refine g_istore K X401 (pc' := 605) (L' := #[.val (.long p1), .second, .val (.long p2), .second, .val (.int p3), .val (.int p4), .val (.ref a3), .val (.int q), .val (.int w), .val (.ref a211), .val (.int (0 : Int32)), .unset, .unset, .unset, .unset]) at_603 rfl rfl ?_
    refine g_new K X401 (pc' := 608) at_605 rfl (hw _ (List.mem_of_getElem? (i := 10) rfl)) (hw _ (List.mem_of_getElem? (i := 11) rfl)) (hw _ (List.mem_of_getElem? (i := 12) rfl)) (by decide) (by decide) (fun T406 h407 a408 X409 E410 ga411 na412 A413 Dn414 => ?_)
    have ne_a3_a408 : a3 ≠ a408 := Nat.ne_of_lt (by rw [ga411]; exact f404.lt)
    have ne_a211_a408 : a211 ≠ a408 := Nat.ne_of_lt (by rw [ga411]; exact A405.lt)
    have f415 := f404.ext E410
    have f416 := A405.ext E410
    have F417 := Dn414 (Or.inl (hw _ (List.mem_of_getElem? (i := 27) rfl))) (ty := .long) (by decide)
    have F417 : Fld Z h407 a408 "com/example/benchwright/benchwright/data/DecimalText$Plain" "digits" "J" (.long (0 : Int64)) := F417
    have F418 := Dn414 (Or.inl (hw _ (List.mem_of_getElem? (i := 29) rfl))) (ty := .int) (by decide)
    have F418 : Fld Z h407 a408 "com/example/benchwright/benchwright/data/DecimalText$Plain" "scale" "I" (.int (0 : Int32)) := F418
    refine g_dup K X409 (pc' := 609) at_608 rfl rfl ?_
    refine g_specialK0 K X409 (pc' := 612) (a := a408) (argsL := []) (rest := [.ref a408]) 1 at_609 rfl (hw _ (List.mem_of_getElem? (i := 13) rfl)) (hw _ (List.mem_of_getElem? (i := 14) rfl)) (hw _ (List.mem_of_getElem? (i := 12) rfl)) (hw _ (List.mem_of_getElem? (i := 15) rfl)) rfl (by decide) (rm_init l Z a0 hw a408 h407 n0 X409.z) (by decide) (by decide) (by decide) (by decide) (lenOf pd_3 rfl) rfl rfl (Nat.le_of_ble_eq_true rfl) (fun T419 h421 X420 Kp422 _ => ?_)
    have f423 := AN.keep f415 Kp422 nin0
    have f424 := AL.keep f416 Kp422 nin0
    have f425 := Exa.keep A413 Kp422
    have f426 := Fld.keep F417 Kp422 nin0
    have f427 := Fld.keep F418 Kp422 nin0
    refine g_astore K X420 (pc' := 614) (L' := #[.val (.long p1), .second, .val (.long p2), .second, .val (.int p3), .val (.int p4), .val (.ref a3), .val (.int q), .val (.int w), .val (.ref a211), .val (.int (0 : Int32)), .val (.ref a408), .unset, .unset, .unset]) at_612 rfl rfl rfl ?_
    refine g_aload K X420 (pc' := 616) at_614 rfl rfl rfl ?_
    refine g_iload K X420 (pc' := 618) at_616 rfl rfl ?_
    refine g_iload K X420 (pc' := 620) at_618 rfl rfl ?_
    refine g_aload K X420 (pc' := 622) at_620 rfl rfl rfl ?_
    refine g_callSKI K X420 (pc' := 625) (argsL := [.ref a3, .int q, .int w, .ref a408]) (rest := []) 0 at_622 rfl (hw _ (List.mem_of_getElem? (i := 19) rfl)) (hw _ (List.mem_of_getElem? (i := 20) rfl)) (hw _ (List.mem_of_getElem? (i := 21) rfl)) (hw _ (List.mem_of_getElem? (i := 22) rfl)) (by decide) (rm_read l Z a0 hw a3 a408 q w t u f263 f207 0 0 h421 n0 X420.z na412 ⟨f425, f426, f427⟩ f423 hrng hb ne_a3_a408 hq hw' htu hu20) (by decide) (by decide) (by decide) (by decide) (lenOf pd_4 rfl) rfl rfl (Nat.le_of_ble_eq_true rfl) (fun r T429 h431 X430 Kp432 hP428 => ?_)
    have f433 := AN.keep f423 Kp432 (ninS ne_a3_a408 nin0)
    have f434 := AL.keep f424 Kp432 (ninS ne_a211_a408 nin0)
    have f435 := Exa.keep f425 Kp432
    obtain ⟨dg, sc, ⟨e1, u1, u2⟩, hR⟩ := hP428
    refine g_istore K X430 (pc' := 627) (L' := #[.val (.long p1), .second, .val (.long p2), .second, .val (.int p3), .val (.int p4), .val (.ref a3), .val (.int q), .val (.int w), .val (.ref a211), .val (.int (0 : Int32)), .val (.ref a408), .val (.int r), .unset, .unset]) at_625 rfl rfl ?_
    refine g_iload K X430 (pc' := 629) at_627 rfl rfl ?_
    refine g_iload K X430 (pc' := 631) at_629 rfl rfl ?_
    refine g_icmp_eq K X430 (pc' := 636) (pc'' := 634) r.toInt 0 at_631 (by decide) rfl rfl rfl ?_ ?_
    · intro b631
      refine g_iload K X430 (pc' := 638) at_636 rfl rfl ?_
      refine g_if_ne K X430 (pc' := 643) (pc'' := 641) r.toInt at_638 (by decide) rfl rfl ?_ ?_
      · intro b638
        have rp : r.toInt = 1 ∧ ((runS f263 f207 t u 20) 0).toInt = 1 ∧ 1 ≤ ((runS f263 f207 t u 20) 1).toInt ∧ ((runS f263 f207 t u 20) 1).toInt ≤ 18 ∧ (((runS f263 f207 t u 20) 5).toInt = 1 → dg = -((runS f263 f207 t u 20) 3)) ∧ (((runS f263 f207 t u 20) 5).toInt ≠ 1 → dg = (runS f263 f207 t u 20) 3) ∧ sc.toInt = ((runS f263 f207 t u 20) 4).toInt := by rcases hR with h1 | h1 <;> first | exact h1 | exact absurd h1.1 b638
        refine g_aload K X430 (pc' := 645) at_643 rfl rfl rfl ?_
        refine g_iconst K X430 (pc' := 646) (v := (5 : Int32)) at_645 rfl rfl ?_
        refine g_laload K X430 (pc' := 647) (i := 5) at_646 rfl f434 rfl (by decide) ?_
        refine g_lconst K X430 (pc' := 648) (v := (1 : Int64)) at_647 rfl rfl ?_
        refine g_lcmp_ne K X430 (pc1 := 649) (pc' := 660) (pc'' := 652) ((runS f263 f207 t u 20) 5).toInt 1 at_648 rfl at_649 (by decide) rfl rfl rfl ?_ ?_
        · intro b649
          refine g_aload K X430 (pc' := 662) at_660 rfl rfl rfl ?_
          refine g_iconst K X430 (pc' := 663) (v := (3 : Int32)) at_662 rfl rfl ?_
          refine g_laload K X430 (pc' := 664) (i := 3) at_663 rfl f434 rfl (by decide) ?_
          refine g_lstore K X430 (pc' := 666) (L' := #[.val (.long p1), .second, .val (.long p2), .second, .val (.int p3), .val (.int p4), .val (.ref a3), .val (.int q), .val (.int w), .val (.ref a211), .val (.int (0 : Int32)), .val (.ref a408), .val (.int r), .val (.long ((runS f263 f207 t u 20) 3)), .second]) at_664 rfl rfl ?_
          refine g_aload K X430 (pc' := 668) at_666 rfl rfl rfl ?_
          refine g_virtualJ K X430 (pc' := 671) (a := a408) (argsL := []) (rest := []) 0 at_668 rfl (hw _ (List.mem_of_getElem? (i := 34) rfl)) (hw _ (List.mem_of_getElem? (i := 35) rfl)) (hw _ (List.mem_of_getElem? (i := 37) rfl)) (hw _ (List.mem_of_getElem? (i := 36) rfl)) (hw _ (List.mem_of_getElem? (i := 12) rfl)) (hw _ (List.mem_of_getElem? (i := 38) rfl)) (by decide) e1 (rm_digits l Z a0 hw a408 dg sc h431 n0 X430.z ⟨e1, u1, u2⟩) (by decide) (by decide) (by decide) (by decide) (lenOf pd_5 rfl) rfl rfl (Nat.le_of_ble_eq_true rfl) (fun r437 T438 X439 hP436 => ?_)
          refine g_lload K X439 (pc' := 673) at_671 rfl rfl ?_
          refine g_lcmp_ne K X439 (pc1 := 674) (pc' := 695) (pc'' := 677) r437.toInt ((runS f263 f207 t u 20) 3).toInt at_673 rfl at_674 (by decide) rfl rfl rfl ?_ ?_
          · intro b674
            exact absurd (congrArg Int64.toInt (hP436.trans (rp.2.2.2.2.2.1 b649))) b674
          · intro b674
            refine g_aload K X439 (pc' := 679) at_677 rfl rfl rfl ?_
            refine g_virtualI K X439 (pc' := 682) (a := a408) (argsL := []) (rest := []) 0 at_679 rfl (hw _ (List.mem_of_getElem? (i := 40) rfl)) (hw _ (List.mem_of_getElem? (i := 41) rfl)) (hw _ (List.mem_of_getElem? (i := 43) rfl)) (hw _ (List.mem_of_getElem? (i := 42) rfl)) (hw _ (List.mem_of_getElem? (i := 12) rfl)) (hw _ (List.mem_of_getElem? (i := 44) rfl)) (by decide) e1 (rm_scale l Z a0 hw a408 dg sc h431 n0 X439.z ⟨e1, u1, u2⟩) (by decide) (by decide) (by decide) (by decide) (lenOf pd_6 rfl) rfl rfl (Nat.le_of_ble_eq_true rfl) (fun r441 T442 X443 hP440 => ?_)
            refine g_i2l K X443 (pc' := 683) at_682 rfl ?_
            refine g_aload K X443 (pc' := 685) at_683 rfl rfl rfl ?_
            refine g_iconst K X443 (pc' := 686) (v := (4 : Int32)) at_685 rfl rfl ?_
            refine g_laload K X443 (pc' := 687) (i := 4) at_686 rfl f434 rfl (by decide) ?_
            refine g_lcmp_ne K X443 (pc1 := 688) (pc' := 695) (pc'' := 691) ((r441).toInt64).toInt ((runS f263 f207 t u 20) 4).toInt at_687 rfl at_688 (by decide) rfl rfl rfl ?_ ?_
            · intro b688
              exact absurd (by rw [hP440, c_i2l]; exact rp.2.2.2.2.2.2) b688
            · intro b688
              refine g_iconst K X443 (pc' := 692) (v := (1 : Int32)) at_691 rfl rfl ?_
              refine g_goto K X443 (pc' := 696) at_692 (by decide) ?_
              exact g_retN K X443 at_696 (by simp) (by decide) (by decide) rfl
        · intro b649
          refine g_aload K X430 (pc' := 654) at_652 rfl rfl rfl ?_
          refine g_iconst K X430 (pc' := 655) (v := (3 : Int32)) at_654 rfl rfl ?_
          refine g_laload K X430 (pc' := 656) (i := 3) at_655 rfl f434 rfl (by decide) ?_
          refine g_lneg K X430 (pc' := 657) at_656 rfl ?_
          refine g_goto K X430 (pc' := 664) at_657 (by decide) ?_
          refine g_lstore K X430 (pc' := 666) (L' := #[.val (.long p1), .second, .val (.long p2), .second, .val (.int p3), .val (.int p4), .val (.ref a3), .val (.int q), .val (.int w), .val (.ref a211), .val (.int (0 : Int32)), .val (.ref a408), .val (.int r), .val (.long (-((runS f263 f207 t u 20) 3))), .second]) at_664 rfl rfl ?_
          refine g_aload K X430 (pc' := 668) at_666 rfl rfl rfl ?_
          refine g_virtualJ K X430 (pc' := 671) (a := a408) (argsL := []) (rest := []) 0 at_668 rfl (hw _ (List.mem_of_getElem? (i := 34) rfl)) (hw _ (List.mem_of_getElem? (i := 35) rfl)) (hw _ (List.mem_of_getElem? (i := 37) rfl)) (hw _ (List.mem_of_getElem? (i := 36) rfl)) (hw _ (List.mem_of_getElem? (i := 12) rfl)) (hw _ (List.mem_of_getElem? (i := 38) rfl)) (by decide) e1 (rm_digits l Z a0 hw a408 dg sc h431 n0 X430.z ⟨e1, u1, u2⟩) (by decide) (by decide) (by decide) (by decide) (lenOf pd_5 rfl) rfl rfl (Nat.le_of_ble_eq_true rfl) (fun r445 T446 X447 hP444 => ?_)
          refine g_lload K X447 (pc' := 673) at_671 rfl rfl ?_
          refine g_lcmp_ne K X447 (pc1 := 674) (pc' := 695) (pc'' := 677) r445.toInt (-((runS f263 f207 t u 20) 3)).toInt at_673 rfl at_674 (by decide) rfl rfl rfl ?_ ?_
          · intro b674
            exact absurd (congrArg Int64.toInt (hP444.trans (rp.2.2.2.2.1 b649))) b674
          · intro b674
            refine g_aload K X447 (pc' := 679) at_677 rfl rfl rfl ?_
            refine g_virtualI K X447 (pc' := 682) (a := a408) (argsL := []) (rest := []) 0 at_679 rfl (hw _ (List.mem_of_getElem? (i := 40) rfl)) (hw _ (List.mem_of_getElem? (i := 41) rfl)) (hw _ (List.mem_of_getElem? (i := 43) rfl)) (hw _ (List.mem_of_getElem? (i := 42) rfl)) (hw _ (List.mem_of_getElem? (i := 12) rfl)) (hw _ (List.mem_of_getElem? (i := 44) rfl)) (by decide) e1 (rm_scale l Z a0 hw a408 dg sc h431 n0 X447.z ⟨e1, u1, u2⟩) (by decide) (by decide) (by decide) (by decide) (lenOf pd_6 rfl) rfl rfl (Nat.le_of_ble_eq_true rfl) (fun r449 T450 X451 hP448 => ?_)
            refine g_i2l K X451 (pc' := 683) at_682 rfl ?_
            refine g_aload K X451 (pc' := 685) at_683 rfl rfl rfl ?_
            refine g_iconst K X451 (pc' := 686) (v := (4 : Int32)) at_685 rfl rfl ?_
            refine g_laload K X451 (pc' := 687) (i := 4) at_686 rfl f434 rfl (by decide) ?_
            refine g_lcmp_ne K X451 (pc1 := 688) (pc' := 695) (pc'' := 691) ((r449).toInt64).toInt ((runS f263 f207 t u 20) 4).toInt at_687 rfl at_688 (by decide) rfl rfl rfl ?_ ?_
            · intro b688
              exact absurd (by rw [hP448, c_i2l]; exact rp.2.2.2.2.2.2) b688
            · intro b688
              refine g_iconst K X451 (pc' := 692) (v := (1 : Int32)) at_691 rfl rfl ?_
              refine g_goto K X451 (pc' := 696) at_692 (by decide) ?_
              exact g_retN K X451 at_696 (by simp) (by decide) (by decide) rfl
      · intro b638
        refine g_iconst K X430 (pc' := 642) (v := (1 : Int32)) at_641 rfl rfl ?_
        exact g_retN K X430 at_642 (by simp) (by decide) (by decide) rfl
    · intro b631
      unfold RPN at hR; omega
  · intro b575
    refine g_aload K X401 (pc' := 580) at_578 rfl rfl rfl ?_
    refine g_iconst K X401 (pc' := 581) (v := (1 : Int32)) at_580 rfl rfl ?_
    refine g_laload K X401 (pc' := 582) (i := 1) at_581 rfl A405 rfl (by decide) ?_
    refine g_lconst K X401 (pc' := 583) (v := (1 : Int64)) at_582 rfl rfl ?_
    refine g_lcmp_lt K X401 (pc1 := 584) (pc' := 602) (pc'' := 587) ((runS f263 f207 t u 20) 1).toInt 1 at_583 rfl at_584 (by decide) rfl rfl rfl ?_ ?_
    · intro b584
      refine g_iconst K X401 (pc' := 603) (v := (0 : Int32)) at_602 rfl rfl ?_
      refine g_istore K X401 (pc' := 605) (L' := #[.val (.long p1), .second, .val (.long p2), .second, .val (.int p3), .val (.int p4), .val (.ref a3), .val (.int q), .val (.int w), .val (.ref a211), .val (.int (0 : Int32)), .unset, .unset, .unset, .unset]) at_603 rfl rfl ?_
      refine g_new K X401 (pc' := 608) at_605 rfl (hw _ (List.mem_of_getElem? (i := 10) rfl)) (hw _ (List.mem_of_getElem? (i := 11) rfl)) (hw _ (List.mem_of_getElem? (i := 12) rfl)) (by decide) (by decide) (fun T452 h453 a454 X455 E456 ga457 na458 A459 Dn460 => ?_)
      have ne_a3_a454 : a3 ≠ a454 := Nat.ne_of_lt (by rw [ga457]; exact f404.lt)
      have ne_a211_a454 : a211 ≠ a454 := Nat.ne_of_lt (by rw [ga457]; exact A405.lt)
      have f461 := f404.ext E456
      have f462 := A405.ext E456
      have F463 := Dn460 (Or.inl (hw _ (List.mem_of_getElem? (i := 27) rfl))) (ty := .long) (by decide)
      have F463 : Fld Z h453 a454 "com/example/benchwright/benchwright/data/DecimalText$Plain" "digits" "J" (.long (0 : Int64)) := F463
      have F464 := Dn460 (Or.inl (hw _ (List.mem_of_getElem? (i := 29) rfl))) (ty := .int) (by decide)
      have F464 : Fld Z h453 a454 "com/example/benchwright/benchwright/data/DecimalText$Plain" "scale" "I" (.int (0 : Int32)) := F464
      refine g_dup K X455 (pc' := 609) at_608 rfl rfl ?_
      refine g_specialK0 K X455 (pc' := 612) (a := a454) (argsL := []) (rest := [.ref a454]) 1 at_609 rfl (hw _ (List.mem_of_getElem? (i := 13) rfl)) (hw _ (List.mem_of_getElem? (i := 14) rfl)) (hw _ (List.mem_of_getElem? (i := 12) rfl)) (hw _ (List.mem_of_getElem? (i := 15) rfl)) rfl (by decide) (rm_init l Z a0 hw a454 h453 n0 X455.z) (by decide) (by decide) (by decide) (by decide) (lenOf pd_3 rfl) rfl rfl (Nat.le_of_ble_eq_true rfl) (fun T465 h467 X466 Kp468 _ => ?_)
      have f469 := AN.keep f461 Kp468 nin0
      have f470 := AL.keep f462 Kp468 nin0
      have f471 := Exa.keep A459 Kp468
      have f472 := Fld.keep F463 Kp468 nin0
      have f473 := Fld.keep F464 Kp468 nin0
      refine g_astore K X466 (pc' := 614) (L' := #[.val (.long p1), .second, .val (.long p2), .second, .val (.int p3), .val (.int p4), .val (.ref a3), .val (.int q), .val (.int w), .val (.ref a211), .val (.int (0 : Int32)), .val (.ref a454), .unset, .unset, .unset]) at_612 rfl rfl rfl ?_
      refine g_aload K X466 (pc' := 616) at_614 rfl rfl rfl ?_
      refine g_iload K X466 (pc' := 618) at_616 rfl rfl ?_
      refine g_iload K X466 (pc' := 620) at_618 rfl rfl ?_
      refine g_aload K X466 (pc' := 622) at_620 rfl rfl rfl ?_
      refine g_callSKI K X466 (pc' := 625) (argsL := [.ref a3, .int q, .int w, .ref a454]) (rest := []) 0 at_622 rfl (hw _ (List.mem_of_getElem? (i := 19) rfl)) (hw _ (List.mem_of_getElem? (i := 20) rfl)) (hw _ (List.mem_of_getElem? (i := 21) rfl)) (hw _ (List.mem_of_getElem? (i := 22) rfl)) (by decide) (rm_read l Z a0 hw a3 a454 q w t u f263 f207 0 0 h467 n0 X466.z na458 ⟨f471, f472, f473⟩ f469 hrng hb ne_a3_a454 hq hw' htu hu20) (by decide) (by decide) (by decide) (by decide) (lenOf pd_4 rfl) rfl rfl (Nat.le_of_ble_eq_true rfl) (fun r T475 h477 X476 Kp478 hP474 => ?_)
      have f479 := AN.keep f469 Kp478 (ninS ne_a3_a454 nin0)
      have f480 := AL.keep f470 Kp478 (ninS ne_a211_a454 nin0)
      have f481 := Exa.keep f471 Kp478
      obtain ⟨dg, sc, ⟨e1, u1, u2⟩, hR⟩ := hP474
      refine g_istore K X476 (pc' := 627) (L' := #[.val (.long p1), .second, .val (.long p2), .second, .val (.int p3), .val (.int p4), .val (.ref a3), .val (.int q), .val (.int w), .val (.ref a211), .val (.int (0 : Int32)), .val (.ref a454), .val (.int r), .unset, .unset]) at_625 rfl rfl ?_
      refine g_iload K X476 (pc' := 629) at_627 rfl rfl ?_
      refine g_iload K X476 (pc' := 631) at_629 rfl rfl ?_
      refine g_icmp_eq K X476 (pc' := 636) (pc'' := 634) r.toInt 0 at_631 (by decide) rfl rfl rfl ?_ ?_
      · intro b631
        refine g_iload K X476 (pc' := 638) at_636 rfl rfl ?_
        refine g_if_ne K X476 (pc' := 643) (pc'' := 641) r.toInt at_638 (by decide) rfl rfl ?_ ?_
        · intro b638
          have rp : r.toInt = 1 ∧ ((runS f263 f207 t u 20) 0).toInt = 1 ∧ 1 ≤ ((runS f263 f207 t u 20) 1).toInt ∧ ((runS f263 f207 t u 20) 1).toInt ≤ 18 ∧ (((runS f263 f207 t u 20) 5).toInt = 1 → dg = -((runS f263 f207 t u 20) 3)) ∧ (((runS f263 f207 t u 20) 5).toInt ≠ 1 → dg = (runS f263 f207 t u 20) 3) ∧ sc.toInt = ((runS f263 f207 t u 20) 4).toInt := by rcases hR with h1 | h1 <;> first | exact h1 | exact absurd h1.1 b638
          refine g_aload K X476 (pc' := 645) at_643 rfl rfl rfl ?_
          refine g_iconst K X476 (pc' := 646) (v := (5 : Int32)) at_645 rfl rfl ?_
          refine g_laload K X476 (pc' := 647) (i := 5) at_646 rfl f480 rfl (by decide) ?_
          refine g_lconst K X476 (pc' := 648) (v := (1 : Int64)) at_647 rfl rfl ?_
          refine g_lcmp_ne K X476 (pc1 := 649) (pc' := 660) (pc'' := 652) ((runS f263 f207 t u 20) 5).toInt 1 at_648 rfl at_649 (by decide) rfl rfl rfl ?_ ?_
          · intro b649
            refine g_aload K X476 (pc' := 662) at_660 rfl rfl rfl ?_
            refine g_iconst K X476 (pc' := 663) (v := (3 : Int32)) at_662 rfl rfl ?_
            refine g_laload K X476 (pc' := 664) (i := 3) at_663 rfl f480 rfl (by decide) ?_
            refine g_lstore K X476 (pc' := 666) (L' := #[.val (.long p1), .second, .val (.long p2), .second, .val (.int p3), .val (.int p4), .val (.ref a3), .val (.int q), .val (.int w), .val (.ref a211), .val (.int (0 : Int32)), .val (.ref a454), .val (.int r), .val (.long ((runS f263 f207 t u 20) 3)), .second]) at_664 rfl rfl ?_
            refine g_aload K X476 (pc' := 668) at_666 rfl rfl rfl ?_
            refine g_virtualJ K X476 (pc' := 671) (a := a454) (argsL := []) (rest := []) 0 at_668 rfl (hw _ (List.mem_of_getElem? (i := 34) rfl)) (hw _ (List.mem_of_getElem? (i := 35) rfl)) (hw _ (List.mem_of_getElem? (i := 37) rfl)) (hw _ (List.mem_of_getElem? (i := 36) rfl)) (hw _ (List.mem_of_getElem? (i := 12) rfl)) (hw _ (List.mem_of_getElem? (i := 38) rfl)) (by decide) e1 (rm_digits l Z a0 hw a454 dg sc h477 n0 X476.z ⟨e1, u1, u2⟩) (by decide) (by decide) (by decide) (by decide) (lenOf pd_5 rfl) rfl rfl (Nat.le_of_ble_eq_true rfl) (fun r483 T484 X485 hP482 => ?_)
            refine g_lload K X485 (pc' := 673) at_671 rfl rfl ?_
            refine g_lcmp_ne K X485 (pc1 := 674) (pc' := 695) (pc'' := 677) r483.toInt ((runS f263 f207 t u 20) 3).toInt at_673 rfl at_674 (by decide) rfl rfl rfl ?_ ?_
            · intro b674
              exact absurd (congrArg Int64.toInt (hP482.trans (rp.2.2.2.2.2.1 b649))) b674
            · intro b674
              refine g_aload K X485 (pc' := 679) at_677 rfl rfl rfl ?_
              refine g_virtualI K X485 (pc' := 682) (a := a454) (argsL := []) (rest := []) 0 at_679 rfl (hw _ (List.mem_of_getElem? (i := 40) rfl)) (hw _ (List.mem_of_getElem? (i := 41) rfl)) (hw _ (List.mem_of_getElem? (i := 43) rfl)) (hw _ (List.mem_of_getElem? (i := 42) rfl)) (hw _ (List.mem_of_getElem? (i := 12) rfl)) (hw _ (List.mem_of_getElem? (i := 44) rfl)) (by decide) e1 (rm_scale l Z a0 hw a454 dg sc h477 n0 X485.z ⟨e1, u1, u2⟩) (by decide) (by decide) (by decide) (by decide) (lenOf pd_6 rfl) rfl rfl (Nat.le_of_ble_eq_true rfl) (fun r487 T488 X489 hP486 => ?_)
              refine g_i2l K X489 (pc' := 683) at_682 rfl ?_
              refine g_aload K X489 (pc' := 685) at_683 rfl rfl rfl ?_
              refine g_iconst K X489 (pc' := 686) (v := (4 : Int32)) at_685 rfl rfl ?_
              refine g_laload K X489 (pc' := 687) (i := 4) at_686 rfl f480 rfl (by decide) ?_
              refine g_lcmp_ne K X489 (pc1 := 688) (pc' := 695) (pc'' := 691) ((r487).toInt64).toInt ((runS f263 f207 t u 20) 4).toInt at_687 rfl at_688 (by decide) rfl rfl rfl ?_ ?_
              · intro b688
                exact absurd (by rw [hP486, c_i2l]; exact rp.2.2.2.2.2.2) b688
              · intro b688
                refine g_iconst K X489 (pc' := 692) (v := (1 : Int32)) at_691 rfl rfl ?_
                refine g_goto K X489 (pc' := 696) at_692 (by decide) ?_
                exact g_retN K X489 at_696 (by simp) (by decide) (by decide) rfl
          · intro b649
            refine g_aload K X476 (pc' := 654) at_652 rfl rfl rfl ?_
            refine g_iconst K X476 (pc' := 655) (v := (3 : Int32)) at_654 rfl rfl ?_
            refine g_laload K X476 (pc' := 656) (i := 3) at_655 rfl f480 rfl (by decide) ?_
            refine g_lneg K X476 (pc' := 657) at_656 rfl ?_
            refine g_goto K X476 (pc' := 664) at_657 (by decide) ?_
            refine g_lstore K X476 (pc' := 666) (L' := #[.val (.long p1), .second, .val (.long p2), .second, .val (.int p3), .val (.int p4), .val (.ref a3), .val (.int q), .val (.int w), .val (.ref a211), .val (.int (0 : Int32)), .val (.ref a454), .val (.int r), .val (.long (-((runS f263 f207 t u 20) 3))), .second]) at_664 rfl rfl ?_
            refine g_aload K X476 (pc' := 668) at_666 rfl rfl rfl ?_
            refine g_virtualJ K X476 (pc' := 671) (a := a454) (argsL := []) (rest := []) 0 at_668 rfl (hw _ (List.mem_of_getElem? (i := 34) rfl)) (hw _ (List.mem_of_getElem? (i := 35) rfl)) (hw _ (List.mem_of_getElem? (i := 37) rfl)) (hw _ (List.mem_of_getElem? (i := 36) rfl)) (hw _ (List.mem_of_getElem? (i := 12) rfl)) (hw _ (List.mem_of_getElem? (i := 38) rfl)) (by decide) e1 (rm_digits l Z a0 hw a454 dg sc h477 n0 X476.z ⟨e1, u1, u2⟩) (by decide) (by decide) (by decide) (by decide) (lenOf pd_5 rfl) rfl rfl (Nat.le_of_ble_eq_true rfl) (fun r491 T492 X493 hP490 => ?_)
            refine g_lload K X493 (pc' := 673) at_671 rfl rfl ?_
            refine g_lcmp_ne K X493 (pc1 := 674) (pc' := 695) (pc'' := 677) r491.toInt (-((runS f263 f207 t u 20) 3)).toInt at_673 rfl at_674 (by decide) rfl rfl rfl ?_ ?_
            · intro b674
              exact absurd (congrArg Int64.toInt (hP490.trans (rp.2.2.2.2.1 b649))) b674
            · intro b674
              refine g_aload K X493 (pc' := 679) at_677 rfl rfl rfl ?_
              refine g_virtualI K X493 (pc' := 682) (a := a454) (argsL := []) (rest := []) 0 at_679 rfl (hw _ (List.mem_of_getElem? (i := 40) rfl)) (hw _ (List.mem_of_getElem? (i := 41) rfl)) (hw _ (List.mem_of_getElem? (i := 43) rfl)) (hw _ (List.mem_of_getElem? (i := 42) rfl)) (hw _ (List.mem_of_getElem? (i := 12) rfl)) (hw _ (List.mem_of_getElem? (i := 44) rfl)) (by decide) e1 (rm_scale l Z a0 hw a454 dg sc h477 n0 X493.z ⟨e1, u1, u2⟩) (by decide) (by decide) (by decide) (by decide) (lenOf pd_6 rfl) rfl rfl (Nat.le_of_ble_eq_true rfl) (fun r495 T496 X497 hP494 => ?_)
              refine g_i2l K X497 (pc' := 683) at_682 rfl ?_
              refine g_aload K X497 (pc' := 685) at_683 rfl rfl rfl ?_
              refine g_iconst K X497 (pc' := 686) (v := (4 : Int32)) at_685 rfl rfl ?_
              refine g_laload K X497 (pc' := 687) (i := 4) at_686 rfl f480 rfl (by decide) ?_
              refine g_lcmp_ne K X497 (pc1 := 688) (pc' := 695) (pc'' := 691) ((r495).toInt64).toInt ((runS f263 f207 t u 20) 4).toInt at_687 rfl at_688 (by decide) rfl rfl rfl ?_ ?_
              · intro b688
                exact absurd (by rw [hP494, c_i2l]; exact rp.2.2.2.2.2.2) b688
              · intro b688
                refine g_iconst K X497 (pc' := 692) (v := (1 : Int32)) at_691 rfl rfl ?_
                refine g_goto K X497 (pc' := 696) at_692 (by decide) ?_
                exact g_retN K X497 at_696 (by simp) (by decide) (by decide) rfl
        · intro b638
          refine g_iconst K X476 (pc' := 642) (v := (1 : Int32)) at_641 rfl rfl ?_
          exact g_retN K X476 at_642 (by simp) (by decide) (by decide) rfl
      · intro b631
        unfold RPN at hR; omega
    · intro b584
      refine g_aload K X401 (pc' := 589) at_587 rfl rfl rfl ?_
      refine g_iconst K X401 (pc' := 590) (v := (1 : Int32)) at_589 rfl rfl ?_
      refine g_laload K X401 (pc' := 591) (i := 1) at_590 rfl A405 rfl (by decide) ?_
      refine g_ldc2J K X401 (pc' := 594) (v := (18 : Int64)) at_591 rfl (hw _ (List.mem_of_getElem? (i := 32) rfl)) ?_
      refine g_lcmp_gt K X401 (pc1 := 595) (pc' := 602) (pc'' := 598) ((runS f263 f207 t u 20) 1).toInt 18 at_594 rfl at_595 (by decide) rfl rfl rfl ?_ ?_
      · intro b595
        refine g_iconst K X401 (pc' := 603) (v := (0 : Int32)) at_602 rfl rfl ?_
        refine g_istore K X401 (pc' := 605) (L' := #[.val (.long p1), .second, .val (.long p2), .second, .val (.int p3), .val (.int p4), .val (.ref a3), .val (.int q), .val (.int w), .val (.ref a211), .val (.int (0 : Int32)), .unset, .unset, .unset, .unset]) at_603 rfl rfl ?_
        refine g_new K X401 (pc' := 608) at_605 rfl (hw _ (List.mem_of_getElem? (i := 10) rfl)) (hw _ (List.mem_of_getElem? (i := 11) rfl)) (hw _ (List.mem_of_getElem? (i := 12) rfl)) (by decide) (by decide) (fun T498 h499 a500 X501 E502 ga503 na504 A505 Dn506 => ?_)
        have ne_a3_a500 : a3 ≠ a500 := Nat.ne_of_lt (by rw [ga503]; exact f404.lt)
        have ne_a211_a500 : a211 ≠ a500 := Nat.ne_of_lt (by rw [ga503]; exact A405.lt)
        have f507 := f404.ext E502
        have f508 := A405.ext E502
        have F509 := Dn506 (Or.inl (hw _ (List.mem_of_getElem? (i := 27) rfl))) (ty := .long) (by decide)
        have F509 : Fld Z h499 a500 "com/example/benchwright/benchwright/data/DecimalText$Plain" "digits" "J" (.long (0 : Int64)) := F509
        have F510 := Dn506 (Or.inl (hw _ (List.mem_of_getElem? (i := 29) rfl))) (ty := .int) (by decide)
        have F510 : Fld Z h499 a500 "com/example/benchwright/benchwright/data/DecimalText$Plain" "scale" "I" (.int (0 : Int32)) := F510
        refine g_dup K X501 (pc' := 609) at_608 rfl rfl ?_
        refine g_specialK0 K X501 (pc' := 612) (a := a500) (argsL := []) (rest := [.ref a500]) 1 at_609 rfl (hw _ (List.mem_of_getElem? (i := 13) rfl)) (hw _ (List.mem_of_getElem? (i := 14) rfl)) (hw _ (List.mem_of_getElem? (i := 12) rfl)) (hw _ (List.mem_of_getElem? (i := 15) rfl)) rfl (by decide) (rm_init l Z a0 hw a500 h499 n0 X501.z) (by decide) (by decide) (by decide) (by decide) (lenOf pd_3 rfl) rfl rfl (Nat.le_of_ble_eq_true rfl) (fun T511 h513 X512 Kp514 _ => ?_)
        have f515 := AN.keep f507 Kp514 nin0
        have f516 := AL.keep f508 Kp514 nin0
        have f517 := Exa.keep A505 Kp514
        have f518 := Fld.keep F509 Kp514 nin0
        have f519 := Fld.keep F510 Kp514 nin0
        refine g_astore K X512 (pc' := 614) (L' := #[.val (.long p1), .second, .val (.long p2), .second, .val (.int p3), .val (.int p4), .val (.ref a3), .val (.int q), .val (.int w), .val (.ref a211), .val (.int (0 : Int32)), .val (.ref a500), .unset, .unset, .unset]) at_612 rfl rfl rfl ?_
        refine g_aload K X512 (pc' := 616) at_614 rfl rfl rfl ?_
        refine g_iload K X512 (pc' := 618) at_616 rfl rfl ?_
        refine g_iload K X512 (pc' := 620) at_618 rfl rfl ?_
        refine g_aload K X512 (pc' := 622) at_620 rfl rfl rfl ?_
        refine g_callSKI K X512 (pc' := 625) (argsL := [.ref a3, .int q, .int w, .ref a500]) (rest := []) 0 at_622 rfl (hw _ (List.mem_of_getElem? (i := 19) rfl)) (hw _ (List.mem_of_getElem? (i := 20) rfl)) (hw _ (List.mem_of_getElem? (i := 21) rfl)) (hw _ (List.mem_of_getElem? (i := 22) rfl)) (by decide) (rm_read l Z a0 hw a3 a500 q w t u f263 f207 0 0 h513 n0 X512.z na504 ⟨f517, f518, f519⟩ f515 hrng hb ne_a3_a500 hq hw' htu hu20) (by decide) (by decide) (by decide) (by decide) (lenOf pd_4 rfl) rfl rfl (Nat.le_of_ble_eq_true rfl) (fun r T521 h523 X522 Kp524 hP520 => ?_)
        have f525 := AN.keep f515 Kp524 (ninS ne_a3_a500 nin0)
        have f526 := AL.keep f516 Kp524 (ninS ne_a211_a500 nin0)
        have f527 := Exa.keep f517 Kp524
        obtain ⟨dg, sc, ⟨e1, u1, u2⟩, hR⟩ := hP520
        refine g_istore K X522 (pc' := 627) (L' := #[.val (.long p1), .second, .val (.long p2), .second, .val (.int p3), .val (.int p4), .val (.ref a3), .val (.int q), .val (.int w), .val (.ref a211), .val (.int (0 : Int32)), .val (.ref a500), .val (.int r), .unset, .unset]) at_625 rfl rfl ?_
        refine g_iload K X522 (pc' := 629) at_627 rfl rfl ?_
        refine g_iload K X522 (pc' := 631) at_629 rfl rfl ?_
        refine g_icmp_eq K X522 (pc' := 636) (pc'' := 634) r.toInt 0 at_631 (by decide) rfl rfl rfl ?_ ?_
        · intro b631
          refine g_iload K X522 (pc' := 638) at_636 rfl rfl ?_
          refine g_if_ne K X522 (pc' := 643) (pc'' := 641) r.toInt at_638 (by decide) rfl rfl ?_ ?_
          · intro b638
            have rp : r.toInt = 1 ∧ ((runS f263 f207 t u 20) 0).toInt = 1 ∧ 1 ≤ ((runS f263 f207 t u 20) 1).toInt ∧ ((runS f263 f207 t u 20) 1).toInt ≤ 18 ∧ (((runS f263 f207 t u 20) 5).toInt = 1 → dg = -((runS f263 f207 t u 20) 3)) ∧ (((runS f263 f207 t u 20) 5).toInt ≠ 1 → dg = (runS f263 f207 t u 20) 3) ∧ sc.toInt = ((runS f263 f207 t u 20) 4).toInt := by rcases hR with h1 | h1 <;> first | exact h1 | exact absurd h1.1 b638
            refine g_aload K X522 (pc' := 645) at_643 rfl rfl rfl ?_
            refine g_iconst K X522 (pc' := 646) (v := (5 : Int32)) at_645 rfl rfl ?_
            refine g_laload K X522 (pc' := 647) (i := 5) at_646 rfl f526 rfl (by decide) ?_
            refine g_lconst K X522 (pc' := 648) (v := (1 : Int64)) at_647 rfl rfl ?_
            refine g_lcmp_ne K X522 (pc1 := 649) (pc' := 660) (pc'' := 652) ((runS f263 f207 t u 20) 5).toInt 1 at_648 rfl at_649 (by decide) rfl rfl rfl ?_ ?_
            · intro b649
              refine g_aload K X522 (pc' := 662) at_660 rfl rfl rfl ?_
              refine g_iconst K X522 (pc' := 663) (v := (3 : Int32)) at_662 rfl rfl ?_
              refine g_laload K X522 (pc' := 664) (i := 3) at_663 rfl f526 rfl (by decide) ?_
              refine g_lstore K X522 (pc' := 666) (L' := #[.val (.long p1), .second, .val (.long p2), .second, .val (.int p3), .val (.int p4), .val (.ref a3), .val (.int q), .val (.int w), .val (.ref a211), .val (.int (0 : Int32)), .val (.ref a500), .val (.int r), .val (.long ((runS f263 f207 t u 20) 3)), .second]) at_664 rfl rfl ?_
              refine g_aload K X522 (pc' := 668) at_666 rfl rfl rfl ?_
              refine g_virtualJ K X522 (pc' := 671) (a := a500) (argsL := []) (rest := []) 0 at_668 rfl (hw _ (List.mem_of_getElem? (i := 34) rfl)) (hw _ (List.mem_of_getElem? (i := 35) rfl)) (hw _ (List.mem_of_getElem? (i := 37) rfl)) (hw _ (List.mem_of_getElem? (i := 36) rfl)) (hw _ (List.mem_of_getElem? (i := 12) rfl)) (hw _ (List.mem_of_getElem? (i := 38) rfl)) (by decide) e1 (rm_digits l Z a0 hw a500 dg sc h523 n0 X522.z ⟨e1, u1, u2⟩) (by decide) (by decide) (by decide) (by decide) (lenOf pd_5 rfl) rfl rfl (Nat.le_of_ble_eq_true rfl) (fun r529 T530 X531 hP528 => ?_)
              refine g_lload K X531 (pc' := 673) at_671 rfl rfl ?_
              refine g_lcmp_ne K X531 (pc1 := 674) (pc' := 695) (pc'' := 677) r529.toInt ((runS f263 f207 t u 20) 3).toInt at_673 rfl at_674 (by decide) rfl rfl rfl ?_ ?_
              · intro b674
                exact absurd (congrArg Int64.toInt (hP528.trans (rp.2.2.2.2.2.1 b649))) b674
              · intro b674
                refine g_aload K X531 (pc' := 679) at_677 rfl rfl rfl ?_
                refine g_virtualI K X531 (pc' := 682) (a := a500) (argsL := []) (rest := []) 0 at_679 rfl (hw _ (List.mem_of_getElem? (i := 40) rfl)) (hw _ (List.mem_of_getElem? (i := 41) rfl)) (hw _ (List.mem_of_getElem? (i := 43) rfl)) (hw _ (List.mem_of_getElem? (i := 42) rfl)) (hw _ (List.mem_of_getElem? (i := 12) rfl)) (hw _ (List.mem_of_getElem? (i := 44) rfl)) (by decide) e1 (rm_scale l Z a0 hw a500 dg sc h523 n0 X531.z ⟨e1, u1, u2⟩) (by decide) (by decide) (by decide) (by decide) (lenOf pd_6 rfl) rfl rfl (Nat.le_of_ble_eq_true rfl) (fun r533 T534 X535 hP532 => ?_)
                refine g_i2l K X535 (pc' := 683) at_682 rfl ?_
                refine g_aload K X535 (pc' := 685) at_683 rfl rfl rfl ?_
                refine g_iconst K X535 (pc' := 686) (v := (4 : Int32)) at_685 rfl rfl ?_
                refine g_laload K X535 (pc' := 687) (i := 4) at_686 rfl f526 rfl (by decide) ?_
                refine g_lcmp_ne K X535 (pc1 := 688) (pc' := 695) (pc'' := 691) ((r533).toInt64).toInt ((runS f263 f207 t u 20) 4).toInt at_687 rfl at_688 (by decide) rfl rfl rfl ?_ ?_
                · intro b688
                  exact absurd (by rw [hP532, c_i2l]; exact rp.2.2.2.2.2.2) b688
                · intro b688
                  refine g_iconst K X535 (pc' := 692) (v := (1 : Int32)) at_691 rfl rfl ?_
                  refine g_goto K X535 (pc' := 696) at_692 (by decide) ?_
                  exact g_retN K X535 at_696 (by simp) (by decide) (by decide) rfl
            · intro b649
              refine g_aload K X522 (pc' := 654) at_652 rfl rfl rfl ?_
              refine g_iconst K X522 (pc' := 655) (v := (3 : Int32)) at_654 rfl rfl ?_
              refine g_laload K X522 (pc' := 656) (i := 3) at_655 rfl f526 rfl (by decide) ?_
              refine g_lneg K X522 (pc' := 657) at_656 rfl ?_
              refine g_goto K X522 (pc' := 664) at_657 (by decide) ?_
              refine g_lstore K X522 (pc' := 666) (L' := #[.val (.long p1), .second, .val (.long p2), .second, .val (.int p3), .val (.int p4), .val (.ref a3), .val (.int q), .val (.int w), .val (.ref a211), .val (.int (0 : Int32)), .val (.ref a500), .val (.int r), .val (.long (-((runS f263 f207 t u 20) 3))), .second]) at_664 rfl rfl ?_
              refine g_aload K X522 (pc' := 668) at_666 rfl rfl rfl ?_
              refine g_virtualJ K X522 (pc' := 671) (a := a500) (argsL := []) (rest := []) 0 at_668 rfl (hw _ (List.mem_of_getElem? (i := 34) rfl)) (hw _ (List.mem_of_getElem? (i := 35) rfl)) (hw _ (List.mem_of_getElem? (i := 37) rfl)) (hw _ (List.mem_of_getElem? (i := 36) rfl)) (hw _ (List.mem_of_getElem? (i := 12) rfl)) (hw _ (List.mem_of_getElem? (i := 38) rfl)) (by decide) e1 (rm_digits l Z a0 hw a500 dg sc h523 n0 X522.z ⟨e1, u1, u2⟩) (by decide) (by decide) (by decide) (by decide) (lenOf pd_5 rfl) rfl rfl (Nat.le_of_ble_eq_true rfl) (fun r537 T538 X539 hP536 => ?_)
              refine g_lload K X539 (pc' := 673) at_671 rfl rfl ?_
              refine g_lcmp_ne K X539 (pc1 := 674) (pc' := 695) (pc'' := 677) r537.toInt (-((runS f263 f207 t u 20) 3)).toInt at_673 rfl at_674 (by decide) rfl rfl rfl ?_ ?_
              · intro b674
                exact absurd (congrArg Int64.toInt (hP536.trans (rp.2.2.2.2.1 b649))) b674
              · intro b674
                refine g_aload K X539 (pc' := 679) at_677 rfl rfl rfl ?_
                refine g_virtualI K X539 (pc' := 682) (a := a500) (argsL := []) (rest := []) 0 at_679 rfl (hw _ (List.mem_of_getElem? (i := 40) rfl)) (hw _ (List.mem_of_getElem? (i := 41) rfl)) (hw _ (List.mem_of_getElem? (i := 43) rfl)) (hw _ (List.mem_of_getElem? (i := 42) rfl)) (hw _ (List.mem_of_getElem? (i := 12) rfl)) (hw _ (List.mem_of_getElem? (i := 44) rfl)) (by decide) e1 (rm_scale l Z a0 hw a500 dg sc h523 n0 X539.z ⟨e1, u1, u2⟩) (by decide) (by decide) (by decide) (by decide) (lenOf pd_6 rfl) rfl rfl (Nat.le_of_ble_eq_true rfl) (fun r541 T542 X543 hP540 => ?_)
                refine g_i2l K X543 (pc' := 683) at_682 rfl ?_
                refine g_aload K X543 (pc' := 685) at_683 rfl rfl rfl ?_
                refine g_iconst K X543 (pc' := 686) (v := (4 : Int32)) at_685 rfl rfl ?_
                refine g_laload K X543 (pc' := 687) (i := 4) at_686 rfl f526 rfl (by decide) ?_
                refine g_lcmp_ne K X543 (pc1 := 688) (pc' := 695) (pc'' := 691) ((r541).toInt64).toInt ((runS f263 f207 t u 20) 4).toInt at_687 rfl at_688 (by decide) rfl rfl rfl ?_ ?_
                · intro b688
                  exact absurd (by rw [hP540, c_i2l]; exact rp.2.2.2.2.2.2) b688
                · intro b688
                  refine g_iconst K X543 (pc' := 692) (v := (1 : Int32)) at_691 rfl rfl ?_
                  refine g_goto K X543 (pc' := 696) at_692 (by decide) ?_
                  exact g_retN K X543 at_696 (by simp) (by decide) (by decide) rfl
          · intro b638
            refine g_iconst K X522 (pc' := 642) (v := (1 : Int32)) at_641 rfl rfl ?_
            exact g_retN K X522 at_642 (by simp) (by decide) (by decide) rfl
        · intro b631
          unfold RPN at hR; omega
      · intro b595
        refine g_iconst K X401 (pc' := 599) (v := (1 : Int32)) at_598 rfl rfl ?_
        refine g_goto K X401 (pc' := 603) at_599 (by decide) ?_
        refine g_istore K X401 (pc' := 605) (L' := #[.val (.long p1), .second, .val (.long p2), .second, .val (.int p3), .val (.int p4), .val (.ref a3), .val (.int q), .val (.int w), .val (.ref a211), .val (.int (1 : Int32)), .unset, .unset, .unset, .unset]) at_603 rfl rfl ?_
        refine g_new K X401 (pc' := 608) at_605 rfl (hw _ (List.mem_of_getElem? (i := 10) rfl)) (hw _ (List.mem_of_getElem? (i := 11) rfl)) (hw _ (List.mem_of_getElem? (i := 12) rfl)) (by decide) (by decide) (fun T544 h545 a546 X547 E548 ga549 na550 A551 Dn552 => ?_)
        have ne_a3_a546 : a3 ≠ a546 := Nat.ne_of_lt (by rw [ga549]; exact f404.lt)
        have ne_a211_a546 : a211 ≠ a546 := Nat.ne_of_lt (by rw [ga549]; exact A405.lt)
        have f553 := f404.ext E548
        have f554 := A405.ext E548
        have F555 := Dn552 (Or.inl (hw _ (List.mem_of_getElem? (i := 27) rfl))) (ty := .long) (by decide)
        have F555 : Fld Z h545 a546 "com/example/benchwright/benchwright/data/DecimalText$Plain" "digits" "J" (.long (0 : Int64)) := F555
        have F556 := Dn552 (Or.inl (hw _ (List.mem_of_getElem? (i := 29) rfl))) (ty := .int) (by decide)
        have F556 : Fld Z h545 a546 "com/example/benchwright/benchwright/data/DecimalText$Plain" "scale" "I" (.int (0 : Int32)) := F556
        refine g_dup K X547 (pc' := 609) at_608 rfl rfl ?_
        refine g_specialK0 K X547 (pc' := 612) (a := a546) (argsL := []) (rest := [.ref a546]) 1 at_609 rfl (hw _ (List.mem_of_getElem? (i := 13) rfl)) (hw _ (List.mem_of_getElem? (i := 14) rfl)) (hw _ (List.mem_of_getElem? (i := 12) rfl)) (hw _ (List.mem_of_getElem? (i := 15) rfl)) rfl (by decide) (rm_init l Z a0 hw a546 h545 n0 X547.z) (by decide) (by decide) (by decide) (by decide) (lenOf pd_3 rfl) rfl rfl (Nat.le_of_ble_eq_true rfl) (fun T557 h559 X558 Kp560 _ => ?_)
        have f561 := AN.keep f553 Kp560 nin0
        have f562 := AL.keep f554 Kp560 nin0
        have f563 := Exa.keep A551 Kp560
        have f564 := Fld.keep F555 Kp560 nin0
        have f565 := Fld.keep F556 Kp560 nin0
        refine g_astore K X558 (pc' := 614) (L' := #[.val (.long p1), .second, .val (.long p2), .second, .val (.int p3), .val (.int p4), .val (.ref a3), .val (.int q), .val (.int w), .val (.ref a211), .val (.int (1 : Int32)), .val (.ref a546), .unset, .unset, .unset]) at_612 rfl rfl rfl ?_
        refine g_aload K X558 (pc' := 616) at_614 rfl rfl rfl ?_
        refine g_iload K X558 (pc' := 618) at_616 rfl rfl ?_
        refine g_iload K X558 (pc' := 620) at_618 rfl rfl ?_
        refine g_aload K X558 (pc' := 622) at_620 rfl rfl rfl ?_
        refine g_callSKI K X558 (pc' := 625) (argsL := [.ref a3, .int q, .int w, .ref a546]) (rest := []) 0 at_622 rfl (hw _ (List.mem_of_getElem? (i := 19) rfl)) (hw _ (List.mem_of_getElem? (i := 20) rfl)) (hw _ (List.mem_of_getElem? (i := 21) rfl)) (hw _ (List.mem_of_getElem? (i := 22) rfl)) (by decide) (rm_read l Z a0 hw a3 a546 q w t u f263 f207 0 0 h559 n0 X558.z na550 ⟨f563, f564, f565⟩ f561 hrng hb ne_a3_a546 hq hw' htu hu20) (by decide) (by decide) (by decide) (by decide) (lenOf pd_4 rfl) rfl rfl (Nat.le_of_ble_eq_true rfl) (fun r T567 h569 X568 Kp570 hP566 => ?_)
        have f571 := AN.keep f561 Kp570 (ninS ne_a3_a546 nin0)
        have f572 := AL.keep f562 Kp570 (ninS ne_a211_a546 nin0)
        have f573 := Exa.keep f563 Kp570
        obtain ⟨dg, sc, ⟨e1, u1, u2⟩, hR⟩ := hP566
        refine g_istore K X568 (pc' := 627) (L' := #[.val (.long p1), .second, .val (.long p2), .second, .val (.int p3), .val (.int p4), .val (.ref a3), .val (.int q), .val (.int w), .val (.ref a211), .val (.int (1 : Int32)), .val (.ref a546), .val (.int r), .unset, .unset]) at_625 rfl rfl ?_
        refine g_iload K X568 (pc' := 629) at_627 rfl rfl ?_
        refine g_iload K X568 (pc' := 631) at_629 rfl rfl ?_
        refine g_icmp_eq K X568 (pc' := 636) (pc'' := 634) r.toInt 1 at_631 (by decide) rfl rfl rfl ?_ ?_
        · intro b631
          refine g_iload K X568 (pc' := 638) at_636 rfl rfl ?_
          refine g_if_ne K X568 (pc' := 643) (pc'' := 641) r.toInt at_638 (by decide) rfl rfl ?_ ?_
          · intro b638
            have rp : r.toInt = 1 ∧ ((runS f263 f207 t u 20) 0).toInt = 1 ∧ 1 ≤ ((runS f263 f207 t u 20) 1).toInt ∧ ((runS f263 f207 t u 20) 1).toInt ≤ 18 ∧ (((runS f263 f207 t u 20) 5).toInt = 1 → dg = -((runS f263 f207 t u 20) 3)) ∧ (((runS f263 f207 t u 20) 5).toInt ≠ 1 → dg = (runS f263 f207 t u 20) 3) ∧ sc.toInt = ((runS f263 f207 t u 20) 4).toInt := by rcases hR with h1 | h1 <;> first | exact h1 | exact absurd h1.1 b638
            refine g_aload K X568 (pc' := 645) at_643 rfl rfl rfl ?_
            refine g_iconst K X568 (pc' := 646) (v := (5 : Int32)) at_645 rfl rfl ?_
            refine g_laload K X568 (pc' := 647) (i := 5) at_646 rfl f572 rfl (by decide) ?_
            refine g_lconst K X568 (pc' := 648) (v := (1 : Int64)) at_647 rfl rfl ?_
            refine g_lcmp_ne K X568 (pc1 := 649) (pc' := 660) (pc'' := 652) ((runS f263 f207 t u 20) 5).toInt 1 at_648 rfl at_649 (by decide) rfl rfl rfl ?_ ?_
            · intro b649
              refine g_aload K X568 (pc' := 662) at_660 rfl rfl rfl ?_
              refine g_iconst K X568 (pc' := 663) (v := (3 : Int32)) at_662 rfl rfl ?_
              refine g_laload K X568 (pc' := 664) (i := 3) at_663 rfl f572 rfl (by decide) ?_
              refine g_lstore K X568 (pc' := 666) (L' := #[.val (.long p1), .second, .val (.long p2), .second, .val (.int p3), .val (.int p4), .val (.ref a3), .val (.int q), .val (.int w), .val (.ref a211), .val (.int (1 : Int32)), .val (.ref a546), .val (.int r), .val (.long ((runS f263 f207 t u 20) 3)), .second]) at_664 rfl rfl ?_
              refine g_aload K X568 (pc' := 668) at_666 rfl rfl rfl ?_
              refine g_virtualJ K X568 (pc' := 671) (a := a546) (argsL := []) (rest := []) 0 at_668 rfl (hw _ (List.mem_of_getElem? (i := 34) rfl)) (hw _ (List.mem_of_getElem? (i := 35) rfl)) (hw _ (List.mem_of_getElem? (i := 37) rfl)) (hw _ (List.mem_of_getElem? (i := 36) rfl)) (hw _ (List.mem_of_getElem? (i := 12) rfl)) (hw _ (List.mem_of_getElem? (i := 38) rfl)) (by decide) e1 (rm_digits l Z a0 hw a546 dg sc h569 n0 X568.z ⟨e1, u1, u2⟩) (by decide) (by decide) (by decide) (by decide) (lenOf pd_5 rfl) rfl rfl (Nat.le_of_ble_eq_true rfl) (fun r575 T576 X577 hP574 => ?_)
              refine g_lload K X577 (pc' := 673) at_671 rfl rfl ?_
              refine g_lcmp_ne K X577 (pc1 := 674) (pc' := 695) (pc'' := 677) r575.toInt ((runS f263 f207 t u 20) 3).toInt at_673 rfl at_674 (by decide) rfl rfl rfl ?_ ?_
              · intro b674
                exact absurd (congrArg Int64.toInt (hP574.trans (rp.2.2.2.2.2.1 b649))) b674
              · intro b674
                refine g_aload K X577 (pc' := 679) at_677 rfl rfl rfl ?_
                refine g_virtualI K X577 (pc' := 682) (a := a546) (argsL := []) (rest := []) 0 at_679 rfl (hw _ (List.mem_of_getElem? (i := 40) rfl)) (hw _ (List.mem_of_getElem? (i := 41) rfl)) (hw _ (List.mem_of_getElem? (i := 43) rfl)) (hw _ (List.mem_of_getElem? (i := 42) rfl)) (hw _ (List.mem_of_getElem? (i := 12) rfl)) (hw _ (List.mem_of_getElem? (i := 44) rfl)) (by decide) e1 (rm_scale l Z a0 hw a546 dg sc h569 n0 X577.z ⟨e1, u1, u2⟩) (by decide) (by decide) (by decide) (by decide) (lenOf pd_6 rfl) rfl rfl (Nat.le_of_ble_eq_true rfl) (fun r579 T580 X581 hP578 => ?_)
                refine g_i2l K X581 (pc' := 683) at_682 rfl ?_
                refine g_aload K X581 (pc' := 685) at_683 rfl rfl rfl ?_
                refine g_iconst K X581 (pc' := 686) (v := (4 : Int32)) at_685 rfl rfl ?_
                refine g_laload K X581 (pc' := 687) (i := 4) at_686 rfl f572 rfl (by decide) ?_
                refine g_lcmp_ne K X581 (pc1 := 688) (pc' := 695) (pc'' := 691) ((r579).toInt64).toInt ((runS f263 f207 t u 20) 4).toInt at_687 rfl at_688 (by decide) rfl rfl rfl ?_ ?_
                · intro b688
                  exact absurd (by rw [hP578, c_i2l]; exact rp.2.2.2.2.2.2) b688
                · intro b688
                  refine g_iconst K X581 (pc' := 692) (v := (1 : Int32)) at_691 rfl rfl ?_
                  refine g_goto K X581 (pc' := 696) at_692 (by decide) ?_
                  exact g_retN K X581 at_696 (by simp) (by decide) (by decide) rfl
            · intro b649
              refine g_aload K X568 (pc' := 654) at_652 rfl rfl rfl ?_
              refine g_iconst K X568 (pc' := 655) (v := (3 : Int32)) at_654 rfl rfl ?_
              refine g_laload K X568 (pc' := 656) (i := 3) at_655 rfl f572 rfl (by decide) ?_
              refine g_lneg K X568 (pc' := 657) at_656 rfl ?_
              refine g_goto K X568 (pc' := 664) at_657 (by decide) ?_
              refine g_lstore K X568 (pc' := 666) (L' := #[.val (.long p1), .second, .val (.long p2), .second, .val (.int p3), .val (.int p4), .val (.ref a3), .val (.int q), .val (.int w), .val (.ref a211), .val (.int (1 : Int32)), .val (.ref a546), .val (.int r), .val (.long (-((runS f263 f207 t u 20) 3))), .second]) at_664 rfl rfl ?_
              refine g_aload K X568 (pc' := 668) at_666 rfl rfl rfl ?_
              refine g_virtualJ K X568 (pc' := 671) (a := a546) (argsL := []) (rest := []) 0 at_668 rfl (hw _ (List.mem_of_getElem? (i := 34) rfl)) (hw _ (List.mem_of_getElem? (i := 35) rfl)) (hw _ (List.mem_of_getElem? (i := 37) rfl)) (hw _ (List.mem_of_getElem? (i := 36) rfl)) (hw _ (List.mem_of_getElem? (i := 12) rfl)) (hw _ (List.mem_of_getElem? (i := 38) rfl)) (by decide) e1 (rm_digits l Z a0 hw a546 dg sc h569 n0 X568.z ⟨e1, u1, u2⟩) (by decide) (by decide) (by decide) (by decide) (lenOf pd_5 rfl) rfl rfl (Nat.le_of_ble_eq_true rfl) (fun r583 T584 X585 hP582 => ?_)
              refine g_lload K X585 (pc' := 673) at_671 rfl rfl ?_
              refine g_lcmp_ne K X585 (pc1 := 674) (pc' := 695) (pc'' := 677) r583.toInt (-((runS f263 f207 t u 20) 3)).toInt at_673 rfl at_674 (by decide) rfl rfl rfl ?_ ?_
              · intro b674
                exact absurd (congrArg Int64.toInt (hP582.trans (rp.2.2.2.2.1 b649))) b674
              · intro b674
                refine g_aload K X585 (pc' := 679) at_677 rfl rfl rfl ?_
                refine g_virtualI K X585 (pc' := 682) (a := a546) (argsL := []) (rest := []) 0 at_679 rfl (hw _ (List.mem_of_getElem? (i := 40) rfl)) (hw _ (List.mem_of_getElem? (i := 41) rfl)) (hw _ (List.mem_of_getElem? (i := 43) rfl)) (hw _ (List.mem_of_getElem? (i := 42) rfl)) (hw _ (List.mem_of_getElem? (i := 12) rfl)) (hw _ (List.mem_of_getElem? (i := 44) rfl)) (by decide) e1 (rm_scale l Z a0 hw a546 dg sc h569 n0 X585.z ⟨e1, u1, u2⟩) (by decide) (by decide) (by decide) (by decide) (lenOf pd_6 rfl) rfl rfl (Nat.le_of_ble_eq_true rfl) (fun r587 T588 X589 hP586 => ?_)
                refine g_i2l K X589 (pc' := 683) at_682 rfl ?_
                refine g_aload K X589 (pc' := 685) at_683 rfl rfl rfl ?_
                refine g_iconst K X589 (pc' := 686) (v := (4 : Int32)) at_685 rfl rfl ?_
                refine g_laload K X589 (pc' := 687) (i := 4) at_686 rfl f572 rfl (by decide) ?_
                refine g_lcmp_ne K X589 (pc1 := 688) (pc' := 695) (pc'' := 691) ((r587).toInt64).toInt ((runS f263 f207 t u 20) 4).toInt at_687 rfl at_688 (by decide) rfl rfl rfl ?_ ?_
                · intro b688
                  exact absurd (by rw [hP586, c_i2l]; exact rp.2.2.2.2.2.2) b688
                · intro b688
                  refine g_iconst K X589 (pc' := 692) (v := (1 : Int32)) at_691 rfl rfl ?_
                  refine g_goto K X589 (pc' := 696) at_692 (by decide) ?_
                  exact g_retN K X589 at_696 (by simp) (by decide) (by decide) rfl
          · intro b638
            refine g_iconst K X568 (pc' := 642) (v := (1 : Int32)) at_641 rfl rfl ?_
            exact g_retN K X568 at_642 (by simp) (by decide) (by decide) rfl
        · intro b631
          unfold RPN at hR; omega

set_option maxRecDepth 65536 in
set_option maxHeartbeats 40000000 in
theorem comes_1 {Post : Tables → Env → Array Value → State → Outcome → State → Prop} (hpost : ∀ tb e args s v u, (limb_1_1.after args s (.returned v) u = true ∧ limb_1_2.after args s (.returned v) u = true ∧ True) → FrameEnd s (.returned v) u (Jvm.fieldLocs frame_1_writes args s ++ Jvm.arrayLocs frame_1_arrays args s ++ Jvm.staticLocs frame_1_statics s) 16 128 → Post tb e args s (.returned v) u) :
    ArmFor flags0 classFile x code maxLocals ret World_1 tables_1 room_1 Calls_1 rest_1 Pre_1 Post := by
  intro l hfl _ _ p e ha hc hk s m args below hf hA hF happ hP
  obtain ⟨hcalls, hrest, hpre⟩ := hP
  obtain ⟨-, -, -, hnamed, -, -, -, hat⟩ := (Spec.applies_iff hf).mp happ
  obtain ⟨hg, hn⟩ := and_e (Cond.before_iff.mp (show (Jvm.Cond.and given_1 narrow_1).before args s = true from hpre))
  obtain ⟨g0, r0⟩ := and_e hg
  obtain ⟨g1, r1⟩ := and_e r0
  obtain ⟨g2, r2⟩ := and_e r1
  obtain ⟨g3, r3⟩ := and_e r2
  obtain ⟨w0, w1, w2, w3, rfl⟩ : ∃ w0 w1 w2 w3 : Value, args = #[w0, w1, w2, w3] := by
    have hs : args.size = 4 := by simpa [Cond.value, given_1] using g0
    obtain ⟨L⟩ := args
    match L, hs with
    | [w0, w1, w2, w3], _ => exact ⟨w0, w1, w2, w3, rfl⟩
  have hw := fun d (hd : d ∈ tables_1) => atoms_spec (ws := Jvm.Cond.code x code maxLocals ret :: tables_1) hat d (List.mem_cons_of_mem _ hd)
  obtain ⟨i0, ei0⟩ := isL_v g1
  obtain rfl : w0 = (.long i0) := Option.some.inj ei0
  obtain ⟨i1, ei1⟩ := isL_v g2
  obtain rfl : w1 = (.long i1) := Option.some.inj ei1
  obtain ⟨i2, ei2⟩ := is_v g3
  obtain rfl : w2 = (.int i2) := Option.some.inj ei2
  obtain ⟨i3, ei3⟩ := is_v r3
  obtain rfl : w3 = (.int i3) := Option.some.inj ei3
  obtain ⟨n, o, h1, h2, h3, _, L, rfl, ⟨rfl, N⟩, hq⟩ := rm0 l s _ hw i0 i1 i2 i3 s.heap s.heap.size (Nat.le_refl _) tables_1 p e ha hc hk s m _ below hf ((Spec.applies_iff_loose hf).mp happ).1 ⟨rfl, State.Warmed39.refl s, rfl⟩ trivial
  refine ⟨n, _, h1, h2, h3, hpost _ _ _ _ _ _ ⟨Cond.after_iff.mpr rfl, Cond.after_iff.mpr (eq_i res_at (Term.int_eval (1)) rfl), trivial⟩ ⟨hq.1, hq.2.1, (hq.2.2.sift fun y hy => Or.inr (N y hy)).mono (by decide) (by decide)⟩⟩
theorem main_1_1 : Claimed_1_1 := comes_1 fun _ _ _ _ _ _ h hF => ⟨h.1, hF⟩
theorem main_1_2 : Claimed_1_2 := comes_1 fun _ _ _ _ _ _ h hF => ⟨h.2.1, hF⟩
end Jvm.Pilot.@@N@@
namespace Jvm.Pilot.@@N@@
open Jvm Jvm.ClassFile Sem Op Lib Jvm.Free Jvm.Stand Jvm.Pilot.@@N@@.Jvm.D
/-! MADE BY PROGRAM (witnessworld.py) out of the Statement's table words and the real class files: 12 classes; the members and pool entries that the words name. The judged class is class 1, her method 3. -/
namespace start1
open Jvm.ClassFile
def u (s : String) : CpInfo := .utf8 (stringToUtf16 s)
/-- a pool by its gaps: so many unusable entries, then the entry; so many at the end -/
def gap : Nat → List CpInfo → List CpInfo
  | 0, r => r
  | n + 1, r => .unusable :: gap n r
def poolList (es : List (Nat × CpInfo)) (last : Nat) : List CpInfo := es.foldr (fun e r => gap e.1 (e.2 :: r)) (gap last [])
def pool (es : List (Nat × CpInfo)) (last : Nat) : Array CpInfo := ⟨poolList es last⟩
def fileOf (pool : Array CpInfo) (this : Nat) (attrs : Array Attribute := #[]) (ms : Array MethodInfo := #[]) (fl : Nat := 33) (sup : Nat := 0) (ifs : Array Nat := #[]) (fds : Array FieldInfo := #[]) : ClassFile where
  minorVersion := 0
  majorVersion := 65
  constantPool := pool
  accessFlags := fl
  thisClass := this
  superClass := sup
  interfaces := ifs
  fields := fds
  methods := ms
  attributes := attrs
def plain (name : String) (sup : Option ClassId) : Class where
  name := name
  kind := .ordinary
  loader := none
  accessFlags := 33
  super := sup
  interfaces := #[]
  cf := none
  fields := #[]
  methods := #[]
  instanceTypes := #[]
  staticTypes := #[]
  resolved := #[]
  callSites := []
  init := .initialized
  statics := none
  mirror := none

def pool0 : Array CpInfo := pool [(5, u "<init>"), (0, u "()V"), (1, .class_ 10), (1, u "java/lang/Object")] 113

def k0c0 : Code := { maxStack := 0, maxLocals := 1, code := object_method_1_code, exceptionTable := #[], attributes := #[] }
def k0m0 : Method := { name := "<init>", desc := "()V", sig := { parameters := [], returnType := none }, accessFlags := 1, code := some k0c0 }
/-- java/lang/Object -/
def k0 : Class := { plain "java/lang/Object" none with
  accessFlags := 33
  interfaces := #[]
  cf := some (fileOf pool0 8 #[] #[{ accessFlags := 1, nameIndex := 5, descriptorIndex := 6, attributes := #[] }] 33 0 #[] #[])
  fields := #[]
  methods := #[k0m0]
  instanceTypes := #[]
  staticTypes := #[]
  resolved := Array.replicate 124 none
  statics := none }

def pool1 : Array CpInfo := pool [(2, .class_ 4), (0, .nameAndType 5 6), (0, u "java/lang/Object"), (0, u "<init>"), (0, u "()V"), (0, .long 7), (1, .long 15), (1, .long 10), (1, .long 18), (1, .methodref 16 17), (0, .class_ 18), (0, .nameAndType 19 20), (0, u "com/example/benchwright/benchwright/data/DecimalTextReadPlainPinLaw"), (0, u "gen"), (0, u "(JJII)B"), (0, .methodref 16 22), (0, .nameAndType 23 24), (0, u "step"), (0, u "([J[BIII)V"), (0, .class_ 26), (0, u "com/example/benchwright/benchwright/data/DecimalText$Plain"), (0, .methodref 25 3), (0, .methodref 29 30), (0, .class_ 31), (0, .nameAndType 32 33), (0, u "com/example/benchwright/benchwright/data/DecimalText"), (0, u "readPlain"), (0, u "([BIILcom/example/benchwright/benchwright/data/DecimalText$Plain;)Z"), (0, .methodref 25 35), (0, .nameAndType 36 37), (0, u "digits"), (0, u "()J"), (0, .methodref 25 39), (0, .nameAndType 40 41), (0, u "scale"), (0, u "()I"), (3, u "law"), (0, u "(JJII)Z")] 8

def k1m0 : Method := { name := "<init>", desc := "()V", sig := { parameters := [], returnType := none }, accessFlags := 2, code := none }
def k1c1 : Code := { maxStack := 5, maxLocals := 7, code := method_2_code, exceptionTable := #[], attributes := #[] }
def k1m1 : Method := { name := "gen", desc := "(JJII)B", sig := { parameters := [.long, .long, .int, .int], returnType := some .byte }, accessFlags := 10, code := some k1c1 }
def k1c2 : Code := { maxStack := 6, maxLocals := 6, code := method_3_code, exceptionTable := #[], attributes := #[] }
def k1m2 : Method := { name := "step", desc := "([J[BIII)V", sig := { parameters := [(.array .long), (.array .byte), .int, .int, .int], returnType := none }, accessFlags := 10, code := some k1c2 }
def k1c3 : Code := { maxStack := 9, maxLocals := 15, code := code, exceptionTable := #[], attributes := #[] }
def k1m3 : Method := { name := "law", desc := "(JJII)Z", sig := { parameters := [.long, .long, .int, .int], returnType := some .boolean }, accessFlags := 9, code := some k1c3 }
/-- com/example/benchwright/benchwright/data/DecimalTextReadPlainPinLaw -/
def k1 : Class := { plain "com/example/benchwright/benchwright/data/DecimalTextReadPlainPinLaw" (some 0) with
  accessFlags := 49
  interfaces := #[]
  cf := some (fileOf pool1 16 #[] #[{ accessFlags := 2, nameIndex := 5, descriptorIndex := 6, attributes := #[] }, { accessFlags := 10, nameIndex := 19, descriptorIndex := 20, attributes := #[] }, { accessFlags := 10, nameIndex := 23, descriptorIndex := 24, attributes := #[] }, { accessFlags := 9, nameIndex := 45, descriptorIndex := 46, attributes := #[] }] 49 2 #[] #[])
  fields := #[]
  methods := #[k1m0, k1m1, k1m2, k1m3]
  instanceTypes := #[]
  staticTypes := #[]
  resolved := Array.replicate 55 none
  statics := none }

def pool2 : Array CpInfo := pool [(1, .methodref 2 3), (0, .class_ 4), (0, .nameAndType 5 6), (0, u "java/lang/Object"), (0, u "<init>"), (0, u "()V"), (0, .fieldref 8 9), (0, .class_ 10), (0, .nameAndType 11 12), (0, u "com/example/benchwright/benchwright/data/DecimalText$Plain"), (0, u "digits"), (0, u "J"), (0, .fieldref 8 14), (0, .nameAndType 15 16), (0, u "scale"), (0, u "I"), (2, u "()J"), (0, u "()I"), (3, .class_ 25), (0, u "com/example/benchwright/benchwright/data/DecimalText")] 2

def k2c0 : Code := { maxStack := 1, maxLocals := 1, code := prog_115_method_1_code, exceptionTable := #[], attributes := #[] }
def k2m0 : Method := { name := "<init>", desc := "()V", sig := { parameters := [], returnType := none }, accessFlags := 0, code := some k2c0 }
def k2c1 : Code := { maxStack := 2, maxLocals := 1, code := prog_115_method_2_code, exceptionTable := #[], attributes := #[] }
def k2m1 : Method := { name := "digits", desc := "()J", sig := { parameters := [], returnType := some .long }, accessFlags := 0, code := some k2c1 }
def k2c2 : Code := { maxStack := 1, maxLocals := 1, code := prog_115_method_3_code, exceptionTable := #[], attributes := #[] }
def k2m2 : Method := { name := "scale", desc := "()I", sig := { parameters := [], returnType := some .int }, accessFlags := 0, code := some k2c2 }
/-- com/example/benchwright/benchwright/data/DecimalText$Plain -/
def k2 : Class := { plain "com/example/benchwright/benchwright/data/DecimalText$Plain" (some 0) with
  accessFlags := 48
  interfaces := #[]
  cf := some (fileOf pool2 8 #[.nestHost 24] #[{ accessFlags := 0, nameIndex := 5, descriptorIndex := 6, attributes := #[] }, { accessFlags := 0, nameIndex := 11, descriptorIndex := 19, attributes := #[] }, { accessFlags := 0, nameIndex := 15, descriptorIndex := 20, attributes := #[] }] 48 2 #[] #[{ accessFlags := 2, nameIndex := 11, descriptorIndex := 12, attributes := #[] }, { accessFlags := 2, nameIndex := 15, descriptorIndex := 16, attributes := #[] }])
  fields := #[{ name := "digits", type := .long, accessFlags := 2, slot := 0, constantValue := 0 }, { name := "scale", type := .int, accessFlags := 2, slot := 1, constantValue := 0 }]
  methods := #[k2m0, k2m1, k2m2]
  instanceTypes := #[.long, .int]
  staticTypes := #[]
  resolved := Array.replicate 28 none
  statics := none }

def pool3 : Array CpInfo := pool [(2, .class_ 4), (1, u "java/lang/Object"), (0, u "<init>"), (0, u "()V"), (0, .class_ 8), (0, u "com/example/benchwright/benchwright/data/DecimalText$Plain"), (2, .class_ 13), (1, u "com/example/benchwright/benchwright/data/DecimalText"), (0, u "readPlain"), (0, u "([BIILcom/example/benchwright/benchwright/data/DecimalText$Plain;)Z"), (16, .fieldref 7 33), (0, .nameAndType 34 35), (0, u "digits"), (0, u "J"), (0, .fieldref 7 37), (0, .nameAndType 38 39), (0, u "scale"), (0, u "I"), (4, .methodref 11 45), (0, .nameAndType 46 47), (0, u "scanPlain"), (0, u "([BIILcom/example/benchwright/benchwright/data/DecimalText$Plain;)I"), (0, .long 10), (13, u "MAX_DIGITS"), (2, u "MAX_LONG_DIGITS")] 30

def k3m0 : Method := { name := "<init>", desc := "()V", sig := { parameters := [], returnType := none }, accessFlags := 2, code := none }
def k3c1 : Code := { maxStack := 4, maxLocals := 4, code := prog_114_method_3_code, exceptionTable := #[], attributes := #[] }
def k3m1 : Method := { name := "readPlain", desc := "([BIILcom/example/benchwright/benchwright/data/DecimalText$Plain;)Z", sig := { parameters := [(.array .byte), .int, .int, (.object "com/example/benchwright/benchwright/data/DecimalText$Plain")], returnType := some .boolean }, accessFlags := 8, code := some k3c1 }
def k3c2 : Code := { maxStack := 4, maxLocals := 11, code := prog_114_method_4_code, exceptionTable := #[], attributes := #[] }
def k3m2 : Method := { name := "scanPlain", desc := "([BIILcom/example/benchwright/benchwright/data/DecimalText$Plain;)I", sig := { parameters := [(.array .byte), .int, .int, (.object "com/example/benchwright/benchwright/data/DecimalText$Plain")], returnType := some .int }, accessFlags := 8, code := some k3c2 }
/-- com/example/benchwright/benchwright/data/DecimalText -/
def k3 : Class := { plain "com/example/benchwright/benchwright/data/DecimalText" (some 0) with
  accessFlags := 48
  interfaces := #[]
  cf := some (fileOf pool3 11 #[.nestMembers #[7]] #[{ accessFlags := 2, nameIndex := 5, descriptorIndex := 6, attributes := #[] }, { accessFlags := 8, nameIndex := 14, descriptorIndex := 15, attributes := #[] }, { accessFlags := 8, nameIndex := 46, descriptorIndex := 47, attributes := #[] }] 48 2 #[] #[{ accessFlags := 24, nameIndex := 62, descriptorIndex := 39, attributes := #[] }, { accessFlags := 26, nameIndex := 65, descriptorIndex := 39, attributes := #[] }])
  fields := #[{ name := "MAX_DIGITS", type := .int, accessFlags := 24, slot := 0, constantValue := 0 }, { name := "MAX_LONG_DIGITS", type := .int, accessFlags := 26, slot := 1, constantValue := 0 }]
  methods := #[k3m0, k3m1, k3m2]
  instanceTypes := #[]
  staticTypes := #[.int, .int]
  resolved := ((Array.replicate 96 none).setIfInBounds 32 (some (.field 2 0))).setIfInBounds 36 (some (.field 2 1))
  statics := none }

def pool4 : Array CpInfo := pool [(1, u "java/lang/Cloneable"), (0, .class_ 1), (0, u "java/lang/Object"), (0, .class_ 3)] 3

/-- java/lang/Cloneable -/
def k4 : Class := { plain "java/lang/Cloneable" (some 0) with
  accessFlags := 1537
  interfaces := #[]
  cf := some (fileOf pool4 2 #[] #[] 1537 4 #[] #[])
  fields := #[]
  methods := #[]
  instanceTypes := #[]
  staticTypes := #[]
  resolved := Array.replicate 8 none
  statics := none }

def pool5 : Array CpInfo := pool [(1, u "java/io/Serializable"), (0, .class_ 1), (0, u "java/lang/Object"), (0, .class_ 3)] 3

/-- java/io/Serializable -/
def k5 : Class := { plain "java/io/Serializable" (some 0) with
  accessFlags := 1537
  interfaces := #[]
  cf := some (fileOf pool5 2 #[] #[] 1537 4 #[] #[])
  fields := #[]
  methods := #[]
  instanceTypes := #[]
  staticTypes := #[]
  resolved := Array.replicate 8 none
  statics := none }

/-- the primitive byte -/
def k6 : Class := { plain "byte" none with kind := .primitive 'B', accessFlags := 0x411 }
/-- [B -/
def k7 : Class := { plain "[B" (some 0) with kind := .array 6 .byte, interfaces := #[4, 5], accessFlags := 1041 }

/-- the primitive int -/
def k8 : Class := { plain "int" none with kind := .primitive 'I', accessFlags := 0x411 }
/-- [I -/
def k9 : Class := { plain "[I" (some 0) with kind := .array 8 .int, interfaces := #[4, 5], accessFlags := 1041 }

/-- the primitive long -/
def k10 : Class := { plain "long" none with kind := .primitive 'J', accessFlags := 0x411 }
/-- [J -/
def k11 : Class := { plain "[J" (some 0) with kind := .array 10 .long, interfaces := #[4, 5], accessFlags := 1041 }

def heap : Heap := #[]
def classes : Array Class := #[k0, k1, k2, k3, k4, k5, k6, k7, k8, k9, k10, k11]
def interned : List (Array UInt16 × Addr) := []
def slotsUsed : Nat := 0
def theMethod : MethodId := ⟨1, 3⟩
def args0 : Array Value := #[.long 5, .long 7, .int 3, .int 2]
def aboutOver (below : List Frame) : State where
  vm := { classes := classes, interned := interned.toArray }
  heap := heap
  slotsUsed := slotsUsed
  threads := #[{ frames := .invoking theMethod args0 :: below }]
def below0 : List Frame := [.native { method := ⟨0, 0⟩, args := #[] }]
def about1 : State := aboutOver below0
def p0 : Program := .bare "" "" ""
def e0 : Env := launch0.env 0 0 0
theorem w_frames : about1.frames = Frame.invoking theMethod args0 :: below0 := rfl
set_option maxRecDepth 65536 in
theorem w_args : argsFit about1.vm theMethod args0 = true := by decide +kernel
set_option maxRecDepth 65536 in
theorem w_heap : heapFits about1 = true := by decide +kernel
set_option maxRecDepth 65536 in
theorem w_runnable : about1.curStatus? = some .runnable := by decide +kernel
set_option maxRecDepth 65536 in
theorem w_alone : about1.alone = true := by decide +kernel
set_option maxRecDepth 65536 in
theorem w_named : about1.methodNamed? x = some theMethod := by decide +kernel
set_option maxRecDepth 65536 in
theorem w_hears : about1.hears theMethod below0 = true := by decide +kernel
set_option maxRecDepth 65536 in
theorem w_ripe : about1.ripe theMethod args0 below0 = true := by decide +kernel
theorem w_running : about1.status = .running := rfl
set_option maxRecDepth 65536 in
theorem w_room : about1.hasRoom e0.platform room_1 = true :=
  launch0.hasRoom_least _ room_1 (by decide +kernel) (by decide +kernel) (by decide +kernel) (by decide +kernel) (by decide +kernel) (by decide +kernel)
theorem allAtoms_all (ts : List Jvm.Cond) (a : Array Jvm.Value) (st : Jvm.State) : (allAtoms ts).before a st = ts.all (fun c => c.before a st) := by
  induction ts with
  | nil => rfl
  | cons c t ih =>
    show (Jvm.Cond.and c (allAtoms t)).before a st = _
    rw [Jvm.Cond.before_and, ih, List.all_cons]
def words1 : List Jvm.Cond := Jvm.Cond.code x code maxLocals ret :: tables_1
/-- a 'code' word, met by the world's own term for the bytes: nothing is compared byte by byte -/
theorem code_word {y : MethodName} {bytes : ByteArray} {mx : Nat} {rt : Option FieldType} {a : Array Value} {s : State} {m : MethodId} {meth : Method} {c : Code} (h1 : s.methodNamed? y = some m) (h2 : s.vm.method? m = some meth) (h3 : meth.code = some c) (h4 : c.code = bytes)
    (h5 : (c.maxLocals == mx && c.exceptionTable.isEmpty && decide (c.maxStack ≤ mostOperands) && decide (meth.sig.returnType = rt) && !meth.locks && decide (parseMethodDescriptor y.desc = some meth.sig)) = true) : (Jvm.Cond.code y bytes mx rt).before a s = true := by
  simp only [Bool.and_eq_true, beq_iff_eq, Bool.not_eq_true', decide_eq_true_eq] at h5
  obtain ⟨⟨⟨⟨⟨g1, g2⟩, g3⟩, g4⟩, g5⟩, g6⟩ := h5
  simp [Cond.before, Cond.holds, Cond.value, h1, h2, h3, h4, g1, g2, g3, g4, g5, g6]
def isCode : Jvm.Cond → Bool
  | .code _ _ _ _ => true
  | _ => false
theorem all_split {L : List Jvm.Cond} {P : Jvm.Cond → Bool} (h1 : L.all (fun c => isCode c || P c) = true) (h2 : ∀ c ∈ L.filter isCode, P c = true) : L.all P = true := by
  refine List.all_eq_true.mpr fun c hc => ?_
  have h := List.all_eq_true.mp h1 c hc
  rcases Bool.eq_false_or_eq_true (isCode c) with hi | hi
  · exact h2 c (List.mem_filter.mpr ⟨hc, hi⟩)
  · simpa [hi] using h
set_option maxRecDepth 65536 in
theorem w_c0 : (Jvm.Cond.code x code maxLocals ret).before args0 about1 = true := code_word (m := ⟨1, 3⟩) (meth := k1m3) (c := k1c3) (by decide +kernel) rfl rfl rfl (by decide +kernel)
set_option maxRecDepth 65536 in
theorem w_c1 : (Jvm.Cond.code ({ cls := "com/example/benchwright/benchwright/data/DecimalTextReadPlainPinLaw", name := "gen", desc := "(JJII)B" } : Jvm.MethodName) method_2_code (7 : Nat) (Option.some Jvm.ClassFile.FieldType.byte)).before args0 about1 = true := code_word (m := ⟨1, 1⟩) (meth := k1m1) (c := k1c1) (by decide +kernel) rfl rfl rfl (by decide +kernel)
set_option maxRecDepth 65536 in
theorem w_c2 : (Jvm.Cond.code ({ cls := "com/example/benchwright/benchwright/data/DecimalTextReadPlainPinLaw", name := "step", desc := "([J[BIII)V" } : Jvm.MethodName) method_3_code (6 : Nat) (Option.none : Option Jvm.ClassFile.FieldType)).before args0 about1 = true := code_word (m := ⟨1, 2⟩) (meth := k1m2) (c := k1c2) (by decide +kernel) rfl rfl rfl (by decide +kernel)
set_option maxRecDepth 65536 in
theorem w_c3 : (Jvm.Cond.code ({ cls := "com/example/benchwright/benchwright/data/DecimalText$Plain", name := "<init>", desc := "()V" } : Jvm.MethodName) prog_115_method_1_code (1 : Nat) (Option.none : Option Jvm.ClassFile.FieldType)).before args0 about1 = true := code_word (m := ⟨2, 0⟩) (meth := k2m0) (c := k2c0) (by decide +kernel) rfl rfl rfl (by decide +kernel)
set_option maxRecDepth 65536 in
theorem w_c4 : (Jvm.Cond.code ({ cls := "java/lang/Object", name := "<init>", desc := "()V" } : Jvm.MethodName) object_method_1_code (1 : Nat) (Option.none : Option Jvm.ClassFile.FieldType)).before args0 about1 = true := code_word (m := ⟨0, 0⟩) (meth := k0m0) (c := k0c0) (by decide +kernel) rfl rfl rfl (by decide +kernel)
set_option maxRecDepth 65536 in
theorem w_c5 : (Jvm.Cond.code ({ cls := "com/example/benchwright/benchwright/data/DecimalText", name := "readPlain", desc := "([BIILcom/example/benchwright/benchwright/data/DecimalText$Plain;)Z" } : Jvm.MethodName) prog_114_method_3_code (4 : Nat) (Option.some Jvm.ClassFile.FieldType.boolean)).before args0 about1 = true := code_word (m := ⟨3, 1⟩) (meth := k3m1) (c := k3c1) (by decide +kernel) rfl rfl rfl (by decide +kernel)
set_option maxRecDepth 65536 in
theorem w_c6 : (Jvm.Cond.code ({ cls := "com/example/benchwright/benchwright/data/DecimalText", name := "scanPlain", desc := "([BIILcom/example/benchwright/benchwright/data/DecimalText$Plain;)I" } : Jvm.MethodName) prog_114_method_4_code (11 : Nat) (Option.some Jvm.ClassFile.FieldType.int)).before args0 about1 = true := code_word (m := ⟨3, 2⟩) (meth := k3m2) (c := k3c2) (by decide +kernel) rfl rfl rfl (by decide +kernel)
set_option maxRecDepth 65536 in
theorem w_c7 : (Jvm.Cond.code ({ cls := "com/example/benchwright/benchwright/data/DecimalText$Plain", name := "digits", desc := "()J" } : Jvm.MethodName) prog_115_method_2_code (1 : Nat) (Option.some Jvm.ClassFile.FieldType.long)).before args0 about1 = true := code_word (m := ⟨2, 1⟩) (meth := k2m1) (c := k2c1) (by decide +kernel) rfl rfl rfl (by decide +kernel)
set_option maxRecDepth 65536 in
theorem w_c8 : (Jvm.Cond.code ({ cls := "com/example/benchwright/benchwright/data/DecimalText$Plain", name := "scale", desc := "()I" } : Jvm.MethodName) prog_115_method_3_code (1 : Nat) (Option.some Jvm.ClassFile.FieldType.int)).before args0 about1 = true := code_word (m := ⟨2, 2⟩) (meth := k2m2) (c := k2c2) (by decide +kernel) rfl rfl rfl (by decide +kernel)
def codes1 : List Jvm.Cond := [Jvm.Cond.code x code maxLocals ret, Jvm.Cond.code ({ cls := "com/example/benchwright/benchwright/data/DecimalTextReadPlainPinLaw", name := "gen", desc := "(JJII)B" } : Jvm.MethodName) method_2_code (7 : Nat) (Option.some Jvm.ClassFile.FieldType.byte), Jvm.Cond.code ({ cls := "com/example/benchwright/benchwright/data/DecimalTextReadPlainPinLaw", name := "step", desc := "([J[BIII)V" } : Jvm.MethodName) method_3_code (6 : Nat) (Option.none : Option Jvm.ClassFile.FieldType), Jvm.Cond.code ({ cls := "com/example/benchwright/benchwright/data/DecimalText$Plain", name := "<init>", desc := "()V" } : Jvm.MethodName) prog_115_method_1_code (1 : Nat) (Option.none : Option Jvm.ClassFile.FieldType), Jvm.Cond.code ({ cls := "java/lang/Object", name := "<init>", desc := "()V" } : Jvm.MethodName) object_method_1_code (1 : Nat) (Option.none : Option Jvm.ClassFile.FieldType), Jvm.Cond.code ({ cls := "com/example/benchwright/benchwright/data/DecimalText", name := "readPlain", desc := "([BIILcom/example/benchwright/benchwright/data/DecimalText$Plain;)Z" } : Jvm.MethodName) prog_114_method_3_code (4 : Nat) (Option.some Jvm.ClassFile.FieldType.boolean), Jvm.Cond.code ({ cls := "com/example/benchwright/benchwright/data/DecimalText", name := "scanPlain", desc := "([BIILcom/example/benchwright/benchwright/data/DecimalText$Plain;)I" } : Jvm.MethodName) prog_114_method_4_code (11 : Nat) (Option.some Jvm.ClassFile.FieldType.int), Jvm.Cond.code ({ cls := "com/example/benchwright/benchwright/data/DecimalText$Plain", name := "digits", desc := "()J" } : Jvm.MethodName) prog_115_method_2_code (1 : Nat) (Option.some Jvm.ClassFile.FieldType.long), Jvm.Cond.code ({ cls := "com/example/benchwright/benchwright/data/DecimalText$Plain", name := "scale", desc := "()I" } : Jvm.MethodName) prog_115_method_3_code (1 : Nat) (Option.some Jvm.ClassFile.FieldType.int)]
set_option maxRecDepth 65536 in
theorem codes_eq : words1.filter isCode = codes1 := rfl
theorem w_codes : ∀ c ∈ words1.filter isCode, c.before args0 about1 = true := by
  rw [codes_eq]
  intro c hc
  simp only [codes1, List.mem_cons, List.not_mem_nil, or_false] at hc
  rcases hc with rfl | rfl | rfl | rfl | rfl | rfl | rfl | rfl | rfl
  · exact w_c0
  · exact w_c1
  · exact w_c2
  · exact w_c3
  · exact w_c4
  · exact w_c5
  · exact w_c6
  · exact w_c7
  · exact w_c8
set_option maxRecDepth 65536 in
theorem w_t1 : (words1.take 24).all (fun c => isCode c || c.before args0 about1) = true := by decide +kernel
set_option maxRecDepth 65536 in
theorem w_t2 : (words1.drop 24).all (fun c => isCode c || c.before args0 about1) = true := by decide +kernel
theorem w_tables : (allAtoms (Jvm.Cond.code x code maxLocals ret :: tables_1)).before args0 about1 = true := by
  rw [allAtoms_all]
  show words1.all (fun c => c.before args0 about1) = true
  refine all_split ?_ w_codes
  rw [← List.take_append_drop 24 words1, List.all_append, w_t1, w_t2]
  rfl
set_option maxRecDepth 65536 in
theorem w_case : (Jvm.Cond.and given_1 narrow_1).before args0 about1 = true := by decide +kernel
theorem w_applies : (headSpec (Jvm.Cond.code x code maxLocals ret :: tables_1) room_1).applies x e0.platform about1 = true :=
  (Spec.applies_iff w_frames).mpr ⟨w_running, w_runnable, w_alone, w_named, w_hears, w_ripe, w_room, w_tables⟩
theorem atStart : AtStart classFile x code maxLocals ret World_1 tables_1 room_1 Calls_1 rest_1 Pre_1 launch0 p0 e0 about1 theMethod args0 below0 :=
  ⟨lists_1, trivial, launch0.admits_env _ _ _, launch0.least_env, fairChoices_fair.cas, fairChoices_fair.clock, w_frames, w_args, w_heap, w_applies, trivial, trivial, w_case⟩
end start1
theorem witness_1 : WitnessClaimed_1 := ⟨start1.p0, start1.e0, start1.about1, start1.theMethod, start1.args0, start1.below0, start1.atStart⟩
end Jvm.Pilot.@@N@@
