import JvmDerived
import JvmDerived.Pilot.@@N@@Statement
import JvmDerived.Pilot.@@N@@Code
set_option linter.unusedVariables false
set_option linter.unusedSimpArgs false
namespace Jvm.Pilot.@@N@@
open Jvm Jvm.ClassFile Sem Op Lib Jvm.Free Jvm.Stand Jvm.LawKit Jvm.RoadKit Bundle Jvm.Pilot.@@N@@.Jvm.D
section OwnKit
variable {Z : State} {p : Program} {l : Launch} {e : Env} {R : Room} {s : State} {m : MethodId} {args : Array Value} {below : List Frame} {meth : Method} {c : Code} {T : State} {h : Heap} {n0 C S cells slots : Nat} {Q : Option Value → Heap → Prop} {own nm : String} {bytes : ByteArray} {ml : Nat} {rt : Option FieldType} {a0 : Array Value}
/-- the walk's constant facts -/
def Cx (Z : State) (p : Program) (s : State) (m : MethodId) (meth : Method) (c : Code) (own : String) (bytes : ByteArray) (ml : Nat) (rt : Option FieldType) (nm : String) : Prop :=
  p.tables.exec = Jvm.exec ∧ Z.Warmed39 s.vm ∧ c.code = bytes ∧ c.maxLocals = ml ∧ s.vm.findClass own = some m.cls ∧ meth.sig.returnType = rt ∧ meth.locks = false ∧ meth.name = nm
/-- where the walk stands: state T, heap h -/
def Wk (p : Program) (l : Launch) (e : Env) (R : Room) (s : State) (m : MethodId) (args : Array Value) (below : List Frame) (meth : Method) (c : Code) (n0 : Nat) (T : State) (h : Heap) (cells slots : Nat) : Prop :=
  ∃ locs, Stand p l e R s m args below meth c T locs cells slots ∧ T.heap = h ∧ Fr n0 locs ∧ n0 ≤ h.size
theorem Wk.z (X : Wk p l e R s m args below meth c n0 T h cells slots) : n0 ≤ h.size := by
  obtain ⟨_, _, _, _, q⟩ := X
  exact q
/-- from t0 the body comes to its end with Q -/
def Fi (p : Program) (e : Env) (below : List Frame) (s : State) (n0 C S : Nat) (Q : Option Value → Heap → Prop) (t0 : State) : Prop :=
  ∃ s₂ o, Steps p.tables e below t0 s₂ ∧ s₂.status = .running ∧ Ended s₂ below o ∧ ∃ v L, o = .returned v ∧ (Q v s₂.heap ∧ Fr n0 L) ∧ FrameEnd s o s₂ L C S
theorem Fi.of {t t0 : State} (st : ∀ target, Steps p.tables e below t target → Steps p.tables e below t0 target) (k : Fi p e below s n0 C S Q t) : Fi p e below s n0 C S Q t0 := by
  obtain ⟨s₂, o, h1, r⟩ := k
  exact ⟨s₂, o, st _ h1, r⟩
theorem Fi.weak {Q' : Option Value → Heap → Prop} {t0 : State} (hq : ∀ v h, Q v h → Q' v h) (k : Fi p e below s n0 C S Q t0) : Fi p e below s n0 C S Q' t0 := by
  obtain ⟨s₂, o, h1, h2, h3, v, L, h4, ⟨h5, h6⟩, h7⟩ := k
  exact ⟨s₂, o, h1, h2, h3, v, L, h4, ⟨hq _ _ h5, h6⟩, h7⟩
/-- a method's contract -/
def Mt (l : Launch) (Z : State) (y : MethodName) (bytes : ByteArray) (ml : Nat) (rt : Option FieldType) (rm : Room) (as' : Array Value) (h : Heap) (n0 : Nat) (Q : Option Value → Heap → Prop) : Prop :=
  ∀ ws : List Jvm.Cond, MetFree l y (head1 (Jvm.Cond.code y bytes ml rt :: ws) rm) (fun a U => a = as' ∧ Z.Warmed39 U.vm ∧ U.heap = h) (fun _ _ _ _ _ => True) (fun _ U o U' => ∃ v L, o = .returned v ∧ (Q v U'.heap ∧ Fr n0 L) ∧ FrameEnd U o U' L rm.cells rm.slots)
theorem Mt.of {y : MethodName} {rm : Room} {as' : Array Value} {Ls : Array Slot} (ho : y.cls = own) (hnm : y.name = nm) (pn : plainFor y = true) (hn : n0 ≤ h.size) (ef : ∀ m, entryFrame m as' ml = mkF m 0 Ls [])
    (body : ∀ (p : Program) (e : Env) (s : State) (m : MethodId) (below : List Frame) (meth : Method) (c : Code) (T : State), Cx Z p s m meth c own bytes ml rt nm → Wk p l e rm s m as' below meth c n0 T h 0 0 → Fi p e below s n0 rm.cells rm.slots Q (T.setTop (mkF m 0 Ls []))) :
    Mt l Z y bytes ml rt rm as' h n0 Q := by
  intro ws
  subst ho hnm
  refine MetFree.of_bodySF pn hisR ?_
  intro p e s m args below meth c s₁ Bd hml0 hP hK
  obtain ⟨rfl, hZ, hh⟩ := hP
  obtain ⟨s₂, o, h1, h2, h3, h4⟩ := body p e s m below meth c s₁ ⟨Bd.exec, hZ, Bd.bytes, hml0, findClass_of_methodNamed Bd.named, Bd.returns, Bd.notSynchronized, (name_of_methodNamed Bd.named Bd.method).1⟩ ⟨[], Stand.of_body Bd, by rw [← hh, Bd.state]; rfl, Fr.nil n0, hn⟩
  exact ⟨s₂, o, castTop (ef m) h1, h2, h3, h4⟩
/-! shifts and narrowings by name -/
def jushr (x y : Int32) : Int32 := (x.toUInt32 >>> (y &&& 31).toUInt32).toInt32
def jshr (x y : Int32) : Int32 := x >>> (y &&& 31)
def jshl (x y : Int32) : Int32 := x <<< (y &&& 31)
def jushrL (x : Int64) (y : Int32) : Int64 := (x.toUInt64 >>> (y &&& 0x3f).toInt64.toUInt64).toInt64
def jshrL (x : Int64) (y : Int32) : Int64 := x >>> (y &&& 0x3f).toInt64
def jshlL (x : Int64) (y : Int32) : Int64 := x <<< (y &&& 0x3f).toInt64
def jb (x : Int32) : Int32 := x.toInt8.toInt32
def jc (x : Int32) : Int32 := x.toUInt32.toUInt16.toUInt32.toInt32
def js (x : Int32) : Int32 := x.toInt16.toInt32
theorem g_iloadN (K : Cx Z p s m meth c own bytes ml rt nm) (X : Wk p l e R s m args below meth c n0 T h cells slots) {pc pc' : Nat} {L : Array Slot} {st : List Value} {k : Fin 4} {v : Int32} (hd : decode bytes pc = .ok (.iload_n k, 1)) (hp : pc + 1 = pc') (hl : L[k.val]? = some (.val (.int v))) (r : Fi p e below s n0 C S Q (T.setTop (mkF m pc' L (.int v :: st)))) : Fi p e below s n0 C S Q (T.setTop (mkF m pc L (st))) := by
  obtain ⟨locs, Y, -⟩ := X
  subst hp
  exact Fi.of (fun _ q => XS.iloadN Y.here K.1 rfl (hb K.2.2.1 hd) hl q) r
theorem g_iload (K : Cx Z p s m meth c own bytes ml rt nm) (X : Wk p l e R s m args below meth c n0 T h cells slots) {pc pc' : Nat} {L : Array Slot} {st : List Value} {k : Nat} {v : Int32} (hd : decode bytes pc = .ok (.iload k, 2)) (hp : pc + 2 = pc') (hl : L[k]? = some (.val (.int v))) (r : Fi p e below s n0 C S Q (T.setTop (mkF m pc' L (.int v :: st)))) : Fi p e below s n0 C S Q (T.setTop (mkF m pc L (st))) := by
  obtain ⟨locs, Y, -⟩ := X
  subst hp
  exact Fi.of (fun _ q => XS.iload Y.here K.1 rfl (hb K.2.2.1 hd) hl q) r
theorem g_istoreN (K : Cx Z p s m meth c own bytes ml rt nm) (X : Wk p l e R s m args below meth c n0 T h cells slots) {pc pc' : Nat} {L : Array Slot} {st : List Value} {k : Fin 4} {v : Int32} {L' : Array Slot} (hd : decode bytes pc = .ok (.istore_n k, 1)) (hp : pc + 1 = pc') (hl : storeLocals L k.val (.int v) = some L') (r : Fi p e below s n0 C S Q (T.setTop (mkF m pc' L' (st)))) : Fi p e below s n0 C S Q (T.setTop (mkF m pc L (.int v :: st))) := by
  obtain ⟨locs, Y, -⟩ := X
  subst hp
  exact Fi.of (fun _ q => XS.istoreN Y.here K.1 rfl (hb K.2.2.1 hd) rfl hl q) r
theorem g_istore (K : Cx Z p s m meth c own bytes ml rt nm) (X : Wk p l e R s m args below meth c n0 T h cells slots) {pc pc' : Nat} {L : Array Slot} {st : List Value} {k : Nat} {v : Int32} {L' : Array Slot} (hd : decode bytes pc = .ok (.istore k, 2)) (hp : pc + 2 = pc') (hl : storeLocals L k (.int v) = some L') (r : Fi p e below s n0 C S Q (T.setTop (mkF m pc' L' (st)))) : Fi p e below s n0 C S Q (T.setTop (mkF m pc L (.int v :: st))) := by
  obtain ⟨locs, Y, -⟩ := X
  subst hp
  exact Fi.of (fun _ q => XS.istore Y.here K.1 rfl (hb K.2.2.1 hd) rfl hl q) r
theorem g_lloadN (K : Cx Z p s m meth c own bytes ml rt nm) (X : Wk p l e R s m args below meth c n0 T h cells slots) {pc pc' : Nat} {L : Array Slot} {st : List Value} {k : Fin 4} {v : Int64} (hd : decode bytes pc = .ok (.lload_n k, 1)) (hp : pc + 1 = pc') (hl : L[k.val]? = some (.val (.long v))) (r : Fi p e below s n0 C S Q (T.setTop (mkF m pc' L (.long v :: st)))) : Fi p e below s n0 C S Q (T.setTop (mkF m pc L (st))) := by
  obtain ⟨locs, Y, -⟩ := X
  subst hp
  exact Fi.of (fun _ q => XS.lloadN Y.here K.1 rfl (hb K.2.2.1 hd) hl q) r
theorem g_lload (K : Cx Z p s m meth c own bytes ml rt nm) (X : Wk p l e R s m args below meth c n0 T h cells slots) {pc pc' : Nat} {L : Array Slot} {st : List Value} {k : Nat} {v : Int64} (hd : decode bytes pc = .ok (.lload k, 2)) (hp : pc + 2 = pc') (hl : L[k]? = some (.val (.long v))) (r : Fi p e below s n0 C S Q (T.setTop (mkF m pc' L (.long v :: st)))) : Fi p e below s n0 C S Q (T.setTop (mkF m pc L (st))) := by
  obtain ⟨locs, Y, -⟩ := X
  subst hp
  exact Fi.of (fun _ q => XS.lload Y.here K.1 rfl (hb K.2.2.1 hd) hl q) r
theorem g_lstoreN (K : Cx Z p s m meth c own bytes ml rt nm) (X : Wk p l e R s m args below meth c n0 T h cells slots) {pc pc' : Nat} {L : Array Slot} {st : List Value} {k : Fin 4} {v : Int64} {L' : Array Slot} (hd : decode bytes pc = .ok (.lstore_n k, 1)) (hp : pc + 1 = pc') (hl : storeLocals L k.val (.long v) = some L') (r : Fi p e below s n0 C S Q (T.setTop (mkF m pc' L' (st)))) : Fi p e below s n0 C S Q (T.setTop (mkF m pc L (.long v :: st))) := by
  obtain ⟨locs, Y, -⟩ := X
  subst hp
  exact Fi.of (fun _ q => XS.lstoreN Y.here K.1 rfl (hb K.2.2.1 hd) rfl hl q) r
theorem g_lstore (K : Cx Z p s m meth c own bytes ml rt nm) (X : Wk p l e R s m args below meth c n0 T h cells slots) {pc pc' : Nat} {L : Array Slot} {st : List Value} {k : Nat} {v : Int64} {L' : Array Slot} (hd : decode bytes pc = .ok (.lstore k, 2)) (hp : pc + 2 = pc') (hl : storeLocals L k (.long v) = some L') (r : Fi p e below s n0 C S Q (T.setTop (mkF m pc' L' (st)))) : Fi p e below s n0 C S Q (T.setTop (mkF m pc L (.long v :: st))) := by
  obtain ⟨locs, Y, -⟩ := X
  subst hp
  exact Fi.of (fun _ q => XS.lstore Y.here K.1 rfl (hb K.2.2.1 hd) rfl hl q) r
theorem g_aloadN (K : Cx Z p s m meth c own bytes ml rt nm) (X : Wk p l e R s m args below meth c n0 T h cells slots) {pc pc' : Nat} {L : Array Slot} {st : List Value} {k : Fin 4} {v : Value} (hd : decode bytes pc = .ok (.aload_n k, 1)) (hp : pc + 1 = pc') (hl : L[k.val]? = some (.val v)) (hv : v.isRef = true) (r : Fi p e below s n0 C S Q (T.setTop (mkF m pc' L (v :: st)))) : Fi p e below s n0 C S Q (T.setTop (mkF m pc L (st))) := by
  obtain ⟨locs, Y, -⟩ := X
  subst hp
  exact Fi.of (fun _ q => XS.aloadN Y.here K.1 rfl (hb K.2.2.1 hd) hl hv q) r
theorem g_aload (K : Cx Z p s m meth c own bytes ml rt nm) (X : Wk p l e R s m args below meth c n0 T h cells slots) {pc pc' : Nat} {L : Array Slot} {st : List Value} {k : Nat} {v : Value} (hd : decode bytes pc = .ok (.aload k, 2)) (hp : pc + 2 = pc') (hl : L[k]? = some (.val v)) (hv : v.isRef = true) (r : Fi p e below s n0 C S Q (T.setTop (mkF m pc' L (v :: st)))) : Fi p e below s n0 C S Q (T.setTop (mkF m pc L (st))) := by
  obtain ⟨locs, Y, -⟩ := X
  subst hp
  exact Fi.of (fun _ q => XS.aload Y.here K.1 rfl (hb K.2.2.1 hd) hl hv q) r
theorem g_astoreN (K : Cx Z p s m meth c own bytes ml rt nm) (X : Wk p l e R s m args below meth c n0 T h cells slots) {pc pc' : Nat} {L : Array Slot} {st : List Value} {k : Fin 4} {v : Value} {L' : Array Slot} (hd : decode bytes pc = .ok (.astore_n k, 1)) (hp : pc + 1 = pc') (hv : v.isRef = true) (hl : storeLocals L k.val v = some L') (r : Fi p e below s n0 C S Q (T.setTop (mkF m pc' L' (st)))) : Fi p e below s n0 C S Q (T.setTop (mkF m pc L (v :: st))) := by
  obtain ⟨locs, Y, -⟩ := X
  subst hp
  exact Fi.of (fun _ q => XS.astoreN Y.here K.1 rfl (hb K.2.2.1 hd) rfl hv hl q) r
theorem g_astore (K : Cx Z p s m meth c own bytes ml rt nm) (X : Wk p l e R s m args below meth c n0 T h cells slots) {pc pc' : Nat} {L : Array Slot} {st : List Value} {k : Nat} {v : Value} {L' : Array Slot} (hd : decode bytes pc = .ok (.astore k, 2)) (hp : pc + 2 = pc') (hv : v.isRef = true) (hl : storeLocals L k v = some L') (r : Fi p e below s n0 C S Q (T.setTop (mkF m pc' L' (st)))) : Fi p e below s n0 C S Q (T.setTop (mkF m pc L (v :: st))) := by
  obtain ⟨locs, Y, -⟩ := X
  subst hp
  exact Fi.of (fun _ q => XS.astore Y.here K.1 rfl (hb K.2.2.1 hd) rfl hv hl q) r
theorem g_iconst (K : Cx Z p s m meth c own bytes ml rt nm) (X : Wk p l e R s m args below meth c n0 T h cells slots) {pc pc' : Nat} {L : Array Slot} {st : List Value} {i : Int} {v : Int32} (hd : decode bytes pc = .ok (.iconst i, 1)) (hp : pc + 1 = pc') (hv : Int32.ofInt i = v) (r : Fi p e below s n0 C S Q (T.setTop (mkF m pc' L (.int v :: st)))) : Fi p e below s n0 C S Q (T.setTop (mkF m pc L (st))) := by
  obtain ⟨locs, Y, -⟩ := X
  subst hp
  subst hv
  exact Fi.of (fun _ q => XS.iconst Y.here K.1 rfl (hb K.2.2.1 hd) q) r
theorem g_bipush (K : Cx Z p s m meth c own bytes ml rt nm) (X : Wk p l e R s m args below meth c n0 T h cells slots) {pc pc' : Nat} {L : Array Slot} {st : List Value} {i : Int} {v : Int32} (hd : decode bytes pc = .ok (.bipush i, 2)) (hp : pc + 2 = pc') (hv : (Int8.ofInt i).toInt32 = v) (r : Fi p e below s n0 C S Q (T.setTop (mkF m pc' L (.int v :: st)))) : Fi p e below s n0 C S Q (T.setTop (mkF m pc L (st))) := by
  obtain ⟨locs, Y, -⟩ := X
  subst hp
  subst hv
  exact Fi.of (fun _ q => XS.bipush Y.here K.1 rfl (hb K.2.2.1 hd) q) r
theorem g_sipush (K : Cx Z p s m meth c own bytes ml rt nm) (X : Wk p l e R s m args below meth c n0 T h cells slots) {pc pc' : Nat} {L : Array Slot} {st : List Value} {i : Int} {v : Int32} (hd : decode bytes pc = .ok (.sipush i, 3)) (hp : pc + 3 = pc') (hv : (Int16.ofInt i).toInt32 = v) (r : Fi p e below s n0 C S Q (T.setTop (mkF m pc' L (.int v :: st)))) : Fi p e below s n0 C S Q (T.setTop (mkF m pc L (st))) := by
  obtain ⟨locs, Y, -⟩ := X
  subst hp
  subst hv
  exact Fi.of (fun _ q => XS.sipush Y.here K.1 rfl (hb K.2.2.1 hd) q) r
theorem g_lconst (K : Cx Z p s m meth c own bytes ml rt nm) (X : Wk p l e R s m args below meth c n0 T h cells slots) {pc pc' : Nat} {L : Array Slot} {st : List Value} {k : Fin 2} {v : Int64} (hd : decode bytes pc = .ok (.lconst k, 1)) (hp : pc + 1 = pc') (hv : Int64.ofNat k = v) (r : Fi p e below s n0 C S Q (T.setTop (mkF m pc' L (.long v :: st)))) : Fi p e below s n0 C S Q (T.setTop (mkF m pc L (st))) := by
  obtain ⟨locs, Y, -⟩ := X
  subst hp
  subst hv
  exact Fi.of (fun _ q => XS.lconst Y.here K.1 rfl (hb K.2.2.1 hd) q) r
theorem g_ldcI (K : Cx Z p s m meth c own bytes ml rt nm) (X : Wk p l e R s m args below meth c n0 T h cells slots) {pc pc' : Nat} {L : Array Slot} {st : List Value} {index : Nat} {v : Int32} (hd : decode bytes pc = .ok (.ldc index, 2)) (hp : pc + 2 = pc') (w : (Cond.constant own index v).before a0 Z = true) (r : Fi p e below s n0 C S Q (T.setTop (mkF m pc' L (.int v :: st)))) : Fi p e below s n0 C S Q (T.setTop (mkF m pc L (st))) := by
  obtain ⟨locs, Y, -⟩ := X
  subst hp
  exact Fi.of (fun _ q => Y.ldcInt K.1 K.2.2.2.2.1 (mvT K.2.1 w) (g := mkF m pc L st) rfl (hb K.2.2.1 hd) _ q) r
theorem g_ldc2J (K : Cx Z p s m meth c own bytes ml rt nm) (X : Wk p l e R s m args below meth c n0 T h cells slots) {pc pc' : Nat} {L : Array Slot} {st : List Value} {index : Nat} {v : Int64} (hd : decode bytes pc = .ok (.ldc2_w index, 3)) (hp : pc + 3 = pc') (w : (Cond.constantLong own index v).before a0 Z = true) (r : Fi p e below s n0 C S Q (T.setTop (mkF m pc' L (.long v :: st)))) : Fi p e below s n0 C S Q (T.setTop (mkF m pc L (st))) := by
  obtain ⟨locs, Y, -⟩ := X
  subst hp
  exact Fi.of (fun _ q => Y.ldc2Long K.1 K.2.2.2.2.1 (mvT K.2.1 w) (g := mkF m pc L st) rfl (hb K.2.2.1 hd) _ q) r
theorem g_iadd (K : Cx Z p s m meth c own bytes ml rt nm) (X : Wk p l e R s m args below meth c n0 T h cells slots) {pc pc' : Nat} {L : Array Slot} {st : List Value} {x y : Int32} (hd : decode bytes pc = .ok (.iadd, 1)) (hp : pc + 1 = pc')  (r : Fi p e below s n0 C S Q (T.setTop (mkF m pc' L (.int (x + y) :: st)))) : Fi p e below s n0 C S Q (T.setTop (mkF m pc L (.int y :: .int x :: st))) := by
  obtain ⟨locs, Y, -⟩ := X
  subst hp
  exact Fi.of (fun _ q => XS.iadd Y.here K.1 rfl (hb K.2.2.1 hd) rfl q) r
theorem g_ladd (K : Cx Z p s m meth c own bytes ml rt nm) (X : Wk p l e R s m args below meth c n0 T h cells slots) {pc pc' : Nat} {L : Array Slot} {st : List Value} {x y : Int64} (hd : decode bytes pc = .ok (.ladd, 1)) (hp : pc + 1 = pc')  (r : Fi p e below s n0 C S Q (T.setTop (mkF m pc' L (.long (x + y) :: st)))) : Fi p e below s n0 C S Q (T.setTop (mkF m pc L (.long y :: .long x :: st))) := by
  obtain ⟨locs, Y, -⟩ := X
  subst hp
  exact Fi.of (fun _ q => XS.ladd Y.here K.1 rfl (hb K.2.2.1 hd) rfl q) r
theorem g_isub (K : Cx Z p s m meth c own bytes ml rt nm) (X : Wk p l e R s m args below meth c n0 T h cells slots) {pc pc' : Nat} {L : Array Slot} {st : List Value} {x y : Int32} (hd : decode bytes pc = .ok (.isub, 1)) (hp : pc + 1 = pc')  (r : Fi p e below s n0 C S Q (T.setTop (mkF m pc' L (.int (x - y) :: st)))) : Fi p e below s n0 C S Q (T.setTop (mkF m pc L (.int y :: .int x :: st))) := by
  obtain ⟨locs, Y, -⟩ := X
  subst hp
  exact Fi.of (fun _ q => XS.isub Y.here K.1 rfl (hb K.2.2.1 hd) rfl q) r
theorem g_lsub (K : Cx Z p s m meth c own bytes ml rt nm) (X : Wk p l e R s m args below meth c n0 T h cells slots) {pc pc' : Nat} {L : Array Slot} {st : List Value} {x y : Int64} (hd : decode bytes pc = .ok (.lsub, 1)) (hp : pc + 1 = pc')  (r : Fi p e below s n0 C S Q (T.setTop (mkF m pc' L (.long (x - y) :: st)))) : Fi p e below s n0 C S Q (T.setTop (mkF m pc L (.long y :: .long x :: st))) := by
  obtain ⟨locs, Y, -⟩ := X
  subst hp
  exact Fi.of (fun _ q => XS.lsub Y.here K.1 rfl (hb K.2.2.1 hd) rfl q) r
theorem g_imul (K : Cx Z p s m meth c own bytes ml rt nm) (X : Wk p l e R s m args below meth c n0 T h cells slots) {pc pc' : Nat} {L : Array Slot} {st : List Value} {x y : Int32} (hd : decode bytes pc = .ok (.imul, 1)) (hp : pc + 1 = pc')  (r : Fi p e below s n0 C S Q (T.setTop (mkF m pc' L (.int (x * y) :: st)))) : Fi p e below s n0 C S Q (T.setTop (mkF m pc L (.int y :: .int x :: st))) := by
  obtain ⟨locs, Y, -⟩ := X
  subst hp
  exact Fi.of (fun _ q => XS.imul Y.here K.1 rfl (hb K.2.2.1 hd) rfl q) r
theorem g_lmul (K : Cx Z p s m meth c own bytes ml rt nm) (X : Wk p l e R s m args below meth c n0 T h cells slots) {pc pc' : Nat} {L : Array Slot} {st : List Value} {x y : Int64} (hd : decode bytes pc = .ok (.lmul, 1)) (hp : pc + 1 = pc')  (r : Fi p e below s n0 C S Q (T.setTop (mkF m pc' L (.long (x * y) :: st)))) : Fi p e below s n0 C S Q (T.setTop (mkF m pc L (.long y :: .long x :: st))) := by
  obtain ⟨locs, Y, -⟩ := X
  subst hp
  exact Fi.of (fun _ q => XS.lmul Y.here K.1 rfl (hb K.2.2.1 hd) rfl q) r
theorem g_iand (K : Cx Z p s m meth c own bytes ml rt nm) (X : Wk p l e R s m args below meth c n0 T h cells slots) {pc pc' : Nat} {L : Array Slot} {st : List Value} {x y : Int32} (hd : decode bytes pc = .ok (.iand, 1)) (hp : pc + 1 = pc')  (r : Fi p e below s n0 C S Q (T.setTop (mkF m pc' L (.int (x &&& y) :: st)))) : Fi p e below s n0 C S Q (T.setTop (mkF m pc L (.int y :: .int x :: st))) := by
  obtain ⟨locs, Y, -⟩ := X
  subst hp
  exact Fi.of (fun _ q => XS.iand Y.here K.1 rfl (hb K.2.2.1 hd) rfl q) r
theorem g_land (K : Cx Z p s m meth c own bytes ml rt nm) (X : Wk p l e R s m args below meth c n0 T h cells slots) {pc pc' : Nat} {L : Array Slot} {st : List Value} {x y : Int64} (hd : decode bytes pc = .ok (.land, 1)) (hp : pc + 1 = pc')  (r : Fi p e below s n0 C S Q (T.setTop (mkF m pc' L (.long (x &&& y) :: st)))) : Fi p e below s n0 C S Q (T.setTop (mkF m pc L (.long y :: .long x :: st))) := by
  obtain ⟨locs, Y, -⟩ := X
  subst hp
  exact Fi.of (fun _ q => XS.land Y.here K.1 rfl (hb K.2.2.1 hd) rfl q) r
theorem g_ior (K : Cx Z p s m meth c own bytes ml rt nm) (X : Wk p l e R s m args below meth c n0 T h cells slots) {pc pc' : Nat} {L : Array Slot} {st : List Value} {x y : Int32} (hd : decode bytes pc = .ok (.ior, 1)) (hp : pc + 1 = pc')  (r : Fi p e below s n0 C S Q (T.setTop (mkF m pc' L (.int (x ||| y) :: st)))) : Fi p e below s n0 C S Q (T.setTop (mkF m pc L (.int y :: .int x :: st))) := by
  obtain ⟨locs, Y, -⟩ := X
  subst hp
  exact Fi.of (fun _ q => XS.ior Y.here K.1 rfl (hb K.2.2.1 hd) rfl q) r
theorem g_lor (K : Cx Z p s m meth c own bytes ml rt nm) (X : Wk p l e R s m args below meth c n0 T h cells slots) {pc pc' : Nat} {L : Array Slot} {st : List Value} {x y : Int64} (hd : decode bytes pc = .ok (.lor, 1)) (hp : pc + 1 = pc')  (r : Fi p e below s n0 C S Q (T.setTop (mkF m pc' L (.long (x ||| y) :: st)))) : Fi p e below s n0 C S Q (T.setTop (mkF m pc L (.long y :: .long x :: st))) := by
  obtain ⟨locs, Y, -⟩ := X
  subst hp
  exact Fi.of (fun _ q => XS.lor Y.here K.1 rfl (hb K.2.2.1 hd) rfl q) r
theorem g_ixor (K : Cx Z p s m meth c own bytes ml rt nm) (X : Wk p l e R s m args below meth c n0 T h cells slots) {pc pc' : Nat} {L : Array Slot} {st : List Value} {x y : Int32} (hd : decode bytes pc = .ok (.ixor, 1)) (hp : pc + 1 = pc')  (r : Fi p e below s n0 C S Q (T.setTop (mkF m pc' L (.int (x ^^^ y) :: st)))) : Fi p e below s n0 C S Q (T.setTop (mkF m pc L (.int y :: .int x :: st))) := by
  obtain ⟨locs, Y, -⟩ := X
  subst hp
  exact Fi.of (fun _ q => XS.ixor Y.here K.1 rfl (hb K.2.2.1 hd) rfl q) r
theorem g_lxor (K : Cx Z p s m meth c own bytes ml rt nm) (X : Wk p l e R s m args below meth c n0 T h cells slots) {pc pc' : Nat} {L : Array Slot} {st : List Value} {x y : Int64} (hd : decode bytes pc = .ok (.lxor, 1)) (hp : pc + 1 = pc')  (r : Fi p e below s n0 C S Q (T.setTop (mkF m pc' L (.long (x ^^^ y) :: st)))) : Fi p e below s n0 C S Q (T.setTop (mkF m pc L (.long y :: .long x :: st))) := by
  obtain ⟨locs, Y, -⟩ := X
  subst hp
  exact Fi.of (fun _ q => XS.lxor Y.here K.1 rfl (hb K.2.2.1 hd) rfl q) r
theorem g_ishl (K : Cx Z p s m meth c own bytes ml rt nm) (X : Wk p l e R s m args below meth c n0 T h cells slots) {pc pc' : Nat} {L : Array Slot} {st : List Value} {x y : Int32} (hd : decode bytes pc = .ok (.ishl, 1)) (hp : pc + 1 = pc')  (r : Fi p e below s n0 C S Q (T.setTop (mkF m pc' L (.int (jshl x y) :: st)))) : Fi p e below s n0 C S Q (T.setTop (mkF m pc L (.int y :: .int x :: st))) := by
  obtain ⟨locs, Y, -⟩ := X
  subst hp
  exact Fi.of (fun _ q => XS.ishl Y.here K.1 rfl (hb K.2.2.1 hd) rfl q) r
theorem g_lshl (K : Cx Z p s m meth c own bytes ml rt nm) (X : Wk p l e R s m args below meth c n0 T h cells slots) {pc pc' : Nat} {L : Array Slot} {st : List Value} {x : Int64} {y : Int32} (hd : decode bytes pc = .ok (.lshl, 1)) (hp : pc + 1 = pc')  (r : Fi p e below s n0 C S Q (T.setTop (mkF m pc' L (.long (jshlL x y) :: st)))) : Fi p e below s n0 C S Q (T.setTop (mkF m pc L (.int y :: .long x :: st))) := by
  obtain ⟨locs, Y, -⟩ := X
  subst hp
  exact Fi.of (fun _ q => XS.lshl Y.here K.1 rfl (hb K.2.2.1 hd) rfl q) r
theorem g_ishr (K : Cx Z p s m meth c own bytes ml rt nm) (X : Wk p l e R s m args below meth c n0 T h cells slots) {pc pc' : Nat} {L : Array Slot} {st : List Value} {x y : Int32} (hd : decode bytes pc = .ok (.ishr, 1)) (hp : pc + 1 = pc')  (r : Fi p e below s n0 C S Q (T.setTop (mkF m pc' L (.int (jshr x y) :: st)))) : Fi p e below s n0 C S Q (T.setTop (mkF m pc L (.int y :: .int x :: st))) := by
  obtain ⟨locs, Y, -⟩ := X
  subst hp
  exact Fi.of (fun _ q => XS.ishr Y.here K.1 rfl (hb K.2.2.1 hd) rfl q) r
theorem g_lshr (K : Cx Z p s m meth c own bytes ml rt nm) (X : Wk p l e R s m args below meth c n0 T h cells slots) {pc pc' : Nat} {L : Array Slot} {st : List Value} {x : Int64} {y : Int32} (hd : decode bytes pc = .ok (.lshr, 1)) (hp : pc + 1 = pc')  (r : Fi p e below s n0 C S Q (T.setTop (mkF m pc' L (.long (jshrL x y) :: st)))) : Fi p e below s n0 C S Q (T.setTop (mkF m pc L (.int y :: .long x :: st))) := by
  obtain ⟨locs, Y, -⟩ := X
  subst hp
  exact Fi.of (fun _ q => XS.lshr Y.here K.1 rfl (hb K.2.2.1 hd) rfl q) r
theorem g_iushr (K : Cx Z p s m meth c own bytes ml rt nm) (X : Wk p l e R s m args below meth c n0 T h cells slots) {pc pc' : Nat} {L : Array Slot} {st : List Value} {x y : Int32} (hd : decode bytes pc = .ok (.iushr, 1)) (hp : pc + 1 = pc')  (r : Fi p e below s n0 C S Q (T.setTop (mkF m pc' L (.int (jushr x y) :: st)))) : Fi p e below s n0 C S Q (T.setTop (mkF m pc L (.int y :: .int x :: st))) := by
  obtain ⟨locs, Y, -⟩ := X
  subst hp
  exact Fi.of (fun _ q => XS.iushr Y.here K.1 rfl (hb K.2.2.1 hd) rfl q) r
theorem g_lushr (K : Cx Z p s m meth c own bytes ml rt nm) (X : Wk p l e R s m args below meth c n0 T h cells slots) {pc pc' : Nat} {L : Array Slot} {st : List Value} {x : Int64} {y : Int32} (hd : decode bytes pc = .ok (.lushr, 1)) (hp : pc + 1 = pc')  (r : Fi p e below s n0 C S Q (T.setTop (mkF m pc' L (.long (jushrL x y) :: st)))) : Fi p e below s n0 C S Q (T.setTop (mkF m pc L (.int y :: .long x :: st))) := by
  obtain ⟨locs, Y, -⟩ := X
  subst hp
  exact Fi.of (fun _ q => XS.lushr Y.here K.1 rfl (hb K.2.2.1 hd) rfl q) r
theorem g_i2b (K : Cx Z p s m meth c own bytes ml rt nm) (X : Wk p l e R s m args below meth c n0 T h cells slots) {pc pc' : Nat} {L : Array Slot} {st : List Value} {x : Int32} (hd : decode bytes pc = .ok (.i2b, 1)) (hp : pc + 1 = pc')  (r : Fi p e below s n0 C S Q (T.setTop (mkF m pc' L (.int (jb x) :: st)))) : Fi p e below s n0 C S Q (T.setTop (mkF m pc L (.int x :: st))) := by
  obtain ⟨locs, Y, -⟩ := X
  subst hp
  exact Fi.of (fun _ q => XS.i2b Y.here K.1 rfl (hb K.2.2.1 hd) rfl q) r
theorem g_i2c (K : Cx Z p s m meth c own bytes ml rt nm) (X : Wk p l e R s m args below meth c n0 T h cells slots) {pc pc' : Nat} {L : Array Slot} {st : List Value} {x : Int32} (hd : decode bytes pc = .ok (.i2c, 1)) (hp : pc + 1 = pc')  (r : Fi p e below s n0 C S Q (T.setTop (mkF m pc' L (.int (jc x) :: st)))) : Fi p e below s n0 C S Q (T.setTop (mkF m pc L (.int x :: st))) := by
  obtain ⟨locs, Y, -⟩ := X
  subst hp
  exact Fi.of (fun _ q => XS.i2c Y.here K.1 rfl (hb K.2.2.1 hd) rfl q) r
theorem g_i2s (K : Cx Z p s m meth c own bytes ml rt nm) (X : Wk p l e R s m args below meth c n0 T h cells slots) {pc pc' : Nat} {L : Array Slot} {st : List Value} {x : Int32} (hd : decode bytes pc = .ok (.i2s, 1)) (hp : pc + 1 = pc')  (r : Fi p e below s n0 C S Q (T.setTop (mkF m pc' L (.int (js x) :: st)))) : Fi p e below s n0 C S Q (T.setTop (mkF m pc L (.int x :: st))) := by
  obtain ⟨locs, Y, -⟩ := X
  subst hp
  exact Fi.of (fun _ q => XS.i2s Y.here K.1 rfl (hb K.2.2.1 hd) rfl q) r
theorem g_i2l (K : Cx Z p s m meth c own bytes ml rt nm) (X : Wk p l e R s m args below meth c n0 T h cells slots) {pc pc' : Nat} {L : Array Slot} {st : List Value} {x : Int32} (hd : decode bytes pc = .ok (.i2l, 1)) (hp : pc + 1 = pc')  (r : Fi p e below s n0 C S Q (T.setTop (mkF m pc' L (.long (x.toInt64) :: st)))) : Fi p e below s n0 C S Q (T.setTop (mkF m pc L (.int x :: st))) := by
  obtain ⟨locs, Y, -⟩ := X
  subst hp
  exact Fi.of (fun _ q => XS.i2l Y.here K.1 rfl (hb K.2.2.1 hd) rfl q) r
theorem g_l2i (K : Cx Z p s m meth c own bytes ml rt nm) (X : Wk p l e R s m args below meth c n0 T h cells slots) {pc pc' : Nat} {L : Array Slot} {st : List Value} {x : Int64} (hd : decode bytes pc = .ok (.l2i, 1)) (hp : pc + 1 = pc')  (r : Fi p e below s n0 C S Q (T.setTop (mkF m pc' L (.int (x.toInt32) :: st)))) : Fi p e below s n0 C S Q (T.setTop (mkF m pc L (.long x :: st))) := by
  obtain ⟨locs, Y, -⟩ := X
  subst hp
  exact Fi.of (fun _ q => XS.l2i Y.here K.1 rfl (hb K.2.2.1 hd) rfl q) r
theorem g_ineg (K : Cx Z p s m meth c own bytes ml rt nm) (X : Wk p l e R s m args below meth c n0 T h cells slots) {pc pc' : Nat} {L : Array Slot} {st : List Value} {x : Int32} (hd : decode bytes pc = .ok (.ineg, 1)) (hp : pc + 1 = pc')  (r : Fi p e below s n0 C S Q (T.setTop (mkF m pc' L (.int (-x) :: st)))) : Fi p e below s n0 C S Q (T.setTop (mkF m pc L (.int x :: st))) := by
  obtain ⟨locs, Y, -⟩ := X
  subst hp
  exact Fi.of (fun _ q => XS.ineg Y.here K.1 rfl (hb K.2.2.1 hd) rfl q) r
theorem g_lneg (K : Cx Z p s m meth c own bytes ml rt nm) (X : Wk p l e R s m args below meth c n0 T h cells slots) {pc pc' : Nat} {L : Array Slot} {st : List Value} {x : Int64} (hd : decode bytes pc = .ok (.lneg, 1)) (hp : pc + 1 = pc')  (r : Fi p e below s n0 C S Q (T.setTop (mkF m pc' L (.long (-x) :: st)))) : Fi p e below s n0 C S Q (T.setTop (mkF m pc L (.long x :: st))) := by
  obtain ⟨locs, Y, -⟩ := X
  subst hp
  exact Fi.of (fun _ q => XS.lneg Y.here K.1 rfl (hb K.2.2.1 hd) rfl q) r
theorem g_idiv (K : Cx Z p s m meth c own bytes ml rt nm) (X : Wk p l e R s m args below meth c n0 T h cells slots) {pc pc' : Nat} {L : Array Slot} {st : List Value} {x y : Int32} (hd : decode bytes pc = .ok (.idiv, 1)) (hp : pc + 1 = pc') (hy : y ≠ 0) (r : Fi p e below s n0 C S Q (T.setTop (mkF m pc' L (.int (x / y) :: st)))) : Fi p e below s n0 C S Q (T.setTop (mkF m pc L (.int y :: .int x :: st))) := by
  obtain ⟨locs, Y, -⟩ := X
  subst hp
  exact Fi.of (fun _ q => XS.idiv Y.here K.1 rfl (hb K.2.2.1 hd) rfl hy q) r
theorem g_ldiv (K : Cx Z p s m meth c own bytes ml rt nm) (X : Wk p l e R s m args below meth c n0 T h cells slots) {pc pc' : Nat} {L : Array Slot} {st : List Value} {x y : Int64} (hd : decode bytes pc = .ok (.ldiv, 1)) (hp : pc + 1 = pc') (hy : y ≠ 0) (r : Fi p e below s n0 C S Q (T.setTop (mkF m pc' L (.long (x / y) :: st)))) : Fi p e below s n0 C S Q (T.setTop (mkF m pc L (.long y :: .long x :: st))) := by
  obtain ⟨locs, Y, -⟩ := X
  subst hp
  exact Fi.of (fun _ q => XS.ldiv Y.here K.1 rfl (hb K.2.2.1 hd) rfl hy q) r
theorem g_irem (K : Cx Z p s m meth c own bytes ml rt nm) (X : Wk p l e R s m args below meth c n0 T h cells slots) {pc pc' : Nat} {L : Array Slot} {st : List Value} {x y : Int32} (hd : decode bytes pc = .ok (.irem, 1)) (hp : pc + 1 = pc') (hy : y ≠ 0) (r : Fi p e below s n0 C S Q (T.setTop (mkF m pc' L (.int (x % y) :: st)))) : Fi p e below s n0 C S Q (T.setTop (mkF m pc L (.int y :: .int x :: st))) := by
  obtain ⟨locs, Y, -⟩ := X
  subst hp
  exact Fi.of (fun _ q => iremM Y K.1 rfl (hb K.2.2.1 hd) rfl hy q) r
theorem g_lrem (K : Cx Z p s m meth c own bytes ml rt nm) (X : Wk p l e R s m args below meth c n0 T h cells slots) {pc pc' : Nat} {L : Array Slot} {st : List Value} {x y : Int64} (hd : decode bytes pc = .ok (.lrem, 1)) (hp : pc + 1 = pc') (hy : y ≠ 0) (r : Fi p e below s n0 C S Q (T.setTop (mkF m pc' L (.long (x % y) :: st)))) : Fi p e below s n0 C S Q (T.setTop (mkF m pc L (.long y :: .long x :: st))) := by
  obtain ⟨locs, Y, -⟩ := X
  subst hp
  exact Fi.of (fun _ q => XS.lrem Y.here K.1 rfl (hb K.2.2.1 hd) rfl hy (by rw [lrem_mod]; exact q)) r
theorem g_iinc (K : Cx Z p s m meth c own bytes ml rt nm) (X : Wk p l e R s m args below meth c n0 T h cells slots) {pc pc' : Nat} {L : Array Slot} {st : List Value} {k : Nat} {cst : Int} {x z : Int32} {L' : Array Slot} (hd : decode bytes pc = .ok (.iinc k cst, 3)) (hp : pc + 3 = pc') (hl : L[k]? = some (.val (.int x))) (hz : x + Int32.ofInt cst = z) (hl' : storeLocals L k (.int z) = some L') (r : Fi p e below s n0 C S Q (T.setTop (mkF m pc' L' (st)))) : Fi p e below s n0 C S Q (T.setTop (mkF m pc L (st))) := by
  obtain ⟨locs, Y, -⟩ := X
  subst hp
  subst hz
  exact Fi.of (fun _ q => XS.iinc Y.here K.1 rfl (hb K.2.2.1 hd) hl hl' q) r
theorem g_dup (K : Cx Z p s m meth c own bytes ml rt nm) (X : Wk p l e R s m args below meth c n0 T h cells slots) {pc pc' : Nat} {L : Array Slot} {st : List Value} {v : Value} (hd : decode bytes pc = .ok (.dup, 1)) (hp : pc + 1 = pc') (hv : v.category = 1) (r : Fi p e below s n0 C S Q (T.setTop (mkF m pc' L (v :: v :: st)))) : Fi p e below s n0 C S Q (T.setTop (mkF m pc L (v :: st))) := by
  obtain ⟨locs, Y, -⟩ := X
  subst hp
  exact Fi.of (fun _ q => XS.dup Y.here K.1 rfl (hb K.2.2.1 hd) rfl hv q) r
theorem g_pop (K : Cx Z p s m meth c own bytes ml rt nm) (X : Wk p l e R s m args below meth c n0 T h cells slots) {pc pc' : Nat} {L : Array Slot} {st : List Value} {v : Value} (hd : decode bytes pc = .ok (.pop, 1)) (hp : pc + 1 = pc') (hv : v.category = 1) (r : Fi p e below s n0 C S Q (T.setTop (mkF m pc' L (st)))) : Fi p e below s n0 C S Q (T.setTop (mkF m pc L (v :: st))) := by
  obtain ⟨locs, Y, -⟩ := X
  subst hp
  exact Fi.of (fun _ q => XS.pop Y.here K.1 rfl (hb K.2.2.1 hd) rfl hv q) r
theorem g_goto (K : Cx Z p s m meth c own bytes ml rt nm) (X : Wk p l e R s m args below meth c n0 T h cells slots) {pc pc' : Nat} {L : Array Slot} {st : List Value} {o : Int} (hd : decode bytes pc = .ok (.goto o, 3)) (hp : (pc : Int) + o = (pc' : Int)) (r : Fi p e below s n0 C S Q (T.setTop (mkF m pc' L (st)))) : Fi p e below s n0 C S Q (T.setTop (mkF m pc L (st))) := by
  obtain ⟨locs, Y, -⟩ := X
  exact Fi.of (fun _ q => XS.goto Y.here K.1 rfl (pc0 := pc) (pc' := pc') rfl (hb K.2.2.1 hd) (by omega) (by omega) q) r
theorem i32_eq {x y : Int32} : x = y ↔ x.toInt = y.toInt := Int32.toInt_inj.symm
theorem i64_eq {x y : Int64} : x = y ↔ x.toInt = y.toInt := Int64.toInt_inj.symm
theorem h_icmp_eq {x y : Int32} : if_icmp.holds .eq x y = true ↔ x.toInt = y.toInt := by
  simp only [if_icmp.holds, decide_eq_true_eq, bne_iff_ne, beq_iff_eq, ne_eq, i32_eq, Int32.lt_iff_toInt_lt, Int32.le_iff_toInt_le, GT.gt, GE.ge]
theorem h_icmp_ne {x y : Int32} : if_icmp.holds .ne x y = true ↔ x.toInt ≠ y.toInt := by
  simp only [if_icmp.holds, decide_eq_true_eq, bne_iff_ne, beq_iff_eq, ne_eq, i32_eq, Int32.lt_iff_toInt_lt, Int32.le_iff_toInt_le, GT.gt, GE.ge]
theorem h_icmp_lt {x y : Int32} : if_icmp.holds .lt x y = true ↔ x.toInt < y.toInt := by
  simp only [if_icmp.holds, decide_eq_true_eq, bne_iff_ne, beq_iff_eq, ne_eq, i32_eq, Int32.lt_iff_toInt_lt, Int32.le_iff_toInt_le, GT.gt, GE.ge]
theorem h_icmp_ge {x y : Int32} : if_icmp.holds .ge x y = true ↔ x.toInt ≥ y.toInt := by
  simp only [if_icmp.holds, decide_eq_true_eq, bne_iff_ne, beq_iff_eq, ne_eq, i32_eq, Int32.lt_iff_toInt_lt, Int32.le_iff_toInt_le, GT.gt, GE.ge]
theorem h_icmp_gt {x y : Int32} : if_icmp.holds .gt x y = true ↔ x.toInt > y.toInt := by
  simp only [if_icmp.holds, decide_eq_true_eq, bne_iff_ne, beq_iff_eq, ne_eq, i32_eq, Int32.lt_iff_toInt_lt, Int32.le_iff_toInt_le, GT.gt, GE.ge]
theorem h_icmp_le {x y : Int32} : if_icmp.holds .le x y = true ↔ x.toInt ≤ y.toInt := by
  simp only [if_icmp.holds, decide_eq_true_eq, bne_iff_ne, beq_iff_eq, ne_eq, i32_eq, Int32.lt_iff_toInt_lt, Int32.le_iff_toInt_le, GT.gt, GE.ge]
theorem g_icmp_eq (K : Cx Z p s m meth c own bytes ml rt nm) (X : Wk p l e R s m args below meth c n0 T h cells slots) {pc pc' pc'' : Nat} {L : Array Slot} {st : List Value} {x y : Int32} {o : Int} (xv yv : Int) (hd : decode bytes pc = .ok (.if_icmp .eq o, 3)) (hp : (pc : Int) + o = (pc' : Int)) (hp' : pc + 3 = pc'') (hxv : x.toInt = xv) (hyv : y.toInt = yv) (r1 : xv = yv → Fi p e below s n0 C S Q (T.setTop (mkF m pc' L (st)))) (r2 : xv ≠ yv → Fi p e below s n0 C S Q (T.setTop (mkF m pc'' L (st)))) : Fi p e below s n0 C S Q (T.setTop (mkF m pc L (.int y :: .int x :: st))) := by
  obtain ⟨locs, Y, -⟩ := X
  subst hxv hyv hp'
  by_cases hq : if_icmp.holds .eq x y = true
  · exact Fi.of (fun _ q => XS.icmpYes Y.here K.1 rfl (pc0 := pc) (pc' := pc') rfl (hb K.2.2.1 hd) rfl hq (by omega) (by omega) q) (r1 (h_icmp_eq.mp hq))
  · exact Fi.of (fun _ q => XS.icmpNo Y.here K.1 rfl (hb K.2.2.1 hd) rfl (Bool.eq_false_iff.mpr hq) q) (r2 (by have := mt h_icmp_eq.mpr hq; omega))
theorem g_if_eq (K : Cx Z p s m meth c own bytes ml rt nm) (X : Wk p l e R s m args below meth c n0 T h cells slots) {pc pc' pc'' : Nat} {L : Array Slot} {st : List Value} {x : Int32} {o : Int} (xv : Int) (hd : decode bytes pc = .ok (.ifCond .eq o, 3)) (hp : (pc : Int) + o = (pc' : Int)) (hp' : pc + 3 = pc'') (hxv : x.toInt = xv) (r1 : xv = 0 → Fi p e below s n0 C S Q (T.setTop (mkF m pc' L (st)))) (r2 : xv ≠ 0 → Fi p e below s n0 C S Q (T.setTop (mkF m pc'' L (st)))) : Fi p e below s n0 C S Q (T.setTop (mkF m pc L (.int x :: st))) := by
  obtain ⟨locs, Y, -⟩ := X
  subst hxv hp'
  have z0 : (0 : Int32).toInt = 0 := rfl
  by_cases hq : if_icmp.holds .eq x 0 = true
  · exact Fi.of (fun _ q => XS.ifYes Y.here K.1 rfl (pc0 := pc) (pc' := pc') rfl (hb K.2.2.1 hd) rfl ((if0 _ _).trans hq) (by omega) (by omega) q) (r1 (by have := h_icmp_eq.mp hq; omega))
  · exact Fi.of (fun _ q => XS.ifNo Y.here K.1 rfl (hb K.2.2.1 hd) rfl ((if0 _ _).trans (Bool.eq_false_iff.mpr hq)) q) (r2 (by have := mt h_icmp_eq.mpr hq; omega))
theorem g_lcmp_eq (K : Cx Z p s m meth c own bytes ml rt nm) (X : Wk p l e R s m args below meth c n0 T h cells slots) {pc pc1 pc' pc'' : Nat} {L : Array Slot} {st : List Value} {x y : Int64} {o : Int} (xv yv : Int) (hd : decode bytes pc = .ok (.lcmp, 1)) (hp1 : pc + 1 = pc1) (hd1 : decode bytes pc1 = .ok (.ifCond .eq o, 3)) (hp : (pc1 : Int) + o = (pc' : Int)) (hp' : pc1 + 3 = pc'') (hxv : x.toInt = xv) (hyv : y.toInt = yv) (r1 : xv = yv → Fi p e below s n0 C S Q (T.setTop (mkF m pc' L (st)))) (r2 : xv ≠ yv → Fi p e below s n0 C S Q (T.setTop (mkF m pc'' L (st)))) : Fi p e below s n0 C S Q (T.setTop (mkF m pc L (.long y :: .long x :: st))) := by
  obtain ⟨locs, Y, -⟩ := X
  subst hxv hyv hp' hp1
  have hs : ∀ t, Steps p.tables e below (T.setTop (mkF m (pc + 1) L (.int (XT.cmpL x y) :: st))) t → Steps p.tables e below (T.setTop (mkF m pc L (.long y :: .long x :: st))) t := fun _ q => XS.lcmp Y.here K.1 rfl (hb K.2.2.1 hd) rfl q
  by_cases hq : x.toInt = y.toInt
  · exact Fi.of (fun _ q => hs _ (XS.ifYes Y.here K.1 rfl (pc0 := pc + 1) (pc' := pc') rfl (hb K.2.2.1 hd1) rfl (XT.ll_eq_t (by simpa only [ge_iff_le, gt_iff_lt, ne_eq, i64_eq, Int64.lt_iff_toInt_lt, Int64.le_iff_toInt_le, Int.not_lt] using hq)) (by omega) (by omega) q)) (r1 hq)
  · exact Fi.of (fun _ q => hs _ (XS.ifNo Y.here K.1 rfl (hb K.2.2.1 hd1) rfl (XT.ll_eq_f (by simpa only [ge_iff_le, gt_iff_lt, ne_eq, Decidable.not_not, i64_eq, Int64.lt_iff_toInt_lt, Int64.le_iff_toInt_le, Int.not_lt, Int.not_le] using hq)) q)) (r2 (by omega))
theorem g_icmp_ne (K : Cx Z p s m meth c own bytes ml rt nm) (X : Wk p l e R s m args below meth c n0 T h cells slots) {pc pc' pc'' : Nat} {L : Array Slot} {st : List Value} {x y : Int32} {o : Int} (xv yv : Int) (hd : decode bytes pc = .ok (.if_icmp .ne o, 3)) (hp : (pc : Int) + o = (pc' : Int)) (hp' : pc + 3 = pc'') (hxv : x.toInt = xv) (hyv : y.toInt = yv) (r1 : xv ≠ yv → Fi p e below s n0 C S Q (T.setTop (mkF m pc' L (st)))) (r2 : xv = yv → Fi p e below s n0 C S Q (T.setTop (mkF m pc'' L (st)))) : Fi p e below s n0 C S Q (T.setTop (mkF m pc L (.int y :: .int x :: st))) := by
  obtain ⟨locs, Y, -⟩ := X
  subst hxv hyv hp'
  by_cases hq : if_icmp.holds .ne x y = true
  · exact Fi.of (fun _ q => XS.icmpYes Y.here K.1 rfl (pc0 := pc) (pc' := pc') rfl (hb K.2.2.1 hd) rfl hq (by omega) (by omega) q) (r1 (h_icmp_ne.mp hq))
  · exact Fi.of (fun _ q => XS.icmpNo Y.here K.1 rfl (hb K.2.2.1 hd) rfl (Bool.eq_false_iff.mpr hq) q) (r2 (by have := mt h_icmp_ne.mpr hq; omega))
theorem g_if_ne (K : Cx Z p s m meth c own bytes ml rt nm) (X : Wk p l e R s m args below meth c n0 T h cells slots) {pc pc' pc'' : Nat} {L : Array Slot} {st : List Value} {x : Int32} {o : Int} (xv : Int) (hd : decode bytes pc = .ok (.ifCond .ne o, 3)) (hp : (pc : Int) + o = (pc' : Int)) (hp' : pc + 3 = pc'') (hxv : x.toInt = xv) (r1 : xv ≠ 0 → Fi p e below s n0 C S Q (T.setTop (mkF m pc' L (st)))) (r2 : xv = 0 → Fi p e below s n0 C S Q (T.setTop (mkF m pc'' L (st)))) : Fi p e below s n0 C S Q (T.setTop (mkF m pc L (.int x :: st))) := by
  obtain ⟨locs, Y, -⟩ := X
  subst hxv hp'
  have z0 : (0 : Int32).toInt = 0 := rfl
  by_cases hq : if_icmp.holds .ne x 0 = true
  · exact Fi.of (fun _ q => XS.ifYes Y.here K.1 rfl (pc0 := pc) (pc' := pc') rfl (hb K.2.2.1 hd) rfl ((if0 _ _).trans hq) (by omega) (by omega) q) (r1 (by have := h_icmp_ne.mp hq; omega))
  · exact Fi.of (fun _ q => XS.ifNo Y.here K.1 rfl (hb K.2.2.1 hd) rfl ((if0 _ _).trans (Bool.eq_false_iff.mpr hq)) q) (r2 (by have := mt h_icmp_ne.mpr hq; omega))
theorem g_lcmp_ne (K : Cx Z p s m meth c own bytes ml rt nm) (X : Wk p l e R s m args below meth c n0 T h cells slots) {pc pc1 pc' pc'' : Nat} {L : Array Slot} {st : List Value} {x y : Int64} {o : Int} (xv yv : Int) (hd : decode bytes pc = .ok (.lcmp, 1)) (hp1 : pc + 1 = pc1) (hd1 : decode bytes pc1 = .ok (.ifCond .ne o, 3)) (hp : (pc1 : Int) + o = (pc' : Int)) (hp' : pc1 + 3 = pc'') (hxv : x.toInt = xv) (hyv : y.toInt = yv) (r1 : xv ≠ yv → Fi p e below s n0 C S Q (T.setTop (mkF m pc' L (st)))) (r2 : xv = yv → Fi p e below s n0 C S Q (T.setTop (mkF m pc'' L (st)))) : Fi p e below s n0 C S Q (T.setTop (mkF m pc L (.long y :: .long x :: st))) := by
  obtain ⟨locs, Y, -⟩ := X
  subst hxv hyv hp' hp1
  have hs : ∀ t, Steps p.tables e below (T.setTop (mkF m (pc + 1) L (.int (XT.cmpL x y) :: st))) t → Steps p.tables e below (T.setTop (mkF m pc L (.long y :: .long x :: st))) t := fun _ q => XS.lcmp Y.here K.1 rfl (hb K.2.2.1 hd) rfl q
  by_cases hq : x.toInt ≠ y.toInt
  · exact Fi.of (fun _ q => hs _ (XS.ifYes Y.here K.1 rfl (pc0 := pc + 1) (pc' := pc') rfl (hb K.2.2.1 hd1) rfl (XT.ll_ne_t (by simpa only [ge_iff_le, gt_iff_lt, ne_eq, i64_eq, Int64.lt_iff_toInt_lt, Int64.le_iff_toInt_le, Int.not_lt] using hq)) (by omega) (by omega) q)) (r1 hq)
  · exact Fi.of (fun _ q => hs _ (XS.ifNo Y.here K.1 rfl (hb K.2.2.1 hd1) rfl (XT.ll_ne_f (by simpa only [ge_iff_le, gt_iff_lt, ne_eq, Decidable.not_not, i64_eq, Int64.lt_iff_toInt_lt, Int64.le_iff_toInt_le, Int.not_lt, Int.not_le] using hq)) q)) (r2 (by omega))
theorem g_icmp_lt (K : Cx Z p s m meth c own bytes ml rt nm) (X : Wk p l e R s m args below meth c n0 T h cells slots) {pc pc' pc'' : Nat} {L : Array Slot} {st : List Value} {x y : Int32} {o : Int} (xv yv : Int) (hd : decode bytes pc = .ok (.if_icmp .lt o, 3)) (hp : (pc : Int) + o = (pc' : Int)) (hp' : pc + 3 = pc'') (hxv : x.toInt = xv) (hyv : y.toInt = yv) (r1 : xv < yv → Fi p e below s n0 C S Q (T.setTop (mkF m pc' L (st)))) (r2 : xv ≥ yv → Fi p e below s n0 C S Q (T.setTop (mkF m pc'' L (st)))) : Fi p e below s n0 C S Q (T.setTop (mkF m pc L (.int y :: .int x :: st))) := by
  obtain ⟨locs, Y, -⟩ := X
  subst hxv hyv hp'
  by_cases hq : if_icmp.holds .lt x y = true
  · exact Fi.of (fun _ q => XS.icmpYes Y.here K.1 rfl (pc0 := pc) (pc' := pc') rfl (hb K.2.2.1 hd) rfl hq (by omega) (by omega) q) (r1 (h_icmp_lt.mp hq))
  · exact Fi.of (fun _ q => XS.icmpNo Y.here K.1 rfl (hb K.2.2.1 hd) rfl (Bool.eq_false_iff.mpr hq) q) (r2 (by have := mt h_icmp_lt.mpr hq; omega))
theorem g_if_lt (K : Cx Z p s m meth c own bytes ml rt nm) (X : Wk p l e R s m args below meth c n0 T h cells slots) {pc pc' pc'' : Nat} {L : Array Slot} {st : List Value} {x : Int32} {o : Int} (xv : Int) (hd : decode bytes pc = .ok (.ifCond .lt o, 3)) (hp : (pc : Int) + o = (pc' : Int)) (hp' : pc + 3 = pc'') (hxv : x.toInt = xv) (r1 : xv < 0 → Fi p e below s n0 C S Q (T.setTop (mkF m pc' L (st)))) (r2 : xv ≥ 0 → Fi p e below s n0 C S Q (T.setTop (mkF m pc'' L (st)))) : Fi p e below s n0 C S Q (T.setTop (mkF m pc L (.int x :: st))) := by
  obtain ⟨locs, Y, -⟩ := X
  subst hxv hp'
  have z0 : (0 : Int32).toInt = 0 := rfl
  by_cases hq : if_icmp.holds .lt x 0 = true
  · exact Fi.of (fun _ q => XS.ifYes Y.here K.1 rfl (pc0 := pc) (pc' := pc') rfl (hb K.2.2.1 hd) rfl ((if0 _ _).trans hq) (by omega) (by omega) q) (r1 (by have := h_icmp_lt.mp hq; omega))
  · exact Fi.of (fun _ q => XS.ifNo Y.here K.1 rfl (hb K.2.2.1 hd) rfl ((if0 _ _).trans (Bool.eq_false_iff.mpr hq)) q) (r2 (by have := mt h_icmp_lt.mpr hq; omega))
theorem g_lcmp_lt (K : Cx Z p s m meth c own bytes ml rt nm) (X : Wk p l e R s m args below meth c n0 T h cells slots) {pc pc1 pc' pc'' : Nat} {L : Array Slot} {st : List Value} {x y : Int64} {o : Int} (xv yv : Int) (hd : decode bytes pc = .ok (.lcmp, 1)) (hp1 : pc + 1 = pc1) (hd1 : decode bytes pc1 = .ok (.ifCond .lt o, 3)) (hp : (pc1 : Int) + o = (pc' : Int)) (hp' : pc1 + 3 = pc'') (hxv : x.toInt = xv) (hyv : y.toInt = yv) (r1 : xv < yv → Fi p e below s n0 C S Q (T.setTop (mkF m pc' L (st)))) (r2 : xv ≥ yv → Fi p e below s n0 C S Q (T.setTop (mkF m pc'' L (st)))) : Fi p e below s n0 C S Q (T.setTop (mkF m pc L (.long y :: .long x :: st))) := by
  obtain ⟨locs, Y, -⟩ := X
  subst hxv hyv hp' hp1
  have hs : ∀ t, Steps p.tables e below (T.setTop (mkF m (pc + 1) L (.int (XT.cmpL x y) :: st))) t → Steps p.tables e below (T.setTop (mkF m pc L (.long y :: .long x :: st))) t := fun _ q => XS.lcmp Y.here K.1 rfl (hb K.2.2.1 hd) rfl q
  by_cases hq : x.toInt < y.toInt
  · exact Fi.of (fun _ q => hs _ (XS.ifYes Y.here K.1 rfl (pc0 := pc + 1) (pc' := pc') rfl (hb K.2.2.1 hd1) rfl (XT.ll_lt_t (by simpa only [ge_iff_le, gt_iff_lt, ne_eq, i64_eq, Int64.lt_iff_toInt_lt, Int64.le_iff_toInt_le, Int.not_lt] using hq)) (by omega) (by omega) q)) (r1 hq)
  · exact Fi.of (fun _ q => hs _ (XS.ifNo Y.here K.1 rfl (hb K.2.2.1 hd1) rfl (XT.ll_lt_f (by simpa only [ge_iff_le, gt_iff_lt, ne_eq, Decidable.not_not, i64_eq, Int64.lt_iff_toInt_lt, Int64.le_iff_toInt_le, Int.not_lt, Int.not_le] using hq)) q)) (r2 (by omega))
theorem g_icmp_ge (K : Cx Z p s m meth c own bytes ml rt nm) (X : Wk p l e R s m args below meth c n0 T h cells slots) {pc pc' pc'' : Nat} {L : Array Slot} {st : List Value} {x y : Int32} {o : Int} (xv yv : Int) (hd : decode bytes pc = .ok (.if_icmp .ge o, 3)) (hp : (pc : Int) + o = (pc' : Int)) (hp' : pc + 3 = pc'') (hxv : x.toInt = xv) (hyv : y.toInt = yv) (r1 : xv ≥ yv → Fi p e below s n0 C S Q (T.setTop (mkF m pc' L (st)))) (r2 : xv < yv → Fi p e below s n0 C S Q (T.setTop (mkF m pc'' L (st)))) : Fi p e below s n0 C S Q (T.setTop (mkF m pc L (.int y :: .int x :: st))) := by
  obtain ⟨locs, Y, -⟩ := X
  subst hxv hyv hp'
  by_cases hq : if_icmp.holds .ge x y = true
  · exact Fi.of (fun _ q => XS.icmpYes Y.here K.1 rfl (pc0 := pc) (pc' := pc') rfl (hb K.2.2.1 hd) rfl hq (by omega) (by omega) q) (r1 (h_icmp_ge.mp hq))
  · exact Fi.of (fun _ q => XS.icmpNo Y.here K.1 rfl (hb K.2.2.1 hd) rfl (Bool.eq_false_iff.mpr hq) q) (r2 (by have := mt h_icmp_ge.mpr hq; omega))
theorem g_if_ge (K : Cx Z p s m meth c own bytes ml rt nm) (X : Wk p l e R s m args below meth c n0 T h cells slots) {pc pc' pc'' : Nat} {L : Array Slot} {st : List Value} {x : Int32} {o : Int} (xv : Int) (hd : decode bytes pc = .ok (.ifCond .ge o, 3)) (hp : (pc : Int) + o = (pc' : Int)) (hp' : pc + 3 = pc'') (hxv : x.toInt = xv) (r1 : xv ≥ 0 → Fi p e below s n0 C S Q (T.setTop (mkF m pc' L (st)))) (r2 : xv < 0 → Fi p e below s n0 C S Q (T.setTop (mkF m pc'' L (st)))) : Fi p e below s n0 C S Q (T.setTop (mkF m pc L (.int x :: st))) := by
  obtain ⟨locs, Y, -⟩ := X
  subst hxv hp'
  have z0 : (0 : Int32).toInt = 0 := rfl
  by_cases hq : if_icmp.holds .ge x 0 = true
  · exact Fi.of (fun _ q => XS.ifYes Y.here K.1 rfl (pc0 := pc) (pc' := pc') rfl (hb K.2.2.1 hd) rfl ((if0 _ _).trans hq) (by omega) (by omega) q) (r1 (by have := h_icmp_ge.mp hq; omega))
  · exact Fi.of (fun _ q => XS.ifNo Y.here K.1 rfl (hb K.2.2.1 hd) rfl ((if0 _ _).trans (Bool.eq_false_iff.mpr hq)) q) (r2 (by have := mt h_icmp_ge.mpr hq; omega))
theorem g_lcmp_ge (K : Cx Z p s m meth c own bytes ml rt nm) (X : Wk p l e R s m args below meth c n0 T h cells slots) {pc pc1 pc' pc'' : Nat} {L : Array Slot} {st : List Value} {x y : Int64} {o : Int} (xv yv : Int) (hd : decode bytes pc = .ok (.lcmp, 1)) (hp1 : pc + 1 = pc1) (hd1 : decode bytes pc1 = .ok (.ifCond .ge o, 3)) (hp : (pc1 : Int) + o = (pc' : Int)) (hp' : pc1 + 3 = pc'') (hxv : x.toInt = xv) (hyv : y.toInt = yv) (r1 : xv ≥ yv → Fi p e below s n0 C S Q (T.setTop (mkF m pc' L (st)))) (r2 : xv < yv → Fi p e below s n0 C S Q (T.setTop (mkF m pc'' L (st)))) : Fi p e below s n0 C S Q (T.setTop (mkF m pc L (.long y :: .long x :: st))) := by
  obtain ⟨locs, Y, -⟩ := X
  subst hxv hyv hp' hp1
  have hs : ∀ t, Steps p.tables e below (T.setTop (mkF m (pc + 1) L (.int (XT.cmpL x y) :: st))) t → Steps p.tables e below (T.setTop (mkF m pc L (.long y :: .long x :: st))) t := fun _ q => XS.lcmp Y.here K.1 rfl (hb K.2.2.1 hd) rfl q
  by_cases hq : x.toInt ≥ y.toInt
  · exact Fi.of (fun _ q => hs _ (XS.ifYes Y.here K.1 rfl (pc0 := pc + 1) (pc' := pc') rfl (hb K.2.2.1 hd1) rfl (XT.ll_ge_t (by simpa only [ge_iff_le, gt_iff_lt, ne_eq, i64_eq, Int64.lt_iff_toInt_lt, Int64.le_iff_toInt_le, Int.not_lt] using hq)) (by omega) (by omega) q)) (r1 hq)
  · exact Fi.of (fun _ q => hs _ (XS.ifNo Y.here K.1 rfl (hb K.2.2.1 hd1) rfl (XT.ll_ge_f (by simpa only [ge_iff_le, gt_iff_lt, ne_eq, Decidable.not_not, i64_eq, Int64.lt_iff_toInt_lt, Int64.le_iff_toInt_le, Int.not_lt, Int.not_le] using hq)) q)) (r2 (by omega))
theorem g_icmp_gt (K : Cx Z p s m meth c own bytes ml rt nm) (X : Wk p l e R s m args below meth c n0 T h cells slots) {pc pc' pc'' : Nat} {L : Array Slot} {st : List Value} {x y : Int32} {o : Int} (xv yv : Int) (hd : decode bytes pc = .ok (.if_icmp .gt o, 3)) (hp : (pc : Int) + o = (pc' : Int)) (hp' : pc + 3 = pc'') (hxv : x.toInt = xv) (hyv : y.toInt = yv) (r1 : xv > yv → Fi p e below s n0 C S Q (T.setTop (mkF m pc' L (st)))) (r2 : xv ≤ yv → Fi p e below s n0 C S Q (T.setTop (mkF m pc'' L (st)))) : Fi p e below s n0 C S Q (T.setTop (mkF m pc L (.int y :: .int x :: st))) := by
  obtain ⟨locs, Y, -⟩ := X
  subst hxv hyv hp'
  by_cases hq : if_icmp.holds .gt x y = true
  · exact Fi.of (fun _ q => XS.icmpYes Y.here K.1 rfl (pc0 := pc) (pc' := pc') rfl (hb K.2.2.1 hd) rfl hq (by omega) (by omega) q) (r1 (h_icmp_gt.mp hq))
  · exact Fi.of (fun _ q => XS.icmpNo Y.here K.1 rfl (hb K.2.2.1 hd) rfl (Bool.eq_false_iff.mpr hq) q) (r2 (by have := mt h_icmp_gt.mpr hq; omega))
theorem g_if_gt (K : Cx Z p s m meth c own bytes ml rt nm) (X : Wk p l e R s m args below meth c n0 T h cells slots) {pc pc' pc'' : Nat} {L : Array Slot} {st : List Value} {x : Int32} {o : Int} (xv : Int) (hd : decode bytes pc = .ok (.ifCond .gt o, 3)) (hp : (pc : Int) + o = (pc' : Int)) (hp' : pc + 3 = pc'') (hxv : x.toInt = xv) (r1 : xv > 0 → Fi p e below s n0 C S Q (T.setTop (mkF m pc' L (st)))) (r2 : xv ≤ 0 → Fi p e below s n0 C S Q (T.setTop (mkF m pc'' L (st)))) : Fi p e below s n0 C S Q (T.setTop (mkF m pc L (.int x :: st))) := by
  obtain ⟨locs, Y, -⟩ := X
  subst hxv hp'
  have z0 : (0 : Int32).toInt = 0 := rfl
  by_cases hq : if_icmp.holds .gt x 0 = true
  · exact Fi.of (fun _ q => XS.ifYes Y.here K.1 rfl (pc0 := pc) (pc' := pc') rfl (hb K.2.2.1 hd) rfl ((if0 _ _).trans hq) (by omega) (by omega) q) (r1 (by have := h_icmp_gt.mp hq; omega))
  · exact Fi.of (fun _ q => XS.ifNo Y.here K.1 rfl (hb K.2.2.1 hd) rfl ((if0 _ _).trans (Bool.eq_false_iff.mpr hq)) q) (r2 (by have := mt h_icmp_gt.mpr hq; omega))
theorem g_lcmp_gt (K : Cx Z p s m meth c own bytes ml rt nm) (X : Wk p l e R s m args below meth c n0 T h cells slots) {pc pc1 pc' pc'' : Nat} {L : Array Slot} {st : List Value} {x y : Int64} {o : Int} (xv yv : Int) (hd : decode bytes pc = .ok (.lcmp, 1)) (hp1 : pc + 1 = pc1) (hd1 : decode bytes pc1 = .ok (.ifCond .gt o, 3)) (hp : (pc1 : Int) + o = (pc' : Int)) (hp' : pc1 + 3 = pc'') (hxv : x.toInt = xv) (hyv : y.toInt = yv) (r1 : xv > yv → Fi p e below s n0 C S Q (T.setTop (mkF m pc' L (st)))) (r2 : xv ≤ yv → Fi p e below s n0 C S Q (T.setTop (mkF m pc'' L (st)))) : Fi p e below s n0 C S Q (T.setTop (mkF m pc L (.long y :: .long x :: st))) := by
  obtain ⟨locs, Y, -⟩ := X
  subst hxv hyv hp' hp1
  have hs : ∀ t, Steps p.tables e below (T.setTop (mkF m (pc + 1) L (.int (XT.cmpL x y) :: st))) t → Steps p.tables e below (T.setTop (mkF m pc L (.long y :: .long x :: st))) t := fun _ q => XS.lcmp Y.here K.1 rfl (hb K.2.2.1 hd) rfl q
  by_cases hq : x.toInt > y.toInt
  · exact Fi.of (fun _ q => hs _ (XS.ifYes Y.here K.1 rfl (pc0 := pc + 1) (pc' := pc') rfl (hb K.2.2.1 hd1) rfl (XT.ll_gt_t (by simpa only [ge_iff_le, gt_iff_lt, ne_eq, i64_eq, Int64.lt_iff_toInt_lt, Int64.le_iff_toInt_le, Int.not_lt] using hq)) (by omega) (by omega) q)) (r1 hq)
  · exact Fi.of (fun _ q => hs _ (XS.ifNo Y.here K.1 rfl (hb K.2.2.1 hd1) rfl (XT.ll_gt_f (by simpa only [ge_iff_le, gt_iff_lt, ne_eq, Decidable.not_not, i64_eq, Int64.lt_iff_toInt_lt, Int64.le_iff_toInt_le, Int.not_lt, Int.not_le] using hq)) q)) (r2 (by omega))
theorem g_icmp_le (K : Cx Z p s m meth c own bytes ml rt nm) (X : Wk p l e R s m args below meth c n0 T h cells slots) {pc pc' pc'' : Nat} {L : Array Slot} {st : List Value} {x y : Int32} {o : Int} (xv yv : Int) (hd : decode bytes pc = .ok (.if_icmp .le o, 3)) (hp : (pc : Int) + o = (pc' : Int)) (hp' : pc + 3 = pc'') (hxv : x.toInt = xv) (hyv : y.toInt = yv) (r1 : xv ≤ yv → Fi p e below s n0 C S Q (T.setTop (mkF m pc' L (st)))) (r2 : xv > yv → Fi p e below s n0 C S Q (T.setTop (mkF m pc'' L (st)))) : Fi p e below s n0 C S Q (T.setTop (mkF m pc L (.int y :: .int x :: st))) := by
  obtain ⟨locs, Y, -⟩ := X
  subst hxv hyv hp'
  by_cases hq : if_icmp.holds .le x y = true
  · exact Fi.of (fun _ q => XS.icmpYes Y.here K.1 rfl (pc0 := pc) (pc' := pc') rfl (hb K.2.2.1 hd) rfl hq (by omega) (by omega) q) (r1 (h_icmp_le.mp hq))
  · exact Fi.of (fun _ q => XS.icmpNo Y.here K.1 rfl (hb K.2.2.1 hd) rfl (Bool.eq_false_iff.mpr hq) q) (r2 (by have := mt h_icmp_le.mpr hq; omega))
theorem g_if_le (K : Cx Z p s m meth c own bytes ml rt nm) (X : Wk p l e R s m args below meth c n0 T h cells slots) {pc pc' pc'' : Nat} {L : Array Slot} {st : List Value} {x : Int32} {o : Int} (xv : Int) (hd : decode bytes pc = .ok (.ifCond .le o, 3)) (hp : (pc : Int) + o = (pc' : Int)) (hp' : pc + 3 = pc'') (hxv : x.toInt = xv) (r1 : xv ≤ 0 → Fi p e below s n0 C S Q (T.setTop (mkF m pc' L (st)))) (r2 : xv > 0 → Fi p e below s n0 C S Q (T.setTop (mkF m pc'' L (st)))) : Fi p e below s n0 C S Q (T.setTop (mkF m pc L (.int x :: st))) := by
  obtain ⟨locs, Y, -⟩ := X
  subst hxv hp'
  have z0 : (0 : Int32).toInt = 0 := rfl
  by_cases hq : if_icmp.holds .le x 0 = true
  · exact Fi.of (fun _ q => XS.ifYes Y.here K.1 rfl (pc0 := pc) (pc' := pc') rfl (hb K.2.2.1 hd) rfl ((if0 _ _).trans hq) (by omega) (by omega) q) (r1 (by have := h_icmp_le.mp hq; omega))
  · exact Fi.of (fun _ q => XS.ifNo Y.here K.1 rfl (hb K.2.2.1 hd) rfl ((if0 _ _).trans (Bool.eq_false_iff.mpr hq)) q) (r2 (by have := mt h_icmp_le.mpr hq; omega))
theorem g_lcmp_le (K : Cx Z p s m meth c own bytes ml rt nm) (X : Wk p l e R s m args below meth c n0 T h cells slots) {pc pc1 pc' pc'' : Nat} {L : Array Slot} {st : List Value} {x y : Int64} {o : Int} (xv yv : Int) (hd : decode bytes pc = .ok (.lcmp, 1)) (hp1 : pc + 1 = pc1) (hd1 : decode bytes pc1 = .ok (.ifCond .le o, 3)) (hp : (pc1 : Int) + o = (pc' : Int)) (hp' : pc1 + 3 = pc'') (hxv : x.toInt = xv) (hyv : y.toInt = yv) (r1 : xv ≤ yv → Fi p e below s n0 C S Q (T.setTop (mkF m pc' L (st)))) (r2 : xv > yv → Fi p e below s n0 C S Q (T.setTop (mkF m pc'' L (st)))) : Fi p e below s n0 C S Q (T.setTop (mkF m pc L (.long y :: .long x :: st))) := by
  obtain ⟨locs, Y, -⟩ := X
  subst hxv hyv hp' hp1
  have hs : ∀ t, Steps p.tables e below (T.setTop (mkF m (pc + 1) L (.int (XT.cmpL x y) :: st))) t → Steps p.tables e below (T.setTop (mkF m pc L (.long y :: .long x :: st))) t := fun _ q => XS.lcmp Y.here K.1 rfl (hb K.2.2.1 hd) rfl q
  by_cases hq : x.toInt ≤ y.toInt
  · exact Fi.of (fun _ q => hs _ (XS.ifYes Y.here K.1 rfl (pc0 := pc + 1) (pc' := pc') rfl (hb K.2.2.1 hd1) rfl (XT.ll_le_t (by simpa only [ge_iff_le, gt_iff_lt, ne_eq, i64_eq, Int64.lt_iff_toInt_lt, Int64.le_iff_toInt_le, Int.not_lt] using hq)) (by omega) (by omega) q)) (r1 hq)
  · exact Fi.of (fun _ q => hs _ (XS.ifNo Y.here K.1 rfl (hb K.2.2.1 hd1) rfl (XT.ll_le_f (by simpa only [ge_iff_le, gt_iff_lt, ne_eq, Decidable.not_not, i64_eq, Int64.lt_iff_toInt_lt, Int64.le_iff_toInt_le, Int.not_lt, Int.not_le] using hq)) q)) (r2 (by omega))
theorem g_leave (K : Cx Z p s m meth c own bytes ml rt nm) (X : Wk p l e R s m args below meth c n0 T h cells slots) {v : Option Value} {t0 : State} (hv : rt = none → v = none) (hc : cells ≤ C) (hs : slots ≤ S) (hq : Q v h)
    (st : ∀ fs, (∀ (f : JFrame) (acts : List Action), f.method = m → f.locked = none → f.entered = [] → (doReturn e (T.setTop f) acts v).1 = T.setFrames fs) → Steps p.tables e below t0 (T.setFrames fs)) : Fi p e below s n0 C S Q t0 := by
  obtain ⟨locs, Y, rfl, hF, -⟩ := X
  obtain ⟨fs, hr, hrun, hended, hW, hsame⟩ := Y.leave (v := v) (fun q => hv (K.2.2.2.2.2.1.symm.trans q)) K.2.2.2.2.2.2.1
  exact ⟨_, _, st fs hr, hrun, hended, v, locs, rfl, ⟨hq, hF⟩, ⟨_, rfl⟩, hW, hsame.mono hc hs⟩
theorem g_retN {t : FieldType} (K : Cx Z p s m meth c own bytes ml (some t) nm) (X : Wk p l e R s m args below meth c n0 T h cells slots) {pc : Nat} {L : Array Slot} {z : Int32} {rest : List Value} (hd : decode bytes pc = .ok (.ireturn, 1)) (ht : t = .boolean ∨ t = .byte ∨ t = .char ∨ t = .short) (hc : cells ≤ C) (hs : slots ≤ S) (hq : Q (some (.int (nar t z))) h) : Fi p e below s n0 C S Q (T.setTop (mkF m pc L (.int z :: rest))) := by
  refine g_leave K X (v := some (.int (nar t z))) (fun q => by cases q) hc hs hq (fun fs hr => ?_)
  obtain ⟨locs, Y, -⟩ := X
  exact retN Y K.1 (t := t) K.2.2.2.2.2.1 ht (hb K.2.2.1 hd) hr
theorem g_retI (K : Cx Z p s m meth c own bytes ml (some .int) nm) (X : Wk p l e R s m args below meth c n0 T h cells slots) {pc : Nat} {L : Array Slot} {z : Int32} {rest : List Value} (hd : decode bytes pc = .ok (.ireturn, 1)) (hc : cells ≤ C) (hs : slots ≤ S) (hq : Q (some (.int z)) h) : Fi p e below s n0 C S Q (T.setTop (mkF m pc L (.int z :: rest))) := by
  refine g_leave K X (v := some (.int z)) (fun q => by cases q) hc hs hq (fun fs hr => ?_)
  obtain ⟨locs, Y, -⟩ := X
  exact retOut Y K.1 K.2.2.2.2.2.1 rfl (Or.inl ⟨rfl, Or.inl rfl, _, rfl⟩) (hb K.2.2.1 hd) hr
theorem g_retL (K : Cx Z p s m meth c own bytes ml (some .long) nm) (X : Wk p l e R s m args below meth c n0 T h cells slots) {pc : Nat} {L : Array Slot} {z : Int64} {rest : List Value} (hd : decode bytes pc = .ok (.lreturn, 1)) (hc : cells ≤ C) (hs : slots ≤ S) (hq : Q (some (.long z)) h) : Fi p e below s n0 C S Q (T.setTop (mkF m pc L (.long z :: rest))) := by
  refine g_leave K X (v := some (.long z)) (fun q => by cases q) hc hs hq (fun fs hr => ?_)
  obtain ⟨locs, Y, -⟩ := X
  exact retOut Y K.1 K.2.2.2.2.2.1 rfl (Or.inr (Or.inl ⟨rfl, rfl, _, rfl⟩)) (hb K.2.2.1 hd) hr
theorem g_retA {t : FieldType} (K : Cx Z p s m meth c own bytes ml (some t) nm) (X : Wk p l e R s m args below meth c n0 T h cells slots) {pc : Nat} {L : Array Slot} {a : Addr} {rest : List Value} (hd : decode bytes pc = .ok (.areturn, 1)) (ht : t.isReference = true) (hnw : narrow t (.ref a) = .ref a) (hc : cells ≤ C) (hs : slots ≤ S) (hq : Q (some (.ref a)) h) : Fi p e below s n0 C S Q (T.setTop (mkF m pc L (.ref a :: rest))) := by
  refine g_leave K X (v := some (.ref a)) (fun q => by cases q) hc hs hq (fun fs hr => ?_)
  obtain ⟨locs, Y, -⟩ := X
  exact retOut Y K.1 K.2.2.2.2.2.1 hnw (Or.inr (Or.inr (Or.inr (Or.inr ⟨rfl, ht, rfl⟩)))) (hb K.2.2.1 hd) hr
theorem g_ret0 (K : Cx Z p s m meth c own bytes ml none nm) (X : Wk p l e R s m args below meth c n0 T h cells slots) {pc : Nat} {L : Array Slot} (hd : decode bytes pc = .ok (.return_, 1)) (hc : cells ≤ C) (hs : slots ≤ S) (hq : Q none h) : Fi p e below s n0 C S Q (T.setTop (mkF m pc L [])) := by
  refine g_leave K X (v := none) (fun q => rfl) hc hs hq (fun fs hr => ?_)
  obtain ⟨locs, Y, -⟩ := X
  exact Y.returnOut K.1 K.2.2.2.2.2.1 (hb K.2.2.1 hd) hr
theorem keep_same {h0 h1 h2 : Heap} {ws : List Addr} (K1 : Keep h0 h1 ws) (K2 : Keep h1 h2 ws) : Keep h0 h2 ws := K1.trans K2 (fun x hx => Or.inl hx)
/-! arrays by a function of the place -/
def upd {α : Type} (f : Nat → α) (i : Nat) (v : α) : Nat → α := fun j => if j = i then v else f j
theorem upd_hit {α : Type} (f : Nat → α) (i : Nat) (v : α) : upd f i v i = v := by simp [upd]
theorem upd_miss {α : Type} (f : Nat → α) {i j : Nat} (v : α) (hn : j ≠ i) : upd f i v j = f j := by simp [upd, hn]
def AN (Z : State) (h : Heap) (a : Addr) (ty : FieldType) (n : Nat) (f : Nat → Int32) : Prop := ∃ c : Cell, Arr Z h a c ty ∧ c.slots.size = n ∧ n < 2147483648 ∧ ∀ i, i < n → c.slots[i]? = some (.int (f i))
def AL (Z : State) (h : Heap) (a : Addr) (n : Nat) (f : Nat → Int64) : Prop := ∃ c : Cell, Arr Z h a c .long ∧ c.slots.size = n ∧ n < 2147483648 ∧ ∀ i, i < n → c.slots[i]? = some (.long (f i))
theorem j_in {j : Int32} {i n : Nat} (hj : j.toInt = (i : Int)) (hi : i < n) : ¬ (j < 0 ∨ n ≤ j.toNatClampNeg) ∧ j.toNatClampNeg = i := by
  have h1 : j.toNatClampNeg = i := by
    show j.toInt.toNat = i
    omega
  have h2 : ¬ j < 0 := by rw [Int32.lt_iff_toInt_lt]; show ¬ j.toInt < 0; omega
  exact ⟨fun q => q.elim h2 (by omega), h1⟩
theorem AN.lt {a : Addr} {ty : FieldType} {n : Nat} {f : Nat → Int32} (A : AN Z h a ty n f) : a < h.size := by obtain ⟨c, A, -⟩ := A; exact A.lt
theorem AN.ext {h' : Heap} {a : Addr} {ty : FieldType} {n : Nat} {f : Nat → Int32} (A : AN Z h a ty n f) (E : Ext h h') : AN Z h' a ty n f := by obtain ⟨c, A, r⟩ := A; exact ⟨c, A.ext E, r⟩
theorem AN.keep {h' : Heap} {ws : List Addr} {a : Addr} {ty : FieldType} {n : Nat} {f : Nat → Int32} (A : AN Z h a ty n f) (K : Keep h h' ws) (q : a ∉ ws) : AN Z h' a ty n f := by obtain ⟨c, A, r⟩ := A; exact ⟨c, ⟨K.2.1 a c A.1 q, A.2⟩, r⟩
theorem AN.congr {a : Addr} {ty : FieldType} {n : Nat} {f f' : Nat → Int32} (A : AN Z h a ty n f) (q : ∀ i, i < n → f i = f' i) : AN Z h a ty n f' := by obtain ⟨c, A, r1, r2, r3⟩ := A; exact ⟨c, A, r1, r2, fun i hi => by rw [← q i hi]; exact r3 i hi⟩
theorem AN.set {h' : Heap} {a : Addr} {ty : FieldType} {n i : Nat} {f : Nat → Int32} {v : Int32} {c : Cell} (A : Arr Z h a c ty) (q1 : c.slots.size = n) (q2 : n < 2147483648) (q3 : ∀ i, i < n → c.slots[i]? = some (.int (f i))) (hi : i < n) (W : Wr h h' a i (.int v)) : AN Z h' a ty n (upd f i v) := by
  refine ⟨_, A.same W, ?_, q2, fun k hk => ?_⟩
  · rw [sz_set]; exact q1
  · by_cases hki : k = i
    · subst hki
      simp [Cell.setSlot, upd, q1, hi]
    · have : ¬ i = k := fun q => hki q.symm
      simp [Cell.setSlot, upd, hki, this, q3 k hk, Array.getElem?_setIfInBounds]
theorem AL.lt {a : Addr} {n : Nat} {f : Nat → Int64} (A : AL Z h a n f) : a < h.size := by obtain ⟨c, A, -⟩ := A; exact A.lt
theorem AL.ext {h' : Heap} {a : Addr} {n : Nat} {f : Nat → Int64} (A : AL Z h a n f) (E : Ext h h') : AL Z h' a n f := by obtain ⟨c, A, r⟩ := A; exact ⟨c, A.ext E, r⟩
theorem AL.keep {h' : Heap} {ws : List Addr} {a : Addr} {n : Nat} {f : Nat → Int64} (A : AL Z h a n f) (K : Keep h h' ws) (q : a ∉ ws) : AL Z h' a n f := by obtain ⟨c, A, r⟩ := A; exact ⟨c, ⟨K.2.1 a c A.1 q, A.2⟩, r⟩
theorem AL.congr {a : Addr} {n : Nat} {f f' : Nat → Int64} (A : AL Z h a n f) (q : ∀ i, i < n → f i = f' i) : AL Z h a n f' := by obtain ⟨c, A, r1, r2, r3⟩ := A; exact ⟨c, A, r1, r2, fun i hi => by rw [← q i hi]; exact r3 i hi⟩
theorem AL.set {h' : Heap} {a : Addr} {n i : Nat} {f : Nat → Int64} {v : Int64} {c : Cell} (A : Arr Z h a c .long) (q1 : c.slots.size = n) (q2 : n < 2147483648) (q3 : ∀ i, i < n → c.slots[i]? = some (.long (f i))) (hi : i < n) (W : Wr h h' a i (.long v)) : AL Z h' a n (upd f i v) := by
  refine ⟨_, A.same W, ?_, q2, fun k hk => ?_⟩
  · rw [sz_set]; exact q1
  · by_cases hki : k = i
    · subst hki
      simp [Cell.setSlot, upd, q1, hi]
    · have : ¬ i = k := fun q => hki q.symm
      simp [Cell.setSlot, upd, hki, this, q3 k hk, Array.getElem?_setIfInBounds]
theorem AN.len {a : Addr} {ty : FieldType} {n : Nat} {f : Nat → Int32} (A : AN Z h a ty n f) : (Int32.ofNat n).toInt = (n : Int) := by
  obtain ⟨c, _, _, q2, _⟩ := A
  exact Int32.toInt_ofNat_of_lt q2
theorem jb_rng (x : Int32) : (jb x).toInt % 256 = x.toInt % 256 ∧ -128 ≤ (jb x).toInt ∧ (jb x).toInt < 128 := by
  have := c_i2b x
  unfold jb
  omega
theorem jb_id {x : Int32} (h1 : -128 ≤ x.toInt) (h2 : x.toInt < 128) : jb x = x := by
  have := jb_rng x
  rw [i32_eq]; omega
theorem jb_jb (x : Int32) : jb (jb x) = jb x := by
  have := jb_rng x
  exact jb_id (by omega) (by omega)
theorem jc_rng (x : Int32) : (jc x).toInt % 65536 = x.toInt % 65536 ∧ 0 ≤ (jc x).toInt ∧ (jc x).toInt < 65536 := by
  have := c_i2c x
  unfold jc
  omega
theorem jc_id {x : Int32} (h1 : 0 ≤ x.toInt) (h2 : x.toInt < 65536) : jc x = x := by
  have := jc_rng x
  rw [i32_eq]; omega
theorem nar_c (x : Int32) : nar .char x = jc x := rfl
theorem nar_b (x : Int32) : nar .byte x = jb x := rfl
theorem g_baload (K : Cx Z p s m meth c own bytes ml rt nm) (X : Wk p l e R s m args below meth c n0 T h cells slots) {pc pc' : Nat} {L : Array Slot} {st : List Value} {j : Int32} {a : Addr} {i n : Nat} {f : Nat → Int32} (hd : decode bytes pc = .ok (.baload, 1)) (hp : pc + 1 = pc') (A : AN Z h a .byte n f) (hj : j.toInt = (i : Int)) (hi : i < n) (r : Fi p e below s n0 C S Q (T.setTop (mkF m pc' L (.int (f i) :: st)))) : Fi p e below s n0 C S Q (T.setTop (mkF m pc L (.int j :: .ref a :: st))) := by
  obtain ⟨locs, Y, hh, -⟩ := X
  subst hp
  obtain ⟨cl, B, rfl, q2, q3⟩ := A
  obtain ⟨hin, e⟩ := j_in hj hi
  exact Fi.of (fun _ q => Y.baloadBytes K.1 (j := j) (v := .int (f i)) (by rw [hh]; exact B.1) (State.isArrayOf_alike K.2.1.alike B.2.1) B.2.2 hin (by rw [e]; exact q3 i hi) (g := mkF m pc L (.int j :: .ref a :: st)) rfl rfl (hb K.2.2.1 hd) _ q) r
theorem g_iaload (K : Cx Z p s m meth c own bytes ml rt nm) (X : Wk p l e R s m args below meth c n0 T h cells slots) {pc pc' : Nat} {L : Array Slot} {st : List Value} {j : Int32} {a : Addr} {i n : Nat} {f : Nat → Int32} (hd : decode bytes pc = .ok (.iaload, 1)) (hp : pc + 1 = pc') (A : AN Z h a .int n f) (hj : j.toInt = (i : Int)) (hi : i < n) (r : Fi p e below s n0 C S Q (T.setTop (mkF m pc' L (.int (f i) :: st)))) : Fi p e below s n0 C S Q (T.setTop (mkF m pc L (.int j :: .ref a :: st))) := by
  obtain ⟨locs, Y, hh, -⟩ := X
  subst hp
  obtain ⟨cl, B, rfl, q2, q3⟩ := A
  obtain ⟨hin, e⟩ := j_in hj hi
  exact Fi.of (fun _ q => Y.iaload K.1 (j := j) (v := .int (f i)) (by rw [hh]; exact B.1) (State.isArrayOf_alike K.2.1.alike B.2.1) B.2.2 hin (by rw [e]; exact q3 i hi) (g := mkF m pc L (.int j :: .ref a :: st)) rfl rfl (hb K.2.2.1 hd) _ q) r
theorem g_laload (K : Cx Z p s m meth c own bytes ml rt nm) (X : Wk p l e R s m args below meth c n0 T h cells slots) {pc pc' : Nat} {L : Array Slot} {st : List Value} {j : Int32} {a : Addr} {i n : Nat} {f : Nat → Int64} (hd : decode bytes pc = .ok (.laload, 1)) (hp : pc + 1 = pc') (A : AL Z h a n f) (hj : j.toInt = (i : Int)) (hi : i < n) (r : Fi p e below s n0 C S Q (T.setTop (mkF m pc' L (.long (f i) :: st)))) : Fi p e below s n0 C S Q (T.setTop (mkF m pc L (.int j :: .ref a :: st))) := by
  obtain ⟨locs, Y, hh, -⟩ := X
  subst hp
  obtain ⟨cl, B, rfl, q2, q3⟩ := A
  obtain ⟨hin, e⟩ := j_in hj hi
  exact Fi.of (fun _ q => Y.laload K.1 (j := j) (v := .long (f i)) (by rw [hh]; exact B.1) (State.isArrayOf_alike K.2.1.alike B.2.1) B.2.2 hin (by rw [e]; exact q3 i hi) (g := mkF m pc L (.int j :: .ref a :: st)) rfl rfl (hb K.2.2.1 hd) _ q) r
theorem g_bastore (K : Cx Z p s m meth c own bytes ml rt nm) (X : Wk p l e R s m args below meth c n0 T h cells slots) {pc pc' : Nat} {L : Array Slot} {st : List Value} {j : Int32} {x : Int32} {a : Addr} {i n : Nat} {f : Nat → Int32} (hd : decode bytes pc = .ok (.bastore, 1)) (hp : pc + 1 = pc') (A : AN Z h a .byte n f) (ha : n0 ≤ a) (hj : j.toInt = (i : Int)) (hi : i < n)
    (r : ∀ T' h', Wk p l e R s m args below meth c n0 T' h' cells slots → Keep h h' [a] → AN Z h' a .byte n (upd f i (jb x)) → Fi p e below s n0 C S Q (T'.setTop (mkF m pc' L (st)))) : Fi p e below s n0 C S Q (T.setTop (mkF m pc L (.int x :: .int j :: .ref a :: st))) := by
  obtain ⟨locs, Y, hh, hF, hn⟩ := X
  subst hp
  obtain ⟨cl, B, rfl, q2, q3⟩ := A
  obtain ⟨hin, e1⟩ := j_in hj hi
  obtain ⟨T', h', X', e', W, st'⟩ := stB Y K.1 K.2.1 hh B (j := j) hin (g := mkF m pc L (.int x :: .int j :: .ref a :: st)) rfl rfl (hb K.2.2.1 hd)
  rw [e1] at W
  exact Fi.of st' (r T' h' ⟨_, X', e', Fr.snoc X' hF ha, by rw [W.size]; exact hn⟩ (Keep.of_wr W) (AN.set B rfl q2 q3 hi W))
theorem g_iastore (K : Cx Z p s m meth c own bytes ml rt nm) (X : Wk p l e R s m args below meth c n0 T h cells slots) {pc pc' : Nat} {L : Array Slot} {st : List Value} {j : Int32} {x : Int32} {a : Addr} {i n : Nat} {f : Nat → Int32} (hd : decode bytes pc = .ok (.iastore, 1)) (hp : pc + 1 = pc') (A : AN Z h a .int n f) (ha : n0 ≤ a) (hj : j.toInt = (i : Int)) (hi : i < n)
    (r : ∀ T' h', Wk p l e R s m args below meth c n0 T' h' cells slots → Keep h h' [a] → AN Z h' a .int n (upd f i x) → Fi p e below s n0 C S Q (T'.setTop (mkF m pc' L (st)))) : Fi p e below s n0 C S Q (T.setTop (mkF m pc L (.int x :: .int j :: .ref a :: st))) := by
  obtain ⟨locs, Y, hh, hF, hn⟩ := X
  subst hp
  obtain ⟨cl, B, rfl, q2, q3⟩ := A
  obtain ⟨hin, e1⟩ := j_in hj hi
  obtain ⟨T', h', X', e', W, st'⟩ := stI Y K.1 K.2.1 hh B (j := j) hin (g := mkF m pc L (.int x :: .int j :: .ref a :: st)) rfl rfl (hb K.2.2.1 hd)
  rw [e1] at W
  exact Fi.of st' (r T' h' ⟨_, X', e', Fr.snoc X' hF ha, by rw [W.size]; exact hn⟩ (Keep.of_wr W) (AN.set B rfl q2 q3 hi W))
theorem g_lastore (K : Cx Z p s m meth c own bytes ml rt nm) (X : Wk p l e R s m args below meth c n0 T h cells slots) {pc pc' : Nat} {L : Array Slot} {st : List Value} {j : Int32} {x : Int64} {a : Addr} {i n : Nat} {f : Nat → Int64} (hd : decode bytes pc = .ok (.lastore, 1)) (hp : pc + 1 = pc') (A : AL Z h a n f) (ha : n0 ≤ a) (hj : j.toInt = (i : Int)) (hi : i < n)
    (r : ∀ T' h', Wk p l e R s m args below meth c n0 T' h' cells slots → Keep h h' [a] → AL Z h' a n (upd f i x) → Fi p e below s n0 C S Q (T'.setTop (mkF m pc' L (st)))) : Fi p e below s n0 C S Q (T.setTop (mkF m pc L (.long x :: .int j :: .ref a :: st))) := by
  obtain ⟨locs, Y, hh, hF, hn⟩ := X
  subst hp
  obtain ⟨cl, B, rfl, q2, q3⟩ := A
  obtain ⟨hin, e1⟩ := j_in hj hi
  obtain ⟨T', h', X', e', W, st'⟩ := stJ Y K.1 K.2.1 hh B (j := j) hin (g := mkF m pc L (.long x :: .int j :: .ref a :: st)) rfl rfl (hb K.2.2.1 hd)
  rw [e1] at W
  exact Fi.of st' (r T' h' ⟨_, X', e', Fr.snoc X' hF ha, by rw [W.size]; exact hn⟩ (Keep.of_wr W) (AL.set B rfl q2 q3 hi W))
theorem g_arraylength (K : Cx Z p s m meth c own bytes ml rt nm) (X : Wk p l e R s m args below meth c n0 T h cells slots) {pc pc' : Nat} {L : Array Slot} {st : List Value} {v : Int32} {a : Addr} {n : Nat} {ty : FieldType} {f : Nat → Int32} (hd : decode bytes pc = .ok (.arraylength, 1)) (hp : pc + 1 = pc') (A : AN Z h a ty n f) (hv : v.toInt = (n : Int)) (r : Fi p e below s n0 C S Q (T.setTop (mkF m pc' L (.int v :: st)))) : Fi p e below s n0 C S Q (T.setTop (mkF m pc L (.ref a :: st))) := by
  obtain ⟨locs, Y, hh, -⟩ := X
  subst hp
  obtain ⟨cl, B, e1, q2, q3⟩ := A
  have e2 : cl.slots.size.toInt32 = v := by
    rw [i32_eq, hv, e1]
    exact Int32.toInt_ofNat_of_lt q2
  exact Fi.of (fun _ q => Y.arraylength K.1 (by rw [hh]; exact B.1) (State.isArrayOf_alike K.2.1.alike B.2.1) (g := mkF m pc L (.ref a :: st)) rfl rfl (hb K.2.2.1 hd) _ (by rw [e2]; exact q)) r
theorem cnt_of {z : Int32} {n : Nat} (hz : z.toInt = (n : Int)) : ¬ z < 0 ∧ z.toNatClampNeg = n ∧ n < 2147483648 := by
  have h2 : ¬ z < 0 := by rw [Int32.lt_iff_toInt_lt]; show ¬ z.toInt < 0; omega
  have h3 := z.toInt_lt
  exact ⟨h2, by show z.toInt.toNat = n; omega, by omega⟩
theorem g_newarray_byte (K : Cx Z p s m meth c own bytes ml rt nm) (X : Wk p l e R s m args below meth c n0 T h cells slots) {pc pc' : Nat} {L : Array Slot} {st : List Value} {z : Int32} {n : Nat} (cap : Nat) (hd : decode bytes pc = .ok (.newarray .byte, 2)) (hp : pc + 2 = pc') (w : (Cond.arrayClass .byte).before a0 Z = true) (hz : z.toInt = (n : Int)) (hcap : n ≤ cap) (hbnd : cap * 8 ≤ 536870912) (hc : cells + 1 ≤ R.cells) (hs : slots + cap ≤ R.slots)
    (r : ∀ T' h' a, Wk p l e R s m args below meth c n0 T' h' (cells + 1) (slots + cap) → Ext h h' → a = h.size → n0 ≤ a → AN Z h' a .byte n (fun _ => (0 : Int32)) → Fi p e below s n0 C S Q (T'.setTop (mkF m pc' L (.ref a :: st)))) : Fi p e below s n0 C S Q (T.setTop (mkF m pc L (.int z :: st))) := by
  obtain ⟨locs, Y, hh, hF, hn⟩ := X
  subst hp
  obtain ⟨z1, z2, z3⟩ := cnt_of hz
  obtain ⟨T', h', k, X', e', E, A, st'⟩ := newP Y K.1 K.2.1 (aty := .byte) w hh (g := mkF m pc L (.int z :: st)) rfl (hb K.2.2.1 hd) rfl z1 (cap := cap) (by rw [z2]; exact hcap) hbnd hc hs
  refine Fi.of st' (r T' h' _ ⟨_, X', e', hF, Nat.le_trans hn E.1⟩ E rfl hn ⟨_, A, ?_, z3, fun i hi => ?_⟩)
  · rw [sz_new]; exact z2
  · simp [newA, z2, hi, newarray.typeOf, defaultValue]
theorem g_newarray_int (K : Cx Z p s m meth c own bytes ml rt nm) (X : Wk p l e R s m args below meth c n0 T h cells slots) {pc pc' : Nat} {L : Array Slot} {st : List Value} {z : Int32} {n : Nat} (cap : Nat) (hd : decode bytes pc = .ok (.newarray .int, 2)) (hp : pc + 2 = pc') (w : (Cond.arrayClass .int).before a0 Z = true) (hz : z.toInt = (n : Int)) (hcap : n ≤ cap) (hbnd : cap * 8 ≤ 536870912) (hc : cells + 1 ≤ R.cells) (hs : slots + cap ≤ R.slots)
    (r : ∀ T' h' a, Wk p l e R s m args below meth c n0 T' h' (cells + 1) (slots + cap) → Ext h h' → a = h.size → n0 ≤ a → AN Z h' a .int n (fun _ => (0 : Int32)) → Fi p e below s n0 C S Q (T'.setTop (mkF m pc' L (.ref a :: st)))) : Fi p e below s n0 C S Q (T.setTop (mkF m pc L (.int z :: st))) := by
  obtain ⟨locs, Y, hh, hF, hn⟩ := X
  subst hp
  obtain ⟨z1, z2, z3⟩ := cnt_of hz
  obtain ⟨T', h', k, X', e', E, A, st'⟩ := newP Y K.1 K.2.1 (aty := .int) w hh (g := mkF m pc L (.int z :: st)) rfl (hb K.2.2.1 hd) rfl z1 (cap := cap) (by rw [z2]; exact hcap) hbnd hc hs
  refine Fi.of st' (r T' h' _ ⟨_, X', e', hF, Nat.le_trans hn E.1⟩ E rfl hn ⟨_, A, ?_, z3, fun i hi => ?_⟩)
  · rw [sz_new]; exact z2
  · simp [newA, z2, hi, newarray.typeOf, defaultValue]
theorem g_newarray_long (K : Cx Z p s m meth c own bytes ml rt nm) (X : Wk p l e R s m args below meth c n0 T h cells slots) {pc pc' : Nat} {L : Array Slot} {st : List Value} {z : Int32} {n : Nat} (cap : Nat) (hd : decode bytes pc = .ok (.newarray .long, 2)) (hp : pc + 2 = pc') (w : (Cond.arrayClass .long).before a0 Z = true) (hz : z.toInt = (n : Int)) (hcap : n ≤ cap) (hbnd : cap * 8 ≤ 536870912) (hc : cells + 1 ≤ R.cells) (hs : slots + cap ≤ R.slots)
    (r : ∀ T' h' a, Wk p l e R s m args below meth c n0 T' h' (cells + 1) (slots + cap) → Ext h h' → a = h.size → n0 ≤ a → AL Z h' a n (fun _ => (0 : Int64)) → Fi p e below s n0 C S Q (T'.setTop (mkF m pc' L (.ref a :: st)))) : Fi p e below s n0 C S Q (T.setTop (mkF m pc L (.int z :: st))) := by
  obtain ⟨locs, Y, hh, hF, hn⟩ := X
  subst hp
  obtain ⟨z1, z2, z3⟩ := cnt_of hz
  obtain ⟨T', h', k, X', e', E, A, st'⟩ := newP Y K.1 K.2.1 (aty := .long) w hh (g := mkF m pc L (.int z :: st)) rfl (hb K.2.2.1 hd) rfl z1 (cap := cap) (by rw [z2]; exact hcap) hbnd hc hs
  refine Fi.of st' (r T' h' _ ⟨_, X', e', hF, Nat.le_trans hn E.1⟩ E rfl hn ⟨_, A, ?_, z3, fun i hi => ?_⟩)
  · rw [sz_new]; exact z2
  · simp [newA, z2, hi, newarray.typeOf, defaultValue]
theorem g_new (K : Cx Z p s m meth c own bytes ml rt nm) (X : Wk p l e R s m args below meth c n0 T h cells slots) {pc pc' : Nat} {L : Array Slot} {st : List Value} {index n : Nat} {Cl : String} (hd : decode bytes pc = .ok (.new index, 3)) (hp : pc + 3 = pc') (w1 : (Cond.classLink own index Cl).before a0 Z = true) (w2 : (Cond.instantiable Cl n).before a0 Z = true) (w3 : (Cond.initialized Cl).before a0 Z = true) (hc : cells + 1 ≤ R.cells) (hs : slots + n ≤ R.slots)
    (r : ∀ T' h' a, Wk p l e R s m args below meth c n0 T' h' (cells + 1) (slots + n) → Ext h h' → a = h.size → n0 ≤ a → Exa Z h' a Cl → (∀ {O nm d : String} {ty : FieldType}, Laid Z a0 Cl O nm d → parseFieldDescriptor d = some ty → Fld Z h' a O nm d (defaultValue ty)) → Fi p e below s n0 C S Q (T'.setTop (mkF m pc' L (.ref a :: st)))) : Fi p e below s n0 C S Q (T.setTop (mkF m pc L (st))) := by
  obtain ⟨locs, Y, hh, hF, hn⟩ := X
  subst hp
  obtain ⟨T', h', X', e', E, A, D, -, st'⟩ := newO Y K.1 K.2.1 K.2.2.2.2.1 w1 w2 w3 hh (g := mkF m pc L st) rfl (hb K.2.2.1 hd) hc hs
  exact Fi.of st' (r T' h' _ ⟨_, X', e', hF, Nat.le_trans hn E.1⟩ E rfl hn A D)
theorem g_getfield (K : Cx Z p s m meth c own bytes ml rt nm) (X : Wk p l e R s m args below meth c n0 T h cells slots) {pc pc' : Nat} {L : Array Slot} {st : List Value} {index : Nat} {O n d : String} {a : Addr} {v : Value} (hd : decode bytes pc = .ok (.getfield index, 3)) (hp : pc + 3 = pc') (w : (Cond.fieldLink own index O n d).before a0 Z = true) (F : Fld Z h a O n d v)
    (r : ∀ T', Wk p l e R s m args below meth c n0 T' h cells slots → Fi p e below s n0 C S Q (T'.setTop (mkF m pc' L (v :: st)))) : Fi p e below s n0 C S Q (T.setTop (mkF m pc L (.ref a :: st))) := by
  obtain ⟨locs, Y, hh, hF, hn⟩ := X
  subst hp
  obtain ⟨T', X', e', st'⟩ := getF Y K.1 K.2.1 K.2.2.2.2.1 (host := "") (Or.inl w) Via.refl hh F (g := mkF m pc L (.ref a :: st)) rfl rfl (hb K.2.2.1 hd)
  exact Fi.of st' (r T' ⟨_, X', e', hF, hn⟩)
theorem g_putfield (K : Cx Z p s m meth c own bytes ml rt nm) (X : Wk p l e R s m args below meth c n0 T h cells slots) {pc pc' : Nat} {L : Array Slot} {st : List Value} {index kk : Nat} {O n d Cl : String} {ty : FieldType} {a : Addr} {v ov : Value} (hd : decode bytes pc = .ok (.putfield index, 3)) (hp : pc + 3 = pc') (w : (Cond.fieldLink own index O n d).before a0 Z = true) (F : Fld Z h a O n d ov) (E : Exa Z h a Cl) (Ly : (Cond.lays Cl O n d).before a0 Z = true ∨ ((Cond.laysFinal Cl O n d).before a0 Z = true ∧ own = O ∧ nm = "<init>")) (wi : (Cond.instantiable Cl kk).before a0 Z = true) (hty : parseFieldDescriptor d = some ty) (hnr : narrow ty v = v) (hft : fits ty v = true) (ha : n0 ≤ a)
    (r : ∀ T' h', Wk p l e R s m args below meth c n0 T' h' cells slots → Wr h h' a (RoadKit.slotOf Z O n d) v → Keep h h' [a] → Exa Z h' a Cl → Fld Z h' a O n d v → Fi p e below s n0 C S Q (T'.setTop (mkF m pc' L (st)))) : Fi p e below s n0 C S Q (T.setTop (mkF m pc L (v :: .ref a :: st))) := by
  obtain ⟨locs, Y, hh, hF, hn⟩ := X
  subst hp
  obtain ⟨T', h', X', e', W, st'⟩ := putF Y K.1 K.2.1 K.2.2.2.2.1 (host := "") (Or.inl w) Via.refl hh F E (Ly.imp id fun q => ⟨q.1, q.2.1, by rw [K.2.2.2.2.2.2.2]; exact q.2.2⟩) wi hty hnr hft (g := mkF m pc L (v :: .ref a :: st)) rfl rfl (hb K.2.2.1 hd)
  exact Fi.of st' (r T' h' ⟨_, X', e', Fr.snoc X' hF ha, by rw [W.size]; exact hn⟩ W (Keep.of_wr W) (E.wr W) (F.same W))
theorem g_objinit (K : Cx Z p s m meth c own bytes ml rt nm) (X : Wk p l e R s m args below meth c n0 T h cells slots) {pc pc' : Nat} {L : Array Slot} {st : List Value} {index : Nat} {a : Addr} (hd : decode bytes pc = .ok (.invokespecial index, 3)) (hp : pc + 3 = pc') (w1 : (Cond.methodLink own index Lib.objectInit).before a0 Z = true) (w2 : (Cond.instanceMethod Lib.objectInit).before a0 Z = true) (w3 : (Cond.code Lib.objectInit object_method_1_code 1 none).before a0 Z = true) (hL : L.size = ml) (W : Nat) (hf : 1 ≤ R.frames) (hW : (st.map fun v => v.category).sum ≤ W) (hl : W + 12 ≤ R.locals)
    (r : ∀ T', Wk p l e R s m args below meth c n0 T' h cells slots → Fi p e below s n0 C S Q (T'.setTop (mkF m pc' L (st)))) : Fi p e below s n0 C S Q (T.setTop (mkF m pc L (.ref a :: st))) := by
  obtain ⟨locs, Y, hh, hF, hn⟩ := X
  subst hp
  obtain ⟨T', X', e', st'⟩ := initO Y K.1 K.2.1 K.2.2.2.2.1 w1 w2 w3 hh (g := mkF m pc L (.ref a :: st)) rfl (by rw [K.2.2.2.1]; exact hL) rfl (hb K.2.2.1 hd) hf (W := W) (by show 2 * 0 + _ ≤ _; omega) hl
  exact Fi.of st' (r T' ⟨_, X', e', hF, hn⟩)
theorem fr_ready {locs : List Loc} (Y : Stand p l e R s m args below meth c T locs cells slots) (hZ : Z.Warmed39 s.vm) {index : Nat} {O n d : String} (hown : s.vm.findClass own = some m.cls) (w : (Cond.fieldRef own index O n d).before a0 Z = true) {cf i : Nat} {k : Class} {f : Field} (hf : Z.fieldFound? O n d = some (cf, k, i, f)) : T.vm.fieldReady m.cls index cf f := by
  have hT : Z.Warmed39 T.vm := wtrans hZ Y.warmed
  have w' := Cond.fieldRef_warmed39 hT w
  have hownZ : (Z.setVm T.vm).vm.findClass own = some m.cls := (Y.warmed.alike.findClass _ _).trans hown
  obtain ⟨c', k', i', f', hi, hr⟩ := Cond.fieldRef_spec hownZ w'
  obtain ⟨k2, hf2, -⟩ := State.fieldFound?_setVm (s := Z) hT.alike hf
  cases hf2.symm.trans hi
  exact hr
theorem g_getfieldR (K : Cx Z p s m meth c own bytes ml rt nm) (X : Wk p l e R s m args below meth c n0 T h cells slots) {pc pc' : Nat} {L : Array Slot} {st : List Value} {index : Nat} {O n d : String} {a : Addr} {v : Value} (hd : decode bytes pc = .ok (.getfield index, 3)) (hp : pc + 3 = pc') (w : (Cond.fieldRef own index O n d).before a0 Z = true) (F : Fld Z h a O n d v)
    (r : ∀ T', Wk p l e R s m args below meth c n0 T' h cells slots → Fi p e below s n0 C S Q (T'.setTop (mkF m pc' L (v :: st)))) : Fi p e below s n0 C S Q (T.setTop (mkF m pc L (.ref a :: st))) := by
  have hX := X
  obtain ⟨locs, Y, hh, hF, hn⟩ := X
  subst hp
  obtain ⟨cell, cf, k, i, f, h1, h2, h3, h4, -, -, h7⟩ := F
  have hready := fr_ready Y K.2.1 K.2.2.2.2.1 w h2
  refine Fi.of (fun target hrest => ?_) (r T hX)
  have hx := K.1
  have hd' := hb K.2.2.1 hd
  show Steps p.tables e below (T.setTop { method := m, pc := pc, locals := L, stack := .ref a :: st, locked := none }) _
  jvm_step Y.here [hx, hd', getfield.wp_ready (e := e) (s := T) (f := mkF m pc L (.ref a :: st)) Y.here.top hready h3 rfl (show T.heap[a]? = some cell by rw [hh]; exact h1) h4 h7]
  exact hrest
theorem g_putfieldR (K : Cx Z p s m meth c own bytes ml rt nm) (X : Wk p l e R s m args below meth c n0 T h cells slots) {pc pc' : Nat} {L : Array Slot} {st : List Value} {index kk : Nat} {O n d Cl : String} {ty : FieldType} {a : Addr} {v ov : Value} (hd : decode bytes pc = .ok (.putfield index, 3)) (hp : pc + 3 = pc') (w : (Cond.fieldRef own index O n d).before a0 Z = true) (F : Fld Z h a O n d ov) (E : Exa Z h a Cl) (Ly : (Cond.lays Cl O n d).before a0 Z = true) (wi : (Cond.instantiable Cl kk).before a0 Z = true) (hty : parseFieldDescriptor d = some ty) (hnr : narrow ty v = v) (hft : fits ty v = true) (ha : n0 ≤ a)
    (r : ∀ T' h', Wk p l e R s m args below meth c n0 T' h' cells slots → Wr h h' a (RoadKit.slotOf Z O n d) v → Keep h h' [a] → Exa Z h' a Cl → Fld Z h' a O n d v → Fi p e below s n0 C S Q (T'.setTop (mkF m pc' L (st)))) : Fi p e below s n0 C S Q (T.setTop (mkF m pc L (v :: .ref a :: st))) := by
  obtain ⟨locs, Y, hh, hF, hn⟩ := X
  subst hp
  have F0 := F
  have E0 := E
  obtain ⟨cell, cf, k, i, f, h1, h2, h3, h4, h5, -, h7⟩ := F
  have hready := fr_ready Y K.2.1 K.2.2.2.2.1 w h2
  obtain ⟨cell', kc, e1, e2, e3, -⟩ := E
  cases h1.symm.trans e1
  obtain ⟨c1, k1, cf1, kf1, i1, f1, a1, a2, a3, -, a5, -⟩ := Cond.lays_spec Ly
  cases h2.symm.trans a3
  cases e2.symm.trans a1
  obtain ⟨_, _, _, _, _, _, b1, b2, b3, -, -, b6, -⟩ := Laid.spec (a0 := a0) (Or.inl Ly)
  cases h2.symm.trans b3
  cases e2.symm.trans b1
  obtain ⟨c2, k2, j1, j2, j3, -⟩ := Cond.instantiable_spec wi
  cases e2.symm.trans j1
  cases b2.symm.trans j2
  have ht := (State.fieldFound?_type h2 hty).2
  have hT : Z.Warmed39 T.vm := wtrans K.2.1 Y.warmed
  have hfit : Z.fitsSlot cell.cls cell.vm f.slot v = true := by
    have q : Z.slotType? cell.cls cell.vm f.slot = some ty := by
      simp only [State.slotType?, b2, Option.bind_eq_bind, Option.bind_some, j3]
      cases hq : cell.vm <;> first | (rw [hq] at h5; exact Bool.noConfusion h5) | (rw [b6, ht])
    simp [State.fitsSlot, q, hft]
  have hfitT : T.fitsSlot cell.cls cell.vm f.slot v = true := by
    rw [← State.fitsSlot_setVm hT.alike] at hfit; exact hfit
  have hlt := (Array.getElem?_eq_some_iff.mp h7).1
  have es : RoadKit.slotOf Z O n d = f.slot := by simp [RoadKit.slotOf, h2]
  obtain ⟨X', st'⟩ := Y.putfieldReady K.1 hready h3 (Or.inl a5) (a := a) (cell := cell) (v := v) (by rw [hh]; exact h1) h4 hlt (by rw [ht]; exact hnr) hfitT (g := mkF m pc L (v :: .ref a :: st)) rfl rfl (hb K.2.2.1 hd)
  have W : Wr h (T.setCell a (cell.setSlot f.slot v)).heap a (RoadKit.slotOf Z O n d) v := ⟨cell, h1, h5, by rw [es]; exact hlt, by rw [es, ← hh]; rfl⟩
  exact Fi.of st' (r (T.setCell a (cell.setSlot f.slot v)) _ ⟨_, X', rfl, Fr.snoc X' hF ha, by rw [W.size]; exact hn⟩ W (Keep.of_wr W) (E0.wr W) (F0.same W))
theorem g_callS (K : Cx Z p s m meth c own bytes ml rt nm) (X : Wk p l e R s m args below meth c n0 T h cells slots) {pc pc' : Nat} {L : Array Slot} {st rest argsL : List Value} {index : Nat} {y : MethodName} {yb : ByteArray} {yml : Nat} {yrt : Option FieldType} {rm : Room} {Q' : Option Value → Heap → Prop} (W : Nat) (hd : decode bytes pc = .ok (.invokestatic index, 3)) (hp : pc + 3 = pc') (w1 : (Cond.methodLink own index y).before a0 Z = true) (w2 : (Cond.static y).before a0 Z = true) (w3 : (Cond.initialized y.cls).before a0 Z = true) (w4 : (Cond.code y yb yml yrt).before a0 Z = true) (hy : y.cls ≠ "java/lang/invoke/MethodHandle" ∧ y.cls ≠ "java/lang/invoke/VarHandle")
    (hM : Mt l Z y yb yml yrt rm argsL.toArray h n0 Q') (hfr : rm.frames + 1 ≤ R.frames) (hlo : W + (yml + 11) + rm.locals ≤ R.locals) (hc : cells + rm.cells ≤ R.cells) (hs : slots + rm.slots ≤ R.slots) (hlen : ∀ sig, parseMethodDescriptor y.desc = some sig → argsL.length = sig.parameters.length) (hL : L.size = ml) (hst : st = argsL.reverse ++ rest) (hW : (rest.map fun v => v.category).sum ≤ W)
    (r : ∀ v T' h', Wk p l e R s m args below meth c n0 T' h' (cells + rm.cells) (slots + rm.slots) → Q' v h' → Fi p e below s n0 C S Q (T'.setTop (mkF m pc' L (v.toList ++ rest)))) (hgrow : ∀ v h', Q' v h' → h.size ≤ h'.size) : Fi p e below s n0 C S Q (T.setTop (mkF m pc L (st))) := by
  obtain ⟨locs, Y, hh, hF, hn⟩ := X
  subst hp
  obtain ⟨v, vm1, ⟨T', L', k', n'⟩, -, X', ⟨Lc, ⟨hQ, hN⟩, l1, l2, l3⟩, st'⟩ := Jvm.LawKit.callS Y K.1 (y := y) K.2.2.2.2.1 (mvT K.2.1 w1) (mvT K.2.1 w2) (mvT K.2.1 w3) (mvT K.2.1 w4) hy (backOf (W := W) (Q := fun v h L => Q' v h ∧ Fr n0 L) (hM []) K.2.1 w4 w3 hfr hlo) (g := mkF m pc L st) rfl (by rw [K.2.2.2.1]; exact hL) (argsL := argsL) (rest := rest) hlen hst (by show 2 * 0 + _ ≤ _; omega) (hb K.2.2.1 hd) (fun _ _ => ⟨rfl, hh, hc, hs⟩)
  dsimp only [Pt.U, Pt.locs, Pt.cells, Pt.slots] at X' l1 l2 l3 st' hQ
  subst l1 l2 l3
  exact Fi.of st' (r v T' _ ⟨_, X', rfl, Fr.app hF hN, Nat.le_trans hn (hgrow _ _ hQ)⟩ hQ)
theorem g_special (K : Cx Z p s m meth c own bytes ml rt nm) (X : Wk p l e R s m args below meth c n0 T h cells slots) {pc pc' : Nat} {L : Array Slot} {st rest argsL : List Value} {index : Nat} {a : Addr} {y : MethodName} {yb : ByteArray} {yml : Nat} {rm : Room} {Q' : Option Value → Heap → Prop} (W : Nat) (hd : decode bytes pc = .ok (.invokespecial index, 3)) (hp : pc + 3 = pc') (w1 : (Cond.methodLink own index y).before a0 Z = true) (w2 : (Cond.instanceMethod y).before a0 Z = true) (w3 : (Cond.initialized y.cls).before a0 Z = true) (w4 : (Cond.code y yb yml none).before a0 Z = true) (hi : y.name = "<init>") (hy : y.cls ≠ "java/lang/invoke/MethodHandle" ∧ y.cls ≠ "java/lang/invoke/VarHandle")
    (hM : Mt l Z y yb yml none rm (.ref a :: argsL).toArray h n0 Q') (hfr : rm.frames + 1 ≤ R.frames) (hlo : W + (yml + 11) + rm.locals ≤ R.locals) (hc : cells + rm.cells ≤ R.cells) (hs : slots + rm.slots ≤ R.slots) (hlen : ∀ sig, parseMethodDescriptor y.desc = some sig → argsL.length = sig.parameters.length) (hL : L.size = ml) (hst : st = argsL.reverse ++ .ref a :: rest) (hW : (rest.map fun v => v.category).sum ≤ W)
    (r : ∀ v T' h', Wk p l e R s m args below meth c n0 T' h' (cells + rm.cells) (slots + rm.slots) → Q' v h' → Fi p e below s n0 C S Q (T'.setTop (mkF m pc' L (v.toList ++ rest)))) (hgrow : ∀ v h', Q' v h' → h.size ≤ h'.size) : Fi p e below s n0 C S Q (T.setTop (mkF m pc L (st))) := by
  obtain ⟨locs, Y, hh, hF, hn⟩ := X
  subst hp
  obtain ⟨v, vm1, ⟨T', L', k', n'⟩, -, X', ⟨Lc, ⟨hQ, hN⟩, l1, l2, l3⟩, st'⟩ := Y.specialBack K.1 (y := y) hi K.2.2.2.2.1 (mvT K.2.1 w1) (mvT K.2.1 w2) (mvT K.2.1 w4) hy (backOf (W := W) (Q := fun v h L => Q' v h ∧ Fr n0 L) (hM []) K.2.1 w4 w3 hfr hlo) (g := mkF m pc L st) rfl (by rw [K.2.2.2.1]; exact hL) (Steps.refl _) (a := a) (argsL := argsL) (rest := rest) hlen hst (by show 2 * 0 + _ ≤ _; omega) (hb K.2.2.1 hd) (fun _ _ => ⟨rfl, hh, hc, hs⟩)
  dsimp only [Pt.U, Pt.locs, Pt.cells, Pt.slots] at X' l1 l2 l3 st' hQ
  subst l1 l2 l3
  exact Fi.of (fun _ q => st'.trans q) (r v T' _ ⟨_, X', rfl, Fr.app hF hN, Nat.le_trans hn (hgrow _ _ hQ)⟩ hQ)
theorem g_virtual (K : Cx Z p s m meth c own bytes ml rt nm) (X : Wk p l e R s m args below meth c n0 T h cells slots) {pc pc' : Nat} {L : Array Slot} {st rest argsL : List Value} {index : Nat} {a : Addr} {Cl : String} {y : MethodName} {yb : ByteArray} {yml : Nat} {yrt : Option FieldType} {rm : Room} {Q' : Option Value → Heap → Prop} (W : Nat) (hd : decode bytes pc = .ok (.invokevirtual index, 3)) (hp : pc + 3 = pc') (w1 : (Cond.methodLink own index y).before a0 Z = true) (w2 : (Cond.declares y).before a0 Z = true) (w5 : (Cond.selects Cl y y).before a0 Z = true) (w6 : (Cond.instanceMethod y).before a0 Z = true) (w3 : (Cond.initialized y.cls).before a0 Z = true) (w4 : (Cond.code y yb yml yrt).before a0 Z = true) (hy : y.cls ≠ "java/lang/invoke/MethodHandle" ∧ y.cls ≠ "java/lang/invoke/VarHandle") (E : Exa Z h a Cl)
    (hM : Mt l Z y yb yml yrt rm (.ref a :: argsL).toArray h n0 Q') (hfr : rm.frames + 1 ≤ R.frames) (hlo : W + (yml + 11) + rm.locals ≤ R.locals) (hc : cells + rm.cells ≤ R.cells) (hs : slots + rm.slots ≤ R.slots) (hlen : ∀ sig, parseMethodDescriptor y.desc = some sig → argsL.length = sig.parameters.length) (hL : L.size = ml) (hst : st = argsL.reverse ++ .ref a :: rest) (hW : (rest.map fun v => v.category).sum ≤ W)
    (r : ∀ v T' h', Wk p l e R s m args below meth c n0 T' h' (cells + rm.cells) (slots + rm.slots) → Q' v h' → Fi p e below s n0 C S Q (T'.setTop (mkF m pc' L (v.toList ++ rest)))) (hgrow : ∀ v h', Q' v h' → h.size ≤ h'.size) : Fi p e below s n0 C S Q (T.setTop (mkF m pc L (st))) := by
  obtain ⟨locs, Y, hh, hF, hn⟩ := X
  subst hp
  obtain ⟨cB, kB, qa, -, qc⟩ := isOf K.2.1 hh E
  obtain ⟨v, vm1, ⟨T', L', k', n'⟩, -, X', ⟨Lc, ⟨hQ, hN⟩, l1, l2, l3⟩, st'⟩ := Y.virtualBack K.1 (y := y) (z := y) K.2.2.2.2.1 (mvT K.2.1 w1) (mvT K.2.1 w2) (notFace_of_selects (args := #[]) (mvT K.2.1 w5)) (mvT K.2.1 w5) (mvT K.2.1 w6) hy (backOf (W := W) (Q := fun v h L => Q' v h ∧ Fr n0 L) (hM []) K.2.1 w4 w3 hfr hlo) qa qc (g := mkF m pc L st) rfl (by rw [K.2.2.2.1]; exact hL) (Steps.refl _) (argsL := argsL) (rest := rest) hlen hst (by show 2 * 0 + _ ≤ _; omega) (hb K.2.2.1 hd) (fun _ _ => ⟨rfl, hh, hc, hs⟩)
  dsimp only [Pt.U, Pt.locs, Pt.cells, Pt.slots] at X' l1 l2 l3 st' hQ
  subst l1 l2 l3
  exact Fi.of (fun _ q => st'.trans q) (r v T' _ ⟨_, X', rfl, Fr.app hF hN, Nat.le_trans hn (hgrow _ _ hQ)⟩ hQ)
theorem g_private (K : Cx Z p s m meth c own bytes ml rt nm) (X : Wk p l e R s m args below meth c n0 T h cells slots) {pc pc' : Nat} {L : Array Slot} {st rest argsL : List Value} {index kk : Nat} {a : Addr} {Cl : String} {y : MethodName} {yb : ByteArray} {yml : Nat} {yrt : Option FieldType} {rm : Room} {Q' : Option Value → Heap → Prop} (W : Nat) (hd : decode bytes pc = .ok (.invokevirtual index, 3)) (hp : pc + 3 = pc') (w1 : (Cond.methodLink own index y).before a0 Z = true) (w2 : (Cond.instanceMethod y).before a0 Z = true) (w5 : (Cond.privateMethod y).before a0 Z = true) (w6 : (Cond.instantiable y.cls kk).before a0 Z = true) (w3 : (Cond.initialized y.cls).before a0 Z = true) (w4 : (Cond.code y yb yml yrt).before a0 Z = true) (hy : y.cls ≠ "java/lang/invoke/MethodHandle" ∧ y.cls ≠ "java/lang/invoke/VarHandle") (E : Exa Z h a Cl)
    (hM : Mt l Z y yb yml yrt rm (.ref a :: argsL).toArray h n0 Q') (hfr : rm.frames + 1 ≤ R.frames) (hlo : W + (yml + 11) + rm.locals ≤ R.locals) (hc : cells + rm.cells ≤ R.cells) (hs : slots + rm.slots ≤ R.slots) (hlen : ∀ sig, parseMethodDescriptor y.desc = some sig → argsL.length = sig.parameters.length) (hL : L.size = ml) (hst : st = argsL.reverse ++ .ref a :: rest) (hW : (rest.map fun v => v.category).sum ≤ W)
    (r : ∀ v T' h', Wk p l e R s m args below meth c n0 T' h' (cells + rm.cells) (slots + rm.slots) → Q' v h' → Fi p e below s n0 C S Q (T'.setTop (mkF m pc' L (v.toList ++ rest)))) (hgrow : ∀ v h', Q' v h' → h.size ≤ h'.size) : Fi p e below s n0 C S Q (T.setTop (mkF m pc L (st))) := by
  obtain ⟨locs, Y, hh, hF, hn⟩ := X
  subst hp
  obtain ⟨cq, q1, q2⟩ := E.cell
  have hpriv : s.PrivateAt y := Cond.privateMethod_at (mvP K.2.1 w5 (args := #[]))
  obtain ⟨cI, kI, i1, i2, -, i4, -⟩ := Cond.instantiable_spec (mv (args := args) K.2.1 w6)
  have hsel : (Cond.selects y.cls y y).before args s = true := selects_self_of_private i1 i2 (Bool.or_eq_false_iff.mp i4).1 hpriv (mvT K.2.1 w2) hy
  obtain ⟨v, vm1, ⟨T', L', k', n'⟩, -, X', ⟨Lc, ⟨hQ, hN⟩, l1, l2, l3⟩, st'⟩ := Y.privateBack K.1 (y := y) K.2.2.2.2.1 (mvT K.2.1 w1) (mvT K.2.1 w2) hsel hpriv (mvT K.2.1 w4) hy (backOf (W := W) (Q := fun v h L => Q' v h ∧ Fr n0 L) (hM []) K.2.1 w4 w3 hfr hlo) (g := mkF m pc L st) rfl (by rw [K.2.2.2.1]; exact hL) (Steps.refl _) (a := a) (by rw [hh]; exact q1) q2 (argsL := argsL) (rest := rest) hlen hst (by show 2 * 0 + _ ≤ _; omega) (hb K.2.2.1 hd) (fun _ _ => ⟨rfl, hh, hc, hs⟩)
  dsimp only [Pt.U, Pt.locs, Pt.cells, Pt.slots] at X' l1 l2 l3 st' hQ
  subst l1 l2 l3
  exact Fi.of (fun _ q => st'.trans q) (r v T' _ ⟨_, X', rfl, Fr.app hF hN, Nat.le_trans hn (hgrow _ _ hQ)⟩ hQ)
def PureI (h : Heap) (P : Int32 → Prop) : Option Value → Heap → Prop := fun v h' => ∃ r, v = some (.int r) ∧ P r ∧ h = h'
def PureJ (h : Heap) (P : Int64 → Prop) : Option Value → Heap → Prop := fun v h' => ∃ r, v = some (.long r) ∧ P r ∧ h = h'
def KeepI (h : Heap) (ws : List Addr) (P : Int32 → Heap → Prop) : Option Value → Heap → Prop := fun v h' => ∃ r, v = some (.int r) ∧ Keep h h' ws ∧ P r h'
def KeepA (h : Heap) (ws : List Addr) (P : Addr → Heap → Prop) : Option Value → Heap → Prop := fun v h' => ∃ r, v = some (.ref r) ∧ Keep h h' ws ∧ P r h'
def Keep0 (h : Heap) (ws : List Addr) (P : Heap → Prop) : Option Value → Heap → Prop := fun v h' => v = none ∧ Keep h h' ws ∧ P h'

theorem g_callSI (K : Cx Z p s m meth c own bytes ml rt nm) (X : Wk p l e R s m args below meth c n0 T h cells slots) {pc pc' : Nat} {L : Array Slot} {st rest argsL : List Value} {index : Nat} {y : MethodName} {yb : ByteArray} {yml : Nat} {yrt : Option FieldType} {rm : Room} {P : Int32 → Prop} (W : Nat) (hd : decode bytes pc = .ok (.invokestatic index, 3)) (hp : pc + 3 = pc') (w1 : (Cond.methodLink own index y).before a0 Z = true) (w2 : (Cond.static y).before a0 Z = true) (w3 : (Cond.initialized y.cls).before a0 Z = true) (w4 : (Cond.code y yb yml yrt).before a0 Z = true) (hy : y.cls ≠ "java/lang/invoke/MethodHandle" ∧ y.cls ≠ "java/lang/invoke/VarHandle")
    (hM : Mt l Z y yb yml yrt rm argsL.toArray h n0 (PureI h P)) (hfr : rm.frames + 1 ≤ R.frames) (hlo : W + (yml + 11) + rm.locals ≤ R.locals) (hc : cells + rm.cells ≤ R.cells) (hs : slots + rm.slots ≤ R.slots) (hlen : ∀ sig, parseMethodDescriptor y.desc = some sig → argsL.length = sig.parameters.length) (hL : L.size = ml) (hst : st = argsL.reverse ++ rest) (hW : (rest.map fun v => v.category).sum ≤ W)
    (kont : ∀ r T', Wk p l e R s m args below meth c n0 T' h (cells + rm.cells) (slots + rm.slots) → P r → Fi p e below s n0 C S Q (T'.setTop (mkF m pc' L (.int r :: rest)))) : Fi p e below s n0 C S Q (T.setTop (mkF m pc L (st))) := by
  refine g_callS K X (argsL := argsL) (rest := rest) W hd hp w1 w2 w3 w4 hy hM hfr hlo hc hs hlen hL hst hW (fun v T' h' X' hq => ?_) (fun _ _ q => by obtain ⟨_, _, _, rfl⟩ := q; exact Nat.le_refl _)
  obtain ⟨r, rfl, hP, rfl⟩ := hq
  exact kont r T' X' hP
theorem g_callSJ (K : Cx Z p s m meth c own bytes ml rt nm) (X : Wk p l e R s m args below meth c n0 T h cells slots) {pc pc' : Nat} {L : Array Slot} {st rest argsL : List Value} {index : Nat} {y : MethodName} {yb : ByteArray} {yml : Nat} {yrt : Option FieldType} {rm : Room} {P : Int64 → Prop} (W : Nat) (hd : decode bytes pc = .ok (.invokestatic index, 3)) (hp : pc + 3 = pc') (w1 : (Cond.methodLink own index y).before a0 Z = true) (w2 : (Cond.static y).before a0 Z = true) (w3 : (Cond.initialized y.cls).before a0 Z = true) (w4 : (Cond.code y yb yml yrt).before a0 Z = true) (hy : y.cls ≠ "java/lang/invoke/MethodHandle" ∧ y.cls ≠ "java/lang/invoke/VarHandle")
    (hM : Mt l Z y yb yml yrt rm argsL.toArray h n0 (PureJ h P)) (hfr : rm.frames + 1 ≤ R.frames) (hlo : W + (yml + 11) + rm.locals ≤ R.locals) (hc : cells + rm.cells ≤ R.cells) (hs : slots + rm.slots ≤ R.slots) (hlen : ∀ sig, parseMethodDescriptor y.desc = some sig → argsL.length = sig.parameters.length) (hL : L.size = ml) (hst : st = argsL.reverse ++ rest) (hW : (rest.map fun v => v.category).sum ≤ W)
    (kont : ∀ r T', Wk p l e R s m args below meth c n0 T' h (cells + rm.cells) (slots + rm.slots) → P r → Fi p e below s n0 C S Q (T'.setTop (mkF m pc' L (.long r :: rest)))) : Fi p e below s n0 C S Q (T.setTop (mkF m pc L (st))) := by
  refine g_callS K X (argsL := argsL) (rest := rest) W hd hp w1 w2 w3 w4 hy hM hfr hlo hc hs hlen hL hst hW (fun v T' h' X' hq => ?_) (fun _ _ q => by obtain ⟨_, _, _, rfl⟩ := q; exact Nat.le_refl _)
  obtain ⟨r, rfl, hP, rfl⟩ := hq
  exact kont r T' X' hP
theorem g_callSKI (K : Cx Z p s m meth c own bytes ml rt nm) (X : Wk p l e R s m args below meth c n0 T h cells slots) {pc pc' : Nat} {L : Array Slot} {st rest argsL : List Value} {index : Nat} {y : MethodName} {yb : ByteArray} {yml : Nat} {yrt : Option FieldType} {rm : Room} {P : Int32 → Heap → Prop} {ws : List Addr} (W : Nat) (hd : decode bytes pc = .ok (.invokestatic index, 3)) (hp : pc + 3 = pc') (w1 : (Cond.methodLink own index y).before a0 Z = true) (w2 : (Cond.static y).before a0 Z = true) (w3 : (Cond.initialized y.cls).before a0 Z = true) (w4 : (Cond.code y yb yml yrt).before a0 Z = true) (hy : y.cls ≠ "java/lang/invoke/MethodHandle" ∧ y.cls ≠ "java/lang/invoke/VarHandle")
    (hM : Mt l Z y yb yml yrt rm argsL.toArray h n0 (KeepI h ws P)) (hfr : rm.frames + 1 ≤ R.frames) (hlo : W + (yml + 11) + rm.locals ≤ R.locals) (hc : cells + rm.cells ≤ R.cells) (hs : slots + rm.slots ≤ R.slots) (hlen : ∀ sig, parseMethodDescriptor y.desc = some sig → argsL.length = sig.parameters.length) (hL : L.size = ml) (hst : st = argsL.reverse ++ rest) (hW : (rest.map fun v => v.category).sum ≤ W)
    (kont : ∀ r T' h', Wk p l e R s m args below meth c n0 T' h' (cells + rm.cells) (slots + rm.slots) → Keep h h' ws → P r h' → Fi p e below s n0 C S Q (T'.setTop (mkF m pc' L (.int r :: rest)))) : Fi p e below s n0 C S Q (T.setTop (mkF m pc L (st))) := by
  refine g_callS K X (argsL := argsL) (rest := rest) W hd hp w1 w2 w3 w4 hy hM hfr hlo hc hs hlen hL hst hW (fun v T' h' X' hq => ?_) (fun _ _ q => by obtain ⟨_, _, k, _⟩ := q; exact k.1)
  obtain ⟨r, rfl, hK, hP⟩ := hq
  exact kont r T' h' X' hK hP
theorem g_callSKA (K : Cx Z p s m meth c own bytes ml rt nm) (X : Wk p l e R s m args below meth c n0 T h cells slots) {pc pc' : Nat} {L : Array Slot} {st rest argsL : List Value} {index : Nat} {y : MethodName} {yb : ByteArray} {yml : Nat} {yrt : Option FieldType} {rm : Room} {P : Addr → Heap → Prop} {ws : List Addr} (W : Nat) (hd : decode bytes pc = .ok (.invokestatic index, 3)) (hp : pc + 3 = pc') (w1 : (Cond.methodLink own index y).before a0 Z = true) (w2 : (Cond.static y).before a0 Z = true) (w3 : (Cond.initialized y.cls).before a0 Z = true) (w4 : (Cond.code y yb yml yrt).before a0 Z = true) (hy : y.cls ≠ "java/lang/invoke/MethodHandle" ∧ y.cls ≠ "java/lang/invoke/VarHandle")
    (hM : Mt l Z y yb yml yrt rm argsL.toArray h n0 (KeepA h ws P)) (hfr : rm.frames + 1 ≤ R.frames) (hlo : W + (yml + 11) + rm.locals ≤ R.locals) (hc : cells + rm.cells ≤ R.cells) (hs : slots + rm.slots ≤ R.slots) (hlen : ∀ sig, parseMethodDescriptor y.desc = some sig → argsL.length = sig.parameters.length) (hL : L.size = ml) (hst : st = argsL.reverse ++ rest) (hW : (rest.map fun v => v.category).sum ≤ W)
    (kont : ∀ r T' h', Wk p l e R s m args below meth c n0 T' h' (cells + rm.cells) (slots + rm.slots) → Keep h h' ws → P r h' → Fi p e below s n0 C S Q (T'.setTop (mkF m pc' L (.ref r :: rest)))) : Fi p e below s n0 C S Q (T.setTop (mkF m pc L (st))) := by
  refine g_callS K X (argsL := argsL) (rest := rest) W hd hp w1 w2 w3 w4 hy hM hfr hlo hc hs hlen hL hst hW (fun v T' h' X' hq => ?_) (fun _ _ q => by obtain ⟨_, _, k, _⟩ := q; exact k.1)
  obtain ⟨r, rfl, hK, hP⟩ := hq
  exact kont r T' h' X' hK hP
theorem g_callSK0 (K : Cx Z p s m meth c own bytes ml rt nm) (X : Wk p l e R s m args below meth c n0 T h cells slots) {pc pc' : Nat} {L : Array Slot} {st rest argsL : List Value} {index : Nat} {y : MethodName} {yb : ByteArray} {yml : Nat} {yrt : Option FieldType} {rm : Room} {P : Heap → Prop} {ws : List Addr} (W : Nat) (hd : decode bytes pc = .ok (.invokestatic index, 3)) (hp : pc + 3 = pc') (w1 : (Cond.methodLink own index y).before a0 Z = true) (w2 : (Cond.static y).before a0 Z = true) (w3 : (Cond.initialized y.cls).before a0 Z = true) (w4 : (Cond.code y yb yml yrt).before a0 Z = true) (hy : y.cls ≠ "java/lang/invoke/MethodHandle" ∧ y.cls ≠ "java/lang/invoke/VarHandle")
    (hM : Mt l Z y yb yml yrt rm argsL.toArray h n0 (Keep0 h ws P)) (hfr : rm.frames + 1 ≤ R.frames) (hlo : W + (yml + 11) + rm.locals ≤ R.locals) (hc : cells + rm.cells ≤ R.cells) (hs : slots + rm.slots ≤ R.slots) (hlen : ∀ sig, parseMethodDescriptor y.desc = some sig → argsL.length = sig.parameters.length) (hL : L.size = ml) (hst : st = argsL.reverse ++ rest) (hW : (rest.map fun v => v.category).sum ≤ W)
    (kont : ∀ T' h', Wk p l e R s m args below meth c n0 T' h' (cells + rm.cells) (slots + rm.slots) → Keep h h' ws → P h' → Fi p e below s n0 C S Q (T'.setTop (mkF m pc' L (rest)))) : Fi p e below s n0 C S Q (T.setTop (mkF m pc L (st))) := by
  refine g_callS K X (argsL := argsL) (rest := rest) W hd hp w1 w2 w3 w4 hy hM hfr hlo hc hs hlen hL hst hW (fun v T' h' X' hq => ?_) (fun _ _ q => q.2.1.1)
  obtain ⟨rfl, hK, hP⟩ := hq
  exact kont T' h' X' hK hP
theorem g_specialK0 (K : Cx Z p s m meth c own bytes ml rt nm) (X : Wk p l e R s m args below meth c n0 T h cells slots) {pc pc' : Nat} {L : Array Slot} {st rest argsL : List Value} {index : Nat} {a : Addr} {y : MethodName} {yb : ByteArray} {yml : Nat} {rm : Room} {P : Heap → Prop} {ws : List Addr} (W : Nat) (hd : decode bytes pc = .ok (.invokespecial index, 3)) (hp : pc + 3 = pc') (w1 : (Cond.methodLink own index y).before a0 Z = true) (w2 : (Cond.instanceMethod y).before a0 Z = true) (w3 : (Cond.initialized y.cls).before a0 Z = true) (w4 : (Cond.code y yb yml none).before a0 Z = true) (hi : y.name = "<init>") (hy : y.cls ≠ "java/lang/invoke/MethodHandle" ∧ y.cls ≠ "java/lang/invoke/VarHandle")
    (hM : Mt l Z y yb yml none rm (.ref a :: argsL).toArray h n0 (Keep0 h ws P)) (hfr : rm.frames + 1 ≤ R.frames) (hlo : W + (yml + 11) + rm.locals ≤ R.locals) (hc : cells + rm.cells ≤ R.cells) (hs : slots + rm.slots ≤ R.slots) (hlen : ∀ sig, parseMethodDescriptor y.desc = some sig → argsL.length = sig.parameters.length) (hL : L.size = ml) (hst : st = argsL.reverse ++ .ref a :: rest) (hW : (rest.map fun v => v.category).sum ≤ W)
    (kont : ∀ T' h', Wk p l e R s m args below meth c n0 T' h' (cells + rm.cells) (slots + rm.slots) → Keep h h' ws → P h' → Fi p e below s n0 C S Q (T'.setTop (mkF m pc' L (rest)))) : Fi p e below s n0 C S Q (T.setTop (mkF m pc L (st))) := by
  refine g_special K X (a := a) (argsL := argsL) (rest := rest) W hd hp w1 w2 w3 w4 hi hy hM hfr hlo hc hs hlen hL hst hW (fun v T' h' X' hq => ?_) (fun _ _ q => q.2.1.1)
  obtain ⟨rfl, hK, hP⟩ := hq
  exact kont T' h' X' hK hP
theorem g_virtualI (K : Cx Z p s m meth c own bytes ml rt nm) (X : Wk p l e R s m args below meth c n0 T h cells slots) {pc pc' : Nat} {L : Array Slot} {st rest argsL : List Value} {index : Nat} {a : Addr} {Cl : String} {y : MethodName} {yb : ByteArray} {yml : Nat} {yrt : Option FieldType} {rm : Room} {P : Int32 → Prop} (W : Nat) (hd : decode bytes pc = .ok (.invokevirtual index, 3)) (hp : pc + 3 = pc') (w1 : (Cond.methodLink own index y).before a0 Z = true) (w2 : (Cond.declares y).before a0 Z = true) (w5 : (Cond.selects Cl y y).before a0 Z = true) (w6 : (Cond.instanceMethod y).before a0 Z = true) (w3 : (Cond.initialized y.cls).before a0 Z = true) (w4 : (Cond.code y yb yml yrt).before a0 Z = true) (hy : y.cls ≠ "java/lang/invoke/MethodHandle" ∧ y.cls ≠ "java/lang/invoke/VarHandle") (E : Exa Z h a Cl)
    (hM : Mt l Z y yb yml yrt rm (.ref a :: argsL).toArray h n0 (PureI h P)) (hfr : rm.frames + 1 ≤ R.frames) (hlo : W + (yml + 11) + rm.locals ≤ R.locals) (hc : cells + rm.cells ≤ R.cells) (hs : slots + rm.slots ≤ R.slots) (hlen : ∀ sig, parseMethodDescriptor y.desc = some sig → argsL.length = sig.parameters.length) (hL : L.size = ml) (hst : st = argsL.reverse ++ .ref a :: rest) (hW : (rest.map fun v => v.category).sum ≤ W)
    (kont : ∀ r T', Wk p l e R s m args below meth c n0 T' h (cells + rm.cells) (slots + rm.slots) → P r → Fi p e below s n0 C S Q (T'.setTop (mkF m pc' L (.int r :: rest)))) : Fi p e below s n0 C S Q (T.setTop (mkF m pc L (st))) := by
  refine g_virtual K X (a := a) (argsL := argsL) (rest := rest) W hd hp w1 w2 w5 w6 w3 w4 hy E hM hfr hlo hc hs hlen hL hst hW (fun v T' h' X' hq => ?_) (fun _ _ q => by obtain ⟨_, _, _, rfl⟩ := q; exact Nat.le_refl _)
  obtain ⟨r, rfl, hP, rfl⟩ := hq
  exact kont r T' X' hP
theorem g_virtualJ (K : Cx Z p s m meth c own bytes ml rt nm) (X : Wk p l e R s m args below meth c n0 T h cells slots) {pc pc' : Nat} {L : Array Slot} {st rest argsL : List Value} {index : Nat} {a : Addr} {Cl : String} {y : MethodName} {yb : ByteArray} {yml : Nat} {yrt : Option FieldType} {rm : Room} {P : Int64 → Prop} (W : Nat) (hd : decode bytes pc = .ok (.invokevirtual index, 3)) (hp : pc + 3 = pc') (w1 : (Cond.methodLink own index y).before a0 Z = true) (w2 : (Cond.declares y).before a0 Z = true) (w5 : (Cond.selects Cl y y).before a0 Z = true) (w6 : (Cond.instanceMethod y).before a0 Z = true) (w3 : (Cond.initialized y.cls).before a0 Z = true) (w4 : (Cond.code y yb yml yrt).before a0 Z = true) (hy : y.cls ≠ "java/lang/invoke/MethodHandle" ∧ y.cls ≠ "java/lang/invoke/VarHandle") (E : Exa Z h a Cl)
    (hM : Mt l Z y yb yml yrt rm (.ref a :: argsL).toArray h n0 (PureJ h P)) (hfr : rm.frames + 1 ≤ R.frames) (hlo : W + (yml + 11) + rm.locals ≤ R.locals) (hc : cells + rm.cells ≤ R.cells) (hs : slots + rm.slots ≤ R.slots) (hlen : ∀ sig, parseMethodDescriptor y.desc = some sig → argsL.length = sig.parameters.length) (hL : L.size = ml) (hst : st = argsL.reverse ++ .ref a :: rest) (hW : (rest.map fun v => v.category).sum ≤ W)
    (kont : ∀ r T', Wk p l e R s m args below meth c n0 T' h (cells + rm.cells) (slots + rm.slots) → P r → Fi p e below s n0 C S Q (T'.setTop (mkF m pc' L (.long r :: rest)))) : Fi p e below s n0 C S Q (T.setTop (mkF m pc L (st))) := by
  refine g_virtual K X (a := a) (argsL := argsL) (rest := rest) W hd hp w1 w2 w5 w6 w3 w4 hy E hM hfr hlo hc hs hlen hL hst hW (fun v T' h' X' hq => ?_) (fun _ _ q => by obtain ⟨_, _, _, rfl⟩ := q; exact Nat.le_refl _)
  obtain ⟨r, rfl, hP, rfl⟩ := hq
  exact kont r T' X' hP
theorem g_virtualKI (K : Cx Z p s m meth c own bytes ml rt nm) (X : Wk p l e R s m args below meth c n0 T h cells slots) {pc pc' : Nat} {L : Array Slot} {st rest argsL : List Value} {index : Nat} {a : Addr} {Cl : String} {y : MethodName} {yb : ByteArray} {yml : Nat} {yrt : Option FieldType} {rm : Room} {P : Int32 → Heap → Prop} {ws : List Addr} (W : Nat) (hd : decode bytes pc = .ok (.invokevirtual index, 3)) (hp : pc + 3 = pc') (w1 : (Cond.methodLink own index y).before a0 Z = true) (w2 : (Cond.declares y).before a0 Z = true) (w5 : (Cond.selects Cl y y).before a0 Z = true) (w6 : (Cond.instanceMethod y).before a0 Z = true) (w3 : (Cond.initialized y.cls).before a0 Z = true) (w4 : (Cond.code y yb yml yrt).before a0 Z = true) (hy : y.cls ≠ "java/lang/invoke/MethodHandle" ∧ y.cls ≠ "java/lang/invoke/VarHandle") (E : Exa Z h a Cl)
    (hM : Mt l Z y yb yml yrt rm (.ref a :: argsL).toArray h n0 (KeepI h ws P)) (hfr : rm.frames + 1 ≤ R.frames) (hlo : W + (yml + 11) + rm.locals ≤ R.locals) (hc : cells + rm.cells ≤ R.cells) (hs : slots + rm.slots ≤ R.slots) (hlen : ∀ sig, parseMethodDescriptor y.desc = some sig → argsL.length = sig.parameters.length) (hL : L.size = ml) (hst : st = argsL.reverse ++ .ref a :: rest) (hW : (rest.map fun v => v.category).sum ≤ W)
    (kont : ∀ r T' h', Wk p l e R s m args below meth c n0 T' h' (cells + rm.cells) (slots + rm.slots) → Keep h h' ws → P r h' → Fi p e below s n0 C S Q (T'.setTop (mkF m pc' L (.int r :: rest)))) : Fi p e below s n0 C S Q (T.setTop (mkF m pc L (st))) := by
  refine g_virtual K X (a := a) (argsL := argsL) (rest := rest) W hd hp w1 w2 w5 w6 w3 w4 hy E hM hfr hlo hc hs hlen hL hst hW (fun v T' h' X' hq => ?_) (fun _ _ q => by obtain ⟨_, _, k, _⟩ := q; exact k.1)
  obtain ⟨r, rfl, hK, hP⟩ := hq
  exact kont r T' h' X' hK hP
theorem g_virtualKA (K : Cx Z p s m meth c own bytes ml rt nm) (X : Wk p l e R s m args below meth c n0 T h cells slots) {pc pc' : Nat} {L : Array Slot} {st rest argsL : List Value} {index : Nat} {a : Addr} {Cl : String} {y : MethodName} {yb : ByteArray} {yml : Nat} {yrt : Option FieldType} {rm : Room} {P : Addr → Heap → Prop} {ws : List Addr} (W : Nat) (hd : decode bytes pc = .ok (.invokevirtual index, 3)) (hp : pc + 3 = pc') (w1 : (Cond.methodLink own index y).before a0 Z = true) (w2 : (Cond.declares y).before a0 Z = true) (w5 : (Cond.selects Cl y y).before a0 Z = true) (w6 : (Cond.instanceMethod y).before a0 Z = true) (w3 : (Cond.initialized y.cls).before a0 Z = true) (w4 : (Cond.code y yb yml yrt).before a0 Z = true) (hy : y.cls ≠ "java/lang/invoke/MethodHandle" ∧ y.cls ≠ "java/lang/invoke/VarHandle") (E : Exa Z h a Cl)
    (hM : Mt l Z y yb yml yrt rm (.ref a :: argsL).toArray h n0 (KeepA h ws P)) (hfr : rm.frames + 1 ≤ R.frames) (hlo : W + (yml + 11) + rm.locals ≤ R.locals) (hc : cells + rm.cells ≤ R.cells) (hs : slots + rm.slots ≤ R.slots) (hlen : ∀ sig, parseMethodDescriptor y.desc = some sig → argsL.length = sig.parameters.length) (hL : L.size = ml) (hst : st = argsL.reverse ++ .ref a :: rest) (hW : (rest.map fun v => v.category).sum ≤ W)
    (kont : ∀ r T' h', Wk p l e R s m args below meth c n0 T' h' (cells + rm.cells) (slots + rm.slots) → Keep h h' ws → P r h' → Fi p e below s n0 C S Q (T'.setTop (mkF m pc' L (.ref r :: rest)))) : Fi p e below s n0 C S Q (T.setTop (mkF m pc L (st))) := by
  refine g_virtual K X (a := a) (argsL := argsL) (rest := rest) W hd hp w1 w2 w5 w6 w3 w4 hy E hM hfr hlo hc hs hlen hL hst hW (fun v T' h' X' hq => ?_) (fun _ _ q => by obtain ⟨_, _, k, _⟩ := q; exact k.1)
  obtain ⟨r, rfl, hK, hP⟩ := hq
  exact kont r T' h' X' hK hP
theorem g_virtualK0 (K : Cx Z p s m meth c own bytes ml rt nm) (X : Wk p l e R s m args below meth c n0 T h cells slots) {pc pc' : Nat} {L : Array Slot} {st rest argsL : List Value} {index : Nat} {a : Addr} {Cl : String} {y : MethodName} {yb : ByteArray} {yml : Nat} {yrt : Option FieldType} {rm : Room} {P : Heap → Prop} {ws : List Addr} (W : Nat) (hd : decode bytes pc = .ok (.invokevirtual index, 3)) (hp : pc + 3 = pc') (w1 : (Cond.methodLink own index y).before a0 Z = true) (w2 : (Cond.declares y).before a0 Z = true) (w5 : (Cond.selects Cl y y).before a0 Z = true) (w6 : (Cond.instanceMethod y).before a0 Z = true) (w3 : (Cond.initialized y.cls).before a0 Z = true) (w4 : (Cond.code y yb yml yrt).before a0 Z = true) (hy : y.cls ≠ "java/lang/invoke/MethodHandle" ∧ y.cls ≠ "java/lang/invoke/VarHandle") (E : Exa Z h a Cl)
    (hM : Mt l Z y yb yml yrt rm (.ref a :: argsL).toArray h n0 (Keep0 h ws P)) (hfr : rm.frames + 1 ≤ R.frames) (hlo : W + (yml + 11) + rm.locals ≤ R.locals) (hc : cells + rm.cells ≤ R.cells) (hs : slots + rm.slots ≤ R.slots) (hlen : ∀ sig, parseMethodDescriptor y.desc = some sig → argsL.length = sig.parameters.length) (hL : L.size = ml) (hst : st = argsL.reverse ++ .ref a :: rest) (hW : (rest.map fun v => v.category).sum ≤ W)
    (kont : ∀ T' h', Wk p l e R s m args below meth c n0 T' h' (cells + rm.cells) (slots + rm.slots) → Keep h h' ws → P h' → Fi p e below s n0 C S Q (T'.setTop (mkF m pc' L (rest)))) : Fi p e below s n0 C S Q (T.setTop (mkF m pc L (st))) := by
  refine g_virtual K X (a := a) (argsL := argsL) (rest := rest) W hd hp w1 w2 w5 w6 w3 w4 hy E hM hfr hlo hc hs hlen hL hst hW (fun v T' h' X' hq => ?_) (fun _ _ q => q.2.1.1)
  obtain ⟨rfl, hK, hP⟩ := hq
  exact kont T' h' X' hK hP
theorem g_privateI (K : Cx Z p s m meth c own bytes ml rt nm) (X : Wk p l e R s m args below meth c n0 T h cells slots) {pc pc' : Nat} {L : Array Slot} {st rest argsL : List Value} {index kk : Nat} {a : Addr} {Cl : String} {y : MethodName} {yb : ByteArray} {yml : Nat} {yrt : Option FieldType} {rm : Room} {P : Int32 → Prop} (W : Nat) (hd : decode bytes pc = .ok (.invokevirtual index, 3)) (hp : pc + 3 = pc') (w1 : (Cond.methodLink own index y).before a0 Z = true) (w2 : (Cond.instanceMethod y).before a0 Z = true) (w5 : (Cond.privateMethod y).before a0 Z = true) (w6 : (Cond.instantiable y.cls kk).before a0 Z = true) (w3 : (Cond.initialized y.cls).before a0 Z = true) (w4 : (Cond.code y yb yml yrt).before a0 Z = true) (hy : y.cls ≠ "java/lang/invoke/MethodHandle" ∧ y.cls ≠ "java/lang/invoke/VarHandle") (E : Exa Z h a Cl)
    (hM : Mt l Z y yb yml yrt rm (.ref a :: argsL).toArray h n0 (PureI h P)) (hfr : rm.frames + 1 ≤ R.frames) (hlo : W + (yml + 11) + rm.locals ≤ R.locals) (hc : cells + rm.cells ≤ R.cells) (hs : slots + rm.slots ≤ R.slots) (hlen : ∀ sig, parseMethodDescriptor y.desc = some sig → argsL.length = sig.parameters.length) (hL : L.size = ml) (hst : st = argsL.reverse ++ .ref a :: rest) (hW : (rest.map fun v => v.category).sum ≤ W)
    (kont : ∀ r T', Wk p l e R s m args below meth c n0 T' h (cells + rm.cells) (slots + rm.slots) → P r → Fi p e below s n0 C S Q (T'.setTop (mkF m pc' L (.int r :: rest)))) : Fi p e below s n0 C S Q (T.setTop (mkF m pc L (st))) := by
  refine g_private K X (a := a) (argsL := argsL) (rest := rest) W hd hp w1 w2 w5 w6 w3 w4 hy E hM hfr hlo hc hs hlen hL hst hW (fun v T' h' X' hq => ?_) (fun _ _ q => by obtain ⟨_, _, _, rfl⟩ := q; exact Nat.le_refl _)
  obtain ⟨r, rfl, hP, rfl⟩ := hq
  exact kont r T' X' hP
theorem g_privateJ (K : Cx Z p s m meth c own bytes ml rt nm) (X : Wk p l e R s m args below meth c n0 T h cells slots) {pc pc' : Nat} {L : Array Slot} {st rest argsL : List Value} {index kk : Nat} {a : Addr} {Cl : String} {y : MethodName} {yb : ByteArray} {yml : Nat} {yrt : Option FieldType} {rm : Room} {P : Int64 → Prop} (W : Nat) (hd : decode bytes pc = .ok (.invokevirtual index, 3)) (hp : pc + 3 = pc') (w1 : (Cond.methodLink own index y).before a0 Z = true) (w2 : (Cond.instanceMethod y).before a0 Z = true) (w5 : (Cond.privateMethod y).before a0 Z = true) (w6 : (Cond.instantiable y.cls kk).before a0 Z = true) (w3 : (Cond.initialized y.cls).before a0 Z = true) (w4 : (Cond.code y yb yml yrt).before a0 Z = true) (hy : y.cls ≠ "java/lang/invoke/MethodHandle" ∧ y.cls ≠ "java/lang/invoke/VarHandle") (E : Exa Z h a Cl)
    (hM : Mt l Z y yb yml yrt rm (.ref a :: argsL).toArray h n0 (PureJ h P)) (hfr : rm.frames + 1 ≤ R.frames) (hlo : W + (yml + 11) + rm.locals ≤ R.locals) (hc : cells + rm.cells ≤ R.cells) (hs : slots + rm.slots ≤ R.slots) (hlen : ∀ sig, parseMethodDescriptor y.desc = some sig → argsL.length = sig.parameters.length) (hL : L.size = ml) (hst : st = argsL.reverse ++ .ref a :: rest) (hW : (rest.map fun v => v.category).sum ≤ W)
    (kont : ∀ r T', Wk p l e R s m args below meth c n0 T' h (cells + rm.cells) (slots + rm.slots) → P r → Fi p e below s n0 C S Q (T'.setTop (mkF m pc' L (.long r :: rest)))) : Fi p e below s n0 C S Q (T.setTop (mkF m pc L (st))) := by
  refine g_private K X (a := a) (argsL := argsL) (rest := rest) W hd hp w1 w2 w5 w6 w3 w4 hy E hM hfr hlo hc hs hlen hL hst hW (fun v T' h' X' hq => ?_) (fun _ _ q => by obtain ⟨_, _, _, rfl⟩ := q; exact Nat.le_refl _)
  obtain ⟨r, rfl, hP, rfl⟩ := hq
  exact kont r T' X' hP
theorem g_privateKI (K : Cx Z p s m meth c own bytes ml rt nm) (X : Wk p l e R s m args below meth c n0 T h cells slots) {pc pc' : Nat} {L : Array Slot} {st rest argsL : List Value} {index kk : Nat} {a : Addr} {Cl : String} {y : MethodName} {yb : ByteArray} {yml : Nat} {yrt : Option FieldType} {rm : Room} {P : Int32 → Heap → Prop} {ws : List Addr} (W : Nat) (hd : decode bytes pc = .ok (.invokevirtual index, 3)) (hp : pc + 3 = pc') (w1 : (Cond.methodLink own index y).before a0 Z = true) (w2 : (Cond.instanceMethod y).before a0 Z = true) (w5 : (Cond.privateMethod y).before a0 Z = true) (w6 : (Cond.instantiable y.cls kk).before a0 Z = true) (w3 : (Cond.initialized y.cls).before a0 Z = true) (w4 : (Cond.code y yb yml yrt).before a0 Z = true) (hy : y.cls ≠ "java/lang/invoke/MethodHandle" ∧ y.cls ≠ "java/lang/invoke/VarHandle") (E : Exa Z h a Cl)
    (hM : Mt l Z y yb yml yrt rm (.ref a :: argsL).toArray h n0 (KeepI h ws P)) (hfr : rm.frames + 1 ≤ R.frames) (hlo : W + (yml + 11) + rm.locals ≤ R.locals) (hc : cells + rm.cells ≤ R.cells) (hs : slots + rm.slots ≤ R.slots) (hlen : ∀ sig, parseMethodDescriptor y.desc = some sig → argsL.length = sig.parameters.length) (hL : L.size = ml) (hst : st = argsL.reverse ++ .ref a :: rest) (hW : (rest.map fun v => v.category).sum ≤ W)
    (kont : ∀ r T' h', Wk p l e R s m args below meth c n0 T' h' (cells + rm.cells) (slots + rm.slots) → Keep h h' ws → P r h' → Fi p e below s n0 C S Q (T'.setTop (mkF m pc' L (.int r :: rest)))) : Fi p e below s n0 C S Q (T.setTop (mkF m pc L (st))) := by
  refine g_private K X (a := a) (argsL := argsL) (rest := rest) W hd hp w1 w2 w5 w6 w3 w4 hy E hM hfr hlo hc hs hlen hL hst hW (fun v T' h' X' hq => ?_) (fun _ _ q => by obtain ⟨_, _, k, _⟩ := q; exact k.1)
  obtain ⟨r, rfl, hK, hP⟩ := hq
  exact kont r T' h' X' hK hP
theorem g_privateKA (K : Cx Z p s m meth c own bytes ml rt nm) (X : Wk p l e R s m args below meth c n0 T h cells slots) {pc pc' : Nat} {L : Array Slot} {st rest argsL : List Value} {index kk : Nat} {a : Addr} {Cl : String} {y : MethodName} {yb : ByteArray} {yml : Nat} {yrt : Option FieldType} {rm : Room} {P : Addr → Heap → Prop} {ws : List Addr} (W : Nat) (hd : decode bytes pc = .ok (.invokevirtual index, 3)) (hp : pc + 3 = pc') (w1 : (Cond.methodLink own index y).before a0 Z = true) (w2 : (Cond.instanceMethod y).before a0 Z = true) (w5 : (Cond.privateMethod y).before a0 Z = true) (w6 : (Cond.instantiable y.cls kk).before a0 Z = true) (w3 : (Cond.initialized y.cls).before a0 Z = true) (w4 : (Cond.code y yb yml yrt).before a0 Z = true) (hy : y.cls ≠ "java/lang/invoke/MethodHandle" ∧ y.cls ≠ "java/lang/invoke/VarHandle") (E : Exa Z h a Cl)
    (hM : Mt l Z y yb yml yrt rm (.ref a :: argsL).toArray h n0 (KeepA h ws P)) (hfr : rm.frames + 1 ≤ R.frames) (hlo : W + (yml + 11) + rm.locals ≤ R.locals) (hc : cells + rm.cells ≤ R.cells) (hs : slots + rm.slots ≤ R.slots) (hlen : ∀ sig, parseMethodDescriptor y.desc = some sig → argsL.length = sig.parameters.length) (hL : L.size = ml) (hst : st = argsL.reverse ++ .ref a :: rest) (hW : (rest.map fun v => v.category).sum ≤ W)
    (kont : ∀ r T' h', Wk p l e R s m args below meth c n0 T' h' (cells + rm.cells) (slots + rm.slots) → Keep h h' ws → P r h' → Fi p e below s n0 C S Q (T'.setTop (mkF m pc' L (.ref r :: rest)))) : Fi p e below s n0 C S Q (T.setTop (mkF m pc L (st))) := by
  refine g_private K X (a := a) (argsL := argsL) (rest := rest) W hd hp w1 w2 w5 w6 w3 w4 hy E hM hfr hlo hc hs hlen hL hst hW (fun v T' h' X' hq => ?_) (fun _ _ q => by obtain ⟨_, _, k, _⟩ := q; exact k.1)
  obtain ⟨r, rfl, hK, hP⟩ := hq
  exact kont r T' h' X' hK hP
theorem g_privateK0 (K : Cx Z p s m meth c own bytes ml rt nm) (X : Wk p l e R s m args below meth c n0 T h cells slots) {pc pc' : Nat} {L : Array Slot} {st rest argsL : List Value} {index kk : Nat} {a : Addr} {Cl : String} {y : MethodName} {yb : ByteArray} {yml : Nat} {yrt : Option FieldType} {rm : Room} {P : Heap → Prop} {ws : List Addr} (W : Nat) (hd : decode bytes pc = .ok (.invokevirtual index, 3)) (hp : pc + 3 = pc') (w1 : (Cond.methodLink own index y).before a0 Z = true) (w2 : (Cond.instanceMethod y).before a0 Z = true) (w5 : (Cond.privateMethod y).before a0 Z = true) (w6 : (Cond.instantiable y.cls kk).before a0 Z = true) (w3 : (Cond.initialized y.cls).before a0 Z = true) (w4 : (Cond.code y yb yml yrt).before a0 Z = true) (hy : y.cls ≠ "java/lang/invoke/MethodHandle" ∧ y.cls ≠ "java/lang/invoke/VarHandle") (E : Exa Z h a Cl)
    (hM : Mt l Z y yb yml yrt rm (.ref a :: argsL).toArray h n0 (Keep0 h ws P)) (hfr : rm.frames + 1 ≤ R.frames) (hlo : W + (yml + 11) + rm.locals ≤ R.locals) (hc : cells + rm.cells ≤ R.cells) (hs : slots + rm.slots ≤ R.slots) (hlen : ∀ sig, parseMethodDescriptor y.desc = some sig → argsL.length = sig.parameters.length) (hL : L.size = ml) (hst : st = argsL.reverse ++ .ref a :: rest) (hW : (rest.map fun v => v.category).sum ≤ W)
    (kont : ∀ T' h', Wk p l e R s m args below meth c n0 T' h' (cells + rm.cells) (slots + rm.slots) → Keep h h' ws → P h' → Fi p e below s n0 C S Q (T'.setTop (mkF m pc' L (rest)))) : Fi p e below s n0 C S Q (T.setTop (mkF m pc L (st))) := by
  refine g_private K X (a := a) (argsL := argsL) (rest := rest) W hd hp w1 w2 w5 w6 w3 w4 hy E hM hfr hlo hc hs hlen hL hst hW (fun v T' h' X' hq => ?_) (fun _ _ q => q.2.1.1)
  obtain ⟨rfl, hK, hP⟩ := hq
  exact kont T' h' X' hK hP
end OwnKit
theorem pn_0 : plainName "com/example/floe/floe/model/Merge" = true := by first | (simp [plainName, overriddenIn]; done) | decide +kernel
theorem pn_1 : plainName "com/example/floe/floe/model/MergeIndexPinLaw" = true := by first | (simp [plainName, overriddenIn]; done) | decide +kernel
theorem pd_0 : parseMethodDescriptor "([I)V" = some ⟨[(.array .int)], none⟩ := by decide +kernel
theorem pd_1 : parseMethodDescriptor "(I)I" = some ⟨[.int], some .int⟩ := by decide +kernel
theorem d1_0 : decode prog_56_method_1_code 0 = .ok (.aload_n 0, 1) := by decide +kernel
theorem d1_1 : decode prog_56_method_1_code 1 = .ok (.invokespecial 1, 3) := by decide +kernel
theorem d1_4 : decode prog_56_method_1_code 4 = .ok (.aload_n 0, 1) := by decide +kernel
theorem d1_5 : decode prog_56_method_1_code 5 = .ok (.aload_n 1, 1) := by decide +kernel
theorem d1_6 : decode prog_56_method_1_code 6 = .ok (.putfield 7, 3) := by decide +kernel
theorem d1_9 : decode prog_56_method_1_code 9 = .ok (.return_, 1) := by decide +kernel
theorem ef_1 (m : MethodId) (x0 : Addr) (x1 : Addr) : entryFrame m #[.ref x0, .ref x1] 2 = mkF m 0 #[.val (.ref x0), .val (.ref x1)] [] := by first | (simp [entryFrame, mkF, argsToLocals, Value.category, maxLocals]; done) | rfl
set_option maxRecDepth 65536 in
set_option maxHeartbeats 40000000 in
theorem rm_init (l : Launch) (Z : State) (a0 : Array Value) (hw : ∀ d ∈ tables_1, d.before a0 Z = true) (a1 b1 : Addr) (h : Heap) (n0 : Nat) (Z0 : n0 ≤ h.size) (g1 : n0 ≤ a1) (E : Exa Z h a1 "com/example/floe/floe/model/Merge") (F : Fld Z h a1 "com/example/floe/floe/model/Merge" "indexes" "[I" .null) :
    Mt l Z (⟨"com/example/floe/floe/model/Merge", "<init>", "([I)V"⟩ : MethodName) prog_56_method_1_code 2 none ({ frames := 1, cells := 0, slots := 0, locals := 12 } : Room) #[.ref a1, .ref b1] h n0 (Keep0 h [a1] (fun h' => Exa Z h' a1 "com/example/floe/floe/model/Merge" ∧ Fld Z h' a1 "com/example/floe/floe/model/Merge" "indexes" "[I" (.ref b1))) := by
  refine Mt.of (own := "com/example/floe/floe/model/Merge") (nm := "<init>") (Ls := #[.val (.ref a1), .val (.ref b1)]) rfl rfl (plainFor_of_name pn_0) Z0 (fun m => ef_1 m a1 b1) ?_
  intro p e s m below meth c T K X
  refine g_aloadN K X (pc' := 1) d1_0 rfl rfl rfl ?_
  refine g_objinit K X (pc' := 4) d1_1 rfl (hw _ (List.mem_of_getElem? (i := 8) rfl)) (hw _ (List.mem_of_getElem? (i := 9) rfl)) (hw _ (List.mem_of_getElem? (i := 10) rfl)) rfl 0 (by decide) (Nat.le_of_ble_eq_true rfl) (by decide) (fun T1 X2 => ?_)
  refine g_aloadN K X2 (pc' := 5) d1_4 rfl rfl rfl ?_
  refine g_aloadN K X2 (pc' := 6) d1_5 rfl rfl rfl ?_
  refine g_putfield K X2 (pc' := 9) d1_6 rfl (hw _ (List.mem_of_getElem? (i := 11) rfl)) F E (Or.inr ⟨(hw _ (List.mem_of_getElem? (i := 12) rfl)), rfl, rfl⟩) (hw _ (List.mem_of_getElem? (i := 3) rfl)) (ty := (.array .int)) (by decide) rfl rfl g1 (fun T3 h4 X5 W6 Kp7 E8 F9 => ?_)
  have f10 := Exa.keep E Kp7
  have KK11 := Kp7
  exact g_ret0 K X5 d1_9 (by decide) (by decide) ⟨rfl, KK11, E8, F9⟩

def MI (n : Nat) (f : Nat → Int32) (p r : Int32) : Prop :=
  ((n ≤ 1 ∨ p.toInt < (f 1).toInt) ∧ r = p - (0 : Int32)) ∨ (1 < n ∧ p.toInt = (f 1).toInt ∧ r = f 0) ∨ (1 < n ∧ (f 1).toInt < p.toInt ∧ (n ≤ 2 ∨ p.toInt < (f 2).toInt) ∧ r = p - (1 : Int32)) ∨ (2 < n ∧ (f 1).toInt < p.toInt ∧ p.toInt = (f 2).toInt ∧ r = f 0) ∨ (2 < n ∧ (f 1).toInt < p.toInt ∧ (f 2).toInt < p.toInt ∧ r = p - (2 : Int32))
theorem d3_0 : decode prog_56_method_6_code 0 = .ok (.iconst 0, 1) := by decide +kernel
theorem d3_1 : decode prog_56_method_6_code 1 = .ok (.istore_n 2, 1) := by decide +kernel
theorem d3_2 : decode prog_56_method_6_code 2 = .ok (.iconst 1, 1) := by decide +kernel
theorem d3_3 : decode prog_56_method_6_code 3 = .ok (.istore_n 3, 1) := by decide +kernel
theorem d3_4 : decode prog_56_method_6_code 4 = .ok (.iload_n 3, 1) := by decide +kernel
theorem d3_5 : decode prog_56_method_6_code 5 = .ok (.aload_n 0, 1) := by decide +kernel
theorem d3_6 : decode prog_56_method_6_code 6 = .ok (.getfield 7, 3) := by decide +kernel
theorem d3_9 : decode prog_56_method_6_code 9 = .ok (.arraylength, 1) := by decide +kernel
theorem d3_10 : decode prog_56_method_6_code 10 = .ok (.if_icmp .ge 39, 3) := by decide +kernel
theorem d3_13 : decode prog_56_method_6_code 13 = .ok (.aload_n 0, 1) := by decide +kernel
theorem d3_14 : decode prog_56_method_6_code 14 = .ok (.getfield 7, 3) := by decide +kernel
theorem d3_17 : decode prog_56_method_6_code 17 = .ok (.iload_n 3, 1) := by decide +kernel
theorem d3_18 : decode prog_56_method_6_code 18 = .ok (.iaload, 1) := by decide +kernel
theorem d3_19 : decode prog_56_method_6_code 19 = .ok (.iload_n 1, 1) := by decide +kernel
theorem d3_20 : decode prog_56_method_6_code 20 = .ok (.if_icmp .gt 29, 3) := by decide +kernel
theorem d3_23 : decode prog_56_method_6_code 23 = .ok (.aload_n 0, 1) := by decide +kernel
theorem d3_24 : decode prog_56_method_6_code 24 = .ok (.getfield 7, 3) := by decide +kernel
theorem d3_27 : decode prog_56_method_6_code 27 = .ok (.iload_n 3, 1) := by decide +kernel
theorem d3_28 : decode prog_56_method_6_code 28 = .ok (.iaload, 1) := by decide +kernel
theorem d3_29 : decode prog_56_method_6_code 29 = .ok (.iload_n 1, 1) := by decide +kernel
theorem d3_30 : decode prog_56_method_6_code 30 = .ok (.if_icmp .ne 10, 3) := by decide +kernel
theorem d3_33 : decode prog_56_method_6_code 33 = .ok (.aload_n 0, 1) := by decide +kernel
theorem d3_34 : decode prog_56_method_6_code 34 = .ok (.getfield 7, 3) := by decide +kernel
theorem d3_37 : decode prog_56_method_6_code 37 = .ok (.iconst 0, 1) := by decide +kernel
theorem d3_38 : decode prog_56_method_6_code 38 = .ok (.iaload, 1) := by decide +kernel
theorem d3_39 : decode prog_56_method_6_code 39 = .ok (.ireturn, 1) := by decide +kernel
theorem d3_40 : decode prog_56_method_6_code 40 = .ok (.iinc 2 1, 3) := by decide +kernel
theorem d3_43 : decode prog_56_method_6_code 43 = .ok (.iinc 3 1, 3) := by decide +kernel
theorem d3_46 : decode prog_56_method_6_code 46 = .ok (.goto (-42), 3) := by decide +kernel
theorem d3_49 : decode prog_56_method_6_code 49 = .ok (.iload_n 1, 1) := by decide +kernel
theorem d3_50 : decode prog_56_method_6_code 50 = .ok (.iload_n 2, 1) := by decide +kernel
theorem d3_51 : decode prog_56_method_6_code 51 = .ok (.isub, 1) := by decide +kernel
theorem d3_52 : decode prog_56_method_6_code 52 = .ok (.ireturn, 1) := by decide +kernel
theorem ef_3 (m : MethodId) (x0 : Addr) (x1 : Int32) : entryFrame m #[.ref x0, .int x1] 4 = mkF m 0 #[.val (.ref x0), .val (.int x1), .unset, .unset] [] := by first | (simp [entryFrame, mkF, argsToLocals, Value.category, maxLocals]; done) | rfl
set_option maxRecDepth 65536 in
set_option maxHeartbeats 40000000 in
theorem rm_index (l : Launch) (Z : State) (a0 : Array Value) (hw : ∀ d ∈ tables_1, d.before a0 Z = true) (a1 b1 : Addr) (q : Int32) (n : Nat) (f : Nat → Int32) (h : Heap) (n0 : Nat) (Z0 : n0 ≤ h.size) (F : Fld Z h a1 "com/example/floe/floe/model/Merge" "indexes" "[I" (.ref b1)) (A : AN Z h b1 .int n f) (h1 : 1 ≤ n) (h3 : n ≤ 3) :
    Mt l Z (⟨"com/example/floe/floe/model/Merge", "index", "(I)I"⟩ : MethodName) prog_56_method_6_code 4 (some .int) ({ frames := 0, cells := 0, slots := 0, locals := 0 } : Room) #[.ref a1, .int q] h n0 (PureI h (fun r => MI n f q r)) := by
  refine Mt.of (own := "com/example/floe/floe/model/Merge") (nm := "index") (Ls := #[.val (.ref a1), .val (.int q), .unset, .unset]) rfl rfl (plainFor_of_name pn_0) Z0 (fun m => ef_3 m a1 q) ?_
  intro p e s m below meth c T K X
  have hl := A.len
  refine g_iconst K X (pc' := 1) (v := (0 : Int32)) d3_0 rfl rfl ?_
  refine g_istoreN K X (pc' := 2) (L' := #[.val (.ref a1), .val (.int q), .val (.int (0 : Int32)), .unset]) d3_1 rfl rfl ?_
  refine g_iconst K X (pc' := 3) (v := (1 : Int32)) d3_2 rfl rfl ?_
  refine g_istoreN K X (pc' := 4) (L' := #[.val (.ref a1), .val (.int q), .val (.int (0 : Int32)), .val (.int (1 : Int32))]) d3_3 rfl rfl ?_
  refine g_iloadN K X (pc' := 5) d3_4 rfl rfl ?_
  refine g_aloadN K X (pc' := 6) d3_5 rfl rfl rfl ?_
  refine g_getfield K X (pc' := 9) d3_6 rfl (hw _ (List.mem_of_getElem? (i := 11) rfl)) F (fun T1 X2 => ?_)
  refine g_arraylength K X2 (pc' := 10) (v := (Int32.ofNat n)) d3_9 rfl A A.len ?_
  refine g_icmp_ge K X2 (pc' := 49) (pc'' := 13) 1 (Int32.ofNat n).toInt d3_10 (by decide) rfl rfl rfl ?_ ?_
  · intro b10
    refine g_iloadN K X2 (pc' := 50) d3_49 rfl rfl ?_
    refine g_iloadN K X2 (pc' := 51) d3_50 rfl rfl ?_
    refine g_isub K X2 (pc' := 52) d3_51 rfl ?_
    exact g_retI K X2 d3_52 (by decide) (by decide) ⟨_, rfl, (by first | exact Or.inl ⟨by omega, rfl⟩ | exact Or.inr (Or.inl ⟨by omega, by omega, rfl⟩) | exact Or.inr (Or.inr (Or.inl ⟨by omega, by omega, by omega, rfl⟩)) | exact Or.inr (Or.inr (Or.inr (Or.inl ⟨by omega, by omega, by omega, rfl⟩))) | exact Or.inr (Or.inr (Or.inr (Or.inr ⟨by omega, by omega, by omega, rfl⟩)))), rfl⟩
  · intro b10
    refine g_aloadN K X2 (pc' := 14) d3_13 rfl rfl rfl ?_
    refine g_getfield K X2 (pc' := 17) d3_14 rfl (hw _ (List.mem_of_getElem? (i := 11) rfl)) F (fun T3 X4 => ?_)
    refine g_iloadN K X4 (pc' := 18) d3_17 rfl rfl ?_
    refine g_iaload K X4 (pc' := 19) (i := 1) d3_18 rfl A rfl (by omega) ?_
    refine g_iloadN K X4 (pc' := 20) d3_19 rfl rfl ?_
    refine g_icmp_gt K X4 (pc' := 49) (pc'' := 23) (f 1).toInt q.toInt d3_20 (by decide) rfl rfl rfl ?_ ?_
    · intro b20
      refine g_iloadN K X4 (pc' := 50) d3_49 rfl rfl ?_
      refine g_iloadN K X4 (pc' := 51) d3_50 rfl rfl ?_
      refine g_isub K X4 (pc' := 52) d3_51 rfl ?_
      exact g_retI K X4 d3_52 (by decide) (by decide) ⟨_, rfl, (by first | exact Or.inl ⟨by omega, rfl⟩ | exact Or.inr (Or.inl ⟨by omega, by omega, rfl⟩) | exact Or.inr (Or.inr (Or.inl ⟨by omega, by omega, by omega, rfl⟩)) | exact Or.inr (Or.inr (Or.inr (Or.inl ⟨by omega, by omega, by omega, rfl⟩))) | exact Or.inr (Or.inr (Or.inr (Or.inr ⟨by omega, by omega, by omega, rfl⟩)))), rfl⟩
    · intro b20
      refine g_aloadN K X4 (pc' := 24) d3_23 rfl rfl rfl ?_
      refine g_getfield K X4 (pc' := 27) d3_24 rfl (hw _ (List.mem_of_getElem? (i := 11) rfl)) F (fun T5 X6 => ?_)
      refine g_iloadN K X6 (pc' := 28) d3_27 rfl rfl ?_
      refine g_iaload K X6 (pc' := 29) (i := 1) d3_28 rfl A rfl (by omega) ?_
      refine g_iloadN K X6 (pc' := 30) d3_29 rfl rfl ?_
      refine g_icmp_ne K X6 (pc' := 40) (pc'' := 33) (f 1).toInt q.toInt d3_30 (by decide) rfl rfl rfl ?_ ?_
      · intro b30
        refine g_iinc K X6 (pc' := 43) (z := (1 : Int32)) (L' := #[.val (.ref a1), .val (.int q), .val (.int (1 : Int32)), .val (.int (1 : Int32))]) d3_40 rfl rfl rfl rfl ?_
        refine g_iinc K X6 (pc' := 46) (z := (2 : Int32)) (L' := #[.val (.ref a1), .val (.int q), .val (.int (1 : Int32)), .val (.int (2 : Int32))]) d3_43 rfl rfl rfl rfl ?_
        refine g_goto K X6 (pc' := 4) d3_46 (by decide) ?_
        refine g_iloadN K X6 (pc' := 5) d3_4 rfl rfl ?_
        refine g_aloadN K X6 (pc' := 6) d3_5 rfl rfl rfl ?_
        refine g_getfield K X6 (pc' := 9) d3_6 rfl (hw _ (List.mem_of_getElem? (i := 11) rfl)) F (fun T7 X8 => ?_)
        refine g_arraylength K X8 (pc' := 10) (v := (Int32.ofNat n)) d3_9 rfl A A.len ?_
        refine g_icmp_ge K X8 (pc' := 49) (pc'' := 13) 2 (Int32.ofNat n).toInt d3_10 (by decide) rfl rfl rfl ?_ ?_
        · intro b10_9
          refine g_iloadN K X8 (pc' := 50) d3_49 rfl rfl ?_
          refine g_iloadN K X8 (pc' := 51) d3_50 rfl rfl ?_
          refine g_isub K X8 (pc' := 52) d3_51 rfl ?_
          exact g_retI K X8 d3_52 (by decide) (by decide) ⟨_, rfl, (by first | exact Or.inl ⟨by omega, rfl⟩ | exact Or.inr (Or.inl ⟨by omega, by omega, rfl⟩) | exact Or.inr (Or.inr (Or.inl ⟨by omega, by omega, by omega, rfl⟩)) | exact Or.inr (Or.inr (Or.inr (Or.inl ⟨by omega, by omega, by omega, rfl⟩))) | exact Or.inr (Or.inr (Or.inr (Or.inr ⟨by omega, by omega, by omega, rfl⟩)))), rfl⟩
        · intro b10_9
          refine g_aloadN K X8 (pc' := 14) d3_13 rfl rfl rfl ?_
          refine g_getfield K X8 (pc' := 17) d3_14 rfl (hw _ (List.mem_of_getElem? (i := 11) rfl)) F (fun T10 X11 => ?_)
          refine g_iloadN K X11 (pc' := 18) d3_17 rfl rfl ?_
          refine g_iaload K X11 (pc' := 19) (i := 2) d3_18 rfl A rfl (by omega) ?_
          refine g_iloadN K X11 (pc' := 20) d3_19 rfl rfl ?_
          refine g_icmp_gt K X11 (pc' := 49) (pc'' := 23) (f 2).toInt q.toInt d3_20 (by decide) rfl rfl rfl ?_ ?_
          · intro b20_12
            refine g_iloadN K X11 (pc' := 50) d3_49 rfl rfl ?_
            refine g_iloadN K X11 (pc' := 51) d3_50 rfl rfl ?_
            refine g_isub K X11 (pc' := 52) d3_51 rfl ?_
            exact g_retI K X11 d3_52 (by decide) (by decide) ⟨_, rfl, (by first | exact Or.inl ⟨by omega, rfl⟩ | exact Or.inr (Or.inl ⟨by omega, by omega, rfl⟩) | exact Or.inr (Or.inr (Or.inl ⟨by omega, by omega, by omega, rfl⟩)) | exact Or.inr (Or.inr (Or.inr (Or.inl ⟨by omega, by omega, by omega, rfl⟩))) | exact Or.inr (Or.inr (Or.inr (Or.inr ⟨by omega, by omega, by omega, rfl⟩)))), rfl⟩
          · intro b20_12
            refine g_aloadN K X11 (pc' := 24) d3_23 rfl rfl rfl ?_
            refine g_getfield K X11 (pc' := 27) d3_24 rfl (hw _ (List.mem_of_getElem? (i := 11) rfl)) F (fun T13 X14 => ?_)
            refine g_iloadN K X14 (pc' := 28) d3_27 rfl rfl ?_
            refine g_iaload K X14 (pc' := 29) (i := 2) d3_28 rfl A rfl (by omega) ?_
            refine g_iloadN K X14 (pc' := 30) d3_29 rfl rfl ?_
            refine g_icmp_ne K X14 (pc' := 40) (pc'' := 33) (f 2).toInt q.toInt d3_30 (by decide) rfl rfl rfl ?_ ?_
            · intro b30_15
              refine g_iinc K X14 (pc' := 43) (z := (2 : Int32)) (L' := #[.val (.ref a1), .val (.int q), .val (.int (2 : Int32)), .val (.int (2 : Int32))]) d3_40 rfl rfl rfl rfl ?_
              refine g_iinc K X14 (pc' := 46) (z := (3 : Int32)) (L' := #[.val (.ref a1), .val (.int q), .val (.int (2 : Int32)), .val (.int (3 : Int32))]) d3_43 rfl rfl rfl rfl ?_
              refine g_goto K X14 (pc' := 4) d3_46 (by decide) ?_
              refine g_iloadN K X14 (pc' := 5) d3_4 rfl rfl ?_
              refine g_aloadN K X14 (pc' := 6) d3_5 rfl rfl rfl ?_
              refine g_getfield K X14 (pc' := 9) d3_6 rfl (hw _ (List.mem_of_getElem? (i := 11) rfl)) F (fun T16 X17 => ?_)
              refine g_arraylength K X17 (pc' := 10) (v := (Int32.ofNat n)) d3_9 rfl A A.len ?_
              refine g_icmp_ge K X17 (pc' := 49) (pc'' := 13) 3 (Int32.ofNat n).toInt d3_10 (by decide) rfl rfl rfl ?_ ?_
              · intro b10_18
                refine g_iloadN K X17 (pc' := 50) d3_49 rfl rfl ?_
                refine g_iloadN K X17 (pc' := 51) d3_50 rfl rfl ?_
                refine g_isub K X17 (pc' := 52) d3_51 rfl ?_
                exact g_retI K X17 d3_52 (by decide) (by decide) ⟨_, rfl, (by first | exact Or.inl ⟨by omega, rfl⟩ | exact Or.inr (Or.inl ⟨by omega, by omega, rfl⟩) | exact Or.inr (Or.inr (Or.inl ⟨by omega, by omega, by omega, rfl⟩)) | exact Or.inr (Or.inr (Or.inr (Or.inl ⟨by omega, by omega, by omega, rfl⟩))) | exact Or.inr (Or.inr (Or.inr (Or.inr ⟨by omega, by omega, by omega, rfl⟩)))), rfl⟩
              · intro b10_18
                omega
            · intro b30_15
              refine g_aloadN K X14 (pc' := 34) d3_33 rfl rfl rfl ?_
              refine g_getfield K X14 (pc' := 37) d3_34 rfl (hw _ (List.mem_of_getElem? (i := 11) rfl)) F (fun T19 X20 => ?_)
              refine g_iconst K X20 (pc' := 38) (v := (0 : Int32)) d3_37 rfl rfl ?_
              refine g_iaload K X20 (pc' := 39) (i := 0) d3_38 rfl A rfl (by omega) ?_
              exact g_retI K X20 d3_39 (by decide) (by decide) ⟨_, rfl, (by first | exact Or.inl ⟨by omega, rfl⟩ | exact Or.inr (Or.inl ⟨by omega, by omega, rfl⟩) | exact Or.inr (Or.inr (Or.inl ⟨by omega, by omega, by omega, rfl⟩)) | exact Or.inr (Or.inr (Or.inr (Or.inl ⟨by omega, by omega, by omega, rfl⟩))) | exact Or.inr (Or.inr (Or.inr (Or.inr ⟨by omega, by omega, by omega, rfl⟩)))), rfl⟩
      · intro b30
        refine g_aloadN K X6 (pc' := 34) d3_33 rfl rfl rfl ?_
        refine g_getfield K X6 (pc' := 37) d3_34 rfl (hw _ (List.mem_of_getElem? (i := 11) rfl)) F (fun T21 X22 => ?_)
        refine g_iconst K X22 (pc' := 38) (v := (0 : Int32)) d3_37 rfl rfl ?_
        refine g_iaload K X22 (pc' := 39) (i := 0) d3_38 rfl A rfl (by omega) ?_
        exact g_retI K X22 d3_39 (by decide) (by decide) ⟨_, rfl, (by first | exact Or.inl ⟨by omega, rfl⟩ | exact Or.inr (Or.inl ⟨by omega, by omega, rfl⟩) | exact Or.inr (Or.inr (Or.inl ⟨by omega, by omega, by omega, rfl⟩)) | exact Or.inr (Or.inr (Or.inr (Or.inl ⟨by omega, by omega, by omega, rfl⟩))) | exact Or.inr (Or.inr (Or.inr (Or.inr ⟨by omega, by omega, by omega, rfl⟩)))), rfl⟩

theorem own_start (x y w : Int32) : ∃ va vb vc vn : Int32, (x &&& (268435455 : Int32)) = va ∧ ((va + (1 : Int32)) + (y &&& (7 : Int32))) = vb ∧ ((vb + (1 : Int32)) + (jushr y (3 : Int32) &&& (7 : Int32))) = vc ∧ (((jushr w (1 : Int32) &&& (3 : Int32)) % (3 : Int32)) + (1 : Int32)) = vn ∧ va.toInt < vb.toInt ∧ vb.toInt < vc.toInt ∧ 1 ≤ vn.toInt ∧ vn.toInt ≤ 3 := by
  refine ⟨_, _, _, _, rfl, rfl, rfl, rfl, ?_⟩
  have e1 := c_mask x 268435455 28 (by decide) (by decide)
  have e2 := c_mask y 7 3 (by decide) (by decide)
  have e3 := c_mask (jushr y (3 : Int32)) 7 3 (by decide) (by decide)
  have e4 := c_mask (jushr w (1 : Int32)) 3 2 (by decide) (by decide)
  generalize x &&& (268435455 : Int32) = va at *
  generalize y &&& (7 : Int32) = y1 at *
  generalize jushr y (3 : Int32) &&& (7 : Int32) = y2 at *
  generalize jushr w (1 : Int32) &&& (3 : Int32) = w1 at *
  have e5 := (c_irem w1 3 3 rfl).1 (by omega)
  generalize w1 % (3 : Int32) = w2 at *
  have z1 : (1 : Int32).toInt = 1 := rfl
  have s1 := c_iadd va 1
  have s2 := c_iadd (va + 1) y1
  have s3 := c_iadd (va + 1 + y1) 1
  have s4 := c_iadd (va + 1 + y1 + 1) y2
  have s5 := c_iadd w2 1
  have r1 := rng32 (va + 1)
  have r2 := rng32 (va + 1 + y1)
  have r3 := rng32 (va + 1 + y1 + 1)
  have r4 := rng32 (va + 1 + y1 + 1 + y2)
  have r5 := rng32 (w2 + 1)
  omega
theorem ef_0 (m : MethodId) (x0 : Int32) (x1 : Int32) (x2 : Int32) (x3 : Int32) : entryFrame m #[.int x0, .int x1, .int x2, .int x3] maxLocals = mkF m 0 #[.val (.int x0), .val (.int x1), .val (.int x2), .val (.int x3), .unset, .unset, .unset, .unset, .unset, .unset, .unset, .unset] [] := by first | (simp [entryFrame, mkF, argsToLocals, Value.category, maxLocals]; done) | rfl
set_option maxRecDepth 65536 in
set_option maxHeartbeats 40000000 in
theorem rm0 (l : Launch) (Z : State) (a0 : Array Value) (hw : ∀ d ∈ tables_1, d.before a0 Z = true) (p1 p2 p3 p4 : Int32) (h : Heap) (n0 : Nat) (Z0 : n0 ≤ h.size)  :
    Mt l Z x code maxLocals ret room_1 #[.int p1, .int p2, .int p3, .int p4] h n0 (fun v _ => v = some (.int 1)) := by
  refine Mt.of (own := "com/example/floe/floe/model/MergeIndexPinLaw") (nm := "law") (Ls := #[.val (.int p1), .val (.int p2), .val (.int p3), .val (.int p4), .unset, .unset, .unset, .unset, .unset, .unset, .unset, .unset]) rfl rfl (plainFor_of_name pn_1) Z0 (fun m => ef_0 m p1 p2 p3 p4) ?_
  intro p e s m below meth c T K X
  refine g_iloadN K X (pc' := 1) at_0 rfl rfl ?_
  refine g_ldcI K X (pc' := 3) (v := (268435455 : Int32)) at_1 rfl (hw _ (List.mem_of_getElem? (i := 0) rfl)) ?_
  refine g_iand K X (pc' := 4) at_3 rfl ?_
  refine g_istore K X (pc' := 6) (L' := #[.val (.int p1), .val (.int p2), .val (.int p3), .val (.int p4), .val (.int (p1 &&& (268435455 : Int32))), .unset, .unset, .unset, .unset, .unset, .unset, .unset]) at_4 rfl rfl ?_
  refine g_iload K X (pc' := 8) at_6 rfl rfl ?_
  refine g_iconst K X (pc' := 9) (v := (1 : Int32)) at_8 rfl rfl ?_
  refine g_iadd K X (pc' := 10) at_9 rfl ?_
  refine g_iloadN K X (pc' := 11) at_10 rfl rfl ?_
  refine g_bipush K X (pc' := 13) (v := (7 : Int32)) at_11 rfl rfl ?_
  refine g_iand K X (pc' := 14) at_13 rfl ?_
  refine g_iadd K X (pc' := 15) at_14 rfl ?_
  refine g_istore K X (pc' := 17) (L' := #[.val (.int p1), .val (.int p2), .val (.int p3), .val (.int p4), .val (.int (p1 &&& (268435455 : Int32))), .val (.int (((p1 &&& (268435455 : Int32)) + (1 : Int32)) + (p2 &&& (7 : Int32)))), .unset, .unset, .unset, .unset, .unset, .unset]) at_15 rfl rfl ?_
  refine g_iload K X (pc' := 19) at_17 rfl rfl ?_
  refine g_iconst K X (pc' := 20) (v := (1 : Int32)) at_19 rfl rfl ?_
  refine g_iadd K X (pc' := 21) at_20 rfl ?_
  refine g_iloadN K X (pc' := 22) at_21 rfl rfl ?_
  refine g_iconst K X (pc' := 23) (v := (3 : Int32)) at_22 rfl rfl ?_
  refine g_iushr K X (pc' := 24) at_23 rfl ?_
  refine g_bipush K X (pc' := 26) (v := (7 : Int32)) at_24 rfl rfl ?_
  refine g_iand K X (pc' := 27) at_26 rfl ?_
  refine g_iadd K X (pc' := 28) at_27 rfl ?_
  refine g_istore K X (pc' := 30) (L' := #[.val (.int p1), .val (.int p2), .val (.int p3), .val (.int p4), .val (.int (p1 &&& (268435455 : Int32))), .val (.int (((p1 &&& (268435455 : Int32)) + (1 : Int32)) + (p2 &&& (7 : Int32)))), .val (.int (((((p1 &&& (268435455 : Int32)) + (1 : Int32)) + (p2 &&& (7 : Int32))) + (1 : Int32)) + ((jushr p2 (3 : Int32)) &&& (7 : Int32)))), .unset, .unset, .unset, .unset, .unset]) at_28 rfl rfl ?_
  refine g_iloadN K X (pc' := 31) at_30 rfl rfl ?_
  refine g_iconst K X (pc' := 32) (v := (1 : Int32)) at_31 rfl rfl ?_
  refine g_iushr K X (pc' := 33) at_32 rfl ?_
  refine g_iconst K X (pc' := 34) (v := (3 : Int32)) at_33 rfl rfl ?_
  refine g_iand K X (pc' := 35) at_34 rfl ?_
  refine g_iconst K X (pc' := 36) (v := (3 : Int32)) at_35 rfl rfl ?_
  refine g_irem K X (pc' := 37) at_36 rfl (by decide) ?_
  refine g_iconst K X (pc' := 38) (v := (1 : Int32)) at_37 rfl rfl ?_
  refine g_iadd K X (pc' := 39) at_38 rfl ?_
  refine g_istore K X (pc' := 41) (L' := #[.val (.int p1), .val (.int p2), .val (.int p3), .val (.int p4), .val (.int (p1 &&& (268435455 : Int32))), .val (.int (((p1 &&& (268435455 : Int32)) + (1 : Int32)) + (p2 &&& (7 : Int32)))), .val (.int (((((p1 &&& (268435455 : Int32)) + (1 : Int32)) + (p2 &&& (7 : Int32))) + (1 : Int32)) + ((jushr p2 (3 : Int32)) &&& (7 : Int32)))), .val (.int ((((jushr p4 (1 : Int32)) &&& (3 : Int32)) % (3 : Int32)) + (1 : Int32))), .unset, .unset, .unset, .unset]) at_39 rfl rfl ?_
  obtain ⟨va, vb, vc, vn, k1, k2, k3, k4, k5, k6, k7, k8⟩ := own_start p1 p2 p4
  rw [k1, k2, k3, k4]
  have J61 : ∀ v : Int32, Fi p e below s n0 room_1.cells room_1.slots (fun v _ => v = some (.int 1)) (T.setTop (mkF m 61 #[.val (.int p1), .val (.int p2), .val (.int p3), .val (.int p4), .val (.int va), .val (.int vb), .val (.int vc), .val (.int vn), .unset, .unset, .unset, .unset] [.int v])) := by
    intro v
    refine g_istore K X (pc' := 63) (L' := #[.val (.int p1), .val (.int p2), .val (.int p3), .val (.int p4), .val (.int va), .val (.int vb), .val (.int vc), .val (.int vn), .val (.int v), .unset, .unset, .unset]) at_61 rfl rfl ?_
    refine g_iload K X (pc' := 65) at_63 rfl rfl ?_
    refine g_iconst K X (pc' := 66) (v := (1 : Int32)) at_65 rfl rfl ?_
    refine g_icmp_ne K X (pc' := 82) (pc'' := 69) vn.toInt 1 at_66 (by decide) rfl rfl rfl ?_ ?_
    · intro b66
      refine g_iload K X (pc' := 84) at_82 rfl rfl ?_
      refine g_iconst K X (pc' := 85) (v := (2 : Int32)) at_84 rfl rfl ?_
      refine g_icmp_ne K X (pc' := 106) (pc'' := 88) vn.toInt 2 at_85 (by decide) rfl rfl rfl ?_ ?_
      · intro b85
        refine g_iconst K X (pc' := 107) (v := (3 : Int32)) at_106 rfl rfl ?_
        refine g_newarray_int K X (pc' := 109) (n := 3) 3 at_107 rfl (hw _ (List.mem_of_getElem? (i := 1) rfl)) rfl (by decide) (by decide) (by decide) (by decide) (fun T1 h2 a3 X4 E5 ga6 na7 A8 => ?_)
        refine g_dup K X4 (pc' := 110) at_109 rfl rfl ?_
        refine g_iconst K X4 (pc' := 111) (v := (0 : Int32)) at_110 rfl rfl ?_
        refine g_iload K X4 (pc' := 113) at_111 rfl rfl ?_
        refine g_iastore K X4 (pc' := 114) (i := 0) at_113 rfl A8 na7 rfl (by decide) (fun T9 h10 X11 Kp12 A13 => ?_)
        obtain ⟨f14, hf15⟩ : ∃ q, q = upd (fun _ => (0 : Int32)) 0 va := ⟨_, rfl⟩
        rw [← hf15] at A13
        refine g_dup K X11 (pc' := 115) at_114 rfl rfl ?_
        refine g_iconst K X11 (pc' := 116) (v := (1 : Int32)) at_115 rfl rfl ?_
        refine g_iload K X11 (pc' := 118) at_116 rfl rfl ?_
        refine g_iastore K X11 (pc' := 119) (i := 1) at_118 rfl A13 na7 rfl (by decide) (fun T16 h17 X18 Kp19 A20 => ?_)
        obtain ⟨f21, hf22⟩ : ∃ q, q = upd f14 1 vb := ⟨_, rfl⟩
        rw [← hf22] at A20
        refine g_dup K X18 (pc' := 120) at_119 rfl rfl ?_
        refine g_iconst K X18 (pc' := 121) (v := (2 : Int32)) at_120 rfl rfl ?_
        refine g_iload K X18 (pc' := 123) at_121 rfl rfl ?_
        refine g_iastore K X18 (pc' := 124) (i := 2) at_123 rfl A20 na7 rfl (by decide) (fun T23 h24 X25 Kp26 A27 => ?_)
        obtain ⟨f28, hf29⟩ : ∃ q, q = upd f21 2 vc := ⟨_, rfl⟩
        rw [← hf29] at A27
        refine g_astore K X25 (pc' := 126) (L' := #[.val (.int p1), .val (.int p2), .val (.int p3), .val (.int p4), .val (.int va), .val (.int vb), .val (.int vc), .val (.int vn), .val (.int v), .val (.ref a3), .unset, .unset]) at_124 rfl rfl rfl ?_
        refine g_iload K X25 (pc' := 128) at_126 rfl rfl ?_
        refine g_iconst K X25 (pc' := 129) (v := (1 : Int32)) at_128 rfl rfl ?_
        refine g_icmp_ne K X25 (pc' := 139) (pc'' := 132) vn.toInt 1 at_129 (by decide) rfl rfl rfl ?_ ?_
        · intro b129
          refine g_iload K X25 (pc' := 141) at_139 rfl rfl ?_
          refine g_iconst K X25 (pc' := 142) (v := (2 : Int32)) at_141 rfl rfl ?_
          refine g_icmp_ne K X25 (pc' := 182) (pc'' := 145) vn.toInt 2 at_142 (by decide) rfl rfl rfl ?_ ?_
          · intro b142
            refine g_iload K X25 (pc' := 184) at_182 rfl rfl ?_
            refine g_iload K X25 (pc' := 186) at_184 rfl rfl ?_
            refine g_icmp_eq K X25 (pc' := 196) (pc'' := 189) v.toInt vb.toInt at_186 (by decide) rfl rfl rfl ?_ ?_
            · intro b186
              refine g_iload K X25 (pc' := 198) at_196 rfl rfl ?_
              refine g_istore K X25 (pc' := 200) (L' := #[.val (.int p1), .val (.int p2), .val (.int p3), .val (.int p4), .val (.int va), .val (.int vb), .val (.int vc), .val (.int vn), .val (.int v), .val (.ref a3), .val (.int va), .unset]) at_198 rfl rfl ?_
              refine g_goto K X25 (pc' := 239) at_200 (by decide) ?_
              refine g_new K X25 (pc' := 242) at_239 rfl (hw _ (List.mem_of_getElem? (i := 2) rfl)) (hw _ (List.mem_of_getElem? (i := 3) rfl)) (hw _ (List.mem_of_getElem? (i := 4) rfl)) (by decide) (by decide) (fun T30 h31 a32 X33 E34 ga35 na36 A37 Dn38 => ?_)
              have ne_a3_a32 : a3 ≠ a32 := Nat.ne_of_lt (by rw [ga35]; exact A27.lt)
              have f39 := A27.ext E34
              have F40 := Dn38 (Or.inr (hw _ (List.mem_of_getElem? (i := 12) rfl))) (ty := (.array .int)) (by decide)
              have F40 : Fld Z h31 a32 "com/example/floe/floe/model/Merge" "indexes" "[I" .null := F40
              refine g_dup K X33 (pc' := 243) at_242 rfl rfl ?_
              refine g_aload K X33 (pc' := 245) at_243 rfl rfl rfl ?_
              refine g_specialK0 K X33 (pc' := 248) (a := a32) (argsL := [.ref a3]) (rest := [.ref a32]) 1 at_245 rfl (hw _ (List.mem_of_getElem? (i := 5) rfl)) (hw _ (List.mem_of_getElem? (i := 6) rfl)) (hw _ (List.mem_of_getElem? (i := 4) rfl)) (hw _ (List.mem_of_getElem? (i := 7) rfl)) rfl (by decide) (rm_init l Z a0 hw a32 a3 h31 n0 X33.z na36 A37 F40) (by decide) (by decide) (by decide) (by decide) (lenOf pd_0 rfl) rfl rfl (Nat.le_of_ble_eq_true rfl) (fun T42 h44 X43 Kp45 hP41 => ?_)
              have f46 := AN.keep f39 Kp45 (ninS ne_a3_a32 nin0)
              have f47 := Exa.keep A37 Kp45
              obtain ⟨e48, u49⟩ := hP41
              refine g_astore K X43 (pc' := 250) (L' := #[.val (.int p1), .val (.int p2), .val (.int p3), .val (.int p4), .val (.int va), .val (.int vb), .val (.int vc), .val (.int vn), .val (.int v), .val (.ref a3), .val (.int va), .val (.ref a32)]) at_248 rfl rfl rfl ?_
              refine g_aload K X43 (pc' := 252) at_250 rfl rfl rfl ?_
              refine g_iload K X43 (pc' := 254) at_252 rfl rfl ?_
              refine g_virtualI K X43 (pc' := 257) (a := a32) (argsL := [.int v]) (rest := []) 0 at_254 rfl (hw _ (List.mem_of_getElem? (i := 13) rfl)) (hw _ (List.mem_of_getElem? (i := 14) rfl)) (hw _ (List.mem_of_getElem? (i := 16) rfl)) (hw _ (List.mem_of_getElem? (i := 15) rfl)) (hw _ (List.mem_of_getElem? (i := 4) rfl)) (hw _ (List.mem_of_getElem? (i := 17) rfl)) (by decide) e48 (rm_index l Z a0 hw a32 a3 v 3 f28 h44 n0 X43.z u49 f46 (by decide) (by decide)) (by decide) (by decide) (by decide) (by decide) (lenOf pd_1 rfl) rfl rfl (Nat.le_of_ble_eq_true rfl) (fun r T50 X51 hP => ?_)
              have e0 : f28 0 = va := by simp [hf15, hf22, hf29, upd]
              have e1 : f28 1 = vb := by simp [hf15, hf22, hf29, upd]
              have e2 : f28 2 = vc := by simp [hf15, hf22, hf29, upd]
              have hr : r = va := by
                unfold MI at hP
                rw [e0, e1, e2] at hP
                rcases hP with ⟨q1, rfl⟩ | ⟨q1, q2, rfl⟩ | ⟨q1, q2, q3, rfl⟩ | ⟨q1, q2, q3, rfl⟩ | ⟨q1, q2, q3, rfl⟩ <;> first | (exfalso; omega) | rfl | exact Int32.sub_zero _
              refine g_iload K X51 (pc' := 259) at_257 rfl rfl ?_
              refine g_icmp_ne K X51 (pc' := 266) (pc'' := 262) r.toInt va.toInt at_259 (by decide) rfl rfl rfl ?_ ?_
              · intro b259
                exact absurd (congrArg Int32.toInt hr) b259
              · intro b259
                refine g_iconst K X51 (pc' := 263) (v := (1 : Int32)) at_262 rfl rfl ?_
                refine g_goto K X51 (pc' := 267) at_263 (by decide) ?_
                exact g_retN K X51 at_267 (by simp) (by decide) (by decide) rfl
            · intro b186
              refine g_iload K X25 (pc' := 191) at_189 rfl rfl ?_
              refine g_iload K X25 (pc' := 193) at_191 rfl rfl ?_
              refine g_icmp_ne K X25 (pc' := 203) (pc'' := 196) v.toInt vc.toInt at_193 (by decide) rfl rfl rfl ?_ ?_
              · intro b193
                refine g_iload K X25 (pc' := 205) at_203 rfl rfl ?_
                refine g_iload K X25 (pc' := 207) at_205 rfl rfl ?_
                refine g_icmp_le K X25 (pc' := 219) (pc'' := 210) v.toInt vc.toInt at_207 (by decide) rfl rfl rfl ?_ ?_
                · intro b207
                  refine g_iload K X25 (pc' := 221) at_219 rfl rfl ?_
                  refine g_iload K X25 (pc' := 223) at_221 rfl rfl ?_
                  refine g_icmp_le K X25 (pc' := 235) (pc'' := 226) v.toInt vb.toInt at_223 (by decide) rfl rfl rfl ?_ ?_
                  · intro b223
                    refine g_iload K X25 (pc' := 237) at_235 rfl rfl ?_
                    refine g_istore K X25 (pc' := 239) (L' := #[.val (.int p1), .val (.int p2), .val (.int p3), .val (.int p4), .val (.int va), .val (.int vb), .val (.int vc), .val (.int vn), .val (.int v), .val (.ref a3), .val (.int v), .unset]) at_237 rfl rfl ?_
                    refine g_new K X25 (pc' := 242) at_239 rfl (hw _ (List.mem_of_getElem? (i := 2) rfl)) (hw _ (List.mem_of_getElem? (i := 3) rfl)) (hw _ (List.mem_of_getElem? (i := 4) rfl)) (by decide) (by decide) (fun T52 h53 a54 X55 E56 ga57 na58 A59 Dn60 => ?_)
                    have ne_a3_a54 : a3 ≠ a54 := Nat.ne_of_lt (by rw [ga57]; exact A27.lt)
                    have f61 := A27.ext E56
                    have F62 := Dn60 (Or.inr (hw _ (List.mem_of_getElem? (i := 12) rfl))) (ty := (.array .int)) (by decide)
                    have F62 : Fld Z h53 a54 "com/example/floe/floe/model/Merge" "indexes" "[I" .null := F62
                    refine g_dup K X55 (pc' := 243) at_242 rfl rfl ?_
                    refine g_aload K X55 (pc' := 245) at_243 rfl rfl rfl ?_
                    refine g_specialK0 K X55 (pc' := 248) (a := a54) (argsL := [.ref a3]) (rest := [.ref a54]) 1 at_245 rfl (hw _ (List.mem_of_getElem? (i := 5) rfl)) (hw _ (List.mem_of_getElem? (i := 6) rfl)) (hw _ (List.mem_of_getElem? (i := 4) rfl)) (hw _ (List.mem_of_getElem? (i := 7) rfl)) rfl (by decide) (rm_init l Z a0 hw a54 a3 h53 n0 X55.z na58 A59 F62) (by decide) (by decide) (by decide) (by decide) (lenOf pd_0 rfl) rfl rfl (Nat.le_of_ble_eq_true rfl) (fun T64 h66 X65 Kp67 hP63 => ?_)
                    have f68 := AN.keep f61 Kp67 (ninS ne_a3_a54 nin0)
                    have f69 := Exa.keep A59 Kp67
                    obtain ⟨e70, u71⟩ := hP63
                    refine g_astore K X65 (pc' := 250) (L' := #[.val (.int p1), .val (.int p2), .val (.int p3), .val (.int p4), .val (.int va), .val (.int vb), .val (.int vc), .val (.int vn), .val (.int v), .val (.ref a3), .val (.int v), .val (.ref a54)]) at_248 rfl rfl rfl ?_
                    refine g_aload K X65 (pc' := 252) at_250 rfl rfl rfl ?_
                    refine g_iload K X65 (pc' := 254) at_252 rfl rfl ?_
                    refine g_virtualI K X65 (pc' := 257) (a := a54) (argsL := [.int v]) (rest := []) 0 at_254 rfl (hw _ (List.mem_of_getElem? (i := 13) rfl)) (hw _ (List.mem_of_getElem? (i := 14) rfl)) (hw _ (List.mem_of_getElem? (i := 16) rfl)) (hw _ (List.mem_of_getElem? (i := 15) rfl)) (hw _ (List.mem_of_getElem? (i := 4) rfl)) (hw _ (List.mem_of_getElem? (i := 17) rfl)) (by decide) e70 (rm_index l Z a0 hw a54 a3 v 3 f28 h66 n0 X65.z u71 f68 (by decide) (by decide)) (by decide) (by decide) (by decide) (by decide) (lenOf pd_1 rfl) rfl rfl (Nat.le_of_ble_eq_true rfl) (fun r T72 X73 hP => ?_)
                    have e0 : f28 0 = va := by simp [hf15, hf22, hf29, upd]
                    have e1 : f28 1 = vb := by simp [hf15, hf22, hf29, upd]
                    have e2 : f28 2 = vc := by simp [hf15, hf22, hf29, upd]
                    have hr : r = v := by
                      unfold MI at hP
                      rw [e0, e1, e2] at hP
                      rcases hP with ⟨q1, rfl⟩ | ⟨q1, q2, rfl⟩ | ⟨q1, q2, q3, rfl⟩ | ⟨q1, q2, q3, rfl⟩ | ⟨q1, q2, q3, rfl⟩ <;> first | (exfalso; omega) | rfl | exact Int32.sub_zero _
                    refine g_iload K X73 (pc' := 259) at_257 rfl rfl ?_
                    refine g_icmp_ne K X73 (pc' := 266) (pc'' := 262) r.toInt v.toInt at_259 (by decide) rfl rfl rfl ?_ ?_
                    · intro b259
                      exact absurd (congrArg Int32.toInt hr) b259
                    · intro b259
                      refine g_iconst K X73 (pc' := 263) (v := (1 : Int32)) at_262 rfl rfl ?_
                      refine g_goto K X73 (pc' := 267) at_263 (by decide) ?_
                      exact g_retN K X73 at_267 (by simp) (by decide) (by decide) rfl
                  · intro b223
                    refine g_iload K X25 (pc' := 228) at_226 rfl rfl ?_
                    refine g_iconst K X25 (pc' := 229) (v := (1 : Int32)) at_228 rfl rfl ?_
                    refine g_isub K X25 (pc' := 230) at_229 rfl ?_
                    refine g_istore K X25 (pc' := 232) (L' := #[.val (.int p1), .val (.int p2), .val (.int p3), .val (.int p4), .val (.int va), .val (.int vb), .val (.int vc), .val (.int vn), .val (.int v), .val (.ref a3), .val (.int (v - (1 : Int32))), .unset]) at_230 rfl rfl ?_
                    refine g_goto K X25 (pc' := 239) at_232 (by decide) ?_
                    refine g_new K X25 (pc' := 242) at_239 rfl (hw _ (List.mem_of_getElem? (i := 2) rfl)) (hw _ (List.mem_of_getElem? (i := 3) rfl)) (hw _ (List.mem_of_getElem? (i := 4) rfl)) (by decide) (by decide) (fun T74 h75 a76 X77 E78 ga79 na80 A81 Dn82 => ?_)
                    have ne_a3_a76 : a3 ≠ a76 := Nat.ne_of_lt (by rw [ga79]; exact A27.lt)
                    have f83 := A27.ext E78
                    have F84 := Dn82 (Or.inr (hw _ (List.mem_of_getElem? (i := 12) rfl))) (ty := (.array .int)) (by decide)
                    have F84 : Fld Z h75 a76 "com/example/floe/floe/model/Merge" "indexes" "[I" .null := F84
                    refine g_dup K X77 (pc' := 243) at_242 rfl rfl ?_
                    refine g_aload K X77 (pc' := 245) at_243 rfl rfl rfl ?_
                    refine g_specialK0 K X77 (pc' := 248) (a := a76) (argsL := [.ref a3]) (rest := [.ref a76]) 1 at_245 rfl (hw _ (List.mem_of_getElem? (i := 5) rfl)) (hw _ (List.mem_of_getElem? (i := 6) rfl)) (hw _ (List.mem_of_getElem? (i := 4) rfl)) (hw _ (List.mem_of_getElem? (i := 7) rfl)) rfl (by decide) (rm_init l Z a0 hw a76 a3 h75 n0 X77.z na80 A81 F84) (by decide) (by decide) (by decide) (by decide) (lenOf pd_0 rfl) rfl rfl (Nat.le_of_ble_eq_true rfl) (fun T86 h88 X87 Kp89 hP85 => ?_)
                    have f90 := AN.keep f83 Kp89 (ninS ne_a3_a76 nin0)
                    have f91 := Exa.keep A81 Kp89
                    obtain ⟨e92, u93⟩ := hP85
                    refine g_astore K X87 (pc' := 250) (L' := #[.val (.int p1), .val (.int p2), .val (.int p3), .val (.int p4), .val (.int va), .val (.int vb), .val (.int vc), .val (.int vn), .val (.int v), .val (.ref a3), .val (.int (v - (1 : Int32))), .val (.ref a76)]) at_248 rfl rfl rfl ?_
                    refine g_aload K X87 (pc' := 252) at_250 rfl rfl rfl ?_
                    refine g_iload K X87 (pc' := 254) at_252 rfl rfl ?_
                    refine g_virtualI K X87 (pc' := 257) (a := a76) (argsL := [.int v]) (rest := []) 0 at_254 rfl (hw _ (List.mem_of_getElem? (i := 13) rfl)) (hw _ (List.mem_of_getElem? (i := 14) rfl)) (hw _ (List.mem_of_getElem? (i := 16) rfl)) (hw _ (List.mem_of_getElem? (i := 15) rfl)) (hw _ (List.mem_of_getElem? (i := 4) rfl)) (hw _ (List.mem_of_getElem? (i := 17) rfl)) (by decide) e92 (rm_index l Z a0 hw a76 a3 v 3 f28 h88 n0 X87.z u93 f90 (by decide) (by decide)) (by decide) (by decide) (by decide) (by decide) (lenOf pd_1 rfl) rfl rfl (Nat.le_of_ble_eq_true rfl) (fun r T94 X95 hP => ?_)
                    have e0 : f28 0 = va := by simp [hf15, hf22, hf29, upd]
                    have e1 : f28 1 = vb := by simp [hf15, hf22, hf29, upd]
                    have e2 : f28 2 = vc := by simp [hf15, hf22, hf29, upd]
                    have hr : r = (v - (1 : Int32)) := by
                      unfold MI at hP
                      rw [e0, e1, e2] at hP
                      rcases hP with ⟨q1, rfl⟩ | ⟨q1, q2, rfl⟩ | ⟨q1, q2, q3, rfl⟩ | ⟨q1, q2, q3, rfl⟩ | ⟨q1, q2, q3, rfl⟩ <;> first | (exfalso; omega) | rfl | exact Int32.sub_zero _
                    refine g_iload K X95 (pc' := 259) at_257 rfl rfl ?_
                    refine g_icmp_ne K X95 (pc' := 266) (pc'' := 262) r.toInt (v - (1 : Int32)).toInt at_259 (by decide) rfl rfl rfl ?_ ?_
                    · intro b259
                      exact absurd (congrArg Int32.toInt hr) b259
                    · intro b259
                      refine g_iconst K X95 (pc' := 263) (v := (1 : Int32)) at_262 rfl rfl ?_
                      refine g_goto K X95 (pc' := 267) at_263 (by decide) ?_
                      exact g_retN K X95 at_267 (by simp) (by decide) (by decide) rfl
                · intro b207
                  refine g_iload K X25 (pc' := 212) at_210 rfl rfl ?_
                  refine g_iconst K X25 (pc' := 213) (v := (2 : Int32)) at_212 rfl rfl ?_
                  refine g_isub K X25 (pc' := 214) at_213 rfl ?_
                  refine g_istore K X25 (pc' := 216) (L' := #[.val (.int p1), .val (.int p2), .val (.int p3), .val (.int p4), .val (.int va), .val (.int vb), .val (.int vc), .val (.int vn), .val (.int v), .val (.ref a3), .val (.int (v - (2 : Int32))), .unset]) at_214 rfl rfl ?_
                  refine g_goto K X25 (pc' := 239) at_216 (by decide) ?_
                  refine g_new K X25 (pc' := 242) at_239 rfl (hw _ (List.mem_of_getElem? (i := 2) rfl)) (hw _ (List.mem_of_getElem? (i := 3) rfl)) (hw _ (List.mem_of_getElem? (i := 4) rfl)) (by decide) (by decide) (fun T96 h97 a98 X99 E100 ga101 na102 A103 Dn104 => ?_)
                  have ne_a3_a98 : a3 ≠ a98 := Nat.ne_of_lt (by rw [ga101]; exact A27.lt)
                  have f105 := A27.ext E100
                  have F106 := Dn104 (Or.inr (hw _ (List.mem_of_getElem? (i := 12) rfl))) (ty := (.array .int)) (by decide)
                  have F106 : Fld Z h97 a98 "com/example/floe/floe/model/Merge" "indexes" "[I" .null := F106
                  refine g_dup K X99 (pc' := 243) at_242 rfl rfl ?_
                  refine g_aload K X99 (pc' := 245) at_243 rfl rfl rfl ?_
                  refine g_specialK0 K X99 (pc' := 248) (a := a98) (argsL := [.ref a3]) (rest := [.ref a98]) 1 at_245 rfl (hw _ (List.mem_of_getElem? (i := 5) rfl)) (hw _ (List.mem_of_getElem? (i := 6) rfl)) (hw _ (List.mem_of_getElem? (i := 4) rfl)) (hw _ (List.mem_of_getElem? (i := 7) rfl)) rfl (by decide) (rm_init l Z a0 hw a98 a3 h97 n0 X99.z na102 A103 F106) (by decide) (by decide) (by decide) (by decide) (lenOf pd_0 rfl) rfl rfl (Nat.le_of_ble_eq_true rfl) (fun T108 h110 X109 Kp111 hP107 => ?_)
                  have f112 := AN.keep f105 Kp111 (ninS ne_a3_a98 nin0)
                  have f113 := Exa.keep A103 Kp111
                  obtain ⟨e114, u115⟩ := hP107
                  refine g_astore K X109 (pc' := 250) (L' := #[.val (.int p1), .val (.int p2), .val (.int p3), .val (.int p4), .val (.int va), .val (.int vb), .val (.int vc), .val (.int vn), .val (.int v), .val (.ref a3), .val (.int (v - (2 : Int32))), .val (.ref a98)]) at_248 rfl rfl rfl ?_
                  refine g_aload K X109 (pc' := 252) at_250 rfl rfl rfl ?_
                  refine g_iload K X109 (pc' := 254) at_252 rfl rfl ?_
                  refine g_virtualI K X109 (pc' := 257) (a := a98) (argsL := [.int v]) (rest := []) 0 at_254 rfl (hw _ (List.mem_of_getElem? (i := 13) rfl)) (hw _ (List.mem_of_getElem? (i := 14) rfl)) (hw _ (List.mem_of_getElem? (i := 16) rfl)) (hw _ (List.mem_of_getElem? (i := 15) rfl)) (hw _ (List.mem_of_getElem? (i := 4) rfl)) (hw _ (List.mem_of_getElem? (i := 17) rfl)) (by decide) e114 (rm_index l Z a0 hw a98 a3 v 3 f28 h110 n0 X109.z u115 f112 (by decide) (by decide)) (by decide) (by decide) (by decide) (by decide) (lenOf pd_1 rfl) rfl rfl (Nat.le_of_ble_eq_true rfl) (fun r T116 X117 hP => ?_)
                  have e0 : f28 0 = va := by simp [hf15, hf22, hf29, upd]
                  have e1 : f28 1 = vb := by simp [hf15, hf22, hf29, upd]
                  have e2 : f28 2 = vc := by simp [hf15, hf22, hf29, upd]
                  have hr : r = (v - (2 : Int32)) := by
                    unfold MI at hP
                    rw [e0, e1, e2] at hP
                    rcases hP with ⟨q1, rfl⟩ | ⟨q1, q2, rfl⟩ | ⟨q1, q2, q3, rfl⟩ | ⟨q1, q2, q3, rfl⟩ | ⟨q1, q2, q3, rfl⟩ <;> first | (exfalso; omega) | rfl | exact Int32.sub_zero _
                  refine g_iload K X117 (pc' := 259) at_257 rfl rfl ?_
                  refine g_icmp_ne K X117 (pc' := 266) (pc'' := 262) r.toInt (v - (2 : Int32)).toInt at_259 (by decide) rfl rfl rfl ?_ ?_
                  · intro b259
                    exact absurd (congrArg Int32.toInt hr) b259
                  · intro b259
                    refine g_iconst K X117 (pc' := 263) (v := (1 : Int32)) at_262 rfl rfl ?_
                    refine g_goto K X117 (pc' := 267) at_263 (by decide) ?_
                    exact g_retN K X117 at_267 (by simp) (by decide) (by decide) rfl
              · intro b193
                refine g_iload K X25 (pc' := 198) at_196 rfl rfl ?_
                refine g_istore K X25 (pc' := 200) (L' := #[.val (.int p1), .val (.int p2), .val (.int p3), .val (.int p4), .val (.int va), .val (.int vb), .val (.int vc), .val (.int vn), .val (.int v), .val (.ref a3), .val (.int va), .unset]) at_198 rfl rfl ?_
                refine g_goto K X25 (pc' := 239) at_200 (by decide) ?_
                refine g_new K X25 (pc' := 242) at_239 rfl (hw _ (List.mem_of_getElem? (i := 2) rfl)) (hw _ (List.mem_of_getElem? (i := 3) rfl)) (hw _ (List.mem_of_getElem? (i := 4) rfl)) (by decide) (by decide) (fun T118 h119 a120 X121 E122 ga123 na124 A125 Dn126 => ?_)
                have ne_a3_a120 : a3 ≠ a120 := Nat.ne_of_lt (by rw [ga123]; exact A27.lt)
                have f127 := A27.ext E122
                have F128 := Dn126 (Or.inr (hw _ (List.mem_of_getElem? (i := 12) rfl))) (ty := (.array .int)) (by decide)
                have F128 : Fld Z h119 a120 "com/example/floe/floe/model/Merge" "indexes" "[I" .null := F128
                refine g_dup K X121 (pc' := 243) at_242 rfl rfl ?_
                refine g_aload K X121 (pc' := 245) at_243 rfl rfl rfl ?_
                refine g_specialK0 K X121 (pc' := 248) (a := a120) (argsL := [.ref a3]) (rest := [.ref a120]) 1 at_245 rfl (hw _ (List.mem_of_getElem? (i := 5) rfl)) (hw _ (List.mem_of_getElem? (i := 6) rfl)) (hw _ (List.mem_of_getElem? (i := 4) rfl)) (hw _ (List.mem_of_getElem? (i := 7) rfl)) rfl (by decide) (rm_init l Z a0 hw a120 a3 h119 n0 X121.z na124 A125 F128) (by decide) (by decide) (by decide) (by decide) (lenOf pd_0 rfl) rfl rfl (Nat.le_of_ble_eq_true rfl) (fun T130 h132 X131 Kp133 hP129 => ?_)
                have f134 := AN.keep f127 Kp133 (ninS ne_a3_a120 nin0)
                have f135 := Exa.keep A125 Kp133
                obtain ⟨e136, u137⟩ := hP129
                refine g_astore K X131 (pc' := 250) (L' := #[.val (.int p1), .val (.int p2), .val (.int p3), .val (.int p4), .val (.int va), .val (.int vb), .val (.int vc), .val (.int vn), .val (.int v), .val (.ref a3), .val (.int va), .val (.ref a120)]) at_248 rfl rfl rfl ?_
                refine g_aload K X131 (pc' := 252) at_250 rfl rfl rfl ?_
                refine g_iload K X131 (pc' := 254) at_252 rfl rfl ?_
                refine g_virtualI K X131 (pc' := 257) (a := a120) (argsL := [.int v]) (rest := []) 0 at_254 rfl (hw _ (List.mem_of_getElem? (i := 13) rfl)) (hw _ (List.mem_of_getElem? (i := 14) rfl)) (hw _ (List.mem_of_getElem? (i := 16) rfl)) (hw _ (List.mem_of_getElem? (i := 15) rfl)) (hw _ (List.mem_of_getElem? (i := 4) rfl)) (hw _ (List.mem_of_getElem? (i := 17) rfl)) (by decide) e136 (rm_index l Z a0 hw a120 a3 v 3 f28 h132 n0 X131.z u137 f134 (by decide) (by decide)) (by decide) (by decide) (by decide) (by decide) (lenOf pd_1 rfl) rfl rfl (Nat.le_of_ble_eq_true rfl) (fun r T138 X139 hP => ?_)
                have e0 : f28 0 = va := by simp [hf15, hf22, hf29, upd]
                have e1 : f28 1 = vb := by simp [hf15, hf22, hf29, upd]
                have e2 : f28 2 = vc := by simp [hf15, hf22, hf29, upd]
                have hr : r = va := by
                  unfold MI at hP
                  rw [e0, e1, e2] at hP
                  rcases hP with ⟨q1, rfl⟩ | ⟨q1, q2, rfl⟩ | ⟨q1, q2, q3, rfl⟩ | ⟨q1, q2, q3, rfl⟩ | ⟨q1, q2, q3, rfl⟩ <;> first | (exfalso; omega) | rfl | exact Int32.sub_zero _
                refine g_iload K X139 (pc' := 259) at_257 rfl rfl ?_
                refine g_icmp_ne K X139 (pc' := 266) (pc'' := 262) r.toInt va.toInt at_259 (by decide) rfl rfl rfl ?_ ?_
                · intro b259
                  exact absurd (congrArg Int32.toInt hr) b259
                · intro b259
                  refine g_iconst K X139 (pc' := 263) (v := (1 : Int32)) at_262 rfl rfl ?_
                  refine g_goto K X139 (pc' := 267) at_263 (by decide) ?_
                  exact g_retN K X139 at_267 (by simp) (by decide) (by decide) rfl
          · intro b142
            omega
        · intro b129
          omega
      · intro b85
        refine g_iconst K X (pc' := 89) (v := (2 : Int32)) at_88 rfl rfl ?_
        refine g_newarray_int K X (pc' := 91) (n := 2) 2 at_89 rfl (hw _ (List.mem_of_getElem? (i := 1) rfl)) rfl (by decide) (by decide) (by decide) (by decide) (fun T140 h141 a142 X143 E144 ga145 na146 A147 => ?_)
        refine g_dup K X143 (pc' := 92) at_91 rfl rfl ?_
        refine g_iconst K X143 (pc' := 93) (v := (0 : Int32)) at_92 rfl rfl ?_
        refine g_iload K X143 (pc' := 95) at_93 rfl rfl ?_
        refine g_iastore K X143 (pc' := 96) (i := 0) at_95 rfl A147 na146 rfl (by decide) (fun T148 h149 X150 Kp151 A152 => ?_)
        obtain ⟨f153, hf154⟩ : ∃ q, q = upd (fun _ => (0 : Int32)) 0 va := ⟨_, rfl⟩
        rw [← hf154] at A152
        refine g_dup K X150 (pc' := 97) at_96 rfl rfl ?_
        refine g_iconst K X150 (pc' := 98) (v := (1 : Int32)) at_97 rfl rfl ?_
        refine g_iload K X150 (pc' := 100) at_98 rfl rfl ?_
        refine g_iastore K X150 (pc' := 101) (i := 1) at_100 rfl A152 na146 rfl (by decide) (fun T155 h156 X157 Kp158 A159 => ?_)
        obtain ⟨f160, hf161⟩ : ∃ q, q = upd f153 1 vb := ⟨_, rfl⟩
        rw [← hf161] at A159
        refine g_astore K X157 (pc' := 103) (L' := #[.val (.int p1), .val (.int p2), .val (.int p3), .val (.int p4), .val (.int va), .val (.int vb), .val (.int vc), .val (.int vn), .val (.int v), .val (.ref a142), .unset, .unset]) at_101 rfl rfl rfl ?_
        refine g_goto K X157 (pc' := 126) at_103 (by decide) ?_
        refine g_iload K X157 (pc' := 128) at_126 rfl rfl ?_
        refine g_iconst K X157 (pc' := 129) (v := (1 : Int32)) at_128 rfl rfl ?_
        refine g_icmp_ne K X157 (pc' := 139) (pc'' := 132) vn.toInt 1 at_129 (by decide) rfl rfl rfl ?_ ?_
        · intro b129
          refine g_iload K X157 (pc' := 141) at_139 rfl rfl ?_
          refine g_iconst K X157 (pc' := 142) (v := (2 : Int32)) at_141 rfl rfl ?_
          refine g_icmp_ne K X157 (pc' := 182) (pc'' := 145) vn.toInt 2 at_142 (by decide) rfl rfl rfl ?_ ?_
          · intro b142
            omega
          · intro b142
            refine g_iload K X157 (pc' := 147) at_145 rfl rfl ?_
            refine g_iload K X157 (pc' := 149) at_147 rfl rfl ?_
            refine g_icmp_ne K X157 (pc' := 159) (pc'' := 152) v.toInt vb.toInt at_149 (by decide) rfl rfl rfl ?_ ?_
            · intro b149
              refine g_iload K X157 (pc' := 161) at_159 rfl rfl ?_
              refine g_iload K X157 (pc' := 163) at_161 rfl rfl ?_
              refine g_icmp_le K X157 (pc' := 175) (pc'' := 166) v.toInt vb.toInt at_163 (by decide) rfl rfl rfl ?_ ?_
              · intro b163
                refine g_iload K X157 (pc' := 177) at_175 rfl rfl ?_
                refine g_istore K X157 (pc' := 179) (L' := #[.val (.int p1), .val (.int p2), .val (.int p3), .val (.int p4), .val (.int va), .val (.int vb), .val (.int vc), .val (.int vn), .val (.int v), .val (.ref a142), .val (.int v), .unset]) at_177 rfl rfl ?_
                refine g_goto K X157 (pc' := 239) at_179 (by decide) ?_
                refine g_new K X157 (pc' := 242) at_239 rfl (hw _ (List.mem_of_getElem? (i := 2) rfl)) (hw _ (List.mem_of_getElem? (i := 3) rfl)) (hw _ (List.mem_of_getElem? (i := 4) rfl)) (by decide) (by decide) (fun T162 h163 a164 X165 E166 ga167 na168 A169 Dn170 => ?_)
                have ne_a142_a164 : a142 ≠ a164 := Nat.ne_of_lt (by rw [ga167]; exact A159.lt)
                have f171 := A159.ext E166
                have F172 := Dn170 (Or.inr (hw _ (List.mem_of_getElem? (i := 12) rfl))) (ty := (.array .int)) (by decide)
                have F172 : Fld Z h163 a164 "com/example/floe/floe/model/Merge" "indexes" "[I" .null := F172
                refine g_dup K X165 (pc' := 243) at_242 rfl rfl ?_
                refine g_aload K X165 (pc' := 245) at_243 rfl rfl rfl ?_
                refine g_specialK0 K X165 (pc' := 248) (a := a164) (argsL := [.ref a142]) (rest := [.ref a164]) 1 at_245 rfl (hw _ (List.mem_of_getElem? (i := 5) rfl)) (hw _ (List.mem_of_getElem? (i := 6) rfl)) (hw _ (List.mem_of_getElem? (i := 4) rfl)) (hw _ (List.mem_of_getElem? (i := 7) rfl)) rfl (by decide) (rm_init l Z a0 hw a164 a142 h163 n0 X165.z na168 A169 F172) (by decide) (by decide) (by decide) (by decide) (lenOf pd_0 rfl) rfl rfl (Nat.le_of_ble_eq_true rfl) (fun T174 h176 X175 Kp177 hP173 => ?_)
                have f178 := AN.keep f171 Kp177 (ninS ne_a142_a164 nin0)
                have f179 := Exa.keep A169 Kp177
                obtain ⟨e180, u181⟩ := hP173
                refine g_astore K X175 (pc' := 250) (L' := #[.val (.int p1), .val (.int p2), .val (.int p3), .val (.int p4), .val (.int va), .val (.int vb), .val (.int vc), .val (.int vn), .val (.int v), .val (.ref a142), .val (.int v), .val (.ref a164)]) at_248 rfl rfl rfl ?_
                refine g_aload K X175 (pc' := 252) at_250 rfl rfl rfl ?_
                refine g_iload K X175 (pc' := 254) at_252 rfl rfl ?_
                refine g_virtualI K X175 (pc' := 257) (a := a164) (argsL := [.int v]) (rest := []) 0 at_254 rfl (hw _ (List.mem_of_getElem? (i := 13) rfl)) (hw _ (List.mem_of_getElem? (i := 14) rfl)) (hw _ (List.mem_of_getElem? (i := 16) rfl)) (hw _ (List.mem_of_getElem? (i := 15) rfl)) (hw _ (List.mem_of_getElem? (i := 4) rfl)) (hw _ (List.mem_of_getElem? (i := 17) rfl)) (by decide) e180 (rm_index l Z a0 hw a164 a142 v 2 f160 h176 n0 X175.z u181 f178 (by decide) (by decide)) (by decide) (by decide) (by decide) (by decide) (lenOf pd_1 rfl) rfl rfl (Nat.le_of_ble_eq_true rfl) (fun r T182 X183 hP => ?_)
                have e0 : f160 0 = va := by simp [hf154, hf161, upd]
                have e1 : f160 1 = vb := by simp [hf154, hf161, upd]
                have hr : r = v := by
                  unfold MI at hP
                  rw [e0, e1] at hP
                  rcases hP with ⟨q1, rfl⟩ | ⟨q1, q2, rfl⟩ | ⟨q1, q2, q3, rfl⟩ | ⟨q1, q2, q3, rfl⟩ | ⟨q1, q2, q3, rfl⟩ <;> first | (exfalso; omega) | rfl | exact Int32.sub_zero _
                refine g_iload K X183 (pc' := 259) at_257 rfl rfl ?_
                refine g_icmp_ne K X183 (pc' := 266) (pc'' := 262) r.toInt v.toInt at_259 (by decide) rfl rfl rfl ?_ ?_
                · intro b259
                  exact absurd (congrArg Int32.toInt hr) b259
                · intro b259
                  refine g_iconst K X183 (pc' := 263) (v := (1 : Int32)) at_262 rfl rfl ?_
                  refine g_goto K X183 (pc' := 267) at_263 (by decide) ?_
                  exact g_retN K X183 at_267 (by simp) (by decide) (by decide) rfl
              · intro b163
                refine g_iload K X157 (pc' := 168) at_166 rfl rfl ?_
                refine g_iconst K X157 (pc' := 169) (v := (1 : Int32)) at_168 rfl rfl ?_
                refine g_isub K X157 (pc' := 170) at_169 rfl ?_
                refine g_istore K X157 (pc' := 172) (L' := #[.val (.int p1), .val (.int p2), .val (.int p3), .val (.int p4), .val (.int va), .val (.int vb), .val (.int vc), .val (.int vn), .val (.int v), .val (.ref a142), .val (.int (v - (1 : Int32))), .unset]) at_170 rfl rfl ?_
                refine g_goto K X157 (pc' := 239) at_172 (by decide) ?_
                refine g_new K X157 (pc' := 242) at_239 rfl (hw _ (List.mem_of_getElem? (i := 2) rfl)) (hw _ (List.mem_of_getElem? (i := 3) rfl)) (hw _ (List.mem_of_getElem? (i := 4) rfl)) (by decide) (by decide) (fun T184 h185 a186 X187 E188 ga189 na190 A191 Dn192 => ?_)
                have ne_a142_a186 : a142 ≠ a186 := Nat.ne_of_lt (by rw [ga189]; exact A159.lt)
                have f193 := A159.ext E188
                have F194 := Dn192 (Or.inr (hw _ (List.mem_of_getElem? (i := 12) rfl))) (ty := (.array .int)) (by decide)
                have F194 : Fld Z h185 a186 "com/example/floe/floe/model/Merge" "indexes" "[I" .null := F194
                refine g_dup K X187 (pc' := 243) at_242 rfl rfl ?_
                refine g_aload K X187 (pc' := 245) at_243 rfl rfl rfl ?_
                refine g_specialK0 K X187 (pc' := 248) (a := a186) (argsL := [.ref a142]) (rest := [.ref a186]) 1 at_245 rfl (hw _ (List.mem_of_getElem? (i := 5) rfl)) (hw _ (List.mem_of_getElem? (i := 6) rfl)) (hw _ (List.mem_of_getElem? (i := 4) rfl)) (hw _ (List.mem_of_getElem? (i := 7) rfl)) rfl (by decide) (rm_init l Z a0 hw a186 a142 h185 n0 X187.z na190 A191 F194) (by decide) (by decide) (by decide) (by decide) (lenOf pd_0 rfl) rfl rfl (Nat.le_of_ble_eq_true rfl) (fun T196 h198 X197 Kp199 hP195 => ?_)
                have f200 := AN.keep f193 Kp199 (ninS ne_a142_a186 nin0)
                have f201 := Exa.keep A191 Kp199
                obtain ⟨e202, u203⟩ := hP195
                refine g_astore K X197 (pc' := 250) (L' := #[.val (.int p1), .val (.int p2), .val (.int p3), .val (.int p4), .val (.int va), .val (.int vb), .val (.int vc), .val (.int vn), .val (.int v), .val (.ref a142), .val (.int (v - (1 : Int32))), .val (.ref a186)]) at_248 rfl rfl rfl ?_
                refine g_aload K X197 (pc' := 252) at_250 rfl rfl rfl ?_
                refine g_iload K X197 (pc' := 254) at_252 rfl rfl ?_
                refine g_virtualI K X197 (pc' := 257) (a := a186) (argsL := [.int v]) (rest := []) 0 at_254 rfl (hw _ (List.mem_of_getElem? (i := 13) rfl)) (hw _ (List.mem_of_getElem? (i := 14) rfl)) (hw _ (List.mem_of_getElem? (i := 16) rfl)) (hw _ (List.mem_of_getElem? (i := 15) rfl)) (hw _ (List.mem_of_getElem? (i := 4) rfl)) (hw _ (List.mem_of_getElem? (i := 17) rfl)) (by decide) e202 (rm_index l Z a0 hw a186 a142 v 2 f160 h198 n0 X197.z u203 f200 (by decide) (by decide)) (by decide) (by decide) (by decide) (by decide) (lenOf pd_1 rfl) rfl rfl (Nat.le_of_ble_eq_true rfl) (fun r T204 X205 hP => ?_)
                have e0 : f160 0 = va := by simp [hf154, hf161, upd]
                have e1 : f160 1 = vb := by simp [hf154, hf161, upd]
                have hr : r = (v - (1 : Int32)) := by
                  unfold MI at hP
                  rw [e0, e1] at hP
                  rcases hP with ⟨q1, rfl⟩ | ⟨q1, q2, rfl⟩ | ⟨q1, q2, q3, rfl⟩ | ⟨q1, q2, q3, rfl⟩ | ⟨q1, q2, q3, rfl⟩ <;> first | (exfalso; omega) | rfl | exact Int32.sub_zero _
                refine g_iload K X205 (pc' := 259) at_257 rfl rfl ?_
                refine g_icmp_ne K X205 (pc' := 266) (pc'' := 262) r.toInt (v - (1 : Int32)).toInt at_259 (by decide) rfl rfl rfl ?_ ?_
                · intro b259
                  exact absurd (congrArg Int32.toInt hr) b259
                · intro b259
                  refine g_iconst K X205 (pc' := 263) (v := (1 : Int32)) at_262 rfl rfl ?_
                  refine g_goto K X205 (pc' := 267) at_263 (by decide) ?_
                  exact g_retN K X205 at_267 (by simp) (by decide) (by decide) rfl
            · intro b149
              refine g_iload K X157 (pc' := 154) at_152 rfl rfl ?_
              refine g_istore K X157 (pc' := 156) (L' := #[.val (.int p1), .val (.int p2), .val (.int p3), .val (.int p4), .val (.int va), .val (.int vb), .val (.int vc), .val (.int vn), .val (.int v), .val (.ref a142), .val (.int va), .unset]) at_154 rfl rfl ?_
              refine g_goto K X157 (pc' := 239) at_156 (by decide) ?_
              refine g_new K X157 (pc' := 242) at_239 rfl (hw _ (List.mem_of_getElem? (i := 2) rfl)) (hw _ (List.mem_of_getElem? (i := 3) rfl)) (hw _ (List.mem_of_getElem? (i := 4) rfl)) (by decide) (by decide) (fun T206 h207 a208 X209 E210 ga211 na212 A213 Dn214 => ?_)
              have ne_a142_a208 : a142 ≠ a208 := Nat.ne_of_lt (by rw [ga211]; exact A159.lt)
              have f215 := A159.ext E210
              have F216 := Dn214 (Or.inr (hw _ (List.mem_of_getElem? (i := 12) rfl))) (ty := (.array .int)) (by decide)
              have F216 : Fld Z h207 a208 "com/example/floe/floe/model/Merge" "indexes" "[I" .null := F216
              refine g_dup K X209 (pc' := 243) at_242 rfl rfl ?_
              refine g_aload K X209 (pc' := 245) at_243 rfl rfl rfl ?_
              refine g_specialK0 K X209 (pc' := 248) (a := a208) (argsL := [.ref a142]) (rest := [.ref a208]) 1 at_245 rfl (hw _ (List.mem_of_getElem? (i := 5) rfl)) (hw _ (List.mem_of_getElem? (i := 6) rfl)) (hw _ (List.mem_of_getElem? (i := 4) rfl)) (hw _ (List.mem_of_getElem? (i := 7) rfl)) rfl (by decide) (rm_init l Z a0 hw a208 a142 h207 n0 X209.z na212 A213 F216) (by decide) (by decide) (by decide) (by decide) (lenOf pd_0 rfl) rfl rfl (Nat.le_of_ble_eq_true rfl) (fun T218 h220 X219 Kp221 hP217 => ?_)
              have f222 := AN.keep f215 Kp221 (ninS ne_a142_a208 nin0)
              have f223 := Exa.keep A213 Kp221
              obtain ⟨e224, u225⟩ := hP217
              refine g_astore K X219 (pc' := 250) (L' := #[.val (.int p1), .val (.int p2), .val (.int p3), .val (.int p4), .val (.int va), .val (.int vb), .val (.int vc), .val (.int vn), .val (.int v), .val (.ref a142), .val (.int va), .val (.ref a208)]) at_248 rfl rfl rfl ?_
              refine g_aload K X219 (pc' := 252) at_250 rfl rfl rfl ?_
              refine g_iload K X219 (pc' := 254) at_252 rfl rfl ?_
              refine g_virtualI K X219 (pc' := 257) (a := a208) (argsL := [.int v]) (rest := []) 0 at_254 rfl (hw _ (List.mem_of_getElem? (i := 13) rfl)) (hw _ (List.mem_of_getElem? (i := 14) rfl)) (hw _ (List.mem_of_getElem? (i := 16) rfl)) (hw _ (List.mem_of_getElem? (i := 15) rfl)) (hw _ (List.mem_of_getElem? (i := 4) rfl)) (hw _ (List.mem_of_getElem? (i := 17) rfl)) (by decide) e224 (rm_index l Z a0 hw a208 a142 v 2 f160 h220 n0 X219.z u225 f222 (by decide) (by decide)) (by decide) (by decide) (by decide) (by decide) (lenOf pd_1 rfl) rfl rfl (Nat.le_of_ble_eq_true rfl) (fun r T226 X227 hP => ?_)
              have e0 : f160 0 = va := by simp [hf154, hf161, upd]
              have e1 : f160 1 = vb := by simp [hf154, hf161, upd]
              have hr : r = va := by
                unfold MI at hP
                rw [e0, e1] at hP
                rcases hP with ⟨q1, rfl⟩ | ⟨q1, q2, rfl⟩ | ⟨q1, q2, q3, rfl⟩ | ⟨q1, q2, q3, rfl⟩ | ⟨q1, q2, q3, rfl⟩ <;> first | (exfalso; omega) | rfl | exact Int32.sub_zero _
              refine g_iload K X227 (pc' := 259) at_257 rfl rfl ?_
              refine g_icmp_ne K X227 (pc' := 266) (pc'' := 262) r.toInt va.toInt at_259 (by decide) rfl rfl rfl ?_ ?_
              · intro b259
                exact absurd (congrArg Int32.toInt hr) b259
              · intro b259
                refine g_iconst K X227 (pc' := 263) (v := (1 : Int32)) at_262 rfl rfl ?_
                refine g_goto K X227 (pc' := 267) at_263 (by decide) ?_
                exact g_retN K X227 at_267 (by simp) (by decide) (by decide) rfl
        · intro b129
          omega
    · intro b66
      refine g_iconst K X (pc' := 70) (v := (1 : Int32)) at_69 rfl rfl ?_
      refine g_newarray_int K X (pc' := 72) (n := 1) 1 at_70 rfl (hw _ (List.mem_of_getElem? (i := 1) rfl)) rfl (by decide) (by decide) (by decide) (by decide) (fun T228 h229 a230 X231 E232 ga233 na234 A235 => ?_)
      refine g_dup K X231 (pc' := 73) at_72 rfl rfl ?_
      refine g_iconst K X231 (pc' := 74) (v := (0 : Int32)) at_73 rfl rfl ?_
      refine g_iload K X231 (pc' := 76) at_74 rfl rfl ?_
      refine g_iastore K X231 (pc' := 77) (i := 0) at_76 rfl A235 na234 rfl (by decide) (fun T236 h237 X238 Kp239 A240 => ?_)
      obtain ⟨f241, hf242⟩ : ∃ q, q = upd (fun _ => (0 : Int32)) 0 va := ⟨_, rfl⟩
      rw [← hf242] at A240
      refine g_astore K X238 (pc' := 79) (L' := #[.val (.int p1), .val (.int p2), .val (.int p3), .val (.int p4), .val (.int va), .val (.int vb), .val (.int vc), .val (.int vn), .val (.int v), .val (.ref a230), .unset, .unset]) at_77 rfl rfl rfl ?_
      refine g_goto K X238 (pc' := 126) at_79 (by decide) ?_
      refine g_iload K X238 (pc' := 128) at_126 rfl rfl ?_
      refine g_iconst K X238 (pc' := 129) (v := (1 : Int32)) at_128 rfl rfl ?_
      refine g_icmp_ne K X238 (pc' := 139) (pc'' := 132) vn.toInt 1 at_129 (by decide) rfl rfl rfl ?_ ?_
      · intro b129
        omega
      · intro b129
        refine g_iload K X238 (pc' := 134) at_132 rfl rfl ?_
        refine g_istore K X238 (pc' := 136) (L' := #[.val (.int p1), .val (.int p2), .val (.int p3), .val (.int p4), .val (.int va), .val (.int vb), .val (.int vc), .val (.int vn), .val (.int v), .val (.ref a230), .val (.int v), .unset]) at_134 rfl rfl ?_
        refine g_goto K X238 (pc' := 239) at_136 (by decide) ?_
        refine g_new K X238 (pc' := 242) at_239 rfl (hw _ (List.mem_of_getElem? (i := 2) rfl)) (hw _ (List.mem_of_getElem? (i := 3) rfl)) (hw _ (List.mem_of_getElem? (i := 4) rfl)) (by decide) (by decide) (fun T243 h244 a245 X246 E247 ga248 na249 A250 Dn251 => ?_)
        have ne_a230_a245 : a230 ≠ a245 := Nat.ne_of_lt (by rw [ga248]; exact A240.lt)
        have f252 := A240.ext E247
        have F253 := Dn251 (Or.inr (hw _ (List.mem_of_getElem? (i := 12) rfl))) (ty := (.array .int)) (by decide)
        have F253 : Fld Z h244 a245 "com/example/floe/floe/model/Merge" "indexes" "[I" .null := F253
        refine g_dup K X246 (pc' := 243) at_242 rfl rfl ?_
        refine g_aload K X246 (pc' := 245) at_243 rfl rfl rfl ?_
        refine g_specialK0 K X246 (pc' := 248) (a := a245) (argsL := [.ref a230]) (rest := [.ref a245]) 1 at_245 rfl (hw _ (List.mem_of_getElem? (i := 5) rfl)) (hw _ (List.mem_of_getElem? (i := 6) rfl)) (hw _ (List.mem_of_getElem? (i := 4) rfl)) (hw _ (List.mem_of_getElem? (i := 7) rfl)) rfl (by decide) (rm_init l Z a0 hw a245 a230 h244 n0 X246.z na249 A250 F253) (by decide) (by decide) (by decide) (by decide) (lenOf pd_0 rfl) rfl rfl (Nat.le_of_ble_eq_true rfl) (fun T255 h257 X256 Kp258 hP254 => ?_)
        have f259 := AN.keep f252 Kp258 (ninS ne_a230_a245 nin0)
        have f260 := Exa.keep A250 Kp258
        obtain ⟨e261, u262⟩ := hP254
        refine g_astore K X256 (pc' := 250) (L' := #[.val (.int p1), .val (.int p2), .val (.int p3), .val (.int p4), .val (.int va), .val (.int vb), .val (.int vc), .val (.int vn), .val (.int v), .val (.ref a230), .val (.int v), .val (.ref a245)]) at_248 rfl rfl rfl ?_
        refine g_aload K X256 (pc' := 252) at_250 rfl rfl rfl ?_
        refine g_iload K X256 (pc' := 254) at_252 rfl rfl ?_
        refine g_virtualI K X256 (pc' := 257) (a := a245) (argsL := [.int v]) (rest := []) 0 at_254 rfl (hw _ (List.mem_of_getElem? (i := 13) rfl)) (hw _ (List.mem_of_getElem? (i := 14) rfl)) (hw _ (List.mem_of_getElem? (i := 16) rfl)) (hw _ (List.mem_of_getElem? (i := 15) rfl)) (hw _ (List.mem_of_getElem? (i := 4) rfl)) (hw _ (List.mem_of_getElem? (i := 17) rfl)) (by decide) e261 (rm_index l Z a0 hw a245 a230 v 1 f241 h257 n0 X256.z u262 f259 (by decide) (by decide)) (by decide) (by decide) (by decide) (by decide) (lenOf pd_1 rfl) rfl rfl (Nat.le_of_ble_eq_true rfl) (fun r T263 X264 hP => ?_)
        have e0 : f241 0 = va := by simp [hf242, upd]
        have hr : r = v := by
          unfold MI at hP
          rw [e0] at hP
          rcases hP with ⟨q1, rfl⟩ | ⟨q1, q2, rfl⟩ | ⟨q1, q2, q3, rfl⟩ | ⟨q1, q2, q3, rfl⟩ | ⟨q1, q2, q3, rfl⟩ <;> first | (exfalso; omega) | rfl | exact Int32.sub_zero _
        refine g_iload K X264 (pc' := 259) at_257 rfl rfl ?_
        refine g_icmp_ne K X264 (pc' := 266) (pc'' := 262) r.toInt v.toInt at_259 (by decide) rfl rfl rfl ?_ ?_
        · intro b259
          exact absurd (congrArg Int32.toInt hr) b259
        · intro b259
          refine g_iconst K X264 (pc' := 263) (v := (1 : Int32)) at_262 rfl rfl ?_
          refine g_goto K X264 (pc' := 267) at_263 (by decide) ?_
          exact g_retN K X264 at_267 (by simp) (by decide) (by decide) rfl
  refine g_iloadN K X (pc' := 42) at_41 rfl rfl ?_
  refine g_iconst K X (pc' := 43) (v := (1 : Int32)) at_42 rfl rfl ?_
  refine g_iand K X (pc' := 44) at_43 rfl ?_
  refine g_if_eq K X (pc' := 51) (pc'' := 47) (p4 &&& (1 : Int32)).toInt at_44 (by decide) rfl rfl ?_ ?_
  · intro b44
    refine g_iload K X (pc' := 53) at_51 rfl rfl ?_
    refine g_bipush K X (pc' := 55) (v := (8 : Int32)) at_53 rfl rfl ?_
    refine g_isub K X (pc' := 56) at_55 rfl ?_
    refine g_iloadN K X (pc' := 57) at_56 rfl rfl ?_
    refine g_bipush K X (pc' := 59) (v := (63 : Int32)) at_57 rfl rfl ?_
    refine g_iand K X (pc' := 60) at_59 rfl ?_
    refine g_iadd K X (pc' := 61) at_60 rfl ?_
    exact J61 _
  · intro b44
    refine g_iloadN K X (pc' := 48) at_47 rfl rfl ?_
    refine g_goto K X (pc' := 61) at_48 (by decide) ?_
    exact J61 _

set_option maxRecDepth 65536 in
set_option maxHeartbeats 40000000 in
theorem comes_1 {Post : Tables → Env → Array Value → State → Outcome → State → Prop} (hpost : ∀ tb e args s v u, (limb_1_1.after args s (.returned v) u = true ∧ limb_1_2.after args s (.returned v) u = true ∧ True) → FrameEnd s (.returned v) u (Jvm.fieldLocs frame_1_writes args s ++ Jvm.arrayLocs frame_1_arrays args s ++ Jvm.staticLocs frame_1_statics s) 16 128 → Post tb e args s (.returned v) u) :
    ArmFor flags0 classFile x code maxLocals ret World_1 tables_1 room_1 Calls_1 rest_1 Pre_1 Post := by
  intro l hfl _ _ p e ha hc hk s m args below hf hA hF happ hP
  obtain ⟨hcalls, hrest, hpre⟩ := hP
  obtain ⟨-, -, -, hnamed, -, -, -, hat⟩ := (Spec.applies_iff hf).mp happ
  obtain ⟨hg, hn⟩ := and_e (Cond.before_iff.mp (show (Jvm.Cond.and given_1 narrow_1).before args s = true from hpre))
  obtain ⟨g0, r0⟩ := and_e hg
  obtain ⟨g1, r1⟩ := and_e r0
  obtain ⟨g2, r2⟩ := and_e r1
  obtain ⟨g3, r3⟩ := and_e r2
  obtain ⟨w0, w1, w2, w3, rfl⟩ : ∃ w0 w1 w2 w3 : Value, args = #[w0, w1, w2, w3] := by
    have hs : args.size = 4 := by simpa [Cond.value, given_1] using g0
    obtain ⟨L⟩ := args
    match L, hs with
    | [w0, w1, w2, w3], _ => exact ⟨w0, w1, w2, w3, rfl⟩
  have hw := fun d (hd : d ∈ tables_1) => atoms_spec (ws := Jvm.Cond.code x code maxLocals ret :: tables_1) hat d (List.mem_cons_of_mem _ hd)
  obtain ⟨i0, ei0⟩ := is_v g1
  obtain rfl : w0 = (.int i0) := Option.some.inj ei0
  obtain ⟨i1, ei1⟩ := is_v g2
  obtain rfl : w1 = (.int i1) := Option.some.inj ei1
  obtain ⟨i2, ei2⟩ := is_v g3
  obtain rfl : w2 = (.int i2) := Option.some.inj ei2
  obtain ⟨i3, ei3⟩ := is_v r3
  obtain rfl : w3 = (.int i3) := Option.some.inj ei3
  obtain ⟨n, o, h1, h2, h3, _, L, rfl, ⟨rfl, N⟩, hq⟩ := rm0 l s _ hw i0 i1 i2 i3 s.heap s.heap.size (Nat.le_refl _) tables_1 p e ha hc hk s m _ below hf ((Spec.applies_iff_loose hf).mp happ).1 ⟨rfl, State.Warmed39.refl s, rfl⟩ trivial
  refine ⟨n, _, h1, h2, h3, hpost _ _ _ _ _ _ ⟨Cond.after_iff.mpr rfl, Cond.after_iff.mpr (eq_i res_at (Term.int_eval (1)) rfl), trivial⟩ ⟨hq.1, hq.2.1, (hq.2.2.sift fun y hy => Or.inr (N y hy)).mono (by decide) (by decide)⟩⟩
theorem main_1_1 : Claimed_1_1 := comes_1 fun _ _ _ _ _ _ h hF => ⟨h.1, hF⟩
theorem main_1_2 : Claimed_1_2 := comes_1 fun _ _ _ _ _ _ h hF => ⟨h.2.1, hF⟩
end Jvm.Pilot.@@N@@
namespace Jvm.Pilot.@@N@@
open Jvm Jvm.ClassFile Sem Op Lib Jvm.Free Jvm.Stand Jvm.Pilot.@@N@@.Jvm.D
/-! MADE BY PROGRAM (witnessworld.py) out of the Statement's table words and the real class files: 9 classes; the members and pool entries that the words name. The judged class is class 1, her method 1. -/
namespace start1
open Jvm.ClassFile
def u (s : String) : CpInfo := .utf8 (stringToUtf16 s)
/-- a pool by its gaps: so many unusable entries, then the entry; so many at the end -/
def gap : Nat → List CpInfo → List CpInfo
  | 0, r => r
  | n + 1, r => .unusable :: gap n r
def poolList (es : List (Nat × CpInfo)) (last : Nat) : List CpInfo := es.foldr (fun e r => gap e.1 (e.2 :: r)) (gap last [])
def pool (es : List (Nat × CpInfo)) (last : Nat) : Array CpInfo := ⟨poolList es last⟩
def fileOf (pool : Array CpInfo) (this : Nat) (attrs : Array Attribute := #[]) (ms : Array MethodInfo := #[]) (fl : Nat := 33) (sup : Nat := 0) (ifs : Array Nat := #[]) (fds : Array FieldInfo := #[]) : ClassFile where
  minorVersion := 0
  majorVersion := 65
  constantPool := pool
  accessFlags := fl
  thisClass := this
  superClass := sup
  interfaces := ifs
  fields := fds
  methods := ms
  attributes := attrs
def plain (name : String) (sup : Option ClassId) : Class where
  name := name
  kind := .ordinary
  loader := none
  accessFlags := 33
  super := sup
  interfaces := #[]
  cf := none
  fields := #[]
  methods := #[]
  instanceTypes := #[]
  staticTypes := #[]
  resolved := #[]
  callSites := []
  init := .initialized
  statics := none
  mirror := none

def pool0 : Array CpInfo := pool [(5, u "<init>"), (0, u "()V"), (1, .class_ 10), (1, u "java/lang/Object")] 113

def k0c0 : Code := { maxStack := 0, maxLocals := 1, code := object_method_1_code, exceptionTable := #[], attributes := #[] }
def k0m0 : Method := { name := "<init>", desc := "()V", sig := { parameters := [], returnType := none }, accessFlags := 1, code := some k0c0 }
/-- java/lang/Object -/
def k0 : Class := { plain "java/lang/Object" none with
  accessFlags := 33
  interfaces := #[]
  cf := some (fileOf pool0 8 #[] #[{ accessFlags := 1, nameIndex := 5, descriptorIndex := 6, attributes := #[] }] 33 0 #[] #[])
  fields := #[]
  methods := #[k0m0]
  instanceTypes := #[]
  staticTypes := #[]
  resolved := Array.replicate 124 none
  statics := none }

def pool1 : Array CpInfo := pool [(2, .class_ 4), (1, u "java/lang/Object"), (0, u "<init>"), (0, u "()V"), (0, .integer 268435455), (0, .class_ 9), (0, u "com/example/floe/floe/model/Merge"), (0, .methodref 8 11), (0, .nameAndType 5 12), (0, u "([I)V"), (0, .methodref 8 14), (0, .nameAndType 15 16), (0, u "index"), (0, u "(I)I"), (0, .class_ 18), (0, u "com/example/floe/floe/model/MergeIndexPinLaw"), (2, u "law"), (0, u "(IIII)Z")] 5

def k1m0 : Method := { name := "<init>", desc := "()V", sig := { parameters := [], returnType := none }, accessFlags := 1, code := none }
def k1c1 : Code := { maxStack := 4, maxLocals := 12, code := code, exceptionTable := #[], attributes := #[] }
def k1m1 : Method := { name := "law", desc := "(IIII)Z", sig := { parameters := [.int, .int, .int, .int], returnType := some .boolean }, accessFlags := 9, code := some k1c1 }
/-- com/example/floe/floe/model/MergeIndexPinLaw -/
def k1 : Class := { plain "com/example/floe/floe/model/MergeIndexPinLaw" (some 0) with
  accessFlags := 49
  interfaces := #[]
  cf := some (fileOf pool1 17 #[] #[{ accessFlags := 1, nameIndex := 5, descriptorIndex := 6, attributes := #[] }, { accessFlags := 9, nameIndex := 21, descriptorIndex := 22, attributes := #[] }] 49 2 #[] #[])
  fields := #[]
  methods := #[k1m0, k1m1]
  instanceTypes := #[]
  staticTypes := #[]
  resolved := Array.replicate 28 none
  statics := none }

def pool2 : Array CpInfo := pool [(1, .methodref 2 3), (0, .class_ 4), (0, .nameAndType 5 6), (0, u "java/lang/Object"), (0, u "<init>"), (0, u "()V"), (0, .fieldref 8 9), (0, .class_ 10), (0, .nameAndType 11 12), (0, u "com/example/floe/floe/model/Merge"), (0, u "indexes"), (0, u "[I"), (6, u "([I)V"), (10, u "(I)I"), (0, u "index")] 2

def k2c0 : Code := { maxStack := 2, maxLocals := 2, code := prog_56_method_1_code, exceptionTable := #[], attributes := #[] }
def k2m0 : Method := { name := "<init>", desc := "([I)V", sig := { parameters := [(.array .int)], returnType := none }, accessFlags := 0, code := some k2c0 }
def k2c1 : Code := { maxStack := 2, maxLocals := 4, code := prog_56_method_6_code, exceptionTable := #[], attributes := #[] }
def k2m1 : Method := { name := "index", desc := "(I)I", sig := { parameters := [.int], returnType := some .int }, accessFlags := 0, code := some k2c1 }
/-- com/example/floe/floe/model/Merge -/
def k2 : Class := { plain "com/example/floe/floe/model/Merge" (some 0) with
  accessFlags := 48
  interfaces := #[]
  cf := some (fileOf pool2 8 #[] #[{ accessFlags := 0, nameIndex := 5, descriptorIndex := 19, attributes := #[] }, { accessFlags := 0, nameIndex := 31, descriptorIndex := 30, attributes := #[] }] 48 2 #[] #[{ accessFlags := 18, nameIndex := 11, descriptorIndex := 12, attributes := #[] }])
  fields := #[{ name := "indexes", type := (.array .int), accessFlags := 18, slot := 0, constantValue := 0 }]
  methods := #[k2m0, k2m1]
  instanceTypes := #[(.array .int)]
  staticTypes := #[]
  resolved := Array.replicate 34 none
  statics := none }

def pool3 : Array CpInfo := pool [(1, u "java/lang/Cloneable"), (0, .class_ 1), (0, u "java/lang/Object"), (0, .class_ 3)] 3

/-- java/lang/Cloneable -/
def k3 : Class := { plain "java/lang/Cloneable" (some 0) with
  accessFlags := 1537
  interfaces := #[]
  cf := some (fileOf pool3 2 #[] #[] 1537 4 #[] #[])
  fields := #[]
  methods := #[]
  instanceTypes := #[]
  staticTypes := #[]
  resolved := Array.replicate 8 none
  statics := none }

def pool4 : Array CpInfo := pool [(1, u "java/io/Serializable"), (0, .class_ 1), (0, u "java/lang/Object"), (0, .class_ 3)] 3

/-- java/io/Serializable -/
def k4 : Class := { plain "java/io/Serializable" (some 0) with
  accessFlags := 1537
  interfaces := #[]
  cf := some (fileOf pool4 2 #[] #[] 1537 4 #[] #[])
  fields := #[]
  methods := #[]
  instanceTypes := #[]
  staticTypes := #[]
  resolved := Array.replicate 8 none
  statics := none }

/-- the primitive byte -/
def k5 : Class := { plain "byte" none with kind := .primitive 'B', accessFlags := 0x411 }
/-- [B -/
def k6 : Class := { plain "[B" (some 0) with kind := .array 5 .byte, interfaces := #[3, 4], accessFlags := 1041 }

/-- the primitive int -/
def k7 : Class := { plain "int" none with kind := .primitive 'I', accessFlags := 0x411 }
/-- [I -/
def k8 : Class := { plain "[I" (some 0) with kind := .array 7 .int, interfaces := #[3, 4], accessFlags := 1041 }

def heap : Heap := #[]
def classes : Array Class := #[k0, k1, k2, k3, k4, k5, k6, k7, k8]
def interned : List (Array UInt16 × Addr) := []
def slotsUsed : Nat := 0
def theMethod : MethodId := ⟨1, 1⟩
def args0 : Array Value := #[.int 5, .int 7, .int 3, .int 2]
def aboutOver (below : List Frame) : State where
  vm := { classes := classes, interned := interned.toArray }
  heap := heap
  slotsUsed := slotsUsed
  threads := #[{ frames := .invoking theMethod args0 :: below }]
def below0 : List Frame := [.native { method := ⟨0, 0⟩, args := #[] }]
def about1 : State := aboutOver below0
def p0 : Program := .bare "" "" ""
def e0 : Env := launch0.env 0 0 0
theorem w_frames : about1.frames = Frame.invoking theMethod args0 :: below0 := rfl
set_option maxRecDepth 65536 in
theorem w_args : argsFit about1.vm theMethod args0 = true := by decide +kernel
set_option maxRecDepth 65536 in
theorem w_heap : heapFits about1 = true := by decide +kernel
set_option maxRecDepth 65536 in
theorem w_runnable : about1.curStatus? = some .runnable := by decide +kernel
set_option maxRecDepth 65536 in
theorem w_alone : about1.alone = true := by decide +kernel
set_option maxRecDepth 65536 in
theorem w_named : about1.methodNamed? x = some theMethod := by decide +kernel
set_option maxRecDepth 65536 in
theorem w_hears : about1.hears theMethod below0 = true := by decide +kernel
set_option maxRecDepth 65536 in
theorem w_ripe : about1.ripe theMethod args0 below0 = true := by decide +kernel
theorem w_running : about1.status = .running := rfl
set_option maxRecDepth 65536 in
theorem w_room : about1.hasRoom e0.platform room_1 = true :=
  launch0.hasRoom_least _ room_1 (by decide +kernel) (by decide +kernel) (by decide +kernel) (by decide +kernel) (by decide +kernel) (by decide +kernel)
theorem allAtoms_all (ts : List Jvm.Cond) (a : Array Jvm.Value) (st : Jvm.State) : (allAtoms ts).before a st = ts.all (fun c => c.before a st) := by
  induction ts with
  | nil => rfl
  | cons c t ih =>
    show (Jvm.Cond.and c (allAtoms t)).before a st = _
    rw [Jvm.Cond.before_and, ih, List.all_cons]
def words1 : List Jvm.Cond := Jvm.Cond.code x code maxLocals ret :: tables_1
/-- a 'code' word, met by the world's own term for the bytes: nothing is compared byte by byte -/
theorem code_word {y : MethodName} {bytes : ByteArray} {mx : Nat} {rt : Option FieldType} {a : Array Value} {s : State} {m : MethodId} {meth : Method} {c : Code} (h1 : s.methodNamed? y = some m) (h2 : s.vm.method? m = some meth) (h3 : meth.code = some c) (h4 : c.code = bytes)
    (h5 : (c.maxLocals == mx && c.exceptionTable.isEmpty && decide (c.maxStack ≤ mostOperands) && decide (meth.sig.returnType = rt) && !meth.locks && decide (parseMethodDescriptor y.desc = some meth.sig)) = true) : (Jvm.Cond.code y bytes mx rt).before a s = true := by
  simp only [Bool.and_eq_true, beq_iff_eq, Bool.not_eq_true', decide_eq_true_eq] at h5
  obtain ⟨⟨⟨⟨⟨g1, g2⟩, g3⟩, g4⟩, g5⟩, g6⟩ := h5
  simp [Cond.before, Cond.holds, Cond.value, h1, h2, h3, h4, g1, g2, g3, g4, g5, g6]
def isCode : Jvm.Cond → Bool
  | .code _ _ _ _ => true
  | _ => false
theorem all_split {L : List Jvm.Cond} {P : Jvm.Cond → Bool} (h1 : L.all (fun c => isCode c || P c) = true) (h2 : ∀ c ∈ L.filter isCode, P c = true) : L.all P = true := by
  refine List.all_eq_true.mpr fun c hc => ?_
  have h := List.all_eq_true.mp h1 c hc
  rcases Bool.eq_false_or_eq_true (isCode c) with hi | hi
  · exact h2 c (List.mem_filter.mpr ⟨hc, hi⟩)
  · simpa [hi] using h
set_option maxRecDepth 65536 in
theorem w_c0 : (Jvm.Cond.code x code maxLocals ret).before args0 about1 = true := code_word (m := ⟨1, 1⟩) (meth := k1m1) (c := k1c1) (by decide +kernel) rfl rfl rfl (by decide +kernel)
set_option maxRecDepth 65536 in
theorem w_c1 : (Jvm.Cond.code ({ cls := "com/example/floe/floe/model/Merge", name := "<init>", desc := "([I)V" } : Jvm.MethodName) prog_56_method_1_code (2 : Nat) (Option.none : Option Jvm.ClassFile.FieldType)).before args0 about1 = true := code_word (m := ⟨2, 0⟩) (meth := k2m0) (c := k2c0) (by decide +kernel) rfl rfl rfl (by decide +kernel)
set_option maxRecDepth 65536 in
theorem w_c2 : (Jvm.Cond.code ({ cls := "java/lang/Object", name := "<init>", desc := "()V" } : Jvm.MethodName) object_method_1_code (1 : Nat) (Option.none : Option Jvm.ClassFile.FieldType)).before args0 about1 = true := code_word (m := ⟨0, 0⟩) (meth := k0m0) (c := k0c0) (by decide +kernel) rfl rfl rfl (by decide +kernel)
set_option maxRecDepth 65536 in
theorem w_c3 : (Jvm.Cond.code ({ cls := "com/example/floe/floe/model/Merge", name := "index", desc := "(I)I" } : Jvm.MethodName) prog_56_method_6_code (4 : Nat) (Option.some Jvm.ClassFile.FieldType.int)).before args0 about1 = true := code_word (m := ⟨2, 1⟩) (meth := k2m1) (c := k2c1) (by decide +kernel) rfl rfl rfl (by decide +kernel)
def codes1 : List Jvm.Cond := [Jvm.Cond.code x code maxLocals ret, Jvm.Cond.code ({ cls := "com/example/floe/floe/model/Merge", name := "<init>", desc := "([I)V" } : Jvm.MethodName) prog_56_method_1_code (2 : Nat) (Option.none : Option Jvm.ClassFile.FieldType), Jvm.Cond.code ({ cls := "java/lang/Object", name := "<init>", desc := "()V" } : Jvm.MethodName) object_method_1_code (1 : Nat) (Option.none : Option Jvm.ClassFile.FieldType), Jvm.Cond.code ({ cls := "com/example/floe/floe/model/Merge", name := "index", desc := "(I)I" } : Jvm.MethodName) prog_56_method_6_code (4 : Nat) (Option.some Jvm.ClassFile.FieldType.int)]
set_option maxRecDepth 65536 in
theorem codes_eq : words1.filter isCode = codes1 := rfl
theorem w_codes : ∀ c ∈ words1.filter isCode, c.before args0 about1 = true := by
  rw [codes_eq]
  intro c hc
  simp only [codes1, List.mem_cons, List.not_mem_nil, or_false] at hc
  rcases hc with rfl | rfl | rfl | rfl
  · exact w_c0
  · exact w_c1
  · exact w_c2
  · exact w_c3
set_option maxRecDepth 65536 in
theorem w_t1 : words1.all (fun c => isCode c || c.before args0 about1) = true := by decide +kernel
theorem w_tables : (allAtoms (Jvm.Cond.code x code maxLocals ret :: tables_1)).before args0 about1 = true := by
  rw [allAtoms_all]
  show words1.all (fun c => c.before args0 about1) = true
  refine all_split ?_ w_codes
  rw [w_t1]
set_option maxRecDepth 65536 in
theorem w_case : (Jvm.Cond.and given_1 narrow_1).before args0 about1 = true := by decide +kernel
theorem w_applies : (headSpec (Jvm.Cond.code x code maxLocals ret :: tables_1) room_1).applies x e0.platform about1 = true :=
  (Spec.applies_iff w_frames).mpr ⟨w_running, w_runnable, w_alone, w_named, w_hears, w_ripe, w_room, w_tables⟩
theorem atStart : AtStart classFile x code maxLocals ret World_1 tables_1 room_1 Calls_1 rest_1 Pre_1 launch0 p0 e0 about1 theMethod args0 below0 :=
  ⟨lists_1, trivial, launch0.admits_env _ _ _, launch0.least_env, fairChoices_fair.cas, fairChoices_fair.clock, w_frames, w_args, w_heap, w_applies, trivial, trivial, w_case⟩
end start1
theorem witness_1 : WitnessClaimed_1 := ⟨start1.p0, start1.e0, start1.about1, start1.theMethod, start1.args0, start1.below0, start1.atStart⟩
end Jvm.Pilot.@@N@@
