import JvmDerived
import JvmDerived.Pilot.@@N@@Statement
import JvmDerived.Pilot.@@N@@Code
set_option linter.unusedVariables false
set_option linter.unusedSimpArgs false
namespace Jvm.Pilot.@@N@@
open Jvm Jvm.ClassFile Sem Op Lib Jvm.Free Jvm.Stand Jvm.LawKit Jvm.RoadKit Bundle Jvm.Pilot.@@N@@.Jvm.D
section OwnKit
variable {Z : State} {p : Program} {l : Launch} {e : Env} {R : Room} {s : State} {m : MethodId} {args : Array Value} {below : List Frame} {meth : Method} {c : Code} {T : State} {h : Heap} {n0 C S cells slots : Nat} {Q : Option Value → Heap → Prop} {own nm : String} {bytes : ByteArray} {ml : Nat} {rt : Option FieldType} {a0 : Array Value}
/-- the walk's constant facts -/
def Cx (Z : State) (p : Program) (s : State) (m : MethodId) (meth : Method) (c : Code) (own : String) (bytes : ByteArray) (ml : Nat) (rt : Option FieldType) (nm : String) : Prop :=
  p.tables.exec = Jvm.exec ∧ Z.Warmed39 s.vm ∧ c.code = bytes ∧ c.maxLocals = ml ∧ s.vm.findClass own = some m.cls ∧ meth.sig.returnType = rt ∧ meth.locks = false ∧ meth.name = nm
/-- where the walk stands: state T, heap h -/
def Wk (p : Program) (l : Launch) (e : Env) (R : Room) (s : State) (m : MethodId) (args : Array Value) (below : List Frame) (meth : Method) (c : Code) (n0 : Nat) (T : State) (h : Heap) (cells slots : Nat) : Prop :=
  ∃ locs, Stand p l e R s m args below meth c T locs cells slots ∧ T.heap = h ∧ Fr n0 locs ∧ n0 ≤ h.size
theorem Wk.z (X : Wk p l e R s m args below meth c n0 T h cells slots) : n0 ≤ h.size := by
  obtain ⟨_, _, _, _, q⟩ := X
  exact q
/-- from t0 the body comes to its end with Q -/
def Fi (p : Program) (e : Env) (below : List Frame) (s : State) (n0 C S : Nat) (Q : Option Value → Heap → Prop) (t0 : State) : Prop :=
  ∃ s₂ o, Steps p.tables e below t0 s₂ ∧ s₂.status = .running ∧ Ended s₂ below o ∧ ∃ v L, o = .returned v ∧ (Q v s₂.heap ∧ Fr n0 L) ∧ FrameEnd s o s₂ L C S
theorem Fi.of {t t0 : State} (st : ∀ target, Steps p.tables e below t target → Steps p.tables e below t0 target) (k : Fi p e below s n0 C S Q t) : Fi p e below s n0 C S Q t0 := by
  obtain ⟨s₂, o, h1, r⟩ := k
  exact ⟨s₂, o, st _ h1, r⟩
theorem Fi.weak {Q' : Option Value → Heap → Prop} {t0 : State} (hq : ∀ v h, Q v h → Q' v h) (k : Fi p e below s n0 C S Q t0) : Fi p e below s n0 C S Q' t0 := by
  obtain ⟨s₂, o, h1, h2, h3, v, L, h4, ⟨h5, h6⟩, h7⟩ := k
  exact ⟨s₂, o, h1, h2, h3, v, L, h4, ⟨hq _ _ h5, h6⟩, h7⟩
/-- a method's contract -/
def Mt (l : Launch) (Z : State) (y : MethodName) (bytes : ByteArray) (ml : Nat) (rt : Option FieldType) (rm : Room) (as' : Array Value) (h : Heap) (n0 : Nat) (Q : Option Value → Heap → Prop) : Prop :=
  ∀ ws : List Jvm.Cond, MetFree l y (head1 (Jvm.Cond.code y bytes ml rt :: ws) rm) (fun a U => a = as' ∧ Z.Warmed39 U.vm ∧ U.heap = h) (fun _ _ _ _ _ => True) (fun _ U o U' => ∃ v L, o = .returned v ∧ (Q v U'.heap ∧ Fr n0 L) ∧ FrameEnd U o U' L rm.cells rm.slots)
theorem Mt.of {y : MethodName} {rm : Room} {as' : Array Value} {Ls : Array Slot} (ho : y.cls = own) (hnm : y.name = nm) (pn : plainFor y = true) (hn : n0 ≤ h.size) (ef : ∀ m, entryFrame m as' ml = mkF m 0 Ls [])
    (body : ∀ (p : Program) (e : Env) (s : State) (m : MethodId) (below : List Frame) (meth : Method) (c : Code) (T : State), Cx Z p s m meth c own bytes ml rt nm → Wk p l e rm s m as' below meth c n0 T h 0 0 → Fi p e below s n0 rm.cells rm.slots Q (T.setTop (mkF m 0 Ls []))) :
    Mt l Z y bytes ml rt rm as' h n0 Q := by
  intro ws
  subst ho hnm
  refine MetFree.of_bodySF pn hisR ?_
  intro p e s m args below meth c s₁ Bd hml0 hP hK
  obtain ⟨rfl, hZ, hh⟩ := hP
  obtain ⟨s₂, o, h1, h2, h3, h4⟩ := body p e s m below meth c s₁ ⟨Bd.exec, hZ, Bd.bytes, hml0, findClass_of_methodNamed Bd.named, Bd.returns, Bd.notSynchronized, (name_of_methodNamed Bd.named Bd.method).1⟩ ⟨[], Stand.of_body Bd, by rw [← hh, Bd.state]; rfl, Fr.nil n0, hn⟩
  exact ⟨s₂, o, castTop (ef m) h1, h2, h3, h4⟩
/-! shifts and narrowings by name -/
def jushr (x y : Int32) : Int32 := (x.toUInt32 >>> (y &&& 31).toUInt32).toInt32
def jshr (x y : Int32) : Int32 := x >>> (y &&& 31)
def jshl (x y : Int32) : Int32 := x <<< (y &&& 31)
def jushrL (x : Int64) (y : Int32) : Int64 := (x.toUInt64 >>> (y &&& 0x3f).toInt64.toUInt64).toInt64
def jshrL (x : Int64) (y : Int32) : Int64 := x >>> (y &&& 0x3f).toInt64
def jshlL (x : Int64) (y : Int32) : Int64 := x <<< (y &&& 0x3f).toInt64
def jb (x : Int32) : Int32 := x.toInt8.toInt32
def jc (x : Int32) : Int32 := x.toUInt32.toUInt16.toUInt32.toInt32
def js (x : Int32) : Int32 := x.toInt16.toInt32
theorem g_iloadN (K : Cx Z p s m meth c own bytes ml rt nm) (X : Wk p l e R s m args below meth c n0 T h cells slots) {pc pc' : Nat} {L : Array Slot} {st : List Value} {k : Fin 4} {v : Int32} (hd : decode bytes pc = .ok (.iload_n k, 1)) (hp : pc + 1 = pc') (hl : L[k.val]? = some (.val (.int v))) (r : Fi p e below s n0 C S Q (T.setTop (mkF m pc' L (.int v :: st)))) : Fi p e below s n0 C S Q (T.setTop (mkF m pc L (st))) := by
  obtain ⟨locs, Y, -⟩ := X
  subst hp
  exact Fi.of (fun _ q => XS.iloadN Y.here K.1 rfl (hb K.2.2.1 hd) hl q) r
theorem g_iload (K : Cx Z p s m meth c own bytes ml rt nm) (X : Wk p l e R s m args below meth c n0 T h cells slots) {pc pc' : Nat} {L : Array Slot} {st : List Value} {k : Nat} {v : Int32} (hd : decode bytes pc = .ok (.iload k, 2)) (hp : pc + 2 = pc') (hl : L[k]? = some (.val (.int v))) (r : Fi p e below s n0 C S Q (T.setTop (mkF m pc' L (.int v :: st)))) : Fi p e below s n0 C S Q (T.setTop (mkF m pc L (st))) := by
  obtain ⟨locs, Y, -⟩ := X
  subst hp
  exact Fi.of (fun _ q => XS.iload Y.here K.1 rfl (hb K.2.2.1 hd) hl q) r
theorem g_istoreN (K : Cx Z p s m meth c own bytes ml rt nm) (X : Wk p l e R s m args below meth c n0 T h cells slots) {pc pc' : Nat} {L : Array Slot} {st : List Value} {k : Fin 4} {v : Int32} {L' : Array Slot} (hd : decode bytes pc = .ok (.istore_n k, 1)) (hp : pc + 1 = pc') (hl : storeLocals L k.val (.int v) = some L') (r : Fi p e below s n0 C S Q (T.setTop (mkF m pc' L' (st)))) : Fi p e below s n0 C S Q (T.setTop (mkF m pc L (.int v :: st))) := by
  obtain ⟨locs, Y, -⟩ := X
  subst hp
  exact Fi.of (fun _ q => XS.istoreN Y.here K.1 rfl (hb K.2.2.1 hd) rfl hl q) r
theorem g_istore (K : Cx Z p s m meth c own bytes ml rt nm) (X : Wk p l e R s m args below meth c n0 T h cells slots) {pc pc' : Nat} {L : Array Slot} {st : List Value} {k : Nat} {v : Int32} {L' : Array Slot} (hd : decode bytes pc = .ok (.istore k, 2)) (hp : pc + 2 = pc') (hl : storeLocals L k (.int v) = some L') (r : Fi p e below s n0 C S Q (T.setTop (mkF m pc' L' (st)))) : Fi p e below s n0 C S Q (T.setTop (mkF m pc L (.int v :: st))) := by
  obtain ⟨locs, Y, -⟩ := X
  subst hp
  exact Fi.of (fun _ q => XS.istore Y.here K.1 rfl (hb K.2.2.1 hd) rfl hl q) r
theorem g_lloadN (K : Cx Z p s m meth c own bytes ml rt nm) (X : Wk p l e R s m args below meth c n0 T h cells slots) {pc pc' : Nat} {L : Array Slot} {st : List Value} {k : Fin 4} {v : Int64} (hd : decode bytes pc = .ok (.lload_n k, 1)) (hp : pc + 1 = pc') (hl : L[k.val]? = some (.val (.long v))) (r : Fi p e below s n0 C S Q (T.setTop (mkF m pc' L (.long v :: st)))) : Fi p e below s n0 C S Q (T.setTop (mkF m pc L (st))) := by
  obtain ⟨locs, Y, -⟩ := X
  subst hp
  exact Fi.of (fun _ q => XS.lloadN Y.here K.1 rfl (hb K.2.2.1 hd) hl q) r
theorem g_lload (K : Cx Z p s m meth c own bytes ml rt nm) (X : Wk p l e R s m args below meth c n0 T h cells slots) {pc pc' : Nat} {L : Array Slot} {st : List Value} {k : Nat} {v : Int64} (hd : decode bytes pc = .ok (.lload k, 2)) (hp : pc + 2 = pc') (hl : L[k]? = some (.val (.long v))) (r : Fi p e below s n0 C S Q (T.setTop (mkF m pc' L (.long v :: st)))) : Fi p e below s n0 C S Q (T.setTop (mkF m pc L (st))) := by
  obtain ⟨locs, Y, -⟩ := X
  subst hp
  exact Fi.of (fun _ q => XS.lload Y.here K.1 rfl (hb K.2.2.1 hd) hl q) r
theorem g_lstoreN (K : Cx Z p s m meth c own bytes ml rt nm) (X : Wk p l e R s m args below meth c n0 T h cells slots) {pc pc' : Nat} {L : Array Slot} {st : List Value} {k : Fin 4} {v : Int64} {L' : Array Slot} (hd : decode bytes pc = .ok (.lstore_n k, 1)) (hp : pc + 1 = pc') (hl : storeLocals L k.val (.long v) = some L') (r : Fi p e below s n0 C S Q (T.setTop (mkF m pc' L' (st)))) : Fi p e below s n0 C S Q (T.setTop (mkF m pc L (.long v :: st))) := by
  obtain ⟨locs, Y, -⟩ := X
  subst hp
  exact Fi.of (fun _ q => XS.lstoreN Y.here K.1 rfl (hb K.2.2.1 hd) rfl hl q) r
theorem g_lstore (K : Cx Z p s m meth c own bytes ml rt nm) (X : Wk p l e R s m args below meth c n0 T h cells slots) {pc pc' : Nat} {L : Array Slot} {st : List Value} {k : Nat} {v : Int64} {L' : Array Slot} (hd : decode bytes pc = .ok (.lstore k, 2)) (hp : pc + 2 = pc') (hl : storeLocals L k (.long v) = some L') (r : Fi p e below s n0 C S Q (T.setTop (mkF m pc' L' (st)))) : Fi p e below s n0 C S Q (T.setTop (mkF m pc L (.long v :: st))) := by
  obtain ⟨locs, Y, -⟩ := X
  subst hp
  exact Fi.of (fun _ q => XS.lstore Y.here K.1 rfl (hb K.2.2.1 hd) rfl hl q) r
theorem g_aloadN (K : Cx Z p s m meth c own bytes ml rt nm) (X : Wk p l e R s m args below meth c n0 T h cells slots) {pc pc' : Nat} {L : Array Slot} {st : List Value} {k : Fin 4} {v : Value} (hd : decode bytes pc = .ok (.aload_n k, 1)) (hp : pc + 1 = pc') (hl : L[k.val]? = some (.val v)) (hv : v.isRef = true) (r : Fi p e below s n0 C S Q (T.setTop (mkF m pc' L (v :: st)))) : Fi p e below s n0 C S Q (T.setTop (mkF m pc L (st))) := by
  obtain ⟨locs, Y, -⟩ := X
  subst hp
  exact Fi.of (fun _ q => XS.aloadN Y.here K.1 rfl (hb K.2.2.1 hd) hl hv q) r
theorem g_aload (K : Cx Z p s m meth c own bytes ml rt nm) (X : Wk p l e R s m args below meth c n0 T h cells slots) {pc pc' : Nat} {L : Array Slot} {st : List Value} {k : Nat} {v : Value} (hd : decode bytes pc = .ok (.aload k, 2)) (hp : pc + 2 = pc') (hl : L[k]? = some (.val v)) (hv : v.isRef = true) (r : Fi p e below s n0 C S Q (T.setTop (mkF m pc' L (v :: st)))) : Fi p e below s n0 C S Q (T.setTop (mkF m pc L (st))) := by
  obtain ⟨locs, Y, -⟩ := X
  subst hp
  exact Fi.of (fun _ q => XS.aload Y.here K.1 rfl (hb K.2.2.1 hd) hl hv q) r
theorem g_astoreN (K : Cx Z p s m meth c own bytes ml rt nm) (X : Wk p l e R s m args below meth c n0 T h cells slots) {pc pc' : Nat} {L : Array Slot} {st : List Value} {k : Fin 4} {v : Value} {L' : Array Slot} (hd : decode bytes pc = .ok (.astore_n k, 1)) (hp : pc + 1 = pc') (hv : v.isRef = true) (hl : storeLocals L k.val v = some L') (r : Fi p e below s n0 C S Q (T.setTop (mkF m pc' L' (st)))) : Fi p e below s n0 C S Q (T.setTop (mkF m pc L (v :: st))) := by
  obtain ⟨locs, Y, -⟩ := X
  subst hp
  exact Fi.of (fun _ q => XS.astoreN Y.here K.1 rfl (hb K.2.2.1 hd) rfl hv hl q) r
theorem g_astore (K : Cx Z p s m meth c own bytes ml rt nm) (X : Wk p l e R s m args below meth c n0 T h cells slots) {pc pc' : Nat} {L : Array Slot} {st : List Value} {k : Nat} {v : Value} {L' : Array Slot} (hd : decode bytes pc = .ok (.astore k, 2)) (hp : pc + 2 = pc') (hv : v.isRef = true) (hl : storeLocals L k v = some L') (r : Fi p e below s n0 C S Q (T.setTop (mkF m pc' L' (st)))) : Fi p e below s n0 C S Q (T.setTop (mkF m pc L (v :: st))) := by
  obtain ⟨locs, Y, -⟩ := X
  subst hp
  exact Fi.of (fun _ q => XS.astore Y.here K.1 rfl (hb K.2.2.1 hd) rfl hv hl q) r
theorem g_iconst (K : Cx Z p s m meth c own bytes ml rt nm) (X : Wk p l e R s m args below meth c n0 T h cells slots) {pc pc' : Nat} {L : Array Slot} {st : List Value} {i : Int} {v : Int32} (hd : decode bytes pc = .ok (.iconst i, 1)) (hp : pc + 1 = pc') (hv : Int32.ofInt i = v) (r : Fi p e below s n0 C S Q (T.setTop (mkF m pc' L (.int v :: st)))) : Fi p e below s n0 C S Q (T.setTop (mkF m pc L (st))) := by
  obtain ⟨locs, Y, -⟩ := X
  subst hp
  subst hv
  exact Fi.of (fun _ q => XS.iconst Y.here K.1 rfl (hb K.2.2.1 hd) q) r
theorem g_bipush (K : Cx Z p s m meth c own bytes ml rt nm) (X : Wk p l e R s m args below meth c n0 T h cells slots) {pc pc' : Nat} {L : Array Slot} {st : List Value} {i : Int} {v : Int32} (hd : decode bytes pc = .ok (.bipush i, 2)) (hp : pc + 2 = pc') (hv : (Int8.ofInt i).toInt32 = v) (r : Fi p e below s n0 C S Q (T.setTop (mkF m pc' L (.int v :: st)))) : Fi p e below s n0 C S Q (T.setTop (mkF m pc L (st))) := by
  obtain ⟨locs, Y, -⟩ := X
  subst hp
  subst hv
  exact Fi.of (fun _ q => XS.bipush Y.here K.1 rfl (hb K.2.2.1 hd) q) r
theorem g_sipush (K : Cx Z p s m meth c own bytes ml rt nm) (X : Wk p l e R s m args below meth c n0 T h cells slots) {pc pc' : Nat} {L : Array Slot} {st : List Value} {i : Int} {v : Int32} (hd : decode bytes pc = .ok (.sipush i, 3)) (hp : pc + 3 = pc') (hv : (Int16.ofInt i).toInt32 = v) (r : Fi p e below s n0 C S Q (T.setTop (mkF m pc' L (.int v :: st)))) : Fi p e below s n0 C S Q (T.setTop (mkF m pc L (st))) := by
  obtain ⟨locs, Y, -⟩ := X
  subst hp
  subst hv
  exact Fi.of (fun _ q => XS.sipush Y.here K.1 rfl (hb K.2.2.1 hd) q) r
theorem g_lconst (K : Cx Z p s m meth c own bytes ml rt nm) (X : Wk p l e R s m args below meth c n0 T h cells slots) {pc pc' : Nat} {L : Array Slot} {st : List Value} {k : Fin 2} {v : Int64} (hd : decode bytes pc = .ok (.lconst k, 1)) (hp : pc + 1 = pc') (hv : Int64.ofNat k = v) (r : Fi p e below s n0 C S Q (T.setTop (mkF m pc' L (.long v :: st)))) : Fi p e below s n0 C S Q (T.setTop (mkF m pc L (st))) := by
  obtain ⟨locs, Y, -⟩ := X
  subst hp
  subst hv
  exact Fi.of (fun _ q => XS.lconst Y.here K.1 rfl (hb K.2.2.1 hd) q) r
theorem g_ldcI (K : Cx Z p s m meth c own bytes ml rt nm) (X : Wk p l e R s m args below meth c n0 T h cells slots) {pc pc' : Nat} {L : Array Slot} {st : List Value} {index : Nat} {v : Int32} (hd : decode bytes pc = .ok (.ldc index, 2)) (hp : pc + 2 = pc') (w : (Cond.constant own index v).before a0 Z = true) (r : Fi p e below s n0 C S Q (T.setTop (mkF m pc' L (.int v :: st)))) : Fi p e below s n0 C S Q (T.setTop (mkF m pc L (st))) := by
  obtain ⟨locs, Y, -⟩ := X
  subst hp
  exact Fi.of (fun _ q => Y.ldcInt K.1 K.2.2.2.2.1 (mvT K.2.1 w) (g := mkF m pc L st) rfl (hb K.2.2.1 hd) _ q) r
theorem g_ldc2J (K : Cx Z p s m meth c own bytes ml rt nm) (X : Wk p l e R s m args below meth c n0 T h cells slots) {pc pc' : Nat} {L : Array Slot} {st : List Value} {index : Nat} {v : Int64} (hd : decode bytes pc = .ok (.ldc2_w index, 3)) (hp : pc + 3 = pc') (w : (Cond.constantLong own index v).before a0 Z = true) (r : Fi p e below s n0 C S Q (T.setTop (mkF m pc' L (.long v :: st)))) : Fi p e below s n0 C S Q (T.setTop (mkF m pc L (st))) := by
  obtain ⟨locs, Y, -⟩ := X
  subst hp
  exact Fi.of (fun _ q => Y.ldc2Long K.1 K.2.2.2.2.1 (mvT K.2.1 w) (g := mkF m pc L st) rfl (hb K.2.2.1 hd) _ q) r
theorem g_iadd (K : Cx Z p s m meth c own bytes ml rt nm) (X : Wk p l e R s m args below meth c n0 T h cells slots) {pc pc' : Nat} {L : Array Slot} {st : List Value} {x y : Int32} (hd : decode bytes pc = .ok (.iadd, 1)) (hp : pc + 1 = pc')  (r : Fi p e below s n0 C S Q (T.setTop (mkF m pc' L (.int (x + y) :: st)))) : Fi p e below s n0 C S Q (T.setTop (mkF m pc L (.int y :: .int x :: st))) := by
  obtain ⟨locs, Y, -⟩ := X
  subst hp
  exact Fi.of (fun _ q => XS.iadd Y.here K.1 rfl (hb K.2.2.1 hd) rfl q) r
theorem g_ladd (K : Cx Z p s m meth c own bytes ml rt nm) (X : Wk p l e R s m args below meth c n0 T h cells slots) {pc pc' : Nat} {L : Array Slot} {st : List Value} {x y : Int64} (hd : decode bytes pc = .ok (.ladd, 1)) (hp : pc + 1 = pc')  (r : Fi p e below s n0 C S Q (T.setTop (mkF m pc' L (.long (x + y) :: st)))) : Fi p e below s n0 C S Q (T.setTop (mkF m pc L (.long y :: .long x :: st))) := by
  obtain ⟨locs, Y, -⟩ := X
  subst hp
  exact Fi.of (fun _ q => XS.ladd Y.here K.1 rfl (hb K.2.2.1 hd) rfl q) r
theorem g_isub (K : Cx Z p s m meth c own bytes ml rt nm) (X : Wk p l e R s m args below meth c n0 T h cells slots) {pc pc' : Nat} {L : Array Slot} {st : List Value} {x y : Int32} (hd : decode bytes pc = .ok (.isub, 1)) (hp : pc + 1 = pc')  (r : Fi p e below s n0 C S Q (T.setTop (mkF m pc' L (.int (x - y) :: st)))) : Fi p e below s n0 C S Q (T.setTop (mkF m pc L (.int y :: .int x :: st))) := by
  obtain ⟨locs, Y, -⟩ := X
  subst hp
  exact Fi.of (fun _ q => XS.isub Y.here K.1 rfl (hb K.2.2.1 hd) rfl q) r
theorem g_lsub (K : Cx Z p s m meth c own bytes ml rt nm) (X : Wk p l e R s m args below meth c n0 T h cells slots) {pc pc' : Nat} {L : Array Slot} {st : List Value} {x y : Int64} (hd : decode bytes pc = .ok (.lsub, 1)) (hp : pc + 1 = pc')  (r : Fi p e below s n0 C S Q (T.setTop (mkF m pc' L (.long (x - y) :: st)))) : Fi p e below s n0 C S Q (T.setTop (mkF m pc L (.long y :: .long x :: st))) := by
  obtain ⟨locs, Y, -⟩ := X
  subst hp
  exact Fi.of (fun _ q => XS.lsub Y.here K.1 rfl (hb K.2.2.1 hd) rfl q) r
theorem g_imul (K : Cx Z p s m meth c own bytes ml rt nm) (X : Wk p l e R s m args below meth c n0 T h cells slots) {pc pc' : Nat} {L : Array Slot} {st : List Value} {x y : Int32} (hd : decode bytes pc = .ok (.imul, 1)) (hp : pc + 1 = pc')  (r : Fi p e below s n0 C S Q (T.setTop (mkF m pc' L (.int (x * y) :: st)))) : Fi p e below s n0 C S Q (T.setTop (mkF m pc L (.int y :: .int x :: st))) := by
  obtain ⟨locs, Y, -⟩ := X
  subst hp
  exact Fi.of (fun _ q => XS.imul Y.here K.1 rfl (hb K.2.2.1 hd) rfl q) r
theorem g_lmul (K : Cx Z p s m meth c own bytes ml rt nm) (X : Wk p l e R s m args below meth c n0 T h cells slots) {pc pc' : Nat} {L : Array Slot} {st : List Value} {x y : Int64} (hd : decode bytes pc = .ok (.lmul, 1)) (hp : pc + 1 = pc')  (r : Fi p e below s n0 C S Q (T.setTop (mkF m pc' L (.long (x * y) :: st)))) : Fi p e below s n0 C S Q (T.setTop (mkF m pc L (.long y :: .long x :: st))) := by
  obtain ⟨locs, Y, -⟩ := X
  subst hp
  exact Fi.of (fun _ q => XS.lmul Y.here K.1 rfl (hb K.2.2.1 hd) rfl q) r
theorem g_iand (K : Cx Z p s m meth c own bytes ml rt nm) (X : Wk p l e R s m args below meth c n0 T h cells slots) {pc pc' : Nat} {L : Array Slot} {st : List Value} {x y : Int32} (hd : decode bytes pc = .ok (.iand, 1)) (hp : pc + 1 = pc')  (r : Fi p e below s n0 C S Q (T.setTop (mkF m pc' L (.int (x &&& y) :: st)))) : Fi p e below s n0 C S Q (T.setTop (mkF m pc L (.int y :: .int x :: st))) := by
  obtain ⟨locs, Y, -⟩ := X
  subst hp
  exact Fi.of (fun _ q => XS.iand Y.here K.1 rfl (hb K.2.2.1 hd) rfl q) r
theorem g_land (K : Cx Z p s m meth c own bytes ml rt nm) (X : Wk p l e R s m args below meth c n0 T h cells slots) {pc pc' : Nat} {L : Array Slot} {st : List Value} {x y : Int64} (hd : decode bytes pc = .ok (.land, 1)) (hp : pc + 1 = pc')  (r : Fi p e below s n0 C S Q (T.setTop (mkF m pc' L (.long (x &&& y) :: st)))) : Fi p e below s n0 C S Q (T.setTop (mkF m pc L (.long y :: .long x :: st))) := by
  obtain ⟨locs, Y, -⟩ := X
  subst hp
  exact Fi.of (fun _ q => XS.land Y.here K.1 rfl (hb K.2.2.1 hd) rfl q) r
theorem g_ior (K : Cx Z p s m meth c own bytes ml rt nm) (X : Wk p l e R s m args below meth c n0 T h cells slots) {pc pc' : Nat} {L : Array Slot} {st : List Value} {x y : Int32} (hd : decode bytes pc = .ok (.ior, 1)) (hp : pc + 1 = pc')  (r : Fi p e below s n0 C S Q (T.setTop (mkF m pc' L (.int (x ||| y) :: st)))) : Fi p e below s n0 C S Q (T.setTop (mkF m pc L (.int y :: .int x :: st))) := by
  obtain ⟨locs, Y, -⟩ := X
  subst hp
  exact Fi.of (fun _ q => XS.ior Y.here K.1 rfl (hb K.2.2.1 hd) rfl q) r
theorem g_lor (K : Cx Z p s m meth c own bytes ml rt nm) (X : Wk p l e R s m args below meth c n0 T h cells slots) {pc pc' : Nat} {L : Array Slot} {st : List Value} {x y : Int64} (hd : decode bytes pc = .ok (.lor, 1)) (hp : pc + 1 = pc')  (r : Fi p e below s n0 C S Q (T.setTop (mkF m pc' L (.long (x ||| y) :: st)))) : Fi p e below s n0 C S Q (T.setTop (mkF m pc L (.long y :: .long x :: st))) := by
  obtain ⟨locs, Y, -⟩ := X
  subst hp
  exact Fi.of (fun _ q => XS.lor Y.here K.1 rfl (hb K.2.2.1 hd) rfl q) r
theorem g_ixor (K : Cx Z p s m meth c own bytes ml rt nm) (X : Wk p l e R s m args below meth c n0 T h cells slots) {pc pc' : Nat} {L : Array Slot} {st : List Value} {x y : Int32} (hd : decode bytes pc = .ok (.ixor, 1)) (hp : pc + 1 = pc')  (r : Fi p e below s n0 C S Q (T.setTop (mkF m pc' L (.int (x ^^^ y) :: st)))) : Fi p e below s n0 C S Q (T.setTop (mkF m pc L (.int y :: .int x :: st))) := by
  obtain ⟨locs, Y, -⟩ := X
  subst hp
  exact Fi.of (fun _ q => XS.ixor Y.here K.1 rfl (hb K.2.2.1 hd) rfl q) r
theorem g_lxor (K : Cx Z p s m meth c own bytes ml rt nm) (X : Wk p l e R s m args below meth c n0 T h cells slots) {pc pc' : Nat} {L : Array Slot} {st : List Value} {x y : Int64} (hd : decode bytes pc = .ok (.lxor, 1)) (hp : pc + 1 = pc')  (r : Fi p e below s n0 C S Q (T.setTop (mkF m pc' L (.long (x ^^^ y) :: st)))) : Fi p e below s n0 C S Q (T.setTop (mkF m pc L (.long y :: .long x :: st))) := by
  obtain ⟨locs, Y, -⟩ := X
  subst hp
  exact Fi.of (fun _ q => XS.lxor Y.here K.1 rfl (hb K.2.2.1 hd) rfl q) r
theorem g_ishl (K : Cx Z p s m meth c own bytes ml rt nm) (X : Wk p l e R s m args below meth c n0 T h cells slots) {pc pc' : Nat} {L : Array Slot} {st : List Value} {x y : Int32} (hd : decode bytes pc = .ok (.ishl, 1)) (hp : pc + 1 = pc')  (r : Fi p e below s n0 C S Q (T.setTop (mkF m pc' L (.int (jshl x y) :: st)))) : Fi p e below s n0 C S Q (T.setTop (mkF m pc L (.int y :: .int x :: st))) := by
  obtain ⟨locs, Y, -⟩ := X
  subst hp
  exact Fi.of (fun _ q => XS.ishl Y.here K.1 rfl (hb K.2.2.1 hd) rfl q) r
theorem g_lshl (K : Cx Z p s m meth c own bytes ml rt nm) (X : Wk p l e R s m args below meth c n0 T h cells slots) {pc pc' : Nat} {L : Array Slot} {st : List Value} {x : Int64} {y : Int32} (hd : decode bytes pc = .ok (.lshl, 1)) (hp : pc + 1 = pc')  (r : Fi p e below s n0 C S Q (T.setTop (mkF m pc' L (.long (jshlL x y) :: st)))) : Fi p e below s n0 C S Q (T.setTop (mkF m pc L (.int y :: .long x :: st))) := by
  obtain ⟨locs, Y, -⟩ := X
  subst hp
  exact Fi.of (fun _ q => XS.lshl Y.here K.1 rfl (hb K.2.2.1 hd) rfl q) r
theorem g_ishr (K : Cx Z p s m meth c own bytes ml rt nm) (X : Wk p l e R s m args below meth c n0 T h cells slots) {pc pc' : Nat} {L : Array Slot} {st : List Value} {x y : Int32} (hd : decode bytes pc = .ok (.ishr, 1)) (hp : pc + 1 = pc')  (r : Fi p e below s n0 C S Q (T.setTop (mkF m pc' L (.int (jshr x y) :: st)))) : Fi p e below s n0 C S Q (T.setTop (mkF m pc L (.int y :: .int x :: st))) := by
  obtain ⟨locs, Y, -⟩ := X
  subst hp
  exact Fi.of (fun _ q => XS.ishr Y.here K.1 rfl (hb K.2.2.1 hd) rfl q) r
theorem g_lshr (K : Cx Z p s m meth c own bytes ml rt nm) (X : Wk p l e R s m args below meth c n0 T h cells slots) {pc pc' : Nat} {L : Array Slot} {st : List Value} {x : Int64} {y : Int32} (hd : decode bytes pc = .ok (.lshr, 1)) (hp : pc + 1 = pc')  (r : Fi p e below s n0 C S Q (T.setTop (mkF m pc' L (.long (jshrL x y) :: st)))) : Fi p e below s n0 C S Q (T.setTop (mkF m pc L (.int y :: .long x :: st))) := by
  obtain ⟨locs, Y, -⟩ := X
  subst hp
  exact Fi.of (fun _ q => XS.lshr Y.here K.1 rfl (hb K.2.2.1 hd) rfl q) r
theorem g_iushr (K : Cx Z p s m meth c own bytes ml rt nm) (X : Wk p l e R s m args below meth c n0 T h cells slots) {pc pc' : Nat} {L : Array Slot} {st : List Value} {x y : Int32} (hd : decode bytes pc = .ok (.iushr, 1)) (hp : pc + 1 = pc')  (r : Fi p e below s n0 C S Q (T.setTop (mkF m pc' L (.int (jushr x y) :: st)))) : Fi p e below s n0 C S Q (T.setTop (mkF m pc L (.int y :: .int x :: st))) := by
  obtain ⟨locs, Y, -⟩ := X
  subst hp
  exact Fi.of (fun _ q => XS.iushr Y.here K.1 rfl (hb K.2.2.1 hd) rfl q) r
theorem g_lushr (K : Cx Z p s m meth c own bytes ml rt nm) (X : Wk p l e R s m args below meth c n0 T h cells slots) {pc pc' : Nat} {L : Array Slot} {st : List Value} {x : Int64} {y : Int32} (hd : decode bytes pc = .ok (.lushr, 1)) (hp : pc + 1 = pc')  (r : Fi p e below s n0 C S Q (T.setTop (mkF m pc' L (.long (jushrL x y) :: st)))) : Fi p e below s n0 C S Q (T.setTop (mkF m pc L (.int y :: .long x :: st))) := by
  obtain ⟨locs, Y, -⟩ := X
  subst hp
  exact Fi.of (fun _ q => XS.lushr Y.here K.1 rfl (hb K.2.2.1 hd) rfl q) r
theorem g_i2b (K : Cx Z p s m meth c own bytes ml rt nm) (X : Wk p l e R s m args below meth c n0 T h cells slots) {pc pc' : Nat} {L : Array Slot} {st : List Value} {x : Int32} (hd : decode bytes pc = .ok (.i2b, 1)) (hp : pc + 1 = pc')  (r : Fi p e below s n0 C S Q (T.setTop (mkF m pc' L (.int (jb x) :: st)))) : Fi p e below s n0 C S Q (T.setTop (mkF m pc L (.int x :: st))) := by
  obtain ⟨locs, Y, -⟩ := X
  subst hp
  exact Fi.of (fun _ q => XS.i2b Y.here K.1 rfl (hb K.2.2.1 hd) rfl q) r
theorem g_i2c (K : Cx Z p s m meth c own bytes ml rt nm) (X : Wk p l e R s m args below meth c n0 T h cells slots) {pc pc' : Nat} {L : Array Slot} {st : List Value} {x : Int32} (hd : decode bytes pc = .ok (.i2c, 1)) (hp : pc + 1 = pc')  (r : Fi p e below s n0 C S Q (T.setTop (mkF m pc' L (.int (jc x) :: st)))) : Fi p e below s n0 C S Q (T.setTop (mkF m pc L (.int x :: st))) := by
  obtain ⟨locs, Y, -⟩ := X
  subst hp
  exact Fi.of (fun _ q => XS.i2c Y.here K.1 rfl (hb K.2.2.1 hd) rfl q) r
theorem g_i2s (K : Cx Z p s m meth c own bytes ml rt nm) (X : Wk p l e R s m args below meth c n0 T h cells slots) {pc pc' : Nat} {L : Array Slot} {st : List Value} {x : Int32} (hd : decode bytes pc = .ok (.i2s, 1)) (hp : pc + 1 = pc')  (r : Fi p e below s n0 C S Q (T.setTop (mkF m pc' L (.int (js x) :: st)))) : Fi p e below s n0 C S Q (T.setTop (mkF m pc L (.int x :: st))) := by
  obtain ⟨locs, Y, -⟩ := X
  subst hp
  exact Fi.of (fun _ q => XS.i2s Y.here K.1 rfl (hb K.2.2.1 hd) rfl q) r
theorem g_i2l (K : Cx Z p s m meth c own bytes ml rt nm) (X : Wk p l e R s m args below meth c n0 T h cells slots) {pc pc' : Nat} {L : Array Slot} {st : List Value} {x : Int32} (hd : decode bytes pc = .ok (.i2l, 1)) (hp : pc + 1 = pc')  (r : Fi p e below s n0 C S Q (T.setTop (mkF m pc' L (.long (x.toInt64) :: st)))) : Fi p e below s n0 C S Q (T.setTop (mkF m pc L (.int x :: st))) := by
  obtain ⟨locs, Y, -⟩ := X
  subst hp
  exact Fi.of (fun _ q => XS.i2l Y.here K.1 rfl (hb K.2.2.1 hd) rfl q) r
theorem g_l2i (K : Cx Z p s m meth c own bytes ml rt nm) (X : Wk p l e R s m args below meth c n0 T h cells slots) {pc pc' : Nat} {L : Array Slot} {st : List Value} {x : Int64} (hd : decode bytes pc = .ok (.l2i, 1)) (hp : pc + 1 = pc')  (r : Fi p e below s n0 C S Q (T.setTop (mkF m pc' L (.int (x.toInt32) :: st)))) : Fi p e below s n0 C S Q (T.setTop (mkF m pc L (.long x :: st))) := by
  obtain ⟨locs, Y, -⟩ := X
  subst hp
  exact Fi.of (fun _ q => XS.l2i Y.here K.1 rfl (hb K.2.2.1 hd) rfl q) r
theorem g_ineg (K : Cx Z p s m meth c own bytes ml rt nm) (X : Wk p l e R s m args below meth c n0 T h cells slots) {pc pc' : Nat} {L : Array Slot} {st : List Value} {x : Int32} (hd : decode bytes pc = .ok (.ineg, 1)) (hp : pc + 1 = pc')  (r : Fi p e below s n0 C S Q (T.setTop (mkF m pc' L (.int (-x) :: st)))) : Fi p e below s n0 C S Q (T.setTop (mkF m pc L (.int x :: st))) := by
  obtain ⟨locs, Y, -⟩ := X
  subst hp
  exact Fi.of (fun _ q => XS.ineg Y.here K.1 rfl (hb K.2.2.1 hd) rfl q) r
theorem g_lneg (K : Cx Z p s m meth c own bytes ml rt nm) (X : Wk p l e R s m args below meth c n0 T h cells slots) {pc pc' : Nat} {L : Array Slot} {st : List Value} {x : Int64} (hd : decode bytes pc = .ok (.lneg, 1)) (hp : pc + 1 = pc')  (r : Fi p e below s n0 C S Q (T.setTop (mkF m pc' L (.long (-x) :: st)))) : Fi p e below s n0 C S Q (T.setTop (mkF m pc L (.long x :: st))) := by
  obtain ⟨locs, Y, -⟩ := X
  subst hp
  exact Fi.of (fun _ q => XS.lneg Y.here K.1 rfl (hb K.2.2.1 hd) rfl q) r
theorem g_idiv (K : Cx Z p s m meth c own bytes ml rt nm) (X : Wk p l e R s m args below meth c n0 T h cells slots) {pc pc' : Nat} {L : Array Slot} {st : List Value} {x y : Int32} (hd : decode bytes pc = .ok (.idiv, 1)) (hp : pc + 1 = pc') (hy : y ≠ 0) (r : Fi p e below s n0 C S Q (T.setTop (mkF m pc' L (.int (x / y) :: st)))) : Fi p e below s n0 C S Q (T.setTop (mkF m pc L (.int y :: .int x :: st))) := by
  obtain ⟨locs, Y, -⟩ := X
  subst hp
  exact Fi.of (fun _ q => XS.idiv Y.here K.1 rfl (hb K.2.2.1 hd) rfl hy q) r
theorem g_ldiv (K : Cx Z p s m meth c own bytes ml rt nm) (X : Wk p l e R s m args below meth c n0 T h cells slots) {pc pc' : Nat} {L : Array Slot} {st : List Value} {x y : Int64} (hd : decode bytes pc = .ok (.ldiv, 1)) (hp : pc + 1 = pc') (hy : y ≠ 0) (r : Fi p e below s n0 C S Q (T.setTop (mkF m pc' L (.long (x / y) :: st)))) : Fi p e below s n0 C S Q (T.setTop (mkF m pc L (.long y :: .long x :: st))) := by
  obtain ⟨locs, Y, -⟩ := X
  subst hp
  exact Fi.of (fun _ q => XS.ldiv Y.here K.1 rfl (hb K.2.2.1 hd) rfl hy q) r
theorem g_irem (K : Cx Z p s m meth c own bytes ml rt nm) (X : Wk p l e R s m args below meth c n0 T h cells slots) {pc pc' : Nat} {L : Array Slot} {st : List Value} {x y : Int32} (hd : decode bytes pc = .ok (.irem, 1)) (hp : pc + 1 = pc') (hy : y ≠ 0) (r : Fi p e below s n0 C S Q (T.setTop (mkF m pc' L (.int (x % y) :: st)))) : Fi p e below s n0 C S Q (T.setTop (mkF m pc L (.int y :: .int x :: st))) := by
  obtain ⟨locs, Y, -⟩ := X
  subst hp
  exact Fi.of (fun _ q => iremM Y K.1 rfl (hb K.2.2.1 hd) rfl hy q) r
theorem g_lrem (K : Cx Z p s m meth c own bytes ml rt nm) (X : Wk p l e R s m args below meth c n0 T h cells slots) {pc pc' : Nat} {L : Array Slot} {st : List Value} {x y : Int64} (hd : decode bytes pc = .ok (.lrem, 1)) (hp : pc + 1 = pc') (hy : y ≠ 0) (r : Fi p e below s n0 C S Q (T.setTop (mkF m pc' L (.long (x % y) :: st)))) : Fi p e below s n0 C S Q (T.setTop (mkF m pc L (.long y :: .long x :: st))) := by
  obtain ⟨locs, Y, -⟩ := X
  subst hp
  exact Fi.of (fun _ q => XS.lrem Y.here K.1 rfl (hb K.2.2.1 hd) rfl hy (by rw [lrem_mod]; exact q)) r
theorem g_iinc (K : Cx Z p s m meth c own bytes ml rt nm) (X : Wk p l e R s m args below meth c n0 T h cells slots) {pc pc' : Nat} {L : Array Slot} {st : List Value} {k : Nat} {cst : Int} {x z : Int32} {L' : Array Slot} (hd : decode bytes pc = .ok (.iinc k cst, 3)) (hp : pc + 3 = pc') (hl : L[k]? = some (.val (.int x))) (hz : x + Int32.ofInt cst = z) (hl' : storeLocals L k (.int z) = some L') (r : Fi p e below s n0 C S Q (T.setTop (mkF m pc' L' (st)))) : Fi p e below s n0 C S Q (T.setTop (mkF m pc L (st))) := by
  obtain ⟨locs, Y, -⟩ := X
  subst hp
  subst hz
  exact Fi.of (fun _ q => XS.iinc Y.here K.1 rfl (hb K.2.2.1 hd) hl hl' q) r
theorem g_dup (K : Cx Z p s m meth c own bytes ml rt nm) (X : Wk p l e R s m args below meth c n0 T h cells slots) {pc pc' : Nat} {L : Array Slot} {st : List Value} {v : Value} (hd : decode bytes pc = .ok (.dup, 1)) (hp : pc + 1 = pc') (hv : v.category = 1) (r : Fi p e below s n0 C S Q (T.setTop (mkF m pc' L (v :: v :: st)))) : Fi p e below s n0 C S Q (T.setTop (mkF m pc L (v :: st))) := by
  obtain ⟨locs, Y, -⟩ := X
  subst hp
  exact Fi.of (fun _ q => XS.dup Y.here K.1 rfl (hb K.2.2.1 hd) rfl hv q) r
theorem g_pop (K : Cx Z p s m meth c own bytes ml rt nm) (X : Wk p l e R s m args below meth c n0 T h cells slots) {pc pc' : Nat} {L : Array Slot} {st : List Value} {v : Value} (hd : decode bytes pc = .ok (.pop, 1)) (hp : pc + 1 = pc') (hv : v.category = 1) (r : Fi p e below s n0 C S Q (T.setTop (mkF m pc' L (st)))) : Fi p e below s n0 C S Q (T.setTop (mkF m pc L (v :: st))) := by
  obtain ⟨locs, Y, -⟩ := X
  subst hp
  exact Fi.of (fun _ q => XS.pop Y.here K.1 rfl (hb K.2.2.1 hd) rfl hv q) r
theorem g_goto (K : Cx Z p s m meth c own bytes ml rt nm) (X : Wk p l e R s m args below meth c n0 T h cells slots) {pc pc' : Nat} {L : Array Slot} {st : List Value} {o : Int} (hd : decode bytes pc = .ok (.goto o, 3)) (hp : (pc : Int) + o = (pc' : Int)) (r : Fi p e below s n0 C S Q (T.setTop (mkF m pc' L (st)))) : Fi p e below s n0 C S Q (T.setTop (mkF m pc L (st))) := by
  obtain ⟨locs, Y, -⟩ := X
  exact Fi.of (fun _ q => XS.goto Y.here K.1 rfl (pc0 := pc) (pc' := pc') rfl (hb K.2.2.1 hd) (by omega) (by omega) q) r
theorem i32_eq {x y : Int32} : x = y ↔ x.toInt = y.toInt := Int32.toInt_inj.symm
theorem i64_eq {x y : Int64} : x = y ↔ x.toInt = y.toInt := Int64.toInt_inj.symm
theorem h_icmp_eq {x y : Int32} : if_icmp.holds .eq x y = true ↔ x.toInt = y.toInt := by
  simp only [if_icmp.holds, decide_eq_true_eq, bne_iff_ne, beq_iff_eq, ne_eq, i32_eq, Int32.lt_iff_toInt_lt, Int32.le_iff_toInt_le, GT.gt, GE.ge]
theorem h_icmp_ne {x y : Int32} : if_icmp.holds .ne x y = true ↔ x.toInt ≠ y.toInt := by
  simp only [if_icmp.holds, decide_eq_true_eq, bne_iff_ne, beq_iff_eq, ne_eq, i32_eq, Int32.lt_iff_toInt_lt, Int32.le_iff_toInt_le, GT.gt, GE.ge]
theorem h_icmp_lt {x y : Int32} : if_icmp.holds .lt x y = true ↔ x.toInt < y.toInt := by
  simp only [if_icmp.holds, decide_eq_true_eq, bne_iff_ne, beq_iff_eq, ne_eq, i32_eq, Int32.lt_iff_toInt_lt, Int32.le_iff_toInt_le, GT.gt, GE.ge]
theorem h_icmp_ge {x y : Int32} : if_icmp.holds .ge x y = true ↔ x.toInt ≥ y.toInt := by
  simp only [if_icmp.holds, decide_eq_true_eq, bne_iff_ne, beq_iff_eq, ne_eq, i32_eq, Int32.lt_iff_toInt_lt, Int32.le_iff_toInt_le, GT.gt, GE.ge]
theorem h_icmp_gt {x y : Int32} : if_icmp.holds .gt x y = true ↔ x.toInt > y.toInt := by
  simp only [if_icmp.holds, decide_eq_true_eq, bne_iff_ne, beq_iff_eq, ne_eq, i32_eq, Int32.lt_iff_toInt_lt, Int32.le_iff_toInt_le, GT.gt, GE.ge]
theorem h_icmp_le {x y : Int32} : if_icmp.holds .le x y = true ↔ x.toInt ≤ y.toInt := by
  simp only [if_icmp.holds, decide_eq_true_eq, bne_iff_ne, beq_iff_eq, ne_eq, i32_eq, Int32.lt_iff_toInt_lt, Int32.le_iff_toInt_le, GT.gt, GE.ge]
theorem g_icmp_eq (K : Cx Z p s m meth c own bytes ml rt nm) (X : Wk p l e R s m args below meth c n0 T h cells slots) {pc pc' pc'' : Nat} {L : Array Slot} {st : List Value} {x y : Int32} {o : Int} (xv yv : Int) (hd : decode bytes pc = .ok (.if_icmp .eq o, 3)) (hp : (pc : Int) + o = (pc' : Int)) (hp' : pc + 3 = pc'') (hxv : x.toInt = xv) (hyv : y.toInt = yv) (r1 : xv = yv → Fi p e below s n0 C S Q (T.setTop (mkF m pc' L (st)))) (r2 : xv ≠ yv → Fi p e below s n0 C S Q (T.setTop (mkF m pc'' L (st)))) : Fi p e below s n0 C S Q (T.setTop (mkF m pc L (.int y :: .int x :: st))) := by
  obtain ⟨locs, Y, -⟩ := X
  subst hxv hyv hp'
  by_cases hq : if_icmp.holds .eq x y = true
  · exact Fi.of (fun _ q => XS.icmpYes Y.here K.1 rfl (pc0 := pc) (pc' := pc') rfl (hb K.2.2.1 hd) rfl hq (by omega) (by omega) q) (r1 (h_icmp_eq.mp hq))
  · exact Fi.of (fun _ q => XS.icmpNo Y.here K.1 rfl (hb K.2.2.1 hd) rfl (Bool.eq_false_iff.mpr hq) q) (r2 (by have := mt h_icmp_eq.mpr hq; omega))
theorem g_if_eq (K : Cx Z p s m meth c own bytes ml rt nm) (X : Wk p l e R s m args below meth c n0 T h cells slots) {pc pc' pc'' : Nat} {L : Array Slot} {st : List Value} {x : Int32} {o : Int} (xv : Int) (hd : decode bytes pc = .ok (.ifCond .eq o, 3)) (hp : (pc : Int) + o = (pc' : Int)) (hp' : pc + 3 = pc'') (hxv : x.toInt = xv) (r1 : xv = 0 → Fi p e below s n0 C S Q (T.setTop (mkF m pc' L (st)))) (r2 : xv ≠ 0 → Fi p e below s n0 C S Q (T.setTop (mkF m pc'' L (st)))) : Fi p e below s n0 C S Q (T.setTop (mkF m pc L (.int x :: st))) := by
  obtain ⟨locs, Y, -⟩ := X
  subst hxv hp'
  have z0 : (0 : Int32).toInt = 0 := rfl
  by_cases hq : if_icmp.holds .eq x 0 = true
  · exact Fi.of (fun _ q => XS.ifYes Y.here K.1 rfl (pc0 := pc) (pc' := pc') rfl (hb K.2.2.1 hd) rfl ((if0 _ _).trans hq) (by omega) (by omega) q) (r1 (by have := h_icmp_eq.mp hq; omega))
  · exact Fi.of (fun _ q => XS.ifNo Y.here K.1 rfl (hb K.2.2.1 hd) rfl ((if0 _ _).trans (Bool.eq_false_iff.mpr hq)) q) (r2 (by have := mt h_icmp_eq.mpr hq; omega))
theorem g_lcmp_eq (K : Cx Z p s m meth c own bytes ml rt nm) (X : Wk p l e R s m args below meth c n0 T h cells slots) {pc pc1 pc' pc'' : Nat} {L : Array Slot} {st : List Value} {x y : Int64} {o : Int} (xv yv : Int) (hd : decode bytes pc = .ok (.lcmp, 1)) (hp1 : pc + 1 = pc1) (hd1 : decode bytes pc1 = .ok (.ifCond .eq o, 3)) (hp : (pc1 : Int) + o = (pc' : Int)) (hp' : pc1 + 3 = pc'') (hxv : x.toInt = xv) (hyv : y.toInt = yv) (r1 : xv = yv → Fi p e below s n0 C S Q (T.setTop (mkF m pc' L (st)))) (r2 : xv ≠ yv → Fi p e below s n0 C S Q (T.setTop (mkF m pc'' L (st)))) : Fi p e below s n0 C S Q (T.setTop (mkF m pc L (.long y :: .long x :: st))) := by
  obtain ⟨locs, Y, -⟩ := X
  subst hxv hyv hp' hp1
  have hs : ∀ t, Steps p.tables e below (T.setTop (mkF m (pc + 1) L (.int (XT.cmpL x y) :: st))) t → Steps p.tables e below (T.setTop (mkF m pc L (.long y :: .long x :: st))) t := fun _ q => XS.lcmp Y.here K.1 rfl (hb K.2.2.1 hd) rfl q
  by_cases hq : x.toInt = y.toInt
  · exact Fi.of (fun _ q => hs _ (XS.ifYes Y.here K.1 rfl (pc0 := pc + 1) (pc' := pc') rfl (hb K.2.2.1 hd1) rfl (XT.ll_eq_t (by simpa only [ge_iff_le, gt_iff_lt, ne_eq, i64_eq, Int64.lt_iff_toInt_lt, Int64.le_iff_toInt_le, Int.not_lt] using hq)) (by omega) (by omega) q)) (r1 hq)
  · exact Fi.of (fun _ q => hs _ (XS.ifNo Y.here K.1 rfl (hb K.2.2.1 hd1) rfl (XT.ll_eq_f (by simpa only [ge_iff_le, gt_iff_lt, ne_eq, Decidable.not_not, i64_eq, Int64.lt_iff_toInt_lt, Int64.le_iff_toInt_le, Int.not_lt, Int.not_le] using hq)) q)) (r2 (by omega))
theorem g_icmp_ne (K : Cx Z p s m meth c own bytes ml rt nm) (X : Wk p l e R s m args below meth c n0 T h cells slots) {pc pc' pc'' : Nat} {L : Array Slot} {st : List Value} {x y : Int32} {o : Int} (xv yv : Int) (hd : decode bytes pc = .ok (.if_icmp .ne o, 3)) (hp : (pc : Int) + o = (pc' : Int)) (hp' : pc + 3 = pc'') (hxv : x.toInt = xv) (hyv : y.toInt = yv) (r1 : xv ≠ yv → Fi p e below s n0 C S Q (T.setTop (mkF m pc' L (st)))) (r2 : xv = yv → Fi p e below s n0 C S Q (T.setTop (mkF m pc'' L (st)))) : Fi p e below s n0 C S Q (T.setTop (mkF m pc L (.int y :: .int x :: st))) := by
  obtain ⟨locs, Y, -⟩ := X
  subst hxv hyv hp'
  by_cases hq : if_icmp.holds .ne x y = true
  · exact Fi.of (fun _ q => XS.icmpYes Y.here K.1 rfl (pc0 := pc) (pc' := pc') rfl (hb K.2.2.1 hd) rfl hq (by omega) (by omega) q) (r1 (h_icmp_ne.mp hq))
  · exact Fi.of (fun _ q => XS.icmpNo Y.here K.1 rfl (hb K.2.2.1 hd) rfl (Bool.eq_false_iff.mpr hq) q) (r2 (by have := mt h_icmp_ne.mpr hq; omega))
theorem g_if_ne (K : Cx Z p s m meth c own bytes ml rt nm) (X : Wk p l e R s m args below meth c n0 T h cells slots) {pc pc' pc'' : Nat} {L : Array Slot} {st : List Value} {x : Int32} {o : Int} (xv : Int) (hd : decode bytes pc = .ok (.ifCond .ne o, 3)) (hp : (pc : Int) + o = (pc' : Int)) (hp' : pc + 3 = pc'') (hxv : x.toInt = xv) (r1 : xv ≠ 0 → Fi p e below s n0 C S Q (T.setTop (mkF m pc' L (st)))) (r2 : xv = 0 → Fi p e below s n0 C S Q (T.setTop (mkF m pc'' L (st)))) : Fi p e below s n0 C S Q (T.setTop (mkF m pc L (.int x :: st))) := by
  obtain ⟨locs, Y, -⟩ := X
  subst hxv hp'
  have z0 : (0 : Int32).toInt = 0 := rfl
  by_cases hq : if_icmp.holds .ne x 0 = true
  · exact Fi.of (fun _ q => XS.ifYes Y.here K.1 rfl (pc0 := pc) (pc' := pc') rfl (hb K.2.2.1 hd) rfl ((if0 _ _).trans hq) (by omega) (by omega) q) (r1 (by have := h_icmp_ne.mp hq; omega))
  · exact Fi.of (fun _ q => XS.ifNo Y.here K.1 rfl (hb K.2.2.1 hd) rfl ((if0 _ _).trans (Bool.eq_false_iff.mpr hq)) q) (r2 (by have := mt h_icmp_ne.mpr hq; omega))
theorem g_lcmp_ne (K : Cx Z p s m meth c own bytes ml rt nm) (X : Wk p l e R s m args below meth c n0 T h cells slots) {pc pc1 pc' pc'' : Nat} {L : Array Slot} {st : List Value} {x y : Int64} {o : Int} (xv yv : Int) (hd : decode bytes pc = .ok (.lcmp, 1)) (hp1 : pc + 1 = pc1) (hd1 : decode bytes pc1 = .ok (.ifCond .ne o, 3)) (hp : (pc1 : Int) + o = (pc' : Int)) (hp' : pc1 + 3 = pc'') (hxv : x.toInt = xv) (hyv : y.toInt = yv) (r1 : xv ≠ yv → Fi p e below s n0 C S Q (T.setTop (mkF m pc' L (st)))) (r2 : xv = yv → Fi p e below s n0 C S Q (T.setTop (mkF m pc'' L (st)))) : Fi p e below s n0 C S Q (T.setTop (mkF m pc L (.long y :: .long x :: st))) := by
  obtain ⟨locs, Y, -⟩ := X
  subst hxv hyv hp' hp1
  have hs : ∀ t, Steps p.tables e below (T.setTop (mkF m (pc + 1) L (.int (XT.cmpL x y) :: st))) t → Steps p.tables e below (T.setTop (mkF m pc L (.long y :: .long x :: st))) t := fun _ q => XS.lcmp Y.here K.1 rfl (hb K.2.2.1 hd) rfl q
  by_cases hq : x.toInt ≠ y.toInt
  · exact Fi.of (fun _ q => hs _ (XS.ifYes Y.here K.1 rfl (pc0 := pc + 1) (pc' := pc') rfl (hb K.2.2.1 hd1) rfl (XT.ll_ne_t (by simpa only [ge_iff_le, gt_iff_lt, ne_eq, i64_eq, Int64.lt_iff_toInt_lt, Int64.le_iff_toInt_le, Int.not_lt] using hq)) (by omega) (by omega) q)) (r1 hq)
  · exact Fi.of (fun _ q => hs _ (XS.ifNo Y.here K.1 rfl (hb K.2.2.1 hd1) rfl (XT.ll_ne_f (by simpa only [ge_iff_le, gt_iff_lt, ne_eq, Decidable.not_not, i64_eq, Int64.lt_iff_toInt_lt, Int64.le_iff_toInt_le, Int.not_lt, Int.not_le] using hq)) q)) (r2 (by omega))
theorem g_icmp_lt (K : Cx Z p s m meth c own bytes ml rt nm) (X : Wk p l e R s m args below meth c n0 T h cells slots) {pc pc' pc'' : Nat} {L : Array Slot} {st : List Value} {x y : Int32} {o : Int} (xv yv : Int) (hd : decode bytes pc = .ok (.if_icmp .lt o, 3)) (hp : (pc : Int) + o = (pc' : Int)) (hp' : pc + 3 = pc'') (hxv : x.toInt = xv) (hyv : y.toInt = yv) (r1 : xv < yv → Fi p e below s n0 C S Q (T.setTop (mkF m pc' L (st)))) (r2 : xv ≥ yv → Fi p e below s n0 C S Q (T.setTop (mkF m pc'' L (st)))) : Fi p e below s n0 C S Q (T.setTop (mkF m pc L (.int y :: .int x :: st))) := by
  obtain ⟨locs, Y, -⟩ := X
  subst hxv hyv hp'
  by_cases hq : if_icmp.holds .lt x y = true
  · exact Fi.of (fun _ q => XS.icmpYes Y.here K.1 rfl (pc0 := pc) (pc' := pc') rfl (hb K.2.2.1 hd) rfl hq (by omega) (by omega) q) (r1 (h_icmp_lt.mp hq))
  · exact Fi.of (fun _ q => XS.icmpNo Y.here K.1 rfl (hb K.2.2.1 hd) rfl (Bool.eq_false_iff.mpr hq) q) (r2 (by have := mt h_icmp_lt.mpr hq; omega))
theorem g_if_lt (K : Cx Z p s m meth c own bytes ml rt nm) (X : Wk p l e R s m args below meth c n0 T h cells slots) {pc pc' pc'' : Nat} {L : Array Slot} {st : List Value} {x : Int32} {o : Int} (xv : Int) (hd : decode bytes pc = .ok (.ifCond .lt o, 3)) (hp : (pc : Int) + o = (pc' : Int)) (hp' : pc + 3 = pc'') (hxv : x.toInt = xv) (r1 : xv < 0 → Fi p e below s n0 C S Q (T.setTop (mkF m pc' L (st)))) (r2 : xv ≥ 0 → Fi p e below s n0 C S Q (T.setTop (mkF m pc'' L (st)))) : Fi p e below s n0 C S Q (T.setTop (mkF m pc L (.int x :: st))) := by
  obtain ⟨locs, Y, -⟩ := X
  subst hxv hp'
  have z0 : (0 : Int32).toInt = 0 := rfl
  by_cases hq : if_icmp.holds .lt x 0 = true
  · exact Fi.of (fun _ q => XS.ifYes Y.here K.1 rfl (pc0 := pc) (pc' := pc') rfl (hb K.2.2.1 hd) rfl ((if0 _ _).trans hq) (by omega) (by omega) q) (r1 (by have := h_icmp_lt.mp hq; omega))
  · exact Fi.of (fun _ q => XS.ifNo Y.here K.1 rfl (hb K.2.2.1 hd) rfl ((if0 _ _).trans (Bool.eq_false_iff.mpr hq)) q) (r2 (by have := mt h_icmp_lt.mpr hq; omega))
theorem g_lcmp_lt (K : Cx Z p s m meth c own bytes ml rt nm) (X : Wk p l e R s m args below meth c n0 T h cells slots) {pc pc1 pc' pc'' : Nat} {L : Array Slot} {st : List Value} {x y : Int64} {o : Int} (xv yv : Int) (hd : decode bytes pc = .ok (.lcmp, 1)) (hp1 : pc + 1 = pc1) (hd1 : decode bytes pc1 = .ok (.ifCond .lt o, 3)) (hp : (pc1 : Int) + o = (pc' : Int)) (hp' : pc1 + 3 = pc'') (hxv : x.toInt = xv) (hyv : y.toInt = yv) (r1 : xv < yv → Fi p e below s n0 C S Q (T.setTop (mkF m pc' L (st)))) (r2 : xv ≥ yv → Fi p e below s n0 C S Q (T.setTop (mkF m pc'' L (st)))) : Fi p e below s n0 C S Q (T.setTop (mkF m pc L (.long y :: .long x :: st))) := by
  obtain ⟨locs, Y, -⟩ := X
  subst hxv hyv hp' hp1
  have hs : ∀ t, Steps p.tables e below (T.setTop (mkF m (pc + 1) L (.int (XT.cmpL x y) :: st))) t → Steps p.tables e below (T.setTop (mkF m pc L (.long y :: .long x :: st))) t := fun _ q => XS.lcmp Y.here K.1 rfl (hb K.2.2.1 hd) rfl q
  by_cases hq : x.toInt < y.toInt
  · exact Fi.of (fun _ q => hs _ (XS.ifYes Y.here K.1 rfl (pc0 := pc + 1) (pc' := pc') rfl (hb K.2.2.1 hd1) rfl (XT.ll_lt_t (by simpa only [ge_iff_le, gt_iff_lt, ne_eq, i64_eq, Int64.lt_iff_toInt_lt, Int64.le_iff_toInt_le, Int.not_lt] using hq)) (by omega) (by omega) q)) (r1 hq)
  · exact Fi.of (fun _ q => hs _ (XS.ifNo Y.here K.1 rfl (hb K.2.2.1 hd1) rfl (XT.ll_lt_f (by simpa only [ge_iff_le, gt_iff_lt, ne_eq, Decidable.not_not, i64_eq, Int64.lt_iff_toInt_lt, Int64.le_iff_toInt_le, Int.not_lt, Int.not_le] using hq)) q)) (r2 (by omega))
theorem g_icmp_ge (K : Cx Z p s m meth c own bytes ml rt nm) (X : Wk p l e R s m args below meth c n0 T h cells slots) {pc pc' pc'' : Nat} {L : Array Slot} {st : List Value} {x y : Int32} {o : Int} (xv yv : Int) (hd : decode bytes pc = .ok (.if_icmp .ge o, 3)) (hp : (pc : Int) + o = (pc' : Int)) (hp' : pc + 3 = pc'') (hxv : x.toInt = xv) (hyv : y.toInt = yv) (r1 : xv ≥ yv → Fi p e below s n0 C S Q (T.setTop (mkF m pc' L (st)))) (r2 : xv < yv → Fi p e below s n0 C S Q (T.setTop (mkF m pc'' L (st)))) : Fi p e below s n0 C S Q (T.setTop (mkF m pc L (.int y :: .int x :: st))) := by
  obtain ⟨locs, Y, -⟩ := X
  subst hxv hyv hp'
  by_cases hq : if_icmp.holds .ge x y = true
  · exact Fi.of (fun _ q => XS.icmpYes Y.here K.1 rfl (pc0 := pc) (pc' := pc') rfl (hb K.2.2.1 hd) rfl hq (by omega) (by omega) q) (r1 (h_icmp_ge.mp hq))
  · exact Fi.of (fun _ q => XS.icmpNo Y.here K.1 rfl (hb K.2.2.1 hd) rfl (Bool.eq_false_iff.mpr hq) q) (r2 (by have := mt h_icmp_ge.mpr hq; omega))
theorem g_if_ge (K : Cx Z p s m meth c own bytes ml rt nm) (X : Wk p l e R s m args below meth c n0 T h cells slots) {pc pc' pc'' : Nat} {L : Array Slot} {st : List Value} {x : Int32} {o : Int} (xv : Int) (hd : decode bytes pc = .ok (.ifCond .ge o, 3)) (hp : (pc : Int) + o = (pc' : Int)) (hp' : pc + 3 = pc'') (hxv : x.toInt = xv) (r1 : xv ≥ 0 → Fi p e below s n0 C S Q (T.setTop (mkF m pc' L (st)))) (r2 : xv < 0 → Fi p e below s n0 C S Q (T.setTop (mkF m pc'' L (st)))) : Fi p e below s n0 C S Q (T.setTop (mkF m pc L (.int x :: st))) := by
  obtain ⟨locs, Y, -⟩ := X
  subst hxv hp'
  have z0 : (0 : Int32).toInt = 0 := rfl
  by_cases hq : if_icmp.holds .ge x 0 = true
  · exact Fi.of (fun _ q => XS.ifYes Y.here K.1 rfl (pc0 := pc) (pc' := pc') rfl (hb K.2.2.1 hd) rfl ((if0 _ _).trans hq) (by omega) (by omega) q) (r1 (by have := h_icmp_ge.mp hq; omega))
  · exact Fi.of (fun _ q => XS.ifNo Y.here K.1 rfl (hb K.2.2.1 hd) rfl ((if0 _ _).trans (Bool.eq_false_iff.mpr hq)) q) (r2 (by have := mt h_icmp_ge.mpr hq; omega))
theorem g_lcmp_ge (K : Cx Z p s m meth c own bytes ml rt nm) (X : Wk p l e R s m args below meth c n0 T h cells slots) {pc pc1 pc' pc'' : Nat} {L : Array Slot} {st : List Value} {x y : Int64} {o : Int} (xv yv : Int) (hd : decode bytes pc = .ok (.lcmp, 1)) (hp1 : pc + 1 = pc1) (hd1 : decode bytes pc1 = .ok (.ifCond .ge o, 3)) (hp : (pc1 : Int) + o = (pc' : Int)) (hp' : pc1 + 3 = pc'') (hxv : x.toInt = xv) (hyv : y.toInt = yv) (r1 : xv ≥ yv → Fi p e below s n0 C S Q (T.setTop (mkF m pc' L (st)))) (r2 : xv < yv → Fi p e below s n0 C S Q (T.setTop (mkF m pc'' L (st)))) : Fi p e below s n0 C S Q (T.setTop (mkF m pc L (.long y :: .long x :: st))) := by
  obtain ⟨locs, Y, -⟩ := X
  subst hxv hyv hp' hp1
  have hs : ∀ t, Steps p.tables e below (T.setTop (mkF m (pc + 1) L (.int (XT.cmpL x y) :: st))) t → Steps p.tables e below (T.setTop (mkF m pc L (.long y :: .long x :: st))) t := fun _ q => XS.lcmp Y.here K.1 rfl (hb K.2.2.1 hd) rfl q
  by_cases hq : x.toInt ≥ y.toInt
  · exact Fi.of (fun _ q => hs _ (XS.ifYes Y.here K.1 rfl (pc0 := pc + 1) (pc' := pc') rfl (hb K.2.2.1 hd1) rfl (XT.ll_ge_t (by simpa only [ge_iff_le, gt_iff_lt, ne_eq, i64_eq, Int64.lt_iff_toInt_lt, Int64.le_iff_toInt_le, Int.not_lt] using hq)) (by omega) (by omega) q)) (r1 hq)
  · exact Fi.of (fun _ q => hs _ (XS.ifNo Y.here K.1 rfl (hb K.2.2.1 hd1) rfl (XT.ll_ge_f (by simpa only [ge_iff_le, gt_iff_lt, ne_eq, Decidable.not_not, i64_eq, Int64.lt_iff_toInt_lt, Int64.le_iff_toInt_le, Int.not_lt, Int.not_le] using hq)) q)) (r2 (by omega))
theorem g_icmp_gt (K : Cx Z p s m meth c own bytes ml rt nm) (X : Wk p l e R s m args below meth c n0 T h cells slots) {pc pc' pc'' : Nat} {L : Array Slot} {st : List Value} {x y : Int32} {o : Int} (xv yv : Int) (hd : decode bytes pc = .ok (.if_icmp .gt o, 3)) (hp : (pc : Int) + o = (pc' : Int)) (hp' : pc + 3 = pc'') (hxv : x.toInt = xv) (hyv : y.toInt = yv) (r1 : xv > yv → Fi p e below s n0 C S Q (T.setTop (mkF m pc' L (st)))) (r2 : xv ≤ yv → Fi p e below s n0 C S Q (T.setTop (mkF m pc'' L (st)))) : Fi p e below s n0 C S Q (T.setTop (mkF m pc L (.int y :: .int x :: st))) := by
  obtain ⟨locs, Y, -⟩ := X
  subst hxv hyv hp'
  by_cases hq : if_icmp.holds .gt x y = true
  · exact Fi.of (fun _ q => XS.icmpYes Y.here K.1 rfl (pc0 := pc) (pc' := pc') rfl (hb K.2.2.1 hd) rfl hq (by omega) (by omega) q) (r1 (h_icmp_gt.mp hq))
  · exact Fi.of (fun _ q => XS.icmpNo Y.here K.1 rfl (hb K.2.2.1 hd) rfl (Bool.eq_false_iff.mpr hq) q) (r2 (by have := mt h_icmp_gt.mpr hq; omega))
theorem g_if_gt (K : Cx Z p s m meth c own bytes ml rt nm) (X : Wk p l e R s m args below meth c n0 T h cells slots) {pc pc' pc'' : Nat} {L : Array Slot} {st : List Value} {x : Int32} {o : Int} (xv : Int) (hd : decode bytes pc = .ok (.ifCond .gt o, 3)) (hp : (pc : Int) + o = (pc' : Int)) (hp' : pc + 3 = pc'') (hxv : x.toInt = xv) (r1 : xv > 0 → Fi p e below s n0 C S Q (T.setTop (mkF m pc' L (st)))) (r2 : xv ≤ 0 → Fi p e below s n0 C S Q (T.setTop (mkF m pc'' L (st)))) : Fi p e below s n0 C S Q (T.setTop (mkF m pc L (.int x :: st))) := by
  obtain ⟨locs, Y, -⟩ := X
  subst hxv hp'
  have z0 : (0 : Int32).toInt = 0 := rfl
  by_cases hq : if_icmp.holds .gt x 0 = true
  · exact Fi.of (fun _ q => XS.ifYes Y.here K.1 rfl (pc0 := pc) (pc' := pc') rfl (hb K.2.2.1 hd) rfl ((if0 _ _).trans hq) (by omega) (by omega) q) (r1 (by have := h_icmp_gt.mp hq; omega))
  · exact Fi.of (fun _ q => XS.ifNo Y.here K.1 rfl (hb K.2.2.1 hd) rfl ((if0 _ _).trans (Bool.eq_false_iff.mpr hq)) q) (r2 (by have := mt h_icmp_gt.mpr hq; omega))
theorem g_lcmp_gt (K : Cx Z p s m meth c own bytes ml rt nm) (X : Wk p l e R s m args below meth c n0 T h cells slots) {pc pc1 pc' pc'' : Nat} {L : Array Slot} {st : List Value} {x y : Int64} {o : Int} (xv yv : Int) (hd : decode bytes pc = .ok (.lcmp, 1)) (hp1 : pc + 1 = pc1) (hd1 : decode bytes pc1 = .ok (.ifCond .gt o, 3)) (hp : (pc1 : Int) + o = (pc' : Int)) (hp' : pc1 + 3 = pc'') (hxv : x.toInt = xv) (hyv : y.toInt = yv) (r1 : xv > yv → Fi p e below s n0 C S Q (T.setTop (mkF m pc' L (st)))) (r2 : xv ≤ yv → Fi p e below s n0 C S Q (T.setTop (mkF m pc'' L (st)))) : Fi p e below s n0 C S Q (T.setTop (mkF m pc L (.long y :: .long x :: st))) := by
  obtain ⟨locs, Y, -⟩ := X
  subst hxv hyv hp' hp1
  have hs : ∀ t, Steps p.tables e below (T.setTop (mkF m (pc + 1) L (.int (XT.cmpL x y) :: st))) t → Steps p.tables e below (T.setTop (mkF m pc L (.long y :: .long x :: st))) t := fun _ q => XS.lcmp Y.here K.1 rfl (hb K.2.2.1 hd) rfl q
  by_cases hq : x.toInt > y.toInt
  · exact Fi.of (fun _ q => hs _ (XS.ifYes Y.here K.1 rfl (pc0 := pc + 1) (pc' := pc') rfl (hb K.2.2.1 hd1) rfl (XT.ll_gt_t (by simpa only [ge_iff_le, gt_iff_lt, ne_eq, i64_eq, Int64.lt_iff_toInt_lt, Int64.le_iff_toInt_le, Int.not_lt] using hq)) (by omega) (by omega) q)) (r1 hq)
  · exact Fi.of (fun _ q => hs _ (XS.ifNo Y.here K.1 rfl (hb K.2.2.1 hd1) rfl (XT.ll_gt_f (by simpa only [ge_iff_le, gt_iff_lt, ne_eq, Decidable.not_not, i64_eq, Int64.lt_iff_toInt_lt, Int64.le_iff_toInt_le, Int.not_lt, Int.not_le] using hq)) q)) (r2 (by omega))
theorem g_icmp_le (K : Cx Z p s m meth c own bytes ml rt nm) (X : Wk p l e R s m args below meth c n0 T h cells slots) {pc pc' pc'' : Nat} {L : Array Slot} {st : List Value} {x y : Int32} {o : Int} (xv yv : Int) (hd : decode bytes pc = .ok (.if_icmp .le o, 3)) (hp : (pc : Int) + o = (pc' : Int)) (hp' : pc + 3 = pc'') (hxv : x.toInt = xv) (hyv : y.toInt = yv) (r1 : xv ≤ yv → Fi p e below s n0 C S Q (T.setTop (mkF m pc' L (st)))) (r2 : xv > yv → Fi p e below s n0 C S Q (T.setTop (mkF m pc'' L (st)))) : Fi p e below s n0 C S Q (T.setTop (mkF m pc L (.int y :: .int x :: st))) := by
  obtain ⟨locs, Y, -⟩ := X
  subst hxv hyv hp'
  by_cases hq : if_icmp.holds .le x y = true
  · exact Fi.of (fun _ q => XS.icmpYes Y.here K.1 rfl (pc0 := pc) (pc' := pc') rfl (hb K.2.2.1 hd) rfl hq (by omega) (by omega) q) (r1 (h_icmp_le.mp hq))
  · exact Fi.of (fun _ q => XS.icmpNo Y.here K.1 rfl (hb K.2.2.1 hd) rfl (Bool.eq_false_iff.mpr hq) q) (r2 (by have := mt h_icmp_le.mpr hq; omega))
theorem g_if_le (K : Cx Z p s m meth c own bytes ml rt nm) (X : Wk p l e R s m args below meth c n0 T h cells slots) {pc pc' pc'' : Nat} {L : Array Slot} {st : List Value} {x : Int32} {o : Int} (xv : Int) (hd : decode bytes pc = .ok (.ifCond .le o, 3)) (hp : (pc : Int) + o = (pc' : Int)) (hp' : pc + 3 = pc'') (hxv : x.toInt = xv) (r1 : xv ≤ 0 → Fi p e below s n0 C S Q (T.setTop (mkF m pc' L (st)))) (r2 : xv > 0 → Fi p e below s n0 C S Q (T.setTop (mkF m pc'' L (st)))) : Fi p e below s n0 C S Q (T.setTop (mkF m pc L (.int x :: st))) := by
  obtain ⟨locs, Y, -⟩ := X
  subst hxv hp'
  have z0 : (0 : Int32).toInt = 0 := rfl
  by_cases hq : if_icmp.holds .le x 0 = true
  · exact Fi.of (fun _ q => XS.ifYes Y.here K.1 rfl (pc0 := pc) (pc' := pc') rfl (hb K.2.2.1 hd) rfl ((if0 _ _).trans hq) (by omega) (by omega) q) (r1 (by have := h_icmp_le.mp hq; omega))
  · exact Fi.of (fun _ q => XS.ifNo Y.here K.1 rfl (hb K.2.2.1 hd) rfl ((if0 _ _).trans (Bool.eq_false_iff.mpr hq)) q) (r2 (by have := mt h_icmp_le.mpr hq; omega))
theorem g_lcmp_le (K : Cx Z p s m meth c own bytes ml rt nm) (X : Wk p l e R s m args below meth c n0 T h cells slots) {pc pc1 pc' pc'' : Nat} {L : Array Slot} {st : List Value} {x y : Int64} {o : Int} (xv yv : Int) (hd : decode bytes pc = .ok (.lcmp, 1)) (hp1 : pc + 1 = pc1) (hd1 : decode bytes pc1 = .ok (.ifCond .le o, 3)) (hp : (pc1 : Int) + o = (pc' : Int)) (hp' : pc1 + 3 = pc'') (hxv : x.toInt = xv) (hyv : y.toInt = yv) (r1 : xv ≤ yv → Fi p e below s n0 C S Q (T.setTop (mkF m pc' L (st)))) (r2 : xv > yv → Fi p e below s n0 C S Q (T.setTop (mkF m pc'' L (st)))) : Fi p e below s n0 C S Q (T.setTop (mkF m pc L (.long y :: .long x :: st))) := by
  obtain ⟨locs, Y, -⟩ := X
  subst hxv hyv hp' hp1
  have hs : ∀ t, Steps p.tables e below (T.setTop (mkF m (pc + 1) L (.int (XT.cmpL x y) :: st))) t → Steps p.tables e below (T.setTop (mkF m pc L (.long y :: .long x :: st))) t := fun _ q => XS.lcmp Y.here K.1 rfl (hb K.2.2.1 hd) rfl q
  by_cases hq : x.toInt ≤ y.toInt
  · exact Fi.of (fun _ q => hs _ (XS.ifYes Y.here K.1 rfl (pc0 := pc + 1) (pc' := pc') rfl (hb K.2.2.1 hd1) rfl (XT.ll_le_t (by simpa only [ge_iff_le, gt_iff_lt, ne_eq, i64_eq, Int64.lt_iff_toInt_lt, Int64.le_iff_toInt_le, Int.not_lt] using hq)) (by omega) (by omega) q)) (r1 hq)
  · exact Fi.of (fun _ q => hs _ (XS.ifNo Y.here K.1 rfl (hb K.2.2.1 hd1) rfl (XT.ll_le_f (by simpa only [ge_iff_le, gt_iff_lt, ne_eq, Decidable.not_not, i64_eq, Int64.lt_iff_toInt_lt, Int64.le_iff_toInt_le, Int.not_lt, Int.not_le] using hq)) q)) (r2 (by omega))
theorem g_leave (K : Cx Z p s m meth c own bytes ml rt nm) (X : Wk p l e R s m args below meth c n0 T h cells slots) {v : Option Value} {t0 : State} (hv : rt = none → v = none) (hc : cells ≤ C) (hs : slots ≤ S) (hq : Q v h)
    (st : ∀ fs, (∀ (f : JFrame) (acts : List Action), f.method = m → f.locked = none → f.entered = [] → (doReturn e (T.setTop f) acts v).1 = T.setFrames fs) → Steps p.tables e below t0 (T.setFrames fs)) : Fi p e below s n0 C S Q t0 := by
  obtain ⟨locs, Y, rfl, hF, -⟩ := X
  obtain ⟨fs, hr, hrun, hended, hW, hsame⟩ := Y.leave (v := v) (fun q => hv (K.2.2.2.2.2.1.symm.trans q)) K.2.2.2.2.2.2.1
  exact ⟨_, _, st fs hr, hrun, hended, v, locs, rfl, ⟨hq, hF⟩, ⟨_, rfl⟩, hW, hsame.mono hc hs⟩
theorem g_retN {t : FieldType} (K : Cx Z p s m meth c own bytes ml (some t) nm) (X : Wk p l e R s m args below meth c n0 T h cells slots) {pc : Nat} {L : Array Slot} {z : Int32} {rest : List Value} (hd : decode bytes pc = .ok (.ireturn, 1)) (ht : t = .boolean ∨ t = .byte ∨ t = .char ∨ t = .short) (hc : cells ≤ C) (hs : slots ≤ S) (hq : Q (some (.int (nar t z))) h) : Fi p e below s n0 C S Q (T.setTop (mkF m pc L (.int z :: rest))) := by
  refine g_leave K X (v := some (.int (nar t z))) (fun q => by cases q) hc hs hq (fun fs hr => ?_)
  obtain ⟨locs, Y, -⟩ := X
  exact retN Y K.1 (t := t) K.2.2.2.2.2.1 ht (hb K.2.2.1 hd) hr
theorem g_retI (K : Cx Z p s m meth c own bytes ml (some .int) nm) (X : Wk p l e R s m args below meth c n0 T h cells slots) {pc : Nat} {L : Array Slot} {z : Int32} {rest : List Value} (hd : decode bytes pc = .ok (.ireturn, 1)) (hc : cells ≤ C) (hs : slots ≤ S) (hq : Q (some (.int z)) h) : Fi p e below s n0 C S Q (T.setTop (mkF m pc L (.int z :: rest))) := by
  refine g_leave K X (v := some (.int z)) (fun q => by cases q) hc hs hq (fun fs hr => ?_)
  obtain ⟨locs, Y, -⟩ := X
  exact retOut Y K.1 K.2.2.2.2.2.1 rfl (Or.inl ⟨rfl, Or.inl rfl, _, rfl⟩) (hb K.2.2.1 hd) hr
theorem g_retL (K : Cx Z p s m meth c own bytes ml (some .long) nm) (X : Wk p l e R s m args below meth c n0 T h cells slots) {pc : Nat} {L : Array Slot} {z : Int64} {rest : List Value} (hd : decode bytes pc = .ok (.lreturn, 1)) (hc : cells ≤ C) (hs : slots ≤ S) (hq : Q (some (.long z)) h) : Fi p e below s n0 C S Q (T.setTop (mkF m pc L (.long z :: rest))) := by
  refine g_leave K X (v := some (.long z)) (fun q => by cases q) hc hs hq (fun fs hr => ?_)
  obtain ⟨locs, Y, -⟩ := X
  exact retOut Y K.1 K.2.2.2.2.2.1 rfl (Or.inr (Or.inl ⟨rfl, rfl, _, rfl⟩)) (hb K.2.2.1 hd) hr
theorem g_retA {t : FieldType} (K : Cx Z p s m meth c own bytes ml (some t) nm) (X : Wk p l e R s m args below meth c n0 T h cells slots) {pc : Nat} {L : Array Slot} {a : Addr} {rest : List Value} (hd : decode bytes pc = .ok (.areturn, 1)) (ht : t.isReference = true) (hnw : narrow t (.ref a) = .ref a) (hc : cells ≤ C) (hs : slots ≤ S) (hq : Q (some (.ref a)) h) : Fi p e below s n0 C S Q (T.setTop (mkF m pc L (.ref a :: rest))) := by
  refine g_leave K X (v := some (.ref a)) (fun q => by cases q) hc hs hq (fun fs hr => ?_)
  obtain ⟨locs, Y, -⟩ := X
  exact retOut Y K.1 K.2.2.2.2.2.1 hnw (Or.inr (Or.inr (Or.inr (Or.inr ⟨rfl, ht, rfl⟩)))) (hb K.2.2.1 hd) hr
theorem g_ret0 (K : Cx Z p s m meth c own bytes ml none nm) (X : Wk p l e R s m args below meth c n0 T h cells slots) {pc : Nat} {L : Array Slot} (hd : decode bytes pc = .ok (.return_, 1)) (hc : cells ≤ C) (hs : slots ≤ S) (hq : Q none h) : Fi p e below s n0 C S Q (T.setTop (mkF m pc L [])) := by
  refine g_leave K X (v := none) (fun q => rfl) hc hs hq (fun fs hr => ?_)
  obtain ⟨locs, Y, -⟩ := X
  exact Y.returnOut K.1 K.2.2.2.2.2.1 (hb K.2.2.1 hd) hr
theorem keep_same {h0 h1 h2 : Heap} {ws : List Addr} (K1 : Keep h0 h1 ws) (K2 : Keep h1 h2 ws) : Keep h0 h2 ws := K1.trans K2 (fun x hx => Or.inl hx)
/-! arrays by a function of the place -/
def upd {α : Type} (f : Nat → α) (i : Nat) (v : α) : Nat → α := fun j => if j = i then v else f j
theorem upd_hit {α : Type} (f : Nat → α) (i : Nat) (v : α) : upd f i v i = v := by simp [upd]
theorem upd_miss {α : Type} (f : Nat → α) {i j : Nat} (v : α) (hn : j ≠ i) : upd f i v j = f j := by simp [upd, hn]
def AN (Z : State) (h : Heap) (a : Addr) (ty : FieldType) (n : Nat) (f : Nat → Int32) : Prop := ∃ c : Cell, Arr Z h a c ty ∧ c.slots.size = n ∧ n < 2147483648 ∧ ∀ i, i < n → c.slots[i]? = some (.int (f i))
def AL (Z : State) (h : Heap) (a : Addr) (n : Nat) (f : Nat → Int64) : Prop := ∃ c : Cell, Arr Z h a c .long ∧ c.slots.size = n ∧ n < 2147483648 ∧ ∀ i, i < n → c.slots[i]? = some (.long (f i))
theorem j_in {j : Int32} {i n : Nat} (hj : j.toInt = (i : Int)) (hi : i < n) : ¬ (j < 0 ∨ n ≤ j.toNatClampNeg) ∧ j.toNatClampNeg = i := by
  have h1 : j.toNatClampNeg = i := by
    show j.toInt.toNat = i
    omega
  have h2 : ¬ j < 0 := by rw [Int32.lt_iff_toInt_lt]; show ¬ j.toInt < 0; omega
  exact ⟨fun q => q.elim h2 (by omega), h1⟩
theorem AN.lt {a : Addr} {ty : FieldType} {n : Nat} {f : Nat → Int32} (A : AN Z h a ty n f) : a < h.size := by obtain ⟨c, A, -⟩ := A; exact A.lt
theorem AN.ext {h' : Heap} {a : Addr} {ty : FieldType} {n : Nat} {f : Nat → Int32} (A : AN Z h a ty n f) (E : Ext h h') : AN Z h' a ty n f := by obtain ⟨c, A, r⟩ := A; exact ⟨c, A.ext E, r⟩
theorem AN.keep {h' : Heap} {ws : List Addr} {a : Addr} {ty : FieldType} {n : Nat} {f : Nat → Int32} (A : AN Z h a ty n f) (K : Keep h h' ws) (q : a ∉ ws) : AN Z h' a ty n f := by obtain ⟨c, A, r⟩ := A; exact ⟨c, ⟨K.2.1 a c A.1 q, A.2⟩, r⟩
theorem AN.congr {a : Addr} {ty : FieldType} {n : Nat} {f f' : Nat → Int32} (A : AN Z h a ty n f) (q : ∀ i, i < n → f i = f' i) : AN Z h a ty n f' := by obtain ⟨c, A, r1, r2, r3⟩ := A; exact ⟨c, A, r1, r2, fun i hi => by rw [← q i hi]; exact r3 i hi⟩
theorem AN.set {h' : Heap} {a : Addr} {ty : FieldType} {n i : Nat} {f : Nat → Int32} {v : Int32} {c : Cell} (A : Arr Z h a c ty) (q1 : c.slots.size = n) (q2 : n < 2147483648) (q3 : ∀ i, i < n → c.slots[i]? = some (.int (f i))) (hi : i < n) (W : Wr h h' a i (.int v)) : AN Z h' a ty n (upd f i v) := by
  refine ⟨_, A.same W, ?_, q2, fun k hk => ?_⟩
  · rw [sz_set]; exact q1
  · by_cases hki : k = i
    · subst hki
      simp [Cell.setSlot, upd, q1, hi]
    · have : ¬ i = k := fun q => hki q.symm
      simp [Cell.setSlot, upd, hki, this, q3 k hk, Array.getElem?_setIfInBounds]
theorem AL.lt {a : Addr} {n : Nat} {f : Nat → Int64} (A : AL Z h a n f) : a < h.size := by obtain ⟨c, A, -⟩ := A; exact A.lt
theorem AL.ext {h' : Heap} {a : Addr} {n : Nat} {f : Nat → Int64} (A : AL Z h a n f) (E : Ext h h') : AL Z h' a n f := by obtain ⟨c, A, r⟩ := A; exact ⟨c, A.ext E, r⟩
theorem AL.keep {h' : Heap} {ws : List Addr} {a : Addr} {n : Nat} {f : Nat → Int64} (A : AL Z h a n f) (K : Keep h h' ws) (q : a ∉ ws) : AL Z h' a n f := by obtain ⟨c, A, r⟩ := A; exact ⟨c, ⟨K.2.1 a c A.1 q, A.2⟩, r⟩
theorem AL.congr {a : Addr} {n : Nat} {f f' : Nat → Int64} (A : AL Z h a n f) (q : ∀ i, i < n → f i = f' i) : AL Z h a n f' := by obtain ⟨c, A, r1, r2, r3⟩ := A; exact ⟨c, A, r1, r2, fun i hi => by rw [← q i hi]; exact r3 i hi⟩
theorem AL.set {h' : Heap} {a : Addr} {n i : Nat} {f : Nat → Int64} {v : Int64} {c : Cell} (A : Arr Z h a c .long) (q1 : c.slots.size = n) (q2 : n < 2147483648) (q3 : ∀ i, i < n → c.slots[i]? = some (.long (f i))) (hi : i < n) (W : Wr h h' a i (.long v)) : AL Z h' a n (upd f i v) := by
  refine ⟨_, A.same W, ?_, q2, fun k hk => ?_⟩
  · rw [sz_set]; exact q1
  · by_cases hki : k = i
    · subst hki
      simp [Cell.setSlot, upd, q1, hi]
    · have : ¬ i = k := fun q => hki q.symm
      simp [Cell.setSlot, upd, hki, this, q3 k hk, Array.getElem?_setIfInBounds]
theorem AN.len {a : Addr} {ty : FieldType} {n : Nat} {f : Nat → Int32} (A : AN Z h a ty n f) : (Int32.ofNat n).toInt = (n : Int) := by
  obtain ⟨c, _, _, q2, _⟩ := A
  exact Int32.toInt_ofNat_of_lt q2
theorem jb_rng (x : Int32) : (jb x).toInt % 256 = x.toInt % 256 ∧ -128 ≤ (jb x).toInt ∧ (jb x).toInt < 128 := by
  have := c_i2b x
  unfold jb
  omega
theorem jb_id {x : Int32} (h1 : -128 ≤ x.toInt) (h2 : x.toInt < 128) : jb x = x := by
  have := jb_rng x
  rw [i32_eq]; omega
theorem jb_jb (x : Int32) : jb (jb x) = jb x := by
  have := jb_rng x
  exact jb_id (by omega) (by omega)
theorem jc_rng (x : Int32) : (jc x).toInt % 65536 = x.toInt % 65536 ∧ 0 ≤ (jc x).toInt ∧ (jc x).toInt < 65536 := by
  have := c_i2c x
  unfold jc
  omega
theorem jc_id {x : Int32} (h1 : 0 ≤ x.toInt) (h2 : x.toInt < 65536) : jc x = x := by
  have := jc_rng x
  rw [i32_eq]; omega
theorem nar_c (x : Int32) : nar .char x = jc x := rfl
theorem nar_b (x : Int32) : nar .byte x = jb x := rfl
theorem g_baload (K : Cx Z p s m meth c own bytes ml rt nm) (X : Wk p l e R s m args below meth c n0 T h cells slots) {pc pc' : Nat} {L : Array Slot} {st : List Value} {j : Int32} {a : Addr} {i n : Nat} {f : Nat → Int32} (hd : decode bytes pc = .ok (.baload, 1)) (hp : pc + 1 = pc') (A : AN Z h a .byte n f) (hj : j.toInt = (i : Int)) (hi : i < n) (r : Fi p e below s n0 C S Q (T.setTop (mkF m pc' L (.int (f i) :: st)))) : Fi p e below s n0 C S Q (T.setTop (mkF m pc L (.int j :: .ref a :: st))) := by
  obtain ⟨locs, Y, hh, -⟩ := X
  subst hp
  obtain ⟨cl, B, rfl, q2, q3⟩ := A
  obtain ⟨hin, e⟩ := j_in hj hi
  exact Fi.of (fun _ q => Y.baloadBytes K.1 (j := j) (v := .int (f i)) (by rw [hh]; exact B.1) (State.isArrayOf_alike K.2.1.alike B.2.1) B.2.2 hin (by rw [e]; exact q3 i hi) (g := mkF m pc L (.int j :: .ref a :: st)) rfl rfl (hb K.2.2.1 hd) _ q) r
theorem g_iaload (K : Cx Z p s m meth c own bytes ml rt nm) (X : Wk p l e R s m args below meth c n0 T h cells slots) {pc pc' : Nat} {L : Array Slot} {st : List Value} {j : Int32} {a : Addr} {i n : Nat} {f : Nat → Int32} (hd : decode bytes pc = .ok (.iaload, 1)) (hp : pc + 1 = pc') (A : AN Z h a .int n f) (hj : j.toInt = (i : Int)) (hi : i < n) (r : Fi p e below s n0 C S Q (T.setTop (mkF m pc' L (.int (f i) :: st)))) : Fi p e below s n0 C S Q (T.setTop (mkF m pc L (.int j :: .ref a :: st))) := by
  obtain ⟨locs, Y, hh, -⟩ := X
  subst hp
  obtain ⟨cl, B, rfl, q2, q3⟩ := A
  obtain ⟨hin, e⟩ := j_in hj hi
  exact Fi.of (fun _ q => Y.iaload K.1 (j := j) (v := .int (f i)) (by rw [hh]; exact B.1) (State.isArrayOf_alike K.2.1.alike B.2.1) B.2.2 hin (by rw [e]; exact q3 i hi) (g := mkF m pc L (.int j :: .ref a :: st)) rfl rfl (hb K.2.2.1 hd) _ q) r
theorem g_laload (K : Cx Z p s m meth c own bytes ml rt nm) (X : Wk p l e R s m args below meth c n0 T h cells slots) {pc pc' : Nat} {L : Array Slot} {st : List Value} {j : Int32} {a : Addr} {i n : Nat} {f : Nat → Int64} (hd : decode bytes pc = .ok (.laload, 1)) (hp : pc + 1 = pc') (A : AL Z h a n f) (hj : j.toInt = (i : Int)) (hi : i < n) (r : Fi p e below s n0 C S Q (T.setTop (mkF m pc' L (.long (f i) :: st)))) : Fi p e below s n0 C S Q (T.setTop (mkF m pc L (.int j :: .ref a :: st))) := by
  obtain ⟨locs, Y, hh, -⟩ := X
  subst hp
  obtain ⟨cl, B, rfl, q2, q3⟩ := A
  obtain ⟨hin, e⟩ := j_in hj hi
  exact Fi.of (fun _ q => Y.laload K.1 (j := j) (v := .long (f i)) (by rw [hh]; exact B.1) (State.isArrayOf_alike K.2.1.alike B.2.1) B.2.2 hin (by rw [e]; exact q3 i hi) (g := mkF m pc L (.int j :: .ref a :: st)) rfl rfl (hb K.2.2.1 hd) _ q) r
theorem g_bastore (K : Cx Z p s m meth c own bytes ml rt nm) (X : Wk p l e R s m args below meth c n0 T h cells slots) {pc pc' : Nat} {L : Array Slot} {st : List Value} {j : Int32} {x : Int32} {a : Addr} {i n : Nat} {f : Nat → Int32} (hd : decode bytes pc = .ok (.bastore, 1)) (hp : pc + 1 = pc') (A : AN Z h a .byte n f) (ha : n0 ≤ a) (hj : j.toInt = (i : Int)) (hi : i < n)
    (r : ∀ T' h', Wk p l e R s m args below meth c n0 T' h' cells slots → Keep h h' [a] → AN Z h' a .byte n (upd f i (jb x)) → Fi p e below s n0 C S Q (T'.setTop (mkF m pc' L (st)))) : Fi p e below s n0 C S Q (T.setTop (mkF m pc L (.int x :: .int j :: .ref a :: st))) := by
  obtain ⟨locs, Y, hh, hF, hn⟩ := X
  subst hp
  obtain ⟨cl, B, rfl, q2, q3⟩ := A
  obtain ⟨hin, e1⟩ := j_in hj hi
  obtain ⟨T', h', X', e', W, st'⟩ := stB Y K.1 K.2.1 hh B (j := j) hin (g := mkF m pc L (.int x :: .int j :: .ref a :: st)) rfl rfl (hb K.2.2.1 hd)
  rw [e1] at W
  exact Fi.of st' (r T' h' ⟨_, X', e', Fr.snoc X' hF ha, by rw [W.size]; exact hn⟩ (Keep.of_wr W) (AN.set B rfl q2 q3 hi W))
theorem g_iastore (K : Cx Z p s m meth c own bytes ml rt nm) (X : Wk p l e R s m args below meth c n0 T h cells slots) {pc pc' : Nat} {L : Array Slot} {st : List Value} {j : Int32} {x : Int32} {a : Addr} {i n : Nat} {f : Nat → Int32} (hd : decode bytes pc = .ok (.iastore, 1)) (hp : pc + 1 = pc') (A : AN Z h a .int n f) (ha : n0 ≤ a) (hj : j.toInt = (i : Int)) (hi : i < n)
    (r : ∀ T' h', Wk p l e R s m args below meth c n0 T' h' cells slots → Keep h h' [a] → AN Z h' a .int n (upd f i x) → Fi p e below s n0 C S Q (T'.setTop (mkF m pc' L (st)))) : Fi p e below s n0 C S Q (T.setTop (mkF m pc L (.int x :: .int j :: .ref a :: st))) := by
  obtain ⟨locs, Y, hh, hF, hn⟩ := X
  subst hp
  obtain ⟨cl, B, rfl, q2, q3⟩ := A
  obtain ⟨hin, e1⟩ := j_in hj hi
  obtain ⟨T', h', X', e', W, st'⟩ := stI Y K.1 K.2.1 hh B (j := j) hin (g := mkF m pc L (.int x :: .int j :: .ref a :: st)) rfl rfl (hb K.2.2.1 hd)
  rw [e1] at W
  exact Fi.of st' (r T' h' ⟨_, X', e', Fr.snoc X' hF ha, by rw [W.size]; exact hn⟩ (Keep.of_wr W) (AN.set B rfl q2 q3 hi W))
theorem g_lastore (K : Cx Z p s m meth c own bytes ml rt nm) (X : Wk p l e R s m args below meth c n0 T h cells slots) {pc pc' : Nat} {L : Array Slot} {st : List Value} {j : Int32} {x : Int64} {a : Addr} {i n : Nat} {f : Nat → Int64} (hd : decode bytes pc = .ok (.lastore, 1)) (hp : pc + 1 = pc') (A : AL Z h a n f) (ha : n0 ≤ a) (hj : j.toInt = (i : Int)) (hi : i < n)
    (r : ∀ T' h', Wk p l e R s m args below meth c n0 T' h' cells slots → Keep h h' [a] → AL Z h' a n (upd f i x) → Fi p e below s n0 C S Q (T'.setTop (mkF m pc' L (st)))) : Fi p e below s n0 C S Q (T.setTop (mkF m pc L (.long x :: .int j :: .ref a :: st))) := by
  obtain ⟨locs, Y, hh, hF, hn⟩ := X
  subst hp
  obtain ⟨cl, B, rfl, q2, q3⟩ := A
  obtain ⟨hin, e1⟩ := j_in hj hi
  obtain ⟨T', h', X', e', W, st'⟩ := stJ Y K.1 K.2.1 hh B (j := j) hin (g := mkF m pc L (.long x :: .int j :: .ref a :: st)) rfl rfl (hb K.2.2.1 hd)
  rw [e1] at W
  exact Fi.of st' (r T' h' ⟨_, X', e', Fr.snoc X' hF ha, by rw [W.size]; exact hn⟩ (Keep.of_wr W) (AL.set B rfl q2 q3 hi W))
theorem g_arraylength (K : Cx Z p s m meth c own bytes ml rt nm) (X : Wk p l e R s m args below meth c n0 T h cells slots) {pc pc' : Nat} {L : Array Slot} {st : List Value} {v : Int32} {a : Addr} {n : Nat} {ty : FieldType} {f : Nat → Int32} (hd : decode bytes pc = .ok (.arraylength, 1)) (hp : pc + 1 = pc') (A : AN Z h a ty n f) (hv : v.toInt = (n : Int)) (r : Fi p e below s n0 C S Q (T.setTop (mkF m pc' L (.int v :: st)))) : Fi p e below s n0 C S Q (T.setTop (mkF m pc L (.ref a :: st))) := by
  obtain ⟨locs, Y, hh, -⟩ := X
  subst hp
  obtain ⟨cl, B, e1, q2, q3⟩ := A
  have e2 : cl.slots.size.toInt32 = v := by
    rw [i32_eq, hv, e1]
    exact Int32.toInt_ofNat_of_lt q2
  exact Fi.of (fun _ q => Y.arraylength K.1 (by rw [hh]; exact B.1) (State.isArrayOf_alike K.2.1.alike B.2.1) (g := mkF m pc L (.ref a :: st)) rfl rfl (hb K.2.2.1 hd) _ (by rw [e2]; exact q)) r
theorem cnt_of {z : Int32} {n : Nat} (hz : z.toInt = (n : Int)) : ¬ z < 0 ∧ z.toNatClampNeg = n ∧ n < 2147483648 := by
  have h2 : ¬ z < 0 := by rw [Int32.lt_iff_toInt_lt]; show ¬ z.toInt < 0; omega
  have h3 := z.toInt_lt
  exact ⟨h2, by show z.toInt.toNat = n; omega, by omega⟩
theorem g_newarray_byte (K : Cx Z p s m meth c own bytes ml rt nm) (X : Wk p l e R s m args below meth c n0 T h cells slots) {pc pc' : Nat} {L : Array Slot} {st : List Value} {z : Int32} {n : Nat} (cap : Nat) (hd : decode bytes pc = .ok (.newarray .byte, 2)) (hp : pc + 2 = pc') (w : (Cond.arrayClass .byte).before a0 Z = true) (hz : z.toInt = (n : Int)) (hcap : n ≤ cap) (hbnd : cap * 8 ≤ 536870912) (hc : cells + 1 ≤ R.cells) (hs : slots + cap ≤ R.slots)
    (r : ∀ T' h' a, Wk p l e R s m args below meth c n0 T' h' (cells + 1) (slots + cap) → Ext h h' → a = h.size → n0 ≤ a → AN Z h' a .byte n (fun _ => (0 : Int32)) → Fi p e below s n0 C S Q (T'.setTop (mkF m pc' L (.ref a :: st)))) : Fi p e below s n0 C S Q (T.setTop (mkF m pc L (.int z :: st))) := by
  obtain ⟨locs, Y, hh, hF, hn⟩ := X
  subst hp
  obtain ⟨z1, z2, z3⟩ := cnt_of hz
  obtain ⟨T', h', k, X', e', E, A, st'⟩ := newP Y K.1 K.2.1 (aty := .byte) w hh (g := mkF m pc L (.int z :: st)) rfl (hb K.2.2.1 hd) rfl z1 (cap := cap) (by rw [z2]; exact hcap) hbnd hc hs
  refine Fi.of st' (r T' h' _ ⟨_, X', e', hF, Nat.le_trans hn E.1⟩ E rfl hn ⟨_, A, ?_, z3, fun i hi => ?_⟩)
  · rw [sz_new]; exact z2
  · simp [newA, z2, hi, newarray.typeOf, defaultValue]
theorem g_newarray_int (K : Cx Z p s m meth c own bytes ml rt nm) (X : Wk p l e R s m args below meth c n0 T h cells slots) {pc pc' : Nat} {L : Array Slot} {st : List Value} {z : Int32} {n : Nat} (cap : Nat) (hd : decode bytes pc = .ok (.newarray .int, 2)) (hp : pc + 2 = pc') (w : (Cond.arrayClass .int).before a0 Z = true) (hz : z.toInt = (n : Int)) (hcap : n ≤ cap) (hbnd : cap * 8 ≤ 536870912) (hc : cells + 1 ≤ R.cells) (hs : slots + cap ≤ R.slots)
    (r : ∀ T' h' a, Wk p l e R s m args below meth c n0 T' h' (cells + 1) (slots + cap) → Ext h h' → a = h.size → n0 ≤ a → AN Z h' a .int n (fun _ => (0 : Int32)) → Fi p e below s n0 C S Q (T'.setTop (mkF m pc' L (.ref a :: st)))) : Fi p e below s n0 C S Q (T.setTop (mkF m pc L (.int z :: st))) := by
  obtain ⟨locs, Y, hh, hF, hn⟩ := X
  subst hp
  obtain ⟨z1, z2, z3⟩ := cnt_of hz
  obtain ⟨T', h', k, X', e', E, A, st'⟩ := newP Y K.1 K.2.1 (aty := .int) w hh (g := mkF m pc L (.int z :: st)) rfl (hb K.2.2.1 hd) rfl z1 (cap := cap) (by rw [z2]; exact hcap) hbnd hc hs
  refine Fi.of st' (r T' h' _ ⟨_, X', e', hF, Nat.le_trans hn E.1⟩ E rfl hn ⟨_, A, ?_, z3, fun i hi => ?_⟩)
  · rw [sz_new]; exact z2
  · simp [newA, z2, hi, newarray.typeOf, defaultValue]
theorem g_newarray_long (K : Cx Z p s m meth c own bytes ml rt nm) (X : Wk p l e R s m args below meth c n0 T h cells slots) {pc pc' : Nat} {L : Array Slot} {st : List Value} {z : Int32} {n : Nat} (cap : Nat) (hd : decode bytes pc = .ok (.newarray .long, 2)) (hp : pc + 2 = pc') (w : (Cond.arrayClass .long).before a0 Z = true) (hz : z.toInt = (n : Int)) (hcap : n ≤ cap) (hbnd : cap * 8 ≤ 536870912) (hc : cells + 1 ≤ R.cells) (hs : slots + cap ≤ R.slots)
    (r : ∀ T' h' a, Wk p l e R s m args below meth c n0 T' h' (cells + 1) (slots + cap) → Ext h h' → a = h.size → n0 ≤ a → AL Z h' a n (fun _ => (0 : Int64)) → Fi p e below s n0 C S Q (T'.setTop (mkF m pc' L (.ref a :: st)))) : Fi p e below s n0 C S Q (T.setTop (mkF m pc L (.int z :: st))) := by
  obtain ⟨locs, Y, hh, hF, hn⟩ := X
  subst hp
  obtain ⟨z1, z2, z3⟩ := cnt_of hz
  obtain ⟨T', h', k, X', e', E, A, st'⟩ := newP Y K.1 K.2.1 (aty := .long) w hh (g := mkF m pc L (.int z :: st)) rfl (hb K.2.2.1 hd) rfl z1 (cap := cap) (by rw [z2]; exact hcap) hbnd hc hs
  refine Fi.of st' (r T' h' _ ⟨_, X', e', hF, Nat.le_trans hn E.1⟩ E rfl hn ⟨_, A, ?_, z3, fun i hi => ?_⟩)
  · rw [sz_new]; exact z2
  · simp [newA, z2, hi, newarray.typeOf, defaultValue]
theorem g_new (K : Cx Z p s m meth c own bytes ml rt nm) (X : Wk p l e R s m args below meth c n0 T h cells slots) {pc pc' : Nat} {L : Array Slot} {st : List Value} {index n : Nat} {Cl : String} (hd : decode bytes pc = .ok (.new index, 3)) (hp : pc + 3 = pc') (w1 : (Cond.classLink own index Cl).before a0 Z = true) (w2 : (Cond.instantiable Cl n).before a0 Z = true) (w3 : (Cond.initialized Cl).before a0 Z = true) (hc : cells + 1 ≤ R.cells) (hs : slots + n ≤ R.slots)
    (r : ∀ T' h' a, Wk p l e R s m args below meth c n0 T' h' (cells + 1) (slots + n) → Ext h h' → a = h.size → n0 ≤ a → Exa Z h' a Cl → (∀ {O nm d : String} {ty : FieldType}, Laid Z a0 Cl O nm d → parseFieldDescriptor d = some ty → Fld Z h' a O nm d (defaultValue ty)) → Fi p e below s n0 C S Q (T'.setTop (mkF m pc' L (.ref a :: st)))) : Fi p e below s n0 C S Q (T.setTop (mkF m pc L (st))) := by
  obtain ⟨locs, Y, hh, hF, hn⟩ := X
  subst hp
  obtain ⟨T', h', X', e', E, A, D, -, st'⟩ := newO Y K.1 K.2.1 K.2.2.2.2.1 w1 w2 w3 hh (g := mkF m pc L st) rfl (hb K.2.2.1 hd) hc hs
  exact Fi.of st' (r T' h' _ ⟨_, X', e', hF, Nat.le_trans hn E.1⟩ E rfl hn A D)
theorem g_getfield (K : Cx Z p s m meth c own bytes ml rt nm) (X : Wk p l e R s m args below meth c n0 T h cells slots) {pc pc' : Nat} {L : Array Slot} {st : List Value} {index : Nat} {O n d : String} {a : Addr} {v : Value} (hd : decode bytes pc = .ok (.getfield index, 3)) (hp : pc + 3 = pc') (w : (Cond.fieldLink own index O n d).before a0 Z = true) (F : Fld Z h a O n d v)
    (r : ∀ T', Wk p l e R s m args below meth c n0 T' h cells slots → Fi p e below s n0 C S Q (T'.setTop (mkF m pc' L (v :: st)))) : Fi p e below s n0 C S Q (T.setTop (mkF m pc L (.ref a :: st))) := by
  obtain ⟨locs, Y, hh, hF, hn⟩ := X
  subst hp
  obtain ⟨T', X', e', st'⟩ := getF Y K.1 K.2.1 K.2.2.2.2.1 (host := "") (Or.inl w) Via.refl hh F (g := mkF m pc L (.ref a :: st)) rfl rfl (hb K.2.2.1 hd)
  exact Fi.of st' (r T' ⟨_, X', e', hF, hn⟩)
theorem g_putfield (K : Cx Z p s m meth c own bytes ml rt nm) (X : Wk p l e R s m args below meth c n0 T h cells slots) {pc pc' : Nat} {L : Array Slot} {st : List Value} {index kk : Nat} {O n d Cl : String} {ty : FieldType} {a : Addr} {v ov : Value} (hd : decode bytes pc = .ok (.putfield index, 3)) (hp : pc + 3 = pc') (w : (Cond.fieldLink own index O n d).before a0 Z = true) (F : Fld Z h a O n d ov) (E : Exa Z h a Cl) (Ly : (Cond.lays Cl O n d).before a0 Z = true ∨ ((Cond.laysFinal Cl O n d).before a0 Z = true ∧ own = O ∧ nm = "<init>")) (wi : (Cond.instantiable Cl kk).before a0 Z = true) (hty : parseFieldDescriptor d = some ty) (hnr : narrow ty v = v) (hft : fits ty v = true) (ha : n0 ≤ a)
    (r : ∀ T' h', Wk p l e R s m args below meth c n0 T' h' cells slots → Wr h h' a (RoadKit.slotOf Z O n d) v → Keep h h' [a] → Exa Z h' a Cl → Fld Z h' a O n d v → Fi p e below s n0 C S Q (T'.setTop (mkF m pc' L (st)))) : Fi p e below s n0 C S Q (T.setTop (mkF m pc L (v :: .ref a :: st))) := by
  obtain ⟨locs, Y, hh, hF, hn⟩ := X
  subst hp
  obtain ⟨T', h', X', e', W, st'⟩ := putF Y K.1 K.2.1 K.2.2.2.2.1 (host := "") (Or.inl w) Via.refl hh F E (Ly.imp id fun q => ⟨q.1, q.2.1, by rw [K.2.2.2.2.2.2.2]; exact q.2.2⟩) wi hty hnr hft (g := mkF m pc L (v :: .ref a :: st)) rfl rfl (hb K.2.2.1 hd)
  exact Fi.of st' (r T' h' ⟨_, X', e', Fr.snoc X' hF ha, by rw [W.size]; exact hn⟩ W (Keep.of_wr W) (E.wr W) (F.same W))
theorem g_objinit (K : Cx Z p s m meth c own bytes ml rt nm) (X : Wk p l e R s m args below meth c n0 T h cells slots) {pc pc' : Nat} {L : Array Slot} {st : List Value} {index : Nat} {a : Addr} (hd : decode bytes pc = .ok (.invokespecial index, 3)) (hp : pc + 3 = pc') (w1 : (Cond.methodLink own index Lib.objectInit).before a0 Z = true) (w2 : (Cond.instanceMethod Lib.objectInit).before a0 Z = true) (w3 : (Cond.code Lib.objectInit object_method_1_code 1 none).before a0 Z = true) (hL : L.size = ml) (W : Nat) (hf : 1 ≤ R.frames) (hW : (st.map fun v => v.category).sum ≤ W) (hl : W + 12 ≤ R.locals)
    (r : ∀ T', Wk p l e R s m args below meth c n0 T' h cells slots → Fi p e below s n0 C S Q (T'.setTop (mkF m pc' L (st)))) : Fi p e below s n0 C S Q (T.setTop (mkF m pc L (.ref a :: st))) := by
  obtain ⟨locs, Y, hh, hF, hn⟩ := X
  subst hp
  obtain ⟨T', X', e', st'⟩ := initO Y K.1 K.2.1 K.2.2.2.2.1 w1 w2 w3 hh (g := mkF m pc L (.ref a :: st)) rfl (by rw [K.2.2.2.1]; exact hL) rfl (hb K.2.2.1 hd) hf (W := W) (by show 2 * 0 + _ ≤ _; omega) hl
  exact Fi.of st' (r T' ⟨_, X', e', hF, hn⟩)
theorem fr_ready {locs : List Loc} (Y : Stand p l e R s m args below meth c T locs cells slots) (hZ : Z.Warmed39 s.vm) {index : Nat} {O n d : String} (hown : s.vm.findClass own = some m.cls) (w : (Cond.fieldRef own index O n d).before a0 Z = true) {cf i : Nat} {k : Class} {f : Field} (hf : Z.fieldFound? O n d = some (cf, k, i, f)) : T.vm.fieldReady m.cls index cf f := by
  have hT : Z.Warmed39 T.vm := wtrans hZ Y.warmed
  have w' := Cond.fieldRef_warmed39 hT w
  have hownZ : (Z.setVm T.vm).vm.findClass own = some m.cls := (Y.warmed.alike.findClass _ _).trans hown
  obtain ⟨c', k', i', f', hi, hr⟩ := Cond.fieldRef_spec hownZ w'
  obtain ⟨k2, hf2, -⟩ := State.fieldFound?_setVm (s := Z) hT.alike hf
  cases hf2.symm.trans hi
  exact hr
theorem g_getfieldR (K : Cx Z p s m meth c own bytes ml rt nm) (X : Wk p l e R s m args below meth c n0 T h cells slots) {pc pc' : Nat} {L : Array Slot} {st : List Value} {index : Nat} {O n d : String} {a : Addr} {v : Value} (hd : decode bytes pc = .ok (.getfield index, 3)) (hp : pc + 3 = pc') (w : (Cond.fieldRef own index O n d).before a0 Z = true) (F : Fld Z h a O n d v)
    (r : ∀ T', Wk p l e R s m args below meth c n0 T' h cells slots → Fi p e below s n0 C S Q (T'.setTop (mkF m pc' L (v :: st)))) : Fi p e below s n0 C S Q (T.setTop (mkF m pc L (.ref a :: st))) := by
  have hX := X
  obtain ⟨locs, Y, hh, hF, hn⟩ := X
  subst hp
  obtain ⟨cell, cf, k, i, f, h1, h2, h3, h4, -, -, h7⟩ := F
  have hready := fr_ready Y K.2.1 K.2.2.2.2.1 w h2
  refine Fi.of (fun target hrest => ?_) (r T hX)
  have hx := K.1
  have hd' := hb K.2.2.1 hd
  show Steps p.tables e below (T.setTop { method := m, pc := pc, locals := L, stack := .ref a :: st, locked := none }) _
  jvm_step Y.here [hx, hd', getfield.wp_ready (e := e) (s := T) (f := mkF m pc L (.ref a :: st)) Y.here.top hready h3 rfl (show T.heap[a]? = some cell by rw [hh]; exact h1) h4 h7]
  exact hrest
theorem g_putfieldR (K : Cx Z p s m meth c own bytes ml rt nm) (X : Wk p l e R s m args below meth c n0 T h cells slots) {pc pc' : Nat} {L : Array Slot} {st : List Value} {index kk : Nat} {O n d Cl : String} {ty : FieldType} {a : Addr} {v ov : Value} (hd : decode bytes pc = .ok (.putfield index, 3)) (hp : pc + 3 = pc') (w : (Cond.fieldRef own index O n d).before a0 Z = true) (F : Fld Z h a O n d ov) (E : Exa Z h a Cl) (Ly : (Cond.lays Cl O n d).before a0 Z = true) (wi : (Cond.instantiable Cl kk).before a0 Z = true) (hty : parseFieldDescriptor d = some ty) (hnr : narrow ty v = v) (hft : fits ty v = true) (ha : n0 ≤ a)
    (r : ∀ T' h', Wk p l e R s m args below meth c n0 T' h' cells slots → Wr h h' a (RoadKit.slotOf Z O n d) v → Keep h h' [a] → Exa Z h' a Cl → Fld Z h' a O n d v → Fi p e below s n0 C S Q (T'.setTop (mkF m pc' L (st)))) : Fi p e below s n0 C S Q (T.setTop (mkF m pc L (v :: .ref a :: st))) := by
  obtain ⟨locs, Y, hh, hF, hn⟩ := X
  subst hp
  have F0 := F
  have E0 := E
  obtain ⟨cell, cf, k, i, f, h1, h2, h3, h4, h5, -, h7⟩ := F
  have hready := fr_ready Y K.2.1 K.2.2.2.2.1 w h2
  obtain ⟨cell', kc, e1, e2, e3, -⟩ := E
  cases h1.symm.trans e1
  obtain ⟨c1, k1, cf1, kf1, i1, f1, a1, a2, a3, -, a5, -⟩ := Cond.lays_spec Ly
  cases h2.symm.trans a3
  cases e2.symm.trans a1
  obtain ⟨_, _, _, _, _, _, b1, b2, b3, -, -, b6, -⟩ := Laid.spec (a0 := a0) (Or.inl Ly)
  cases h2.symm.trans b3
  cases e2.symm.trans b1
  obtain ⟨c2, k2, j1, j2, j3, -⟩ := Cond.instantiable_spec wi
  cases e2.symm.trans j1
  cases b2.symm.trans j2
  have ht := (State.fieldFound?_type h2 hty).2
  have hT : Z.Warmed39 T.vm := wtrans K.2.1 Y.warmed
  have hfit : Z.fitsSlot cell.cls cell.vm f.slot v = true := by
    have q : Z.slotType? cell.cls cell.vm f.slot = some ty := by
      simp only [State.slotType?, b2, Option.bind_eq_bind, Option.bind_some, j3]
      cases hq : cell.vm <;> first | (rw [hq] at h5; exact Bool.noConfusion h5) | (rw [b6, ht])
    simp [State.fitsSlot, q, hft]
  have hfitT : T.fitsSlot cell.cls cell.vm f.slot v = true := by
    rw [← State.fitsSlot_setVm hT.alike] at hfit; exact hfit
  have hlt := (Array.getElem?_eq_some_iff.mp h7).1
  have es : RoadKit.slotOf Z O n d = f.slot := by simp [RoadKit.slotOf, h2]
  obtain ⟨X', st'⟩ := Y.putfieldReady K.1 hready h3 (Or.inl a5) (a := a) (cell := cell) (v := v) (by rw [hh]; exact h1) h4 hlt (by rw [ht]; exact hnr) hfitT (g := mkF m pc L (v :: .ref a :: st)) rfl rfl (hb K.2.2.1 hd)
  have W : Wr h (T.setCell a (cell.setSlot f.slot v)).heap a (RoadKit.slotOf Z O n d) v := ⟨cell, h1, h5, by rw [es]; exact hlt, by rw [es, ← hh]; rfl⟩
  exact Fi.of st' (r (T.setCell a (cell.setSlot f.slot v)) _ ⟨_, X', rfl, Fr.snoc X' hF ha, by rw [W.size]; exact hn⟩ W (Keep.of_wr W) (E0.wr W) (F0.same W))
theorem g_callS (K : Cx Z p s m meth c own bytes ml rt nm) (X : Wk p l e R s m args below meth c n0 T h cells slots) {pc pc' : Nat} {L : Array Slot} {st rest argsL : List Value} {index : Nat} {y : MethodName} {yb : ByteArray} {yml : Nat} {yrt : Option FieldType} {rm : Room} {Q' : Option Value → Heap → Prop} (W : Nat) (hd : decode bytes pc = .ok (.invokestatic index, 3)) (hp : pc + 3 = pc') (w1 : (Cond.methodLink own index y).before a0 Z = true) (w2 : (Cond.static y).before a0 Z = true) (w3 : (Cond.initialized y.cls).before a0 Z = true) (w4 : (Cond.code y yb yml yrt).before a0 Z = true) (hy : y.cls ≠ "java/lang/invoke/MethodHandle" ∧ y.cls ≠ "java/lang/invoke/VarHandle")
    (hM : Mt l Z y yb yml yrt rm argsL.toArray h n0 Q') (hfr : rm.frames + 1 ≤ R.frames) (hlo : W + (yml + 11) + rm.locals ≤ R.locals) (hc : cells + rm.cells ≤ R.cells) (hs : slots + rm.slots ≤ R.slots) (hlen : ∀ sig, parseMethodDescriptor y.desc = some sig → argsL.length = sig.parameters.length) (hL : L.size = ml) (hst : st = argsL.reverse ++ rest) (hW : (rest.map fun v => v.category).sum ≤ W)
    (r : ∀ v T' h', Wk p l e R s m args below meth c n0 T' h' (cells + rm.cells) (slots + rm.slots) → Q' v h' → Fi p e below s n0 C S Q (T'.setTop (mkF m pc' L (v.toList ++ rest)))) (hgrow : ∀ v h', Q' v h' → h.size ≤ h'.size) : Fi p e below s n0 C S Q (T.setTop (mkF m pc L (st))) := by
  obtain ⟨locs, Y, hh, hF, hn⟩ := X
  subst hp
  obtain ⟨v, vm1, ⟨T', L', k', n'⟩, -, X', ⟨Lc, ⟨hQ, hN⟩, l1, l2, l3⟩, st'⟩ := Jvm.LawKit.callS Y K.1 (y := y) K.2.2.2.2.1 (mvT K.2.1 w1) (mvT K.2.1 w2) (mvT K.2.1 w3) (mvT K.2.1 w4) hy (backOf (W := W) (Q := fun v h L => Q' v h ∧ Fr n0 L) (hM []) K.2.1 w4 w3 hfr hlo) (g := mkF m pc L st) rfl (by rw [K.2.2.2.1]; exact hL) (argsL := argsL) (rest := rest) hlen hst (by show 2 * 0 + _ ≤ _; omega) (hb K.2.2.1 hd) (fun _ _ => ⟨rfl, hh, hc, hs⟩)
  dsimp only [Pt.U, Pt.locs, Pt.cells, Pt.slots] at X' l1 l2 l3 st' hQ
  subst l1 l2 l3
  exact Fi.of st' (r v T' _ ⟨_, X', rfl, Fr.app hF hN, Nat.le_trans hn (hgrow _ _ hQ)⟩ hQ)
theorem g_special (K : Cx Z p s m meth c own bytes ml rt nm) (X : Wk p l e R s m args below meth c n0 T h cells slots) {pc pc' : Nat} {L : Array Slot} {st rest argsL : List Value} {index : Nat} {a : Addr} {y : MethodName} {yb : ByteArray} {yml : Nat} {rm : Room} {Q' : Option Value → Heap → Prop} (W : Nat) (hd : decode bytes pc = .ok (.invokespecial index, 3)) (hp : pc + 3 = pc') (w1 : (Cond.methodLink own index y).before a0 Z = true) (w2 : (Cond.instanceMethod y).before a0 Z = true) (w3 : (Cond.initialized y.cls).before a0 Z = true) (w4 : (Cond.code y yb yml none).before a0 Z = true) (hi : y.name = "<init>") (hy : y.cls ≠ "java/lang/invoke/MethodHandle" ∧ y.cls ≠ "java/lang/invoke/VarHandle")
    (hM : Mt l Z y yb yml none rm (.ref a :: argsL).toArray h n0 Q') (hfr : rm.frames + 1 ≤ R.frames) (hlo : W + (yml + 11) + rm.locals ≤ R.locals) (hc : cells + rm.cells ≤ R.cells) (hs : slots + rm.slots ≤ R.slots) (hlen : ∀ sig, parseMethodDescriptor y.desc = some sig → argsL.length = sig.parameters.length) (hL : L.size = ml) (hst : st = argsL.reverse ++ .ref a :: rest) (hW : (rest.map fun v => v.category).sum ≤ W)
    (r : ∀ v T' h', Wk p l e R s m args below meth c n0 T' h' (cells + rm.cells) (slots + rm.slots) → Q' v h' → Fi p e below s n0 C S Q (T'.setTop (mkF m pc' L (v.toList ++ rest)))) (hgrow : ∀ v h', Q' v h' → h.size ≤ h'.size) : Fi p e below s n0 C S Q (T.setTop (mkF m pc L (st))) := by
  obtain ⟨locs, Y, hh, hF, hn⟩ := X
  subst hp
  obtain ⟨v, vm1, ⟨T', L', k', n'⟩, -, X', ⟨Lc, ⟨hQ, hN⟩, l1, l2, l3⟩, st'⟩ := Y.specialBack K.1 (y := y) hi K.2.2.2.2.1 (mvT K.2.1 w1) (mvT K.2.1 w2) (mvT K.2.1 w4) hy (backOf (W := W) (Q := fun v h L => Q' v h ∧ Fr n0 L) (hM []) K.2.1 w4 w3 hfr hlo) (g := mkF m pc L st) rfl (by rw [K.2.2.2.1]; exact hL) (Steps.refl _) (a := a) (argsL := argsL) (rest := rest) hlen hst (by show 2 * 0 + _ ≤ _; omega) (hb K.2.2.1 hd) (fun _ _ => ⟨rfl, hh, hc, hs⟩)
  dsimp only [Pt.U, Pt.locs, Pt.cells, Pt.slots] at X' l1 l2 l3 st' hQ
  subst l1 l2 l3
  exact Fi.of (fun _ q => st'.trans q) (r v T' _ ⟨_, X', rfl, Fr.app hF hN, Nat.le_trans hn (hgrow _ _ hQ)⟩ hQ)
theorem g_virtual (K : Cx Z p s m meth c own bytes ml rt nm) (X : Wk p l e R s m args below meth c n0 T h cells slots) {pc pc' : Nat} {L : Array Slot} {st rest argsL : List Value} {index : Nat} {a : Addr} {Cl : String} {y : MethodName} {yb : ByteArray} {yml : Nat} {yrt : Option FieldType} {rm : Room} {Q' : Option Value → Heap → Prop} (W : Nat) (hd : decode bytes pc = .ok (.invokevirtual index, 3)) (hp : pc + 3 = pc') (w1 : (Cond.methodLink own index y).before a0 Z = true) (w2 : (Cond.declares y).before a0 Z = true) (w5 : (Cond.selects Cl y y).before a0 Z = true) (w6 : (Cond.instanceMethod y).before a0 Z = true) (w3 : (Cond.initialized y.cls).before a0 Z = true) (w4 : (Cond.code y yb yml yrt).before a0 Z = true) (hy : y.cls ≠ "java/lang/invoke/MethodHandle" ∧ y.cls ≠ "java/lang/invoke/VarHandle") (E : Exa Z h a Cl)
    (hM : Mt l Z y yb yml yrt rm (.ref a :: argsL).toArray h n0 Q') (hfr : rm.frames + 1 ≤ R.frames) (hlo : W + (yml + 11) + rm.locals ≤ R.locals) (hc : cells + rm.cells ≤ R.cells) (hs : slots + rm.slots ≤ R.slots) (hlen : ∀ sig, parseMethodDescriptor y.desc = some sig → argsL.length = sig.parameters.length) (hL : L.size = ml) (hst : st = argsL.reverse ++ .ref a :: rest) (hW : (rest.map fun v => v.category).sum ≤ W)
    (r : ∀ v T' h', Wk p l e R s m args below meth c n0 T' h' (cells + rm.cells) (slots + rm.slots) → Q' v h' → Fi p e below s n0 C S Q (T'.setTop (mkF m pc' L (v.toList ++ rest)))) (hgrow : ∀ v h', Q' v h' → h.size ≤ h'.size) : Fi p e below s n0 C S Q (T.setTop (mkF m pc L (st))) := by
  obtain ⟨locs, Y, hh, hF, hn⟩ := X
  subst hp
  obtain ⟨cB, kB, qa, -, qc⟩ := isOf K.2.1 hh E
  obtain ⟨v, vm1, ⟨T', L', k', n'⟩, -, X', ⟨Lc, ⟨hQ, hN⟩, l1, l2, l3⟩, st'⟩ := Y.virtualBack K.1 (y := y) (z := y) K.2.2.2.2.1 (mvT K.2.1 w1) (mvT K.2.1 w2) (notFace_of_selects (args := #[]) (mvT K.2.1 w5)) (mvT K.2.1 w5) (mvT K.2.1 w6) hy (backOf (W := W) (Q := fun v h L => Q' v h ∧ Fr n0 L) (hM []) K.2.1 w4 w3 hfr hlo) qa qc (g := mkF m pc L st) rfl (by rw [K.2.2.2.1]; exact hL) (Steps.refl _) (argsL := argsL) (rest := rest) hlen hst (by show 2 * 0 + _ ≤ _; omega) (hb K.2.2.1 hd) (fun _ _ => ⟨rfl, hh, hc, hs⟩)
  dsimp only [Pt.U, Pt.locs, Pt.cells, Pt.slots] at X' l1 l2 l3 st' hQ
  subst l1 l2 l3
  exact Fi.of (fun _ q => st'.trans q) (r v T' _ ⟨_, X', rfl, Fr.app hF hN, Nat.le_trans hn (hgrow _ _ hQ)⟩ hQ)
theorem g_private (K : Cx Z p s m meth c own bytes ml rt nm) (X : Wk p l e R s m args below meth c n0 T h cells slots) {pc pc' : Nat} {L : Array Slot} {st rest argsL : List Value} {index kk : Nat} {a : Addr} {Cl : String} {y : MethodName} {yb : ByteArray} {yml : Nat} {yrt : Option FieldType} {rm : Room} {Q' : Option Value → Heap → Prop} (W : Nat) (hd : decode bytes pc = .ok (.invokevirtual index, 3)) (hp : pc + 3 = pc') (w1 : (Cond.methodLink own index y).before a0 Z = true) (w2 : (Cond.instanceMethod y).before a0 Z = true) (w5 : (Cond.privateMethod y).before a0 Z = true) (w6 : (Cond.instantiable y.cls kk).before a0 Z = true) (w3 : (Cond.initialized y.cls).before a0 Z = true) (w4 : (Cond.code y yb yml yrt).before a0 Z = true) (hy : y.cls ≠ "java/lang/invoke/MethodHandle" ∧ y.cls ≠ "java/lang/invoke/VarHandle") (E : Exa Z h a Cl)
    (hM : Mt l Z y yb yml yrt rm (.ref a :: argsL).toArray h n0 Q') (hfr : rm.frames + 1 ≤ R.frames) (hlo : W + (yml + 11) + rm.locals ≤ R.locals) (hc : cells + rm.cells ≤ R.cells) (hs : slots + rm.slots ≤ R.slots) (hlen : ∀ sig, parseMethodDescriptor y.desc = some sig → argsL.length = sig.parameters.length) (hL : L.size = ml) (hst : st = argsL.reverse ++ .ref a :: rest) (hW : (rest.map fun v => v.category).sum ≤ W)
    (r : ∀ v T' h', Wk p l e R s m args below meth c n0 T' h' (cells + rm.cells) (slots + rm.slots) → Q' v h' → Fi p e below s n0 C S Q (T'.setTop (mkF m pc' L (v.toList ++ rest)))) (hgrow : ∀ v h', Q' v h' → h.size ≤ h'.size) : Fi p e below s n0 C S Q (T.setTop (mkF m pc L (st))) := by
  obtain ⟨locs, Y, hh, hF, hn⟩ := X
  subst hp
  obtain ⟨cq, q1, q2⟩ := E.cell
  have hpriv : s.PrivateAt y := Cond.privateMethod_at (mvP K.2.1 w5 (args := #[]))
  obtain ⟨cI, kI, i1, i2, -, i4, -⟩ := Cond.instantiable_spec (mv (args := args) K.2.1 w6)
  have hsel : (Cond.selects y.cls y y).before args s = true := selects_self_of_private i1 i2 (Bool.or_eq_false_iff.mp i4).1 hpriv (mvT K.2.1 w2) hy
  obtain ⟨v, vm1, ⟨T', L', k', n'⟩, -, X', ⟨Lc, ⟨hQ, hN⟩, l1, l2, l3⟩, st'⟩ := Y.privateBack K.1 (y := y) K.2.2.2.2.1 (mvT K.2.1 w1) (mvT K.2.1 w2) hsel hpriv (mvT K.2.1 w4) hy (backOf (W := W) (Q := fun v h L => Q' v h ∧ Fr n0 L) (hM []) K.2.1 w4 w3 hfr hlo) (g := mkF m pc L st) rfl (by rw [K.2.2.2.1]; exact hL) (Steps.refl _) (a := a) (by rw [hh]; exact q1) q2 (argsL := argsL) (rest := rest) hlen hst (by show 2 * 0 + _ ≤ _; omega) (hb K.2.2.1 hd) (fun _ _ => ⟨rfl, hh, hc, hs⟩)
  dsimp only [Pt.U, Pt.locs, Pt.cells, Pt.slots] at X' l1 l2 l3 st' hQ
  subst l1 l2 l3
  exact Fi.of (fun _ q => st'.trans q) (r v T' _ ⟨_, X', rfl, Fr.app hF hN, Nat.le_trans hn (hgrow _ _ hQ)⟩ hQ)
def PureI (h : Heap) (P : Int32 → Prop) : Option Value → Heap → Prop := fun v h' => ∃ r, v = some (.int r) ∧ P r ∧ h = h'
def PureJ (h : Heap) (P : Int64 → Prop) : Option Value → Heap → Prop := fun v h' => ∃ r, v = some (.long r) ∧ P r ∧ h = h'
def KeepI (h : Heap) (ws : List Addr) (P : Int32 → Heap → Prop) : Option Value → Heap → Prop := fun v h' => ∃ r, v = some (.int r) ∧ Keep h h' ws ∧ P r h'
def KeepA (h : Heap) (ws : List Addr) (P : Addr → Heap → Prop) : Option Value → Heap → Prop := fun v h' => ∃ r, v = some (.ref r) ∧ Keep h h' ws ∧ P r h'
def Keep0 (h : Heap) (ws : List Addr) (P : Heap → Prop) : Option Value → Heap → Prop := fun v h' => v = none ∧ Keep h h' ws ∧ P h'

theorem g_callSI (K : Cx Z p s m meth c own bytes ml rt nm) (X : Wk p l e R s m args below meth c n0 T h cells slots) {pc pc' : Nat} {L : Array Slot} {st rest argsL : List Value} {index : Nat} {y : MethodName} {yb : ByteArray} {yml : Nat} {yrt : Option FieldType} {rm : Room} {P : Int32 → Prop} (W : Nat) (hd : decode bytes pc = .ok (.invokestatic index, 3)) (hp : pc + 3 = pc') (w1 : (Cond.methodLink own index y).before a0 Z = true) (w2 : (Cond.static y).before a0 Z = true) (w3 : (Cond.initialized y.cls).before a0 Z = true) (w4 : (Cond.code y yb yml yrt).before a0 Z = true) (hy : y.cls ≠ "java/lang/invoke/MethodHandle" ∧ y.cls ≠ "java/lang/invoke/VarHandle")
    (hM : Mt l Z y yb yml yrt rm argsL.toArray h n0 (PureI h P)) (hfr : rm.frames + 1 ≤ R.frames) (hlo : W + (yml + 11) + rm.locals ≤ R.locals) (hc : cells + rm.cells ≤ R.cells) (hs : slots + rm.slots ≤ R.slots) (hlen : ∀ sig, parseMethodDescriptor y.desc = some sig → argsL.length = sig.parameters.length) (hL : L.size = ml) (hst : st = argsL.reverse ++ rest) (hW : (rest.map fun v => v.category).sum ≤ W)
    (kont : ∀ r T', Wk p l e R s m args below meth c n0 T' h (cells + rm.cells) (slots + rm.slots) → P r → Fi p e below s n0 C S Q (T'.setTop (mkF m pc' L (.int r :: rest)))) : Fi p e below s n0 C S Q (T.setTop (mkF m pc L (st))) := by
  refine g_callS K X (argsL := argsL) (rest := rest) W hd hp w1 w2 w3 w4 hy hM hfr hlo hc hs hlen hL hst hW (fun v T' h' X' hq => ?_) (fun _ _ q => by obtain ⟨_, _, _, rfl⟩ := q; exact Nat.le_refl _)
  obtain ⟨r, rfl, hP, rfl⟩ := hq
  exact kont r T' X' hP
theorem g_callSJ (K : Cx Z p s m meth c own bytes ml rt nm) (X : Wk p l e R s m args below meth c n0 T h cells slots) {pc pc' : Nat} {L : Array Slot} {st rest argsL : List Value} {index : Nat} {y : MethodName} {yb : ByteArray} {yml : Nat} {yrt : Option FieldType} {rm : Room} {P : Int64 → Prop} (W : Nat) (hd : decode bytes pc = .ok (.invokestatic index, 3)) (hp : pc + 3 = pc') (w1 : (Cond.methodLink own index y).before a0 Z = true) (w2 : (Cond.static y).before a0 Z = true) (w3 : (Cond.initialized y.cls).before a0 Z = true) (w4 : (Cond.code y yb yml yrt).before a0 Z = true) (hy : y.cls ≠ "java/lang/invoke/MethodHandle" ∧ y.cls ≠ "java/lang/invoke/VarHandle")
    (hM : Mt l Z y yb yml yrt rm argsL.toArray h n0 (PureJ h P)) (hfr : rm.frames + 1 ≤ R.frames) (hlo : W + (yml + 11) + rm.locals ≤ R.locals) (hc : cells + rm.cells ≤ R.cells) (hs : slots + rm.slots ≤ R.slots) (hlen : ∀ sig, parseMethodDescriptor y.desc = some sig → argsL.length = sig.parameters.length) (hL : L.size = ml) (hst : st = argsL.reverse ++ rest) (hW : (rest.map fun v => v.category).sum ≤ W)
    (kont : ∀ r T', Wk p l e R s m args below meth c n0 T' h (cells + rm.cells) (slots + rm.slots) → P r → Fi p e below s n0 C S Q (T'.setTop (mkF m pc' L (.long r :: rest)))) : Fi p e below s n0 C S Q (T.setTop (mkF m pc L (st))) := by
  refine g_callS K X (argsL := argsL) (rest := rest) W hd hp w1 w2 w3 w4 hy hM hfr hlo hc hs hlen hL hst hW (fun v T' h' X' hq => ?_) (fun _ _ q => by obtain ⟨_, _, _, rfl⟩ := q; exact Nat.le_refl _)
  obtain ⟨r, rfl, hP, rfl⟩ := hq
  exact kont r T' X' hP
theorem g_callSKI (K : Cx Z p s m meth c own bytes ml rt nm) (X : Wk p l e R s m args below meth c n0 T h cells slots) {pc pc' : Nat} {L : Array Slot} {st rest argsL : List Value} {index : Nat} {y : MethodName} {yb : ByteArray} {yml : Nat} {yrt : Option FieldType} {rm : Room} {P : Int32 → Heap → Prop} {ws : List Addr} (W : Nat) (hd : decode bytes pc = .ok (.invokestatic index, 3)) (hp : pc + 3 = pc') (w1 : (Cond.methodLink own index y).before a0 Z = true) (w2 : (Cond.static y).before a0 Z = true) (w3 : (Cond.initialized y.cls).before a0 Z = true) (w4 : (Cond.code y yb yml yrt).before a0 Z = true) (hy : y.cls ≠ "java/lang/invoke/MethodHandle" ∧ y.cls ≠ "java/lang/invoke/VarHandle")
    (hM : Mt l Z y yb yml yrt rm argsL.toArray h n0 (KeepI h ws P)) (hfr : rm.frames + 1 ≤ R.frames) (hlo : W + (yml + 11) + rm.locals ≤ R.locals) (hc : cells + rm.cells ≤ R.cells) (hs : slots + rm.slots ≤ R.slots) (hlen : ∀ sig, parseMethodDescriptor y.desc = some sig → argsL.length = sig.parameters.length) (hL : L.size = ml) (hst : st = argsL.reverse ++ rest) (hW : (rest.map fun v => v.category).sum ≤ W)
    (kont : ∀ r T' h', Wk p l e R s m args below meth c n0 T' h' (cells + rm.cells) (slots + rm.slots) → Keep h h' ws → P r h' → Fi p e below s n0 C S Q (T'.setTop (mkF m pc' L (.int r :: rest)))) : Fi p e below s n0 C S Q (T.setTop (mkF m pc L (st))) := by
  refine g_callS K X (argsL := argsL) (rest := rest) W hd hp w1 w2 w3 w4 hy hM hfr hlo hc hs hlen hL hst hW (fun v T' h' X' hq => ?_) (fun _ _ q => by obtain ⟨_, _, k, _⟩ := q; exact k.1)
  obtain ⟨r, rfl, hK, hP⟩ := hq
  exact kont r T' h' X' hK hP
theorem g_callSKA (K : Cx Z p s m meth c own bytes ml rt nm) (X : Wk p l e R s m args below meth c n0 T h cells slots) {pc pc' : Nat} {L : Array Slot} {st rest argsL : List Value} {index : Nat} {y : MethodName} {yb : ByteArray} {yml : Nat} {yrt : Option FieldType} {rm : Room} {P : Addr → Heap → Prop} {ws : List Addr} (W : Nat) (hd : decode bytes pc = .ok (.invokestatic index, 3)) (hp : pc + 3 = pc') (w1 : (Cond.methodLink own index y).before a0 Z = true) (w2 : (Cond.static y).before a0 Z = true) (w3 : (Cond.initialized y.cls).before a0 Z = true) (w4 : (Cond.code y yb yml yrt).before a0 Z = true) (hy : y.cls ≠ "java/lang/invoke/MethodHandle" ∧ y.cls ≠ "java/lang/invoke/VarHandle")
    (hM : Mt l Z y yb yml yrt rm argsL.toArray h n0 (KeepA h ws P)) (hfr : rm.frames + 1 ≤ R.frames) (hlo : W + (yml + 11) + rm.locals ≤ R.locals) (hc : cells + rm.cells ≤ R.cells) (hs : slots + rm.slots ≤ R.slots) (hlen : ∀ sig, parseMethodDescriptor y.desc = some sig → argsL.length = sig.parameters.length) (hL : L.size = ml) (hst : st = argsL.reverse ++ rest) (hW : (rest.map fun v => v.category).sum ≤ W)
    (kont : ∀ r T' h', Wk p l e R s m args below meth c n0 T' h' (cells + rm.cells) (slots + rm.slots) → Keep h h' ws → P r h' → Fi p e below s n0 C S Q (T'.setTop (mkF m pc' L (.ref r :: rest)))) : Fi p e below s n0 C S Q (T.setTop (mkF m pc L (st))) := by
  refine g_callS K X (argsL := argsL) (rest := rest) W hd hp w1 w2 w3 w4 hy hM hfr hlo hc hs hlen hL hst hW (fun v T' h' X' hq => ?_) (fun _ _ q => by obtain ⟨_, _, k, _⟩ := q; exact k.1)
  obtain ⟨r, rfl, hK, hP⟩ := hq
  exact kont r T' h' X' hK hP
theorem g_callSK0 (K : Cx Z p s m meth c own bytes ml rt nm) (X : Wk p l e R s m args below meth c n0 T h cells slots) {pc pc' : Nat} {L : Array Slot} {st rest argsL : List Value} {index : Nat} {y : MethodName} {yb : ByteArray} {yml : Nat} {yrt : Option FieldType} {rm : Room} {P : Heap → Prop} {ws : List Addr} (W : Nat) (hd : decode bytes pc = .ok (.invokestatic index, 3)) (hp : pc + 3 = pc') (w1 : (Cond.methodLink own index y).before a0 Z = true) (w2 : (Cond.static y).before a0 Z = true) (w3 : (Cond.initialized y.cls).before a0 Z = true) (w4 : (Cond.code y yb yml yrt).before a0 Z = true) (hy : y.cls ≠ "java/lang/invoke/MethodHandle" ∧ y.cls ≠ "java/lang/invoke/VarHandle")
    (hM : Mt l Z y yb yml yrt rm argsL.toArray h n0 (Keep0 h ws P)) (hfr : rm.frames + 1 ≤ R.frames) (hlo : W + (yml + 11) + rm.locals ≤ R.locals) (hc : cells + rm.cells ≤ R.cells) (hs : slots + rm.slots ≤ R.slots) (hlen : ∀ sig, parseMethodDescriptor y.desc = some sig → argsL.length = sig.parameters.length) (hL : L.size = ml) (hst : st = argsL.reverse ++ rest) (hW : (rest.map fun v => v.category).sum ≤ W)
    (kont : ∀ T' h', Wk p l e R s m args below meth c n0 T' h' (cells + rm.cells) (slots + rm.slots) → Keep h h' ws → P h' → Fi p e below s n0 C S Q (T'.setTop (mkF m pc' L (rest)))) : Fi p e below s n0 C S Q (T.setTop (mkF m pc L (st))) := by
  refine g_callS K X (argsL := argsL) (rest := rest) W hd hp w1 w2 w3 w4 hy hM hfr hlo hc hs hlen hL hst hW (fun v T' h' X' hq => ?_) (fun _ _ q => q.2.1.1)
  obtain ⟨rfl, hK, hP⟩ := hq
  exact kont T' h' X' hK hP
theorem g_specialK0 (K : Cx Z p s m meth c own bytes ml rt nm) (X : Wk p l e R s m args below meth c n0 T h cells slots) {pc pc' : Nat} {L : Array Slot} {st rest argsL : List Value} {index : Nat} {a : Addr} {y : MethodName} {yb : ByteArray} {yml : Nat} {rm : Room} {P : Heap → Prop} {ws : List Addr} (W : Nat) (hd : decode bytes pc = .ok (.invokespecial index, 3)) (hp : pc + 3 = pc') (w1 : (Cond.methodLink own index y).before a0 Z = true) (w2 : (Cond.instanceMethod y).before a0 Z = true) (w3 : (Cond.initialized y.cls).before a0 Z = true) (w4 : (Cond.code y yb yml none).before a0 Z = true) (hi : y.name = "<init>") (hy : y.cls ≠ "java/lang/invoke/MethodHandle" ∧ y.cls ≠ "java/lang/invoke/VarHandle")
    (hM : Mt l Z y yb yml none rm (.ref a :: argsL).toArray h n0 (Keep0 h ws P)) (hfr : rm.frames + 1 ≤ R.frames) (hlo : W + (yml + 11) + rm.locals ≤ R.locals) (hc : cells + rm.cells ≤ R.cells) (hs : slots + rm.slots ≤ R.slots) (hlen : ∀ sig, parseMethodDescriptor y.desc = some sig → argsL.length = sig.parameters.length) (hL : L.size = ml) (hst : st = argsL.reverse ++ .ref a :: rest) (hW : (rest.map fun v => v.category).sum ≤ W)
    (kont : ∀ T' h', Wk p l e R s m args below meth c n0 T' h' (cells + rm.cells) (slots + rm.slots) → Keep h h' ws → P h' → Fi p e below s n0 C S Q (T'.setTop (mkF m pc' L (rest)))) : Fi p e below s n0 C S Q (T.setTop (mkF m pc L (st))) := by
  refine g_special K X (a := a) (argsL := argsL) (rest := rest) W hd hp w1 w2 w3 w4 hi hy hM hfr hlo hc hs hlen hL hst hW (fun v T' h' X' hq => ?_) (fun _ _ q => q.2.1.1)
  obtain ⟨rfl, hK, hP⟩ := hq
  exact kont T' h' X' hK hP
theorem g_virtualI (K : Cx Z p s m meth c own bytes ml rt nm) (X : Wk p l e R s m args below meth c n0 T h cells slots) {pc pc' : Nat} {L : Array Slot} {st rest argsL : List Value} {index : Nat} {a : Addr} {Cl : String} {y : MethodName} {yb : ByteArray} {yml : Nat} {yrt : Option FieldType} {rm : Room} {P : Int32 → Prop} (W : Nat) (hd : decode bytes pc = .ok (.invokevirtual index, 3)) (hp : pc + 3 = pc') (w1 : (Cond.methodLink own index y).before a0 Z = true) (w2 : (Cond.declares y).before a0 Z = true) (w5 : (Cond.selects Cl y y).before a0 Z = true) (w6 : (Cond.instanceMethod y).before a0 Z = true) (w3 : (Cond.initialized y.cls).before a0 Z = true) (w4 : (Cond.code y yb yml yrt).before a0 Z = true) (hy : y.cls ≠ "java/lang/invoke/MethodHandle" ∧ y.cls ≠ "java/lang/invoke/VarHandle") (E : Exa Z h a Cl)
    (hM : Mt l Z y yb yml yrt rm (.ref a :: argsL).toArray h n0 (PureI h P)) (hfr : rm.frames + 1 ≤ R.frames) (hlo : W + (yml + 11) + rm.locals ≤ R.locals) (hc : cells + rm.cells ≤ R.cells) (hs : slots + rm.slots ≤ R.slots) (hlen : ∀ sig, parseMethodDescriptor y.desc = some sig → argsL.length = sig.parameters.length) (hL : L.size = ml) (hst : st = argsL.reverse ++ .ref a :: rest) (hW : (rest.map fun v => v.category).sum ≤ W)
    (kont : ∀ r T', Wk p l e R s m args below meth c n0 T' h (cells + rm.cells) (slots + rm.slots) → P r → Fi p e below s n0 C S Q (T'.setTop (mkF m pc' L (.int r :: rest)))) : Fi p e below s n0 C S Q (T.setTop (mkF m pc L (st))) := by
  refine g_virtual K X (a := a) (argsL := argsL) (rest := rest) W hd hp w1 w2 w5 w6 w3 w4 hy E hM hfr hlo hc hs hlen hL hst hW (fun v T' h' X' hq => ?_) (fun _ _ q => by obtain ⟨_, _, _, rfl⟩ := q; exact Nat.le_refl _)
  obtain ⟨r, rfl, hP, rfl⟩ := hq
  exact kont r T' X' hP
theorem g_virtualJ (K : Cx Z p s m meth c own bytes ml rt nm) (X : Wk p l e R s m args below meth c n0 T h cells slots) {pc pc' : Nat} {L : Array Slot} {st rest argsL : List Value} {index : Nat} {a : Addr} {Cl : String} {y : MethodName} {yb : ByteArray} {yml : Nat} {yrt : Option FieldType} {rm : Room} {P : Int64 → Prop} (W : Nat) (hd : decode bytes pc = .ok (.invokevirtual index, 3)) (hp : pc + 3 = pc') (w1 : (Cond.methodLink own index y).before a0 Z = true) (w2 : (Cond.declares y).before a0 Z = true) (w5 : (Cond.selects Cl y y).before a0 Z = true) (w6 : (Cond.instanceMethod y).before a0 Z = true) (w3 : (Cond.initialized y.cls).before a0 Z = true) (w4 : (Cond.code y yb yml yrt).before a0 Z = true) (hy : y.cls ≠ "java/lang/invoke/MethodHandle" ∧ y.cls ≠ "java/lang/invoke/VarHandle") (E : Exa Z h a Cl)
    (hM : Mt l Z y yb yml yrt rm (.ref a :: argsL).toArray h n0 (PureJ h P)) (hfr : rm.frames + 1 ≤ R.frames) (hlo : W + (yml + 11) + rm.locals ≤ R.locals) (hc : cells + rm.cells ≤ R.cells) (hs : slots + rm.slots ≤ R.slots) (hlen : ∀ sig, parseMethodDescriptor y.desc = some sig → argsL.length = sig.parameters.length) (hL : L.size = ml) (hst : st = argsL.reverse ++ .ref a :: rest) (hW : (rest.map fun v => v.category).sum ≤ W)
    (kont : ∀ r T', Wk p l e R s m args below meth c n0 T' h (cells + rm.cells) (slots + rm.slots) → P r → Fi p e below s n0 C S Q (T'.setTop (mkF m pc' L (.long r :: rest)))) : Fi p e below s n0 C S Q (T.setTop (mkF m pc L (st))) := by
  refine g_virtual K X (a := a) (argsL := argsL) (rest := rest) W hd hp w1 w2 w5 w6 w3 w4 hy E hM hfr hlo hc hs hlen hL hst hW (fun v T' h' X' hq => ?_) (fun _ _ q => by obtain ⟨_, _, _, rfl⟩ := q; exact Nat.le_refl _)
  obtain ⟨r, rfl, hP, rfl⟩ := hq
  exact kont r T' X' hP
theorem g_virtualKI (K : Cx Z p s m meth c own bytes ml rt nm) (X : Wk p l e R s m args below meth c n0 T h cells slots) {pc pc' : Nat} {L : Array Slot} {st rest argsL : List Value} {index : Nat} {a : Addr} {Cl : String} {y : MethodName} {yb : ByteArray} {yml : Nat} {yrt : Option FieldType} {rm : Room} {P : Int32 → Heap → Prop} {ws : List Addr} (W : Nat) (hd : decode bytes pc = .ok (.invokevirtual index, 3)) (hp : pc + 3 = pc') (w1 : (Cond.methodLink own index y).before a0 Z = true) (w2 : (Cond.declares y).before a0 Z = true) (w5 : (Cond.selects Cl y y).before a0 Z = true) (w6 : (Cond.instanceMethod y).before a0 Z = true) (w3 : (Cond.initialized y.cls).before a0 Z = true) (w4 : (Cond.code y yb yml yrt).before a0 Z = true) (hy : y.cls ≠ "java/lang/invoke/MethodHandle" ∧ y.cls ≠ "java/lang/invoke/VarHandle") (E : Exa Z h a Cl)
    (hM : Mt l Z y yb yml yrt rm (.ref a :: argsL).toArray h n0 (KeepI h ws P)) (hfr : rm.frames + 1 ≤ R.frames) (hlo : W + (yml + 11) + rm.locals ≤ R.locals) (hc : cells + rm.cells ≤ R.cells) (hs : slots + rm.slots ≤ R.slots) (hlen : ∀ sig, parseMethodDescriptor y.desc = some sig → argsL.length = sig.parameters.length) (hL : L.size = ml) (hst : st = argsL.reverse ++ .ref a :: rest) (hW : (rest.map fun v => v.category).sum ≤ W)
    (kont : ∀ r T' h', Wk p l e R s m args below meth c n0 T' h' (cells + rm.cells) (slots + rm.slots) → Keep h h' ws → P r h' → Fi p e below s n0 C S Q (T'.setTop (mkF m pc' L (.int r :: rest)))) : Fi p e below s n0 C S Q (T.setTop (mkF m pc L (st))) := by
  refine g_virtual K X (a := a) (argsL := argsL) (rest := rest) W hd hp w1 w2 w5 w6 w3 w4 hy E hM hfr hlo hc hs hlen hL hst hW (fun v T' h' X' hq => ?_) (fun _ _ q => by obtain ⟨_, _, k, _⟩ := q; exact k.1)
  obtain ⟨r, rfl, hK, hP⟩ := hq
  exact kont r T' h' X' hK hP
theorem g_virtualKA (K : Cx Z p s m meth c own bytes ml rt nm) (X : Wk p l e R s m args below meth c n0 T h cells slots) {pc pc' : Nat} {L : Array Slot} {st rest argsL : List Value} {index : Nat} {a : Addr} {Cl : String} {y : MethodName} {yb : ByteArray} {yml : Nat} {yrt : Option FieldType} {rm : Room} {P : Addr → Heap → Prop} {ws : List Addr} (W : Nat) (hd : decode bytes pc = .ok (.invokevirtual index, 3)) (hp : pc + 3 = pc') (w1 : (Cond.methodLink own index y).before a0 Z = true) (w2 : (Cond.declares y).before a0 Z = true) (w5 : (Cond.selects Cl y y).before a0 Z = true) (w6 : (Cond.instanceMethod y).before a0 Z = true) (w3 : (Cond.initialized y.cls).before a0 Z = true) (w4 : (Cond.code y yb yml yrt).before a0 Z = true) (hy : y.cls ≠ "java/lang/invoke/MethodHandle" ∧ y.cls ≠ "java/lang/invoke/VarHandle") (E : Exa Z h a Cl)
    (hM : Mt l Z y yb yml yrt rm (.ref a :: argsL).toArray h n0 (KeepA h ws P)) (hfr : rm.frames + 1 ≤ R.frames) (hlo : W + (yml + 11) + rm.locals ≤ R.locals) (hc : cells + rm.cells ≤ R.cells) (hs : slots + rm.slots ≤ R.slots) (hlen : ∀ sig, parseMethodDescriptor y.desc = some sig → argsL.length = sig.parameters.length) (hL : L.size = ml) (hst : st = argsL.reverse ++ .ref a :: rest) (hW : (rest.map fun v => v.category).sum ≤ W)
    (kont : ∀ r T' h', Wk p l e R s m args below meth c n0 T' h' (cells + rm.cells) (slots + rm.slots) → Keep h h' ws → P r h' → Fi p e below s n0 C S Q (T'.setTop (mkF m pc' L (.ref r :: rest)))) : Fi p e below s n0 C S Q (T.setTop (mkF m pc L (st))) := by
  refine g_virtual K X (a := a) (argsL := argsL) (rest := rest) W hd hp w1 w2 w5 w6 w3 w4 hy E hM hfr hlo hc hs hlen hL hst hW (fun v T' h' X' hq => ?_) (fun _ _ q => by obtain ⟨_, _, k, _⟩ := q; exact k.1)
  obtain ⟨r, rfl, hK, hP⟩ := hq
  exact kont r T' h' X' hK hP
theorem g_virtualK0 (K : Cx Z p s m meth c own bytes ml rt nm) (X : Wk p l e R s m args below meth c n0 T h cells slots) {pc pc' : Nat} {L : Array Slot} {st rest argsL : List Value} {index : Nat} {a : Addr} {Cl : String} {y : MethodName} {yb : ByteArray} {yml : Nat} {yrt : Option FieldType} {rm : Room} {P : Heap → Prop} {ws : List Addr} (W : Nat) (hd : decode bytes pc = .ok (.invokevirtual index, 3)) (hp : pc + 3 = pc') (w1 : (Cond.methodLink own index y).before a0 Z = true) (w2 : (Cond.declares y).before a0 Z = true) (w5 : (Cond.selects Cl y y).before a0 Z = true) (w6 : (Cond.instanceMethod y).before a0 Z = true) (w3 : (Cond.initialized y.cls).before a0 Z = true) (w4 : (Cond.code y yb yml yrt).before a0 Z = true) (hy : y.cls ≠ "java/lang/invoke/MethodHandle" ∧ y.cls ≠ "java/lang/invoke/VarHandle") (E : Exa Z h a Cl)
    (hM : Mt l Z y yb yml yrt rm (.ref a :: argsL).toArray h n0 (Keep0 h ws P)) (hfr : rm.frames + 1 ≤ R.frames) (hlo : W + (yml + 11) + rm.locals ≤ R.locals) (hc : cells + rm.cells ≤ R.cells) (hs : slots + rm.slots ≤ R.slots) (hlen : ∀ sig, parseMethodDescriptor y.desc = some sig → argsL.length = sig.parameters.length) (hL : L.size = ml) (hst : st = argsL.reverse ++ .ref a :: rest) (hW : (rest.map fun v => v.category).sum ≤ W)
    (kont : ∀ T' h', Wk p l e R s m args below meth c n0 T' h' (cells + rm.cells) (slots + rm.slots) → Keep h h' ws → P h' → Fi p e below s n0 C S Q (T'.setTop (mkF m pc' L (rest)))) : Fi p e below s n0 C S Q (T.setTop (mkF m pc L (st))) := by
  refine g_virtual K X (a := a) (argsL := argsL) (rest := rest) W hd hp w1 w2 w5 w6 w3 w4 hy E hM hfr hlo hc hs hlen hL hst hW (fun v T' h' X' hq => ?_) (fun _ _ q => q.2.1.1)
  obtain ⟨rfl, hK, hP⟩ := hq
  exact kont T' h' X' hK hP
theorem g_privateI (K : Cx Z p s m meth c own bytes ml rt nm) (X : Wk p l e R s m args below meth c n0 T h cells slots) {pc pc' : Nat} {L : Array Slot} {st rest argsL : List Value} {index kk : Nat} {a : Addr} {Cl : String} {y : MethodName} {yb : ByteArray} {yml : Nat} {yrt : Option FieldType} {rm : Room} {P : Int32 → Prop} (W : Nat) (hd : decode bytes pc = .ok (.invokevirtual index, 3)) (hp : pc + 3 = pc') (w1 : (Cond.methodLink own index y).before a0 Z = true) (w2 : (Cond.instanceMethod y).before a0 Z = true) (w5 : (Cond.privateMethod y).before a0 Z = true) (w6 : (Cond.instantiable y.cls kk).before a0 Z = true) (w3 : (Cond.initialized y.cls).before a0 Z = true) (w4 : (Cond.code y yb yml yrt).before a0 Z = true) (hy : y.cls ≠ "java/lang/invoke/MethodHandle" ∧ y.cls ≠ "java/lang/invoke/VarHandle") (E : Exa Z h a Cl)
    (hM : Mt l Z y yb yml yrt rm (.ref a :: argsL).toArray h n0 (PureI h P)) (hfr : rm.frames + 1 ≤ R.frames) (hlo : W + (yml + 11) + rm.locals ≤ R.locals) (hc : cells + rm.cells ≤ R.cells) (hs : slots + rm.slots ≤ R.slots) (hlen : ∀ sig, parseMethodDescriptor y.desc = some sig → argsL.length = sig.parameters.length) (hL : L.size = ml) (hst : st = argsL.reverse ++ .ref a :: rest) (hW : (rest.map fun v => v.category).sum ≤ W)
    (kont : ∀ r T', Wk p l e R s m args below meth c n0 T' h (cells + rm.cells) (slots + rm.slots) → P r → Fi p e below s n0 C S Q (T'.setTop (mkF m pc' L (.int r :: rest)))) : Fi p e below s n0 C S Q (T.setTop (mkF m pc L (st))) := by
  refine g_private K X (a := a) (argsL := argsL) (rest := rest) W hd hp w1 w2 w5 w6 w3 w4 hy E hM hfr hlo hc hs hlen hL hst hW (fun v T' h' X' hq => ?_) (fun _ _ q => by obtain ⟨_, _, _, rfl⟩ := q; exact Nat.le_refl _)
  obtain ⟨r, rfl, hP, rfl⟩ := hq
  exact kont r T' X' hP
theorem g_privateJ (K : Cx Z p s m meth c own bytes ml rt nm) (X : Wk p l e R s m args below meth c n0 T h cells slots) {pc pc' : Nat} {L : Array Slot} {st rest argsL : List Value} {index kk : Nat} {a : Addr} {Cl : String} {y : MethodName} {yb : ByteArray} {yml : Nat} {yrt : Option FieldType} {rm : Room} {P : Int64 → Prop} (W : Nat) (hd : decode bytes pc = .ok (.invokevirtual index, 3)) (hp : pc + 3 = pc') (w1 : (Cond.methodLink own index y).before a0 Z = true) (w2 : (Cond.instanceMethod y).before a0 Z = true) (w5 : (Cond.privateMethod y).before a0 Z = true) (w6 : (Cond.instantiable y.cls kk).before a0 Z = true) (w3 : (Cond.initialized y.cls).before a0 Z = true) (w4 : (Cond.code y yb yml yrt).before a0 Z = true) (hy : y.cls ≠ "java/lang/invoke/MethodHandle" ∧ y.cls ≠ "java/lang/invoke/VarHandle") (E : Exa Z h a Cl)
    (hM : Mt l Z y yb yml yrt rm (.ref a :: argsL).toArray h n0 (PureJ h P)) (hfr : rm.frames + 1 ≤ R.frames) (hlo : W + (yml + 11) + rm.locals ≤ R.locals) (hc : cells + rm.cells ≤ R.cells) (hs : slots + rm.slots ≤ R.slots) (hlen : ∀ sig, parseMethodDescriptor y.desc = some sig → argsL.length = sig.parameters.length) (hL : L.size = ml) (hst : st = argsL.reverse ++ .ref a :: rest) (hW : (rest.map fun v => v.category).sum ≤ W)
    (kont : ∀ r T', Wk p l e R s m args below meth c n0 T' h (cells + rm.cells) (slots + rm.slots) → P r → Fi p e below s n0 C S Q (T'.setTop (mkF m pc' L (.long r :: rest)))) : Fi p e below s n0 C S Q (T.setTop (mkF m pc L (st))) := by
  refine g_private K X (a := a) (argsL := argsL) (rest := rest) W hd hp w1 w2 w5 w6 w3 w4 hy E hM hfr hlo hc hs hlen hL hst hW (fun v T' h' X' hq => ?_) (fun _ _ q => by obtain ⟨_, _, _, rfl⟩ := q; exact Nat.le_refl _)
  obtain ⟨r, rfl, hP, rfl⟩ := hq
  exact kont r T' X' hP
theorem g_privateKI (K : Cx Z p s m meth c own bytes ml rt nm) (X : Wk p l e R s m args below meth c n0 T h cells slots) {pc pc' : Nat} {L : Array Slot} {st rest argsL : List Value} {index kk : Nat} {a : Addr} {Cl : String} {y : MethodName} {yb : ByteArray} {yml : Nat} {yrt : Option FieldType} {rm : Room} {P : Int32 → Heap → Prop} {ws : List Addr} (W : Nat) (hd : decode bytes pc = .ok (.invokevirtual index, 3)) (hp : pc + 3 = pc') (w1 : (Cond.methodLink own index y).before a0 Z = true) (w2 : (Cond.instanceMethod y).before a0 Z = true) (w5 : (Cond.privateMethod y).before a0 Z = true) (w6 : (Cond.instantiable y.cls kk).before a0 Z = true) (w3 : (Cond.initialized y.cls).before a0 Z = true) (w4 : (Cond.code y yb yml yrt).before a0 Z = true) (hy : y.cls ≠ "java/lang/invoke/MethodHandle" ∧ y.cls ≠ "java/lang/invoke/VarHandle") (E : Exa Z h a Cl)
    (hM : Mt l Z y yb yml yrt rm (.ref a :: argsL).toArray h n0 (KeepI h ws P)) (hfr : rm.frames + 1 ≤ R.frames) (hlo : W + (yml + 11) + rm.locals ≤ R.locals) (hc : cells + rm.cells ≤ R.cells) (hs : slots + rm.slots ≤ R.slots) (hlen : ∀ sig, parseMethodDescriptor y.desc = some sig → argsL.length = sig.parameters.length) (hL : L.size = ml) (hst : st = argsL.reverse ++ .ref a :: rest) (hW : (rest.map fun v => v.category).sum ≤ W)
    (kont : ∀ r T' h', Wk p l e R s m args below meth c n0 T' h' (cells + rm.cells) (slots + rm.slots) → Keep h h' ws → P r h' → Fi p e below s n0 C S Q (T'.setTop (mkF m pc' L (.int r :: rest)))) : Fi p e below s n0 C S Q (T.setTop (mkF m pc L (st))) := by
  refine g_private K X (a := a) (argsL := argsL) (rest := rest) W hd hp w1 w2 w5 w6 w3 w4 hy E hM hfr hlo hc hs hlen hL hst hW (fun v T' h' X' hq => ?_) (fun _ _ q => by obtain ⟨_, _, k, _⟩ := q; exact k.1)
  obtain ⟨r, rfl, hK, hP⟩ := hq
  exact kont r T' h' X' hK hP
theorem g_privateKA (K : Cx Z p s m meth c own bytes ml rt nm) (X : Wk p l e R s m args below meth c n0 T h cells slots) {pc pc' : Nat} {L : Array Slot} {st rest argsL : List Value} {index kk : Nat} {a : Addr} {Cl : String} {y : MethodName} {yb : ByteArray} {yml : Nat} {yrt : Option FieldType} {rm : Room} {P : Addr → Heap → Prop} {ws : List Addr} (W : Nat) (hd : decode bytes pc = .ok (.invokevirtual index, 3)) (hp : pc + 3 = pc') (w1 : (Cond.methodLink own index y).before a0 Z = true) (w2 : (Cond.instanceMethod y).before a0 Z = true) (w5 : (Cond.privateMethod y).before a0 Z = true) (w6 : (Cond.instantiable y.cls kk).before a0 Z = true) (w3 : (Cond.initialized y.cls).before a0 Z = true) (w4 : (Cond.code y yb yml yrt).before a0 Z = true) (hy : y.cls ≠ "java/lang/invoke/MethodHandle" ∧ y.cls ≠ "java/lang/invoke/VarHandle") (E : Exa Z h a Cl)
    (hM : Mt l Z y yb yml yrt rm (.ref a :: argsL).toArray h n0 (KeepA h ws P)) (hfr : rm.frames + 1 ≤ R.frames) (hlo : W + (yml + 11) + rm.locals ≤ R.locals) (hc : cells + rm.cells ≤ R.cells) (hs : slots + rm.slots ≤ R.slots) (hlen : ∀ sig, parseMethodDescriptor y.desc = some sig → argsL.length = sig.parameters.length) (hL : L.size = ml) (hst : st = argsL.reverse ++ .ref a :: rest) (hW : (rest.map fun v => v.category).sum ≤ W)
    (kont : ∀ r T' h', Wk p l e R s m args below meth c n0 T' h' (cells + rm.cells) (slots + rm.slots) → Keep h h' ws → P r h' → Fi p e below s n0 C S Q (T'.setTop (mkF m pc' L (.ref r :: rest)))) : Fi p e below s n0 C S Q (T.setTop (mkF m pc L (st))) := by
  refine g_private K X (a := a) (argsL := argsL) (rest := rest) W hd hp w1 w2 w5 w6 w3 w4 hy E hM hfr hlo hc hs hlen hL hst hW (fun v T' h' X' hq => ?_) (fun _ _ q => by obtain ⟨_, _, k, _⟩ := q; exact k.1)
  obtain ⟨r, rfl, hK, hP⟩ := hq
  exact kont r T' h' X' hK hP
theorem g_privateK0 (K : Cx Z p s m meth c own bytes ml rt nm) (X : Wk p l e R s m args below meth c n0 T h cells slots) {pc pc' : Nat} {L : Array Slot} {st rest argsL : List Value} {index kk : Nat} {a : Addr} {Cl : String} {y : MethodName} {yb : ByteArray} {yml : Nat} {yrt : Option FieldType} {rm : Room} {P : Heap → Prop} {ws : List Addr} (W : Nat) (hd : decode bytes pc = .ok (.invokevirtual index, 3)) (hp : pc + 3 = pc') (w1 : (Cond.methodLink own index y).before a0 Z = true) (w2 : (Cond.instanceMethod y).before a0 Z = true) (w5 : (Cond.privateMethod y).before a0 Z = true) (w6 : (Cond.instantiable y.cls kk).before a0 Z = true) (w3 : (Cond.initialized y.cls).before a0 Z = true) (w4 : (Cond.code y yb yml yrt).before a0 Z = true) (hy : y.cls ≠ "java/lang/invoke/MethodHandle" ∧ y.cls ≠ "java/lang/invoke/VarHandle") (E : Exa Z h a Cl)
    (hM : Mt l Z y yb yml yrt rm (.ref a :: argsL).toArray h n0 (Keep0 h ws P)) (hfr : rm.frames + 1 ≤ R.frames) (hlo : W + (yml + 11) + rm.locals ≤ R.locals) (hc : cells + rm.cells ≤ R.cells) (hs : slots + rm.slots ≤ R.slots) (hlen : ∀ sig, parseMethodDescriptor y.desc = some sig → argsL.length = sig.parameters.length) (hL : L.size = ml) (hst : st = argsL.reverse ++ .ref a :: rest) (hW : (rest.map fun v => v.category).sum ≤ W)
    (kont : ∀ T' h', Wk p l e R s m args below meth c n0 T' h' (cells + rm.cells) (slots + rm.slots) → Keep h h' ws → P h' → Fi p e below s n0 C S Q (T'.setTop (mkF m pc' L (rest)))) : Fi p e below s n0 C S Q (T.setTop (mkF m pc L (st))) := by
  refine g_private K X (a := a) (argsL := argsL) (rest := rest) W hd hp w1 w2 w5 w6 w3 w4 hy E hM hfr hlo hc hs hlen hL hst hW (fun v T' h' X' hq => ?_) (fun _ _ q => q.2.1.1)
  obtain ⟨rfl, hK, hP⟩ := hq
  exact kont T' h' X' hK hP
end OwnKit
theorem pn_0 : plainName "com/example/seille/seille/io/LineCounterTakePinLaw" = true := by first | (simp [plainName, overriddenIn]; done) | decide +kernel
theorem pn_1 : plainName "com/example/seille/seille/io/LineCounter" = true := by first | (simp [plainName, overriddenIn]; done) | decide +kernel
theorem pd_0 : parseMethodDescriptor "(I)C" = some ⟨[.int], some .char⟩ := by decide +kernel
theorem pd_1 : parseMethodDescriptor "()V" = some ⟨[], none⟩ := by decide +kernel
theorem pd_2 : parseMethodDescriptor "(C)Z" = some ⟨[.char], some .boolean⟩ := by decide +kernel
theorem pd_3 : parseMethodDescriptor "([JC)Z" = some ⟨[(.array .long), .char], some .boolean⟩ := by decide +kernel
theorem pd_4 : parseMethodDescriptor "()J" = some ⟨[], some .long⟩ := by decide +kernel
def LC (Z : State) (h : Heap) (a : Addr) (ln le : Int64) (ac : Int32) : Prop := Exa Z h a "com/example/seille/seille/io/LineCounter" ∧ Fld Z h a "com/example/seille/seille/io/LineCounter" "line" "J" (.long ln) ∧ Fld Z h a "com/example/seille/seille/io/LineCounter" "length" "J" (.long le) ∧ Fld Z h a "com/example/seille/seille/io/LineCounter" "afterCarriageReturn" "Z" (.int ac)
def TK (c : Int32) (ln le : Int64) (ac : Int32) (ln' le' : Int64) (ac' r : Int32) : Prop :=
  (c.toInt = 13 ∧ ln' = ln + 1 ∧ le' = 0 ∧ ac' = 1 ∧ r = 0) ∨ (c.toInt = 10 ∧ ac.toInt = 0 ∧ ln' = ln + 1 ∧ le' = 0 ∧ ac' = 0 ∧ r = 0) ∨ (c.toInt = 10 ∧ ac.toInt ≠ 0 ∧ ln' = ln ∧ le' = le ∧ ac' = 0 ∧ r = 0) ∨ (c.toInt ≠ 13 ∧ c.toInt ≠ 10 ∧ ln' = ln ∧ le' = le + 1 ∧ ac' = 0 ∧ r = 1)
theorem d2_0 : decode prog_15_method_1_code 0 = .ok (.aload_n 0, 1) := by decide +kernel
theorem d2_1 : decode prog_15_method_1_code 1 = .ok (.invokespecial 1, 3) := by decide +kernel
theorem d2_4 : decode prog_15_method_1_code 4 = .ok (.aload_n 0, 1) := by decide +kernel
theorem d2_5 : decode prog_15_method_1_code 5 = .ok (.lconst 1, 1) := by decide +kernel
theorem d2_6 : decode prog_15_method_1_code 6 = .ok (.putfield 7, 3) := by decide +kernel
theorem d2_9 : decode prog_15_method_1_code 9 = .ok (.return_, 1) := by decide +kernel
theorem ef_2 (m : MethodId) (x0 : Addr) : entryFrame m #[.ref x0] 1 = mkF m 0 #[.val (.ref x0)] [] := by first | (simp [entryFrame, mkF, argsToLocals, Value.category, maxLocals]; done) | rfl
set_option maxRecDepth 65536 in
set_option maxHeartbeats 40000000 in
theorem rm_init (l : Launch) (Z : State) (a0 : Array Value) (hw : ∀ d ∈ tables_1, d.before a0 Z = true) (a1 : Addr) (h : Heap) (n0 : Nat) (Z0 : n0 ≤ h.size) (g1 : n0 ≤ a1) (A : LC Z h a1 0 0 0) :
    Mt l Z (⟨"com/example/seille/seille/io/LineCounter", "<init>", "()V"⟩ : MethodName) prog_15_method_1_code 1 none ({ frames := 1, cells := 0, slots := 0, locals := 12 } : Room) #[.ref a1] h n0 (Keep0 h [a1] (fun h' => LC Z h' a1 1 0 0)) := by
  refine Mt.of (own := "com/example/seille/seille/io/LineCounter") (nm := "<init>") (Ls := #[.val (.ref a1)]) rfl rfl (plainFor_of_name pn_1) Z0 (fun m => ef_2 m a1) ?_
  intro p e s m below meth c T K X
  refine g_aloadN K X (pc' := 1) d2_0 rfl rfl rfl ?_
  refine g_objinit K X (pc' := 4) d2_1 rfl (hw _ (List.mem_of_getElem? (i := 11) rfl)) (hw _ (List.mem_of_getElem? (i := 12) rfl)) (hw _ (List.mem_of_getElem? (i := 13) rfl)) rfl 0 (by decide) (Nat.le_of_ble_eq_true rfl) (by decide) (fun T1 X2 => ?_)
  refine g_aloadN K X2 (pc' := 5) d2_4 rfl rfl rfl ?_
  refine g_lconst K X2 (pc' := 6) (v := (1 : Int64)) d2_5 rfl rfl ?_
  refine g_putfield K X2 (pc' := 9) d2_6 rfl (hw _ (List.mem_of_getElem? (i := 14) rfl)) A.2.1 A.1 (Or.inl (hw _ (List.mem_of_getElem? (i := 15) rfl))) (hw _ (List.mem_of_getElem? (i := 6) rfl)) (ty := .long) (by decide) rfl rfl g1 (fun T3 h4 X5 W6 Kp7 E8 F9 => ?_)
  have f10 := Fld.other W6 A.2.2.1 (Or.inr (slot_ne (C := "com/example/seille/seille/io/LineCounter") (Or.inl (hw _ (List.mem_of_getElem? (i := 22) rfl))) (Or.inl (hw _ (List.mem_of_getElem? (i := 15) rfl))) (by decide) (t := .long) (by decide) (t' := .long) (by decide)))
  have f11 := Fld.other W6 A.2.2.2 (Or.inr (slot_ne (C := "com/example/seille/seille/io/LineCounter") (Or.inl (hw _ (List.mem_of_getElem? (i := 24) rfl))) (Or.inl (hw _ (List.mem_of_getElem? (i := 15) rfl))) (by decide) (t := .boolean) (by decide) (t' := .long) (by decide)))
  have f12 := Exa.keep A.1 Kp7
  have KK13 := Kp7
  exact g_ret0 K X5 d2_9 (by decide) (by decide) ⟨rfl, KK13, ⟨E8, F9, f10, f11⟩⟩

theorem d6_0 : decode prog_15_method_4_code 0 = .ok (.aload_n 0, 1) := by decide +kernel
theorem d6_1 : decode prog_15_method_4_code 1 = .ok (.getfield 7, 3) := by decide +kernel
theorem d6_4 : decode prog_15_method_4_code 4 = .ok (.lreturn, 1) := by decide +kernel
theorem ef_6 (m : MethodId) (x0 : Addr) : entryFrame m #[.ref x0] 1 = mkF m 0 #[.val (.ref x0)] [] := by first | (simp [entryFrame, mkF, argsToLocals, Value.category, maxLocals]; done) | rfl
set_option maxRecDepth 65536 in
set_option maxHeartbeats 40000000 in
theorem rm_line (l : Launch) (Z : State) (a0 : Array Value) (hw : ∀ d ∈ tables_1, d.before a0 Z = true) (a1 : Addr) (ln le : Int64) (ac : Int32) (h : Heap) (n0 : Nat) (Z0 : n0 ≤ h.size) (A : LC Z h a1 ln le ac) :
    Mt l Z (⟨"com/example/seille/seille/io/LineCounter", "line", "()J"⟩ : MethodName) prog_15_method_4_code 1 (some .long) ({ frames := 0, cells := 0, slots := 0, locals := 0 } : Room) #[.ref a1] h n0 (PureJ h (fun r => r = ln)) := by
  refine Mt.of (own := "com/example/seille/seille/io/LineCounter") (nm := "line") (Ls := #[.val (.ref a1)]) rfl rfl (plainFor_of_name pn_1) Z0 (fun m => ef_6 m a1) ?_
  intro p e s m below meth c T K X
  refine g_aloadN K X (pc' := 1) d6_0 rfl rfl rfl ?_
  refine g_getfield K X (pc' := 4) d6_1 rfl (hw _ (List.mem_of_getElem? (i := 14) rfl)) A.2.1 (fun T1 X2 => ?_)
  exact g_retL K X2 d6_4 (by decide) (by decide) ⟨_, rfl, rfl, rfl⟩

theorem d7_0 : decode prog_15_method_5_code 0 = .ok (.aload_n 0, 1) := by decide +kernel
theorem d7_1 : decode prog_15_method_5_code 1 = .ok (.getfield 17, 3) := by decide +kernel
theorem d7_4 : decode prog_15_method_5_code 4 = .ok (.lreturn, 1) := by decide +kernel
theorem ef_7 (m : MethodId) (x0 : Addr) : entryFrame m #[.ref x0] 1 = mkF m 0 #[.val (.ref x0)] [] := by first | (simp [entryFrame, mkF, argsToLocals, Value.category, maxLocals]; done) | rfl
set_option maxRecDepth 65536 in
set_option maxHeartbeats 40000000 in
theorem rm_length (l : Launch) (Z : State) (a0 : Array Value) (hw : ∀ d ∈ tables_1, d.before a0 Z = true) (a1 : Addr) (ln le : Int64) (ac : Int32) (h : Heap) (n0 : Nat) (Z0 : n0 ≤ h.size) (A : LC Z h a1 ln le ac) :
    Mt l Z (⟨"com/example/seille/seille/io/LineCounter", "length", "()J"⟩ : MethodName) prog_15_method_5_code 1 (some .long) ({ frames := 0, cells := 0, slots := 0, locals := 0 } : Room) #[.ref a1] h n0 (PureJ h (fun r => r = le)) := by
  refine Mt.of (own := "com/example/seille/seille/io/LineCounter") (nm := "length") (Ls := #[.val (.ref a1)]) rfl rfl (plainFor_of_name pn_1) Z0 (fun m => ef_7 m a1) ?_
  intro p e s m below meth c T K X
  refine g_aloadN K X (pc' := 1) d7_0 rfl rfl rfl ?_
  refine g_getfield K X (pc' := 4) d7_1 rfl (hw _ (List.mem_of_getElem? (i := 21) rfl)) A.2.2.1 (fun T1 X2 => ?_)
  exact g_retL K X2 d7_4 (by decide) (by decide) ⟨_, rfl, rfl, rfl⟩

theorem d4_0 : decode prog_15_method_2_code 0 = .ok (.iload_n 1, 1) := by decide +kernel
theorem d4_1 : decode prog_15_method_2_code 1 = .ok (.bipush 13, 2) := by decide +kernel
theorem d4_3 : decode prog_15_method_2_code 3 = .ok (.if_icmp .eq 13, 3) := by decide +kernel
theorem d4_6 : decode prog_15_method_2_code 6 = .ok (.iload_n 1, 1) := by decide +kernel
theorem d4_7 : decode prog_15_method_2_code 7 = .ok (.bipush 10, 2) := by decide +kernel
theorem d4_9 : decode prog_15_method_2_code 9 = .ok (.if_icmp .eq 7, 3) := by decide +kernel
theorem d4_12 : decode prog_15_method_2_code 12 = .ok (.iconst 1, 1) := by decide +kernel
theorem d4_13 : decode prog_15_method_2_code 13 = .ok (.goto 4, 3) := by decide +kernel
theorem d4_16 : decode prog_15_method_2_code 16 = .ok (.iconst 0, 1) := by decide +kernel
theorem d4_17 : decode prog_15_method_2_code 17 = .ok (.istore_n 2, 1) := by decide +kernel
theorem d4_18 : decode prog_15_method_2_code 18 = .ok (.iload_n 1, 1) := by decide +kernel
theorem d4_19 : decode prog_15_method_2_code 19 = .ok (.bipush 13, 2) := by decide +kernel
theorem d4_21 : decode prog_15_method_2_code 21 = .ok (.if_icmp .eq 16, 3) := by decide +kernel
theorem d4_24 : decode prog_15_method_2_code 24 = .ok (.iload_n 1, 1) := by decide +kernel
theorem d4_25 : decode prog_15_method_2_code 25 = .ok (.bipush 10, 2) := by decide +kernel
theorem d4_27 : decode prog_15_method_2_code 27 = .ok (.if_icmp .ne 28, 3) := by decide +kernel
theorem d4_30 : decode prog_15_method_2_code 30 = .ok (.aload_n 0, 1) := by decide +kernel
theorem d4_31 : decode prog_15_method_2_code 31 = .ok (.getfield 13, 3) := by decide +kernel
theorem d4_34 : decode prog_15_method_2_code 34 = .ok (.ifCond .ne 21, 3) := by decide +kernel
theorem d4_37 : decode prog_15_method_2_code 37 = .ok (.aload_n 0, 1) := by decide +kernel
theorem d4_38 : decode prog_15_method_2_code 38 = .ok (.dup, 1) := by decide +kernel
theorem d4_39 : decode prog_15_method_2_code 39 = .ok (.getfield 7, 3) := by decide +kernel
theorem d4_42 : decode prog_15_method_2_code 42 = .ok (.lconst 1, 1) := by decide +kernel
theorem d4_43 : decode prog_15_method_2_code 43 = .ok (.ladd, 1) := by decide +kernel
theorem d4_44 : decode prog_15_method_2_code 44 = .ok (.putfield 7, 3) := by decide +kernel
theorem d4_47 : decode prog_15_method_2_code 47 = .ok (.aload_n 0, 1) := by decide +kernel
theorem d4_48 : decode prog_15_method_2_code 48 = .ok (.lconst 0, 1) := by decide +kernel
theorem d4_49 : decode prog_15_method_2_code 49 = .ok (.putfield 17, 3) := by decide +kernel
theorem d4_52 : decode prog_15_method_2_code 52 = .ok (.goto 17, 3) := by decide +kernel
theorem d4_55 : decode prog_15_method_2_code 55 = .ok (.iload_n 2, 1) := by decide +kernel
theorem d4_56 : decode prog_15_method_2_code 56 = .ok (.ifCond .eq 13, 3) := by decide +kernel
theorem d4_59 : decode prog_15_method_2_code 59 = .ok (.aload_n 0, 1) := by decide +kernel
theorem d4_60 : decode prog_15_method_2_code 60 = .ok (.dup, 1) := by decide +kernel
theorem d4_61 : decode prog_15_method_2_code 61 = .ok (.getfield 17, 3) := by decide +kernel
theorem d4_64 : decode prog_15_method_2_code 64 = .ok (.lconst 1, 1) := by decide +kernel
theorem d4_65 : decode prog_15_method_2_code 65 = .ok (.ladd, 1) := by decide +kernel
theorem d4_66 : decode prog_15_method_2_code 66 = .ok (.putfield 17, 3) := by decide +kernel
theorem d4_69 : decode prog_15_method_2_code 69 = .ok (.aload_n 0, 1) := by decide +kernel
theorem d4_70 : decode prog_15_method_2_code 70 = .ok (.iload_n 1, 1) := by decide +kernel
theorem d4_71 : decode prog_15_method_2_code 71 = .ok (.bipush 13, 2) := by decide +kernel
theorem d4_73 : decode prog_15_method_2_code 73 = .ok (.if_icmp .ne 7, 3) := by decide +kernel
theorem d4_76 : decode prog_15_method_2_code 76 = .ok (.iconst 1, 1) := by decide +kernel
theorem d4_77 : decode prog_15_method_2_code 77 = .ok (.goto 4, 3) := by decide +kernel
theorem d4_80 : decode prog_15_method_2_code 80 = .ok (.iconst 0, 1) := by decide +kernel
theorem d4_81 : decode prog_15_method_2_code 81 = .ok (.putfield 13, 3) := by decide +kernel
theorem d4_84 : decode prog_15_method_2_code 84 = .ok (.iload_n 2, 1) := by decide +kernel
theorem d4_85 : decode prog_15_method_2_code 85 = .ok (.ireturn, 1) := by decide +kernel
theorem ef_4 (m : MethodId) (x0 : Addr) (x1 : Int32) : entryFrame m #[.ref x0, .int x1] 3 = mkF m 0 #[.val (.ref x0), .val (.int x1), .unset] [] := by first | (simp [entryFrame, mkF, argsToLocals, Value.category, maxLocals]; done) | rfl
set_option maxRecDepth 65536 in
set_option maxHeartbeats 40000000 in
theorem rm_take (l : Launch) (Z : State) (a0 : Array Value) (hw : ∀ d ∈ tables_1, d.before a0 Z = true) (a1 : Addr) (q : Int32) (ln le : Int64) (ac : Int32) (h : Heap) (n0 : Nat) (Z0 : n0 ≤ h.size) (g1 : n0 ≤ a1) (A : LC Z h a1 ln le ac) :
    Mt l Z (⟨"com/example/seille/seille/io/LineCounter", "take", "(C)Z"⟩ : MethodName) prog_15_method_2_code 3 (some .boolean) ({ frames := 0, cells := 0, slots := 0, locals := 0 } : Room) #[.ref a1, .int q] h n0 (KeepI h [a1] (fun r h' => ∃ ln' le' ac', LC Z h' a1 ln' le' ac' ∧ TK q ln le ac ln' le' ac' r)) := by
  refine Mt.of (own := "com/example/seille/seille/io/LineCounter") (nm := "take") (Ls := #[.val (.ref a1), .val (.int q), .unset]) rfl rfl (plainFor_of_name pn_1) Z0 (fun m => ef_4 m a1 q) ?_
  intro p e s m below meth c T K X
  refine g_iloadN K X (pc' := 1) d4_0 rfl rfl ?_
  refine g_bipush K X (pc' := 3) (v := (13 : Int32)) d4_1 rfl rfl ?_
  refine g_icmp_eq K X (pc' := 16) (pc'' := 6) q.toInt 13 d4_3 (by decide) rfl rfl rfl ?_ ?_
  · intro b3
    refine g_iconst K X (pc' := 17) (v := (0 : Int32)) d4_16 rfl rfl ?_
    refine g_istoreN K X (pc' := 18) (L' := #[.val (.ref a1), .val (.int q), .val (.int (0 : Int32))]) d4_17 rfl rfl ?_
    refine g_iloadN K X (pc' := 19) d4_18 rfl rfl ?_
    refine g_bipush K X (pc' := 21) (v := (13 : Int32)) d4_19 rfl rfl ?_
    refine g_icmp_eq K X (pc' := 37) (pc'' := 24) q.toInt 13 d4_21 (by decide) rfl rfl rfl ?_ ?_
    · intro b21
      refine g_aloadN K X (pc' := 38) d4_37 rfl rfl rfl ?_
      refine g_dup K X (pc' := 39) d4_38 rfl rfl ?_
      refine g_getfield K X (pc' := 42) d4_39 rfl (hw _ (List.mem_of_getElem? (i := 14) rfl)) A.2.1 (fun T1 X2 => ?_)
      refine g_lconst K X2 (pc' := 43) (v := (1 : Int64)) d4_42 rfl rfl ?_
      refine g_ladd K X2 (pc' := 44) d4_43 rfl ?_
      refine g_putfield K X2 (pc' := 47) d4_44 rfl (hw _ (List.mem_of_getElem? (i := 14) rfl)) A.2.1 A.1 (Or.inl (hw _ (List.mem_of_getElem? (i := 15) rfl))) (hw _ (List.mem_of_getElem? (i := 6) rfl)) (ty := .long) (by decide) rfl rfl g1 (fun T3 h4 X5 W6 Kp7 E8 F9 => ?_)
      have f10 := Fld.other W6 A.2.2.1 (Or.inr (slot_ne (C := "com/example/seille/seille/io/LineCounter") (Or.inl (hw _ (List.mem_of_getElem? (i := 22) rfl))) (Or.inl (hw _ (List.mem_of_getElem? (i := 15) rfl))) (by decide) (t := .long) (by decide) (t' := .long) (by decide)))
      have f11 := Fld.other W6 A.2.2.2 (Or.inr (slot_ne (C := "com/example/seille/seille/io/LineCounter") (Or.inl (hw _ (List.mem_of_getElem? (i := 24) rfl))) (Or.inl (hw _ (List.mem_of_getElem? (i := 15) rfl))) (by decide) (t := .boolean) (by decide) (t' := .long) (by decide)))
      have f12 := Exa.keep A.1 Kp7
      have KK13 := Kp7
      refine g_aloadN K X5 (pc' := 48) d4_47 rfl rfl rfl ?_
      refine g_lconst K X5 (pc' := 49) (v := (0 : Int64)) d4_48 rfl rfl ?_
      refine g_putfield K X5 (pc' := 52) d4_49 rfl (hw _ (List.mem_of_getElem? (i := 21) rfl)) f10 E8 (Or.inl (hw _ (List.mem_of_getElem? (i := 22) rfl))) (hw _ (List.mem_of_getElem? (i := 6) rfl)) (ty := .long) (by decide) rfl rfl g1 (fun T14 h15 X16 W17 Kp18 E19 F20 => ?_)
      have f21 := Fld.other W17 f11 (Or.inr (slot_ne (C := "com/example/seille/seille/io/LineCounter") (Or.inl (hw _ (List.mem_of_getElem? (i := 24) rfl))) (Or.inl (hw _ (List.mem_of_getElem? (i := 22) rfl))) (by decide) (t := .boolean) (by decide) (t' := .long) (by decide)))
      have f22 := Fld.other W17 F9 (Or.inr (slot_ne (C := "com/example/seille/seille/io/LineCounter") (Or.inl (hw _ (List.mem_of_getElem? (i := 15) rfl))) (Or.inl (hw _ (List.mem_of_getElem? (i := 22) rfl))) (by decide) (t := .long) (by decide) (t' := .long) (by decide)))
      have f23 := Exa.keep E8 Kp18
      have KK24 := keep_same KK13 Kp18
      refine g_goto K X16 (pc' := 69) d4_52 (by decide) ?_
      refine g_aloadN K X16 (pc' := 70) d4_69 rfl rfl rfl ?_
      refine g_iloadN K X16 (pc' := 71) d4_70 rfl rfl ?_
      refine g_bipush K X16 (pc' := 73) (v := (13 : Int32)) d4_71 rfl rfl ?_
      refine g_icmp_ne K X16 (pc' := 80) (pc'' := 76) q.toInt 13 d4_73 (by decide) rfl rfl rfl ?_ ?_
      · intro b73
        omega
      · intro b73
        refine g_iconst K X16 (pc' := 77) (v := (1 : Int32)) d4_76 rfl rfl ?_
        refine g_goto K X16 (pc' := 81) d4_77 (by decide) ?_
        refine g_putfield K X16 (pc' := 84) d4_81 rfl (hw _ (List.mem_of_getElem? (i := 23) rfl)) f21 E19 (Or.inl (hw _ (List.mem_of_getElem? (i := 24) rfl))) (hw _ (List.mem_of_getElem? (i := 6) rfl)) (ty := .boolean) (by decide) rfl rfl g1 (fun T25 h26 X27 W28 Kp29 E30 F31 => ?_)
        have f32 := Fld.other W28 f22 (Or.inr (slot_ne (C := "com/example/seille/seille/io/LineCounter") (Or.inl (hw _ (List.mem_of_getElem? (i := 15) rfl))) (Or.inl (hw _ (List.mem_of_getElem? (i := 24) rfl))) (by decide) (t := .long) (by decide) (t' := .boolean) (by decide)))
        have f33 := Fld.other W28 F20 (Or.inr (slot_ne (C := "com/example/seille/seille/io/LineCounter") (Or.inl (hw _ (List.mem_of_getElem? (i := 22) rfl))) (Or.inl (hw _ (List.mem_of_getElem? (i := 24) rfl))) (by decide) (t := .long) (by decide) (t' := .boolean) (by decide)))
        have f34 := Exa.keep E19 Kp29
        have KK35 := keep_same KK24 Kp29
        refine g_iloadN K X27 (pc' := 85) d4_84 rfl rfl ?_
        exact g_retN K X27 d4_85 (by simp) (by decide) (by decide) ⟨_, rfl, KK35, (ln + (1 : Int64)), (0 : Int64), (1 : Int32), ⟨E30, f32, f33, F31⟩, Or.inl ⟨by omega, rfl, rfl, rfl, rfl⟩⟩
    · intro b21
      omega
  · intro b3
    refine g_iloadN K X (pc' := 7) d4_6 rfl rfl ?_
    refine g_bipush K X (pc' := 9) (v := (10 : Int32)) d4_7 rfl rfl ?_
    refine g_icmp_eq K X (pc' := 16) (pc'' := 12) q.toInt 10 d4_9 (by decide) rfl rfl rfl ?_ ?_
    · intro b9
      refine g_iconst K X (pc' := 17) (v := (0 : Int32)) d4_16 rfl rfl ?_
      refine g_istoreN K X (pc' := 18) (L' := #[.val (.ref a1), .val (.int q), .val (.int (0 : Int32))]) d4_17 rfl rfl ?_
      refine g_iloadN K X (pc' := 19) d4_18 rfl rfl ?_
      refine g_bipush K X (pc' := 21) (v := (13 : Int32)) d4_19 rfl rfl ?_
      refine g_icmp_eq K X (pc' := 37) (pc'' := 24) q.toInt 13 d4_21 (by decide) rfl rfl rfl ?_ ?_
      · intro b21
        omega
      · intro b21
        refine g_iloadN K X (pc' := 25) d4_24 rfl rfl ?_
        refine g_bipush K X (pc' := 27) (v := (10 : Int32)) d4_25 rfl rfl ?_
        refine g_icmp_ne K X (pc' := 55) (pc'' := 30) q.toInt 10 d4_27 (by decide) rfl rfl rfl ?_ ?_
        · intro b27
          omega
        · intro b27
          refine g_aloadN K X (pc' := 31) d4_30 rfl rfl rfl ?_
          refine g_getfield K X (pc' := 34) d4_31 rfl (hw _ (List.mem_of_getElem? (i := 23) rfl)) A.2.2.2 (fun T36 X37 => ?_)
          refine g_if_ne K X37 (pc' := 55) (pc'' := 37) ac.toInt d4_34 (by decide) rfl rfl ?_ ?_
          · intro b34
            refine g_iloadN K X37 (pc' := 56) d4_55 rfl rfl ?_
            refine g_if_eq K X37 (pc' := 69) (pc'' := 59) 0 d4_56 (by decide) rfl rfl ?_ ?_
            · intro b56
              refine g_aloadN K X37 (pc' := 70) d4_69 rfl rfl rfl ?_
              refine g_iloadN K X37 (pc' := 71) d4_70 rfl rfl ?_
              refine g_bipush K X37 (pc' := 73) (v := (13 : Int32)) d4_71 rfl rfl ?_
              refine g_icmp_ne K X37 (pc' := 80) (pc'' := 76) q.toInt 13 d4_73 (by decide) rfl rfl rfl ?_ ?_
              · intro b73
                refine g_iconst K X37 (pc' := 81) (v := (0 : Int32)) d4_80 rfl rfl ?_
                refine g_putfield K X37 (pc' := 84) d4_81 rfl (hw _ (List.mem_of_getElem? (i := 23) rfl)) A.2.2.2 A.1 (Or.inl (hw _ (List.mem_of_getElem? (i := 24) rfl))) (hw _ (List.mem_of_getElem? (i := 6) rfl)) (ty := .boolean) (by decide) rfl rfl g1 (fun T38 h39 X40 W41 Kp42 E43 F44 => ?_)
                have f45 := Fld.other W41 A.2.1 (Or.inr (slot_ne (C := "com/example/seille/seille/io/LineCounter") (Or.inl (hw _ (List.mem_of_getElem? (i := 15) rfl))) (Or.inl (hw _ (List.mem_of_getElem? (i := 24) rfl))) (by decide) (t := .long) (by decide) (t' := .boolean) (by decide)))
                have f46 := Fld.other W41 A.2.2.1 (Or.inr (slot_ne (C := "com/example/seille/seille/io/LineCounter") (Or.inl (hw _ (List.mem_of_getElem? (i := 22) rfl))) (Or.inl (hw _ (List.mem_of_getElem? (i := 24) rfl))) (by decide) (t := .long) (by decide) (t' := .boolean) (by decide)))
                have f47 := Exa.keep A.1 Kp42
                have KK48 := Kp42
                refine g_iloadN K X40 (pc' := 85) d4_84 rfl rfl ?_
                exact g_retN K X40 d4_85 (by simp) (by decide) (by decide) ⟨_, rfl, KK48, ln, le, (0 : Int32), ⟨E43, f45, f46, F44⟩, Or.inr (Or.inr (Or.inl ⟨by omega, by omega, rfl, rfl, rfl, rfl⟩))⟩
              · intro b73
                omega
            · intro b56
              omega
          · intro b34
            refine g_aloadN K X37 (pc' := 38) d4_37 rfl rfl rfl ?_
            refine g_dup K X37 (pc' := 39) d4_38 rfl rfl ?_
            refine g_getfield K X37 (pc' := 42) d4_39 rfl (hw _ (List.mem_of_getElem? (i := 14) rfl)) A.2.1 (fun T49 X50 => ?_)
            refine g_lconst K X50 (pc' := 43) (v := (1 : Int64)) d4_42 rfl rfl ?_
            refine g_ladd K X50 (pc' := 44) d4_43 rfl ?_
            refine g_putfield K X50 (pc' := 47) d4_44 rfl (hw _ (List.mem_of_getElem? (i := 14) rfl)) A.2.1 A.1 (Or.inl (hw _ (List.mem_of_getElem? (i := 15) rfl))) (hw _ (List.mem_of_getElem? (i := 6) rfl)) (ty := .long) (by decide) rfl rfl g1 (fun T51 h52 X53 W54 Kp55 E56 F57 => ?_)
            have f58 := Fld.other W54 A.2.2.1 (Or.inr (slot_ne (C := "com/example/seille/seille/io/LineCounter") (Or.inl (hw _ (List.mem_of_getElem? (i := 22) rfl))) (Or.inl (hw _ (List.mem_of_getElem? (i := 15) rfl))) (by decide) (t := .long) (by decide) (t' := .long) (by decide)))
            have f59 := Fld.other W54 A.2.2.2 (Or.inr (slot_ne (C := "com/example/seille/seille/io/LineCounter") (Or.inl (hw _ (List.mem_of_getElem? (i := 24) rfl))) (Or.inl (hw _ (List.mem_of_getElem? (i := 15) rfl))) (by decide) (t := .boolean) (by decide) (t' := .long) (by decide)))
            have f60 := Exa.keep A.1 Kp55
            have KK61 := Kp55
            refine g_aloadN K X53 (pc' := 48) d4_47 rfl rfl rfl ?_
            refine g_lconst K X53 (pc' := 49) (v := (0 : Int64)) d4_48 rfl rfl ?_
            refine g_putfield K X53 (pc' := 52) d4_49 rfl (hw _ (List.mem_of_getElem? (i := 21) rfl)) f58 E56 (Or.inl (hw _ (List.mem_of_getElem? (i := 22) rfl))) (hw _ (List.mem_of_getElem? (i := 6) rfl)) (ty := .long) (by decide) rfl rfl g1 (fun T62 h63 X64 W65 Kp66 E67 F68 => ?_)
            have f69 := Fld.other W65 f59 (Or.inr (slot_ne (C := "com/example/seille/seille/io/LineCounter") (Or.inl (hw _ (List.mem_of_getElem? (i := 24) rfl))) (Or.inl (hw _ (List.mem_of_getElem? (i := 22) rfl))) (by decide) (t := .boolean) (by decide) (t' := .long) (by decide)))
            have f70 := Fld.other W65 F57 (Or.inr (slot_ne (C := "com/example/seille/seille/io/LineCounter") (Or.inl (hw _ (List.mem_of_getElem? (i := 15) rfl))) (Or.inl (hw _ (List.mem_of_getElem? (i := 22) rfl))) (by decide) (t := .long) (by decide) (t' := .long) (by decide)))
            have f71 := Exa.keep E56 Kp66
            have KK72 := keep_same KK61 Kp66
            refine g_goto K X64 (pc' := 69) d4_52 (by decide) ?_
            refine g_aloadN K X64 (pc' := 70) d4_69 rfl rfl rfl ?_
            refine g_iloadN K X64 (pc' := 71) d4_70 rfl rfl ?_
            refine g_bipush K X64 (pc' := 73) (v := (13 : Int32)) d4_71 rfl rfl ?_
            refine g_icmp_ne K X64 (pc' := 80) (pc'' := 76) q.toInt 13 d4_73 (by decide) rfl rfl rfl ?_ ?_
            · intro b73
              refine g_iconst K X64 (pc' := 81) (v := (0 : Int32)) d4_80 rfl rfl ?_
              refine g_putfield K X64 (pc' := 84) d4_81 rfl (hw _ (List.mem_of_getElem? (i := 23) rfl)) f69 E67 (Or.inl (hw _ (List.mem_of_getElem? (i := 24) rfl))) (hw _ (List.mem_of_getElem? (i := 6) rfl)) (ty := .boolean) (by decide) rfl rfl g1 (fun T73 h74 X75 W76 Kp77 E78 F79 => ?_)
              have f80 := Fld.other W76 f70 (Or.inr (slot_ne (C := "com/example/seille/seille/io/LineCounter") (Or.inl (hw _ (List.mem_of_getElem? (i := 15) rfl))) (Or.inl (hw _ (List.mem_of_getElem? (i := 24) rfl))) (by decide) (t := .long) (by decide) (t' := .boolean) (by decide)))
              have f81 := Fld.other W76 F68 (Or.inr (slot_ne (C := "com/example/seille/seille/io/LineCounter") (Or.inl (hw _ (List.mem_of_getElem? (i := 22) rfl))) (Or.inl (hw _ (List.mem_of_getElem? (i := 24) rfl))) (by decide) (t := .long) (by decide) (t' := .boolean) (by decide)))
              have f82 := Exa.keep E67 Kp77
              have KK83 := keep_same KK72 Kp77
              refine g_iloadN K X75 (pc' := 85) d4_84 rfl rfl ?_
              exact g_retN K X75 d4_85 (by simp) (by decide) (by decide) ⟨_, rfl, KK83, (ln + (1 : Int64)), (0 : Int64), (0 : Int32), ⟨E78, f80, f81, F79⟩, Or.inr (Or.inl ⟨by omega, by omega, rfl, rfl, rfl, rfl⟩)⟩
            · intro b73
              omega
    · intro b9
      refine g_iconst K X (pc' := 13) (v := (1 : Int32)) d4_12 rfl rfl ?_
      refine g_goto K X (pc' := 17) d4_13 (by decide) ?_
      refine g_istoreN K X (pc' := 18) (L' := #[.val (.ref a1), .val (.int q), .val (.int (1 : Int32))]) d4_17 rfl rfl ?_
      refine g_iloadN K X (pc' := 19) d4_18 rfl rfl ?_
      refine g_bipush K X (pc' := 21) (v := (13 : Int32)) d4_19 rfl rfl ?_
      refine g_icmp_eq K X (pc' := 37) (pc'' := 24) q.toInt 13 d4_21 (by decide) rfl rfl rfl ?_ ?_
      · intro b21
        omega
      · intro b21
        refine g_iloadN K X (pc' := 25) d4_24 rfl rfl ?_
        refine g_bipush K X (pc' := 27) (v := (10 : Int32)) d4_25 rfl rfl ?_
        refine g_icmp_ne K X (pc' := 55) (pc'' := 30) q.toInt 10 d4_27 (by decide) rfl rfl rfl ?_ ?_
        · intro b27
          refine g_iloadN K X (pc' := 56) d4_55 rfl rfl ?_
          refine g_if_eq K X (pc' := 69) (pc'' := 59) 1 d4_56 (by decide) rfl rfl ?_ ?_
          · intro b56
            omega
          · intro b56
            refine g_aloadN K X (pc' := 60) d4_59 rfl rfl rfl ?_
            refine g_dup K X (pc' := 61) d4_60 rfl rfl ?_
            refine g_getfield K X (pc' := 64) d4_61 rfl (hw _ (List.mem_of_getElem? (i := 21) rfl)) A.2.2.1 (fun T84 X85 => ?_)
            refine g_lconst K X85 (pc' := 65) (v := (1 : Int64)) d4_64 rfl rfl ?_
            refine g_ladd K X85 (pc' := 66) d4_65 rfl ?_
            refine g_putfield K X85 (pc' := 69) d4_66 rfl (hw _ (List.mem_of_getElem? (i := 21) rfl)) A.2.2.1 A.1 (Or.inl (hw _ (List.mem_of_getElem? (i := 22) rfl))) (hw _ (List.mem_of_getElem? (i := 6) rfl)) (ty := .long) (by decide) rfl rfl g1 (fun T86 h87 X88 W89 Kp90 E91 F92 => ?_)
            have f93 := Fld.other W89 A.2.1 (Or.inr (slot_ne (C := "com/example/seille/seille/io/LineCounter") (Or.inl (hw _ (List.mem_of_getElem? (i := 15) rfl))) (Or.inl (hw _ (List.mem_of_getElem? (i := 22) rfl))) (by decide) (t := .long) (by decide) (t' := .long) (by decide)))
            have f94 := Fld.other W89 A.2.2.2 (Or.inr (slot_ne (C := "com/example/seille/seille/io/LineCounter") (Or.inl (hw _ (List.mem_of_getElem? (i := 24) rfl))) (Or.inl (hw _ (List.mem_of_getElem? (i := 22) rfl))) (by decide) (t := .boolean) (by decide) (t' := .long) (by decide)))
            have f95 := Exa.keep A.1 Kp90
            have KK96 := Kp90
            refine g_aloadN K X88 (pc' := 70) d4_69 rfl rfl rfl ?_
            refine g_iloadN K X88 (pc' := 71) d4_70 rfl rfl ?_
            refine g_bipush K X88 (pc' := 73) (v := (13 : Int32)) d4_71 rfl rfl ?_
            refine g_icmp_ne K X88 (pc' := 80) (pc'' := 76) q.toInt 13 d4_73 (by decide) rfl rfl rfl ?_ ?_
            · intro b73
              refine g_iconst K X88 (pc' := 81) (v := (0 : Int32)) d4_80 rfl rfl ?_
              refine g_putfield K X88 (pc' := 84) d4_81 rfl (hw _ (List.mem_of_getElem? (i := 23) rfl)) f94 E91 (Or.inl (hw _ (List.mem_of_getElem? (i := 24) rfl))) (hw _ (List.mem_of_getElem? (i := 6) rfl)) (ty := .boolean) (by decide) rfl rfl g1 (fun T97 h98 X99 W100 Kp101 E102 F103 => ?_)
              have f104 := Fld.other W100 f93 (Or.inr (slot_ne (C := "com/example/seille/seille/io/LineCounter") (Or.inl (hw _ (List.mem_of_getElem? (i := 15) rfl))) (Or.inl (hw _ (List.mem_of_getElem? (i := 24) rfl))) (by decide) (t := .long) (by decide) (t' := .boolean) (by decide)))
              have f105 := Fld.other W100 F92 (Or.inr (slot_ne (C := "com/example/seille/seille/io/LineCounter") (Or.inl (hw _ (List.mem_of_getElem? (i := 22) rfl))) (Or.inl (hw _ (List.mem_of_getElem? (i := 24) rfl))) (by decide) (t := .long) (by decide) (t' := .boolean) (by decide)))
              have f106 := Exa.keep E91 Kp101
              have KK107 := keep_same KK96 Kp101
              refine g_iloadN K X99 (pc' := 85) d4_84 rfl rfl ?_
              exact g_retN K X99 d4_85 (by simp) (by decide) (by decide) ⟨_, rfl, KK107, ln, (le + (1 : Int64)), (0 : Int32), ⟨E102, f104, f105, F103⟩, Or.inr (Or.inr (Or.inr ⟨by omega, by omega, rfl, rfl, rfl, rfl⟩))⟩
            · intro b73
              omega
        · intro b27
          omega

theorem d1_0 : decode method_2_code 0 = .ok (.iload_n 0, 1) := by decide +kernel
theorem d1_1 : decode method_2_code 1 = .ok (.iconst 3, 1) := by decide +kernel
theorem d1_2 : decode method_2_code 2 = .ok (.iand, 1) := by decide +kernel
theorem d1_3 : decode method_2_code 3 = .ok (.istore_n 1, 1) := by decide +kernel
theorem d1_4 : decode method_2_code 4 = .ok (.iload_n 1, 1) := by decide +kernel
theorem d1_5 : decode method_2_code 5 = .ok (.ifCond .ne 6, 3) := by decide +kernel
theorem d1_8 : decode method_2_code 8 = .ok (.bipush 13, 2) := by decide +kernel
theorem d1_10 : decode method_2_code 10 = .ok (.ireturn, 1) := by decide +kernel
theorem d1_11 : decode method_2_code 11 = .ok (.iload_n 1, 1) := by decide +kernel
theorem d1_12 : decode method_2_code 12 = .ok (.iconst 1, 1) := by decide +kernel
theorem d1_13 : decode method_2_code 13 = .ok (.if_icmp .ne 6, 3) := by decide +kernel
theorem d1_16 : decode method_2_code 16 = .ok (.bipush 10, 2) := by decide +kernel
theorem d1_18 : decode method_2_code 18 = .ok (.ireturn, 1) := by decide +kernel
theorem d1_19 : decode method_2_code 19 = .ok (.iload_n 0, 1) := by decide +kernel
theorem d1_20 : decode method_2_code 20 = .ok (.iconst 2, 1) := by decide +kernel
theorem d1_21 : decode method_2_code 21 = .ok (.iushr, 1) := by decide +kernel
theorem d1_22 : decode method_2_code 22 = .ok (.i2c, 1) := by decide +kernel
theorem d1_23 : decode method_2_code 23 = .ok (.ireturn, 1) := by decide +kernel
theorem ef_1 (m : MethodId) (x0 : Int32) : entryFrame m #[.int x0] 2 = mkF m 0 #[.val (.int x0), .unset] [] := by first | (simp [entryFrame, mkF, argsToLocals, Value.category, maxLocals]; done) | rfl
set_option maxRecDepth 65536 in
set_option maxHeartbeats 40000000 in
theorem rm_draw (l : Launch) (Z : State) (a0 : Array Value) (hw : ∀ d ∈ tables_1, d.before a0 Z = true) (p1 : Int32) (h : Heap) (n0 : Nat) (Z0 : n0 ≤ h.size)  :
    Mt l Z (⟨"com/example/seille/seille/io/LineCounterTakePinLaw", "draw", "(I)C"⟩ : MethodName) method_2_code 2 (some .char) ({ frames := 0, cells := 0, slots := 0, locals := 0 } : Room) #[.int p1] h n0 (PureI h (fun _ => True)) := by
  refine Mt.of (own := "com/example/seille/seille/io/LineCounterTakePinLaw") (nm := "draw") (Ls := #[.val (.int p1), .unset]) rfl rfl (plainFor_of_name pn_0) Z0 (fun m => ef_1 m p1) ?_
  intro p e s m below meth c T K X
  refine g_iloadN K X (pc' := 1) d1_0 rfl rfl ?_
  refine g_iconst K X (pc' := 2) (v := (3 : Int32)) d1_1 rfl rfl ?_
  refine g_iand K X (pc' := 3) d1_2 rfl ?_
  refine g_istoreN K X (pc' := 4) (L' := #[.val (.int p1), .val (.int (p1 &&& (3 : Int32)))]) d1_3 rfl rfl ?_
  refine g_iloadN K X (pc' := 5) d1_4 rfl rfl ?_
  refine g_if_ne K X (pc' := 11) (pc'' := 8) (p1 &&& (3 : Int32)).toInt d1_5 (by decide) rfl rfl ?_ ?_
  · intro b5
    refine g_iloadN K X (pc' := 12) d1_11 rfl rfl ?_
    refine g_iconst K X (pc' := 13) (v := (1 : Int32)) d1_12 rfl rfl ?_
    refine g_icmp_ne K X (pc' := 19) (pc'' := 16) (p1 &&& (3 : Int32)).toInt 1 d1_13 (by decide) rfl rfl rfl ?_ ?_
    · intro b13
      refine g_iloadN K X (pc' := 20) d1_19 rfl rfl ?_
      refine g_iconst K X (pc' := 21) (v := (2 : Int32)) d1_20 rfl rfl ?_
      refine g_iushr K X (pc' := 22) d1_21 rfl ?_
      refine g_i2c K X (pc' := 23) d1_22 rfl ?_
      exact g_retN K X d1_23 (by simp) (by decide) (by decide) ⟨_, rfl, trivial, rfl⟩
    · intro b13
      refine g_bipush K X (pc' := 18) (v := (10 : Int32)) d1_16 rfl rfl ?_
      exact g_retN K X d1_18 (by simp) (by decide) (by decide) ⟨_, rfl, trivial, rfl⟩
  · intro b5
    refine g_bipush K X (pc' := 10) (v := (13 : Int32)) d1_8 rfl rfl ?_
    exact g_retN K X d1_10 (by simp) (by decide) (by decide) ⟨_, rfl, trivial, rfl⟩

def EX (c : Int32) (g g' : Nat → Int64) (r : Int32) : Prop :=
  (c.toInt = 13 ∧ g' 0 = g 0 + 1 ∧ g' 1 = 0 ∧ g' 2 = 1 ∧ r = 0) ∨ (c.toInt = 10 ∧ (g 2).toInt = 0 ∧ g' 0 = g 0 + 1 ∧ g' 1 = 0 ∧ g' 2 = 0 ∧ r = 0) ∨ (c.toInt = 10 ∧ (g 2).toInt ≠ 0 ∧ g' 0 = g 0 ∧ g' 1 = g 1 ∧ g' 2 = 0 ∧ r = 0) ∨ (c.toInt ≠ 13 ∧ c.toInt ≠ 10 ∧ g' 0 = g 0 ∧ g' 1 = g 1 + 1 ∧ g' 2 = 0 ∧ r = 1)
theorem own_step {c : Int32} {ln le ln' le' : Int64} {ac ac' r r' : Int32} {g g' : Nat → Int64} (t : TK c ln le ac ln' le' ac' r) (x : EX c g g' r') (i1 : ln = g 0) (i2 : le = g 1) (i3 : ac.toInt = 0 ↔ (g 2).toInt = 0) : r = r' ∧ ln' = g' 0 ∧ le' = g' 1 ∧ (ac'.toInt = 0 ↔ (g' 2).toInt = 0) := by
  have z0 : (0 : Int32).toInt = 0 := rfl
  have z1 : (1 : Int32).toInt = 1 := rfl
  have y0 : (0 : Int64).toInt = 0 := rfl
  have y1 : (1 : Int64).toInt = 1 := rfl
  rcases t with ⟨t0, rfl, rfl, rfl, rfl⟩ | ⟨t0, t1, rfl, rfl, rfl, rfl⟩ | ⟨t0, t1, rfl, rfl, rfl, rfl⟩ | ⟨t0, t1, rfl, rfl, rfl, rfl⟩ <;> rcases x with ⟨x0, x1, x2, x3, rfl⟩ | ⟨x0, x4, x1, x2, x3, rfl⟩ | ⟨x0, x4, x1, x2, x3, rfl⟩ | ⟨x0, x4, x1, x2, x3, rfl⟩ <;> first | (exfalso; omega) | (refine ⟨rfl, ?_, ?_, ?_⟩ <;> first | (rw [x1, i1]; done) | (rw [x2, i2]; done) | (rw [x2]; done) | (rw [x3]; omega))
theorem d5_0 : decode method_3_code 0 = .ok (.iload_n 1, 1) := by decide +kernel
theorem d5_1 : decode method_3_code 1 = .ok (.bipush 13, 2) := by decide +kernel
theorem d5_3 : decode method_3_code 3 = .ok (.if_icmp .ne 20, 3) := by decide +kernel
theorem d5_6 : decode method_3_code 6 = .ok (.aload_n 0, 1) := by decide +kernel
theorem d5_7 : decode method_3_code 7 = .ok (.iconst 0, 1) := by decide +kernel
theorem d5_8 : decode method_3_code 8 = .ok (.aload_n 0, 1) := by decide +kernel
theorem d5_9 : decode method_3_code 9 = .ok (.iconst 0, 1) := by decide +kernel
theorem d5_10 : decode method_3_code 10 = .ok (.laload, 1) := by decide +kernel
theorem d5_11 : decode method_3_code 11 = .ok (.lconst 1, 1) := by decide +kernel
theorem d5_12 : decode method_3_code 12 = .ok (.ladd, 1) := by decide +kernel
theorem d5_13 : decode method_3_code 13 = .ok (.lastore, 1) := by decide +kernel
theorem d5_14 : decode method_3_code 14 = .ok (.aload_n 0, 1) := by decide +kernel
theorem d5_15 : decode method_3_code 15 = .ok (.iconst 1, 1) := by decide +kernel
theorem d5_16 : decode method_3_code 16 = .ok (.lconst 0, 1) := by decide +kernel
theorem d5_17 : decode method_3_code 17 = .ok (.lastore, 1) := by decide +kernel
theorem d5_18 : decode method_3_code 18 = .ok (.iconst 0, 1) := by decide +kernel
theorem d5_19 : decode method_3_code 19 = .ok (.istore_n 2, 1) := by decide +kernel
theorem d5_20 : decode method_3_code 20 = .ok (.goto 44, 3) := by decide +kernel
theorem d5_23 : decode method_3_code 23 = .ok (.iload_n 1, 1) := by decide +kernel
theorem d5_24 : decode method_3_code 24 = .ok (.bipush 10, 2) := by decide +kernel
theorem d5_26 : decode method_3_code 26 = .ok (.if_icmp .ne 28, 3) := by decide +kernel
theorem d5_29 : decode method_3_code 29 = .ok (.aload_n 0, 1) := by decide +kernel
theorem d5_30 : decode method_3_code 30 = .ok (.iconst 2, 1) := by decide +kernel
theorem d5_31 : decode method_3_code 31 = .ok (.laload, 1) := by decide +kernel
theorem d5_32 : decode method_3_code 32 = .ok (.lconst 0, 1) := by decide +kernel
theorem d5_33 : decode method_3_code 33 = .ok (.lcmp, 1) := by decide +kernel
theorem d5_34 : decode method_3_code 34 = .ok (.ifCond .ne 15, 3) := by decide +kernel
theorem d5_37 : decode method_3_code 37 = .ok (.aload_n 0, 1) := by decide +kernel
theorem d5_38 : decode method_3_code 38 = .ok (.iconst 0, 1) := by decide +kernel
theorem d5_39 : decode method_3_code 39 = .ok (.aload_n 0, 1) := by decide +kernel
theorem d5_40 : decode method_3_code 40 = .ok (.iconst 0, 1) := by decide +kernel
theorem d5_41 : decode method_3_code 41 = .ok (.laload, 1) := by decide +kernel
theorem d5_42 : decode method_3_code 42 = .ok (.lconst 1, 1) := by decide +kernel
theorem d5_43 : decode method_3_code 43 = .ok (.ladd, 1) := by decide +kernel
theorem d5_44 : decode method_3_code 44 = .ok (.lastore, 1) := by decide +kernel
theorem d5_45 : decode method_3_code 45 = .ok (.aload_n 0, 1) := by decide +kernel
theorem d5_46 : decode method_3_code 46 = .ok (.iconst 1, 1) := by decide +kernel
theorem d5_47 : decode method_3_code 47 = .ok (.lconst 0, 1) := by decide +kernel
theorem d5_48 : decode method_3_code 48 = .ok (.lastore, 1) := by decide +kernel
theorem d5_49 : decode method_3_code 49 = .ok (.iconst 0, 1) := by decide +kernel
theorem d5_50 : decode method_3_code 50 = .ok (.istore_n 2, 1) := by decide +kernel
theorem d5_51 : decode method_3_code 51 = .ok (.goto 13, 3) := by decide +kernel
theorem d5_54 : decode method_3_code 54 = .ok (.aload_n 0, 1) := by decide +kernel
theorem d5_55 : decode method_3_code 55 = .ok (.iconst 1, 1) := by decide +kernel
theorem d5_56 : decode method_3_code 56 = .ok (.aload_n 0, 1) := by decide +kernel
theorem d5_57 : decode method_3_code 57 = .ok (.iconst 1, 1) := by decide +kernel
theorem d5_58 : decode method_3_code 58 = .ok (.laload, 1) := by decide +kernel
theorem d5_59 : decode method_3_code 59 = .ok (.lconst 1, 1) := by decide +kernel
theorem d5_60 : decode method_3_code 60 = .ok (.ladd, 1) := by decide +kernel
theorem d5_61 : decode method_3_code 61 = .ok (.lastore, 1) := by decide +kernel
theorem d5_62 : decode method_3_code 62 = .ok (.iconst 1, 1) := by decide +kernel
theorem d5_63 : decode method_3_code 63 = .ok (.istore_n 2, 1) := by decide +kernel
theorem d5_64 : decode method_3_code 64 = .ok (.aload_n 0, 1) := by decide +kernel
theorem d5_65 : decode method_3_code 65 = .ok (.iconst 2, 1) := by decide +kernel
theorem d5_66 : decode method_3_code 66 = .ok (.iload_n 1, 1) := by decide +kernel
theorem d5_67 : decode method_3_code 67 = .ok (.bipush 13, 2) := by decide +kernel
theorem d5_69 : decode method_3_code 69 = .ok (.if_icmp .ne 7, 3) := by decide +kernel
theorem d5_72 : decode method_3_code 72 = .ok (.lconst 1, 1) := by decide +kernel
theorem d5_73 : decode method_3_code 73 = .ok (.goto 4, 3) := by decide +kernel
theorem d5_76 : decode method_3_code 76 = .ok (.lconst 0, 1) := by decide +kernel
theorem d5_77 : decode method_3_code 77 = .ok (.lastore, 1) := by decide +kernel
theorem d5_78 : decode method_3_code 78 = .ok (.iload_n 2, 1) := by decide +kernel
theorem d5_79 : decode method_3_code 79 = .ok (.ireturn, 1) := by decide +kernel
theorem ef_5 (m : MethodId) (x0 : Addr) (x1 : Int32) : entryFrame m #[.ref x0, .int x1] 3 = mkF m 0 #[.val (.ref x0), .val (.int x1), .unset] [] := by first | (simp [entryFrame, mkF, argsToLocals, Value.category, maxLocals]; done) | rfl
set_option maxRecDepth 65536 in
set_option maxHeartbeats 40000000 in
theorem rm_expect (l : Launch) (Z : State) (a0 : Array Value) (hw : ∀ d ∈ tables_1, d.before a0 Z = true) (a1 : Addr) (q : Int32) (g : Nat → Int64) (h : Heap) (n0 : Nat) (Z0 : n0 ≤ h.size) (g1 : n0 ≤ a1) (A : AL Z h a1 3 g) :
    Mt l Z (⟨"com/example/seille/seille/io/LineCounterTakePinLaw", "expect", "([JC)Z"⟩ : MethodName) method_3_code 3 (some .boolean) ({ frames := 0, cells := 0, slots := 0, locals := 0 } : Room) #[.ref a1, .int q] h n0 (KeepI h [a1] (fun r h' => ∃ g', AL Z h' a1 3 g' ∧ EX q g g' r)) := by
  refine Mt.of (own := "com/example/seille/seille/io/LineCounterTakePinLaw") (nm := "expect") (Ls := #[.val (.ref a1), .val (.int q), .unset]) rfl rfl (plainFor_of_name pn_0) Z0 (fun m => ef_5 m a1 q) ?_
  intro p e s m below meth c T K X
  refine g_iloadN K X (pc' := 1) d5_0 rfl rfl ?_
  refine g_bipush K X (pc' := 3) (v := (13 : Int32)) d5_1 rfl rfl ?_
  refine g_icmp_ne K X (pc' := 23) (pc'' := 6) q.toInt 13 d5_3 (by decide) rfl rfl rfl ?_ ?_
  · intro b3
    refine g_iloadN K X (pc' := 24) d5_23 rfl rfl ?_
    refine g_bipush K X (pc' := 26) (v := (10 : Int32)) d5_24 rfl rfl ?_
    refine g_icmp_ne K X (pc' := 54) (pc'' := 29) q.toInt 10 d5_26 (by decide) rfl rfl rfl ?_ ?_
    · intro b26
      refine g_aloadN K X (pc' := 55) d5_54 rfl rfl rfl ?_
      refine g_iconst K X (pc' := 56) (v := (1 : Int32)) d5_55 rfl rfl ?_
      refine g_aloadN K X (pc' := 57) d5_56 rfl rfl rfl ?_
      refine g_iconst K X (pc' := 58) (v := (1 : Int32)) d5_57 rfl rfl ?_
      refine g_laload K X (pc' := 59) (i := 1) d5_58 rfl A rfl (by decide) ?_
      refine g_lconst K X (pc' := 60) (v := (1 : Int64)) d5_59 rfl rfl ?_
      refine g_ladd K X (pc' := 61) d5_60 rfl ?_
      refine g_lastore K X (pc' := 62) (i := 1) d5_61 rfl A g1 rfl (by decide) (fun T1 h2 X3 Kp4 A5 => ?_)
      obtain ⟨f6, hf7⟩ : ∃ q, q = upd g 1 ((g 1) + (1 : Int64)) := ⟨_, rfl⟩
      rw [← hf7] at A5
      have KK8 := Kp4
      refine g_iconst K X3 (pc' := 63) (v := (1 : Int32)) d5_62 rfl rfl ?_
      refine g_istoreN K X3 (pc' := 64) (L' := #[.val (.ref a1), .val (.int q), .val (.int (1 : Int32))]) d5_63 rfl rfl ?_
      refine g_aloadN K X3 (pc' := 65) d5_64 rfl rfl rfl ?_
      refine g_iconst K X3 (pc' := 66) (v := (2 : Int32)) d5_65 rfl rfl ?_
      refine g_iloadN K X3 (pc' := 67) d5_66 rfl rfl ?_
      refine g_bipush K X3 (pc' := 69) (v := (13 : Int32)) d5_67 rfl rfl ?_
      refine g_icmp_ne K X3 (pc' := 76) (pc'' := 72) q.toInt 13 d5_69 (by decide) rfl rfl rfl ?_ ?_
      · intro b69
        refine g_lconst K X3 (pc' := 77) (v := (0 : Int64)) d5_76 rfl rfl ?_
        refine g_lastore K X3 (pc' := 78) (i := 2) d5_77 rfl A5 g1 rfl (by decide) (fun T9 h10 X11 Kp12 A13 => ?_)
        obtain ⟨f14, hf15⟩ : ∃ q, q = upd f6 2 (0 : Int64) := ⟨_, rfl⟩
        rw [← hf15] at A13
        have KK16 := keep_same KK8 Kp12
        refine g_iloadN K X11 (pc' := 79) d5_78 rfl rfl ?_
        exact g_retN K X11 d5_79 (by simp) (by decide) (by decide) ⟨_, rfl, KK16, f14, A13, Or.inr (Or.inr (Or.inr ⟨by omega, by omega, (by simp [hf7, hf15, upd]), (by simp [hf7, hf15, upd]), (by simp [hf7, hf15, upd]), rfl⟩))⟩
      · intro b69
        omega
    · intro b26
      refine g_aloadN K X (pc' := 30) d5_29 rfl rfl rfl ?_
      refine g_iconst K X (pc' := 31) (v := (2 : Int32)) d5_30 rfl rfl ?_
      refine g_laload K X (pc' := 32) (i := 2) d5_31 rfl A rfl (by decide) ?_
      refine g_lconst K X (pc' := 33) (v := (0 : Int64)) d5_32 rfl rfl ?_
      refine g_lcmp_ne K X (pc1 := 34) (pc' := 49) (pc'' := 37) (g 2).toInt 0 d5_33 rfl d5_34 (by decide) rfl rfl rfl ?_ ?_
      · intro b34
        refine g_iconst K X (pc' := 50) (v := (0 : Int32)) d5_49 rfl rfl ?_
        refine g_istoreN K X (pc' := 51) (L' := #[.val (.ref a1), .val (.int q), .val (.int (0 : Int32))]) d5_50 rfl rfl ?_
        refine g_goto K X (pc' := 64) d5_51 (by decide) ?_
        refine g_aloadN K X (pc' := 65) d5_64 rfl rfl rfl ?_
        refine g_iconst K X (pc' := 66) (v := (2 : Int32)) d5_65 rfl rfl ?_
        refine g_iloadN K X (pc' := 67) d5_66 rfl rfl ?_
        refine g_bipush K X (pc' := 69) (v := (13 : Int32)) d5_67 rfl rfl ?_
        refine g_icmp_ne K X (pc' := 76) (pc'' := 72) q.toInt 13 d5_69 (by decide) rfl rfl rfl ?_ ?_
        · intro b69
          refine g_lconst K X (pc' := 77) (v := (0 : Int64)) d5_76 rfl rfl ?_
          refine g_lastore K X (pc' := 78) (i := 2) d5_77 rfl A g1 rfl (by decide) (fun T17 h18 X19 Kp20 A21 => ?_)
          obtain ⟨f22, hf23⟩ : ∃ q, q = upd g 2 (0 : Int64) := ⟨_, rfl⟩
          rw [← hf23] at A21
          have KK24 := Kp20
          refine g_iloadN K X19 (pc' := 79) d5_78 rfl rfl ?_
          exact g_retN K X19 d5_79 (by simp) (by decide) (by decide) ⟨_, rfl, KK24, f22, A21, Or.inr (Or.inr (Or.inl ⟨by omega, by omega, (by simp [hf23, upd]), (by simp [hf23, upd]), (by simp [hf23, upd]), rfl⟩))⟩
        · intro b69
          omega
      · intro b34
        refine g_aloadN K X (pc' := 38) d5_37 rfl rfl rfl ?_
        refine g_iconst K X (pc' := 39) (v := (0 : Int32)) d5_38 rfl rfl ?_
        refine g_aloadN K X (pc' := 40) d5_39 rfl rfl rfl ?_
        refine g_iconst K X (pc' := 41) (v := (0 : Int32)) d5_40 rfl rfl ?_
        refine g_laload K X (pc' := 42) (i := 0) d5_41 rfl A rfl (by decide) ?_
        refine g_lconst K X (pc' := 43) (v := (1 : Int64)) d5_42 rfl rfl ?_
        refine g_ladd K X (pc' := 44) d5_43 rfl ?_
        refine g_lastore K X (pc' := 45) (i := 0) d5_44 rfl A g1 rfl (by decide) (fun T25 h26 X27 Kp28 A29 => ?_)
        obtain ⟨f30, hf31⟩ : ∃ q, q = upd g 0 ((g 0) + (1 : Int64)) := ⟨_, rfl⟩
        rw [← hf31] at A29
        have KK32 := Kp28
        refine g_aloadN K X27 (pc' := 46) d5_45 rfl rfl rfl ?_
        refine g_iconst K X27 (pc' := 47) (v := (1 : Int32)) d5_46 rfl rfl ?_
        refine g_lconst K X27 (pc' := 48) (v := (0 : Int64)) d5_47 rfl rfl ?_
        refine g_lastore K X27 (pc' := 49) (i := 1) d5_48 rfl A29 g1 rfl (by decide) (fun T33 h34 X35 Kp36 A37 => ?_)
        obtain ⟨f38, hf39⟩ : ∃ q, q = upd f30 1 (0 : Int64) := ⟨_, rfl⟩
        rw [← hf39] at A37
        have KK40 := keep_same KK32 Kp36
        refine g_iconst K X35 (pc' := 50) (v := (0 : Int32)) d5_49 rfl rfl ?_
        refine g_istoreN K X35 (pc' := 51) (L' := #[.val (.ref a1), .val (.int q), .val (.int (0 : Int32))]) d5_50 rfl rfl ?_
        refine g_goto K X35 (pc' := 64) d5_51 (by decide) ?_
        refine g_aloadN K X35 (pc' := 65) d5_64 rfl rfl rfl ?_
        refine g_iconst K X35 (pc' := 66) (v := (2 : Int32)) d5_65 rfl rfl ?_
        refine g_iloadN K X35 (pc' := 67) d5_66 rfl rfl ?_
        refine g_bipush K X35 (pc' := 69) (v := (13 : Int32)) d5_67 rfl rfl ?_
        refine g_icmp_ne K X35 (pc' := 76) (pc'' := 72) q.toInt 13 d5_69 (by decide) rfl rfl rfl ?_ ?_
        · intro b69
          refine g_lconst K X35 (pc' := 77) (v := (0 : Int64)) d5_76 rfl rfl ?_
          refine g_lastore K X35 (pc' := 78) (i := 2) d5_77 rfl A37 g1 rfl (by decide) (fun T41 h42 X43 Kp44 A45 => ?_)
          obtain ⟨f46, hf47⟩ : ∃ q, q = upd f38 2 (0 : Int64) := ⟨_, rfl⟩
          rw [← hf47] at A45
          have KK48 := keep_same KK40 Kp44
          refine g_iloadN K X43 (pc' := 79) d5_78 rfl rfl ?_
          exact g_retN K X43 d5_79 (by simp) (by decide) (by decide) ⟨_, rfl, KK48, f46, A45, Or.inr (Or.inl ⟨by omega, by omega, (by simp [hf31, hf39, hf47, upd]), (by simp [hf31, hf39, hf47, upd]), (by simp [hf31, hf39, hf47, upd]), rfl⟩)⟩
        · intro b69
          omega
  · intro b3
    refine g_aloadN K X (pc' := 7) d5_6 rfl rfl rfl ?_
    refine g_iconst K X (pc' := 8) (v := (0 : Int32)) d5_7 rfl rfl ?_
    refine g_aloadN K X (pc' := 9) d5_8 rfl rfl rfl ?_
    refine g_iconst K X (pc' := 10) (v := (0 : Int32)) d5_9 rfl rfl ?_
    refine g_laload K X (pc' := 11) (i := 0) d5_10 rfl A rfl (by decide) ?_
    refine g_lconst K X (pc' := 12) (v := (1 : Int64)) d5_11 rfl rfl ?_
    refine g_ladd K X (pc' := 13) d5_12 rfl ?_
    refine g_lastore K X (pc' := 14) (i := 0) d5_13 rfl A g1 rfl (by decide) (fun T49 h50 X51 Kp52 A53 => ?_)
    obtain ⟨f54, hf55⟩ : ∃ q, q = upd g 0 ((g 0) + (1 : Int64)) := ⟨_, rfl⟩
    rw [← hf55] at A53
    have KK56 := Kp52
    refine g_aloadN K X51 (pc' := 15) d5_14 rfl rfl rfl ?_
    refine g_iconst K X51 (pc' := 16) (v := (1 : Int32)) d5_15 rfl rfl ?_
    refine g_lconst K X51 (pc' := 17) (v := (0 : Int64)) d5_16 rfl rfl ?_
    refine g_lastore K X51 (pc' := 18) (i := 1) d5_17 rfl A53 g1 rfl (by decide) (fun T57 h58 X59 Kp60 A61 => ?_)
    obtain ⟨f62, hf63⟩ : ∃ q, q = upd f54 1 (0 : Int64) := ⟨_, rfl⟩
    rw [← hf63] at A61
    have KK64 := keep_same KK56 Kp60
    refine g_iconst K X59 (pc' := 19) (v := (0 : Int32)) d5_18 rfl rfl ?_
    refine g_istoreN K X59 (pc' := 20) (L' := #[.val (.ref a1), .val (.int q), .val (.int (0 : Int32))]) d5_19 rfl rfl ?_
    refine g_goto K X59 (pc' := 64) d5_20 (by decide) ?_
    refine g_aloadN K X59 (pc' := 65) d5_64 rfl rfl rfl ?_
    refine g_iconst K X59 (pc' := 66) (v := (2 : Int32)) d5_65 rfl rfl ?_
    refine g_iloadN K X59 (pc' := 67) d5_66 rfl rfl ?_
    refine g_bipush K X59 (pc' := 69) (v := (13 : Int32)) d5_67 rfl rfl ?_
    refine g_icmp_ne K X59 (pc' := 76) (pc'' := 72) q.toInt 13 d5_69 (by decide) rfl rfl rfl ?_ ?_
    · intro b69
      omega
    · intro b69
      refine g_lconst K X59 (pc' := 73) (v := (1 : Int64)) d5_72 rfl rfl ?_
      refine g_goto K X59 (pc' := 77) d5_73 (by decide) ?_
      refine g_lastore K X59 (pc' := 78) (i := 2) d5_77 rfl A61 g1 rfl (by decide) (fun T65 h66 X67 Kp68 A69 => ?_)
      obtain ⟨f70, hf71⟩ : ∃ q, q = upd f62 2 (1 : Int64) := ⟨_, rfl⟩
      rw [← hf71] at A69
      have KK72 := keep_same KK64 Kp68
      refine g_iloadN K X67 (pc' := 79) d5_78 rfl rfl ?_
      exact g_retN K X67 d5_79 (by simp) (by decide) (by decide) ⟨_, rfl, KK72, f70, A69, Or.inl ⟨by omega, (by simp [hf55, hf63, hf71, upd]), (by simp [hf55, hf63, hf71, upd]), (by simp [hf55, hf63, hf71, upd]), rfl⟩⟩

theorem ef_0 (m : MethodId) (x0 : Int32) (x1 : Int32) (x2 : Int32) : entryFrame m #[.int x0, .int x1, .int x2] maxLocals = mkF m 0 #[.val (.int x0), .val (.int x1), .val (.int x2), .unset, .unset, .unset, .unset, .unset, .unset, .unset, .unset, .unset, .unset, .unset, .unset, .unset, .unset] [] := by first | (simp [entryFrame, mkF, argsToLocals, Value.category, maxLocals]; done) | rfl
set_option maxRecDepth 65536 in
set_option maxHeartbeats 40000000 in
theorem rm0 (l : Launch) (Z : State) (a0 : Array Value) (hw : ∀ d ∈ tables_1, d.before a0 Z = true) (p1 p2 p3 : Int32) (h : Heap) (n0 : Nat) (Z0 : n0 ≤ h.size)  :
    Mt l Z x code maxLocals ret room_1 #[.int p1, .int p2, .int p3] h n0 (fun v _ => v = some (.int 1)) := by
  refine Mt.of (own := "com/example/seille/seille/io/LineCounterTakePinLaw") (nm := "law") (Ls := #[.val (.int p1), .val (.int p2), .val (.int p3), .unset, .unset, .unset, .unset, .unset, .unset, .unset, .unset, .unset, .unset, .unset, .unset, .unset, .unset]) rfl rfl (plainFor_of_name pn_0) Z0 (fun m => ef_0 m p1 p2 p3) ?_
  intro p e s m below meth c T K X
  refine g_iloadN K X (pc' := 1) at_0 rfl rfl ?_
  refine g_callSI K X (pc' := 4) (argsL := [.int p1]) (rest := []) 0 at_1 rfl (hw _ (List.mem_of_getElem? (i := 0) rfl)) (hw _ (List.mem_of_getElem? (i := 1) rfl)) (hw _ (List.mem_of_getElem? (i := 2) rfl)) (hw _ (List.mem_of_getElem? (i := 3) rfl)) (by decide) (rm_draw l Z a0 hw p1 h n0 X.z) (by decide) (by decide) (by decide) (by decide) (lenOf pd_0 rfl) rfl rfl (Nat.le_of_ble_eq_true rfl) (fun c1 T2 X3 _ => ?_)
  refine g_istoreN K X3 (pc' := 5) (L' := #[.val (.int p1), .val (.int p2), .val (.int p3), .val (.int c1), .unset, .unset, .unset, .unset, .unset, .unset, .unset, .unset, .unset, .unset, .unset, .unset, .unset]) at_4 rfl rfl ?_
  refine g_iloadN K X3 (pc' := 6) at_5 rfl rfl ?_
  refine g_callSI K X3 (pc' := 9) (argsL := [.int p2]) (rest := []) 0 at_6 rfl (hw _ (List.mem_of_getElem? (i := 0) rfl)) (hw _ (List.mem_of_getElem? (i := 1) rfl)) (hw _ (List.mem_of_getElem? (i := 2) rfl)) (hw _ (List.mem_of_getElem? (i := 3) rfl)) (by decide) (rm_draw l Z a0 hw p2 h n0 X3.z) (by decide) (by decide) (by decide) (by decide) (lenOf pd_0 rfl) rfl rfl (Nat.le_of_ble_eq_true rfl) (fun c4 T5 X6 _ => ?_)
  refine g_istore K X6 (pc' := 11) (L' := #[.val (.int p1), .val (.int p2), .val (.int p3), .val (.int c1), .val (.int c4), .unset, .unset, .unset, .unset, .unset, .unset, .unset, .unset, .unset, .unset, .unset, .unset]) at_9 rfl rfl ?_
  refine g_iloadN K X6 (pc' := 12) at_11 rfl rfl ?_
  refine g_callSI K X6 (pc' := 15) (argsL := [.int p3]) (rest := []) 0 at_12 rfl (hw _ (List.mem_of_getElem? (i := 0) rfl)) (hw _ (List.mem_of_getElem? (i := 1) rfl)) (hw _ (List.mem_of_getElem? (i := 2) rfl)) (hw _ (List.mem_of_getElem? (i := 3) rfl)) (by decide) (rm_draw l Z a0 hw p3 h n0 X6.z) (by decide) (by decide) (by decide) (by decide) (lenOf pd_0 rfl) rfl rfl (Nat.le_of_ble_eq_true rfl) (fun c7 T8 X9 _ => ?_)
  refine g_istore K X9 (pc' := 17) (L' := #[.val (.int p1), .val (.int p2), .val (.int p3), .val (.int c1), .val (.int c4), .val (.int c7), .unset, .unset, .unset, .unset, .unset, .unset, .unset, .unset, .unset, .unset, .unset]) at_15 rfl rfl ?_
  refine g_iconst K X9 (pc' := 18) (v := (3 : Int32)) at_17 rfl rfl ?_
  refine g_newarray_long K X9 (pc' := 20) (n := 3) 3 at_18 rfl (hw _ (List.mem_of_getElem? (i := 4) rfl)) rfl (by decide) (by decide) (by decide) (by decide) (fun T10 h11 a12 X13 E14 ga15 na16 A17 => ?_)
  refine g_astore K X13 (pc' := 22) (L' := #[.val (.int p1), .val (.int p2), .val (.int p3), .val (.int c1), .val (.int c4), .val (.int c7), .val (.ref a12), .unset, .unset, .unset, .unset, .unset, .unset, .unset, .unset, .unset, .unset]) at_20 rfl rfl rfl ?_
  refine g_aload K X13 (pc' := 24) at_22 rfl rfl rfl ?_
  refine g_iconst K X13 (pc' := 25) (v := (0 : Int32)) at_24 rfl rfl ?_
  refine g_lconst K X13 (pc' := 26) (v := (1 : Int64)) at_25 rfl rfl ?_
  refine g_lastore K X13 (pc' := 27) (i := 0) at_26 rfl A17 na16 rfl (by decide) (fun T18 h19 X20 Kp21 A22 => ?_)
  obtain ⟨f23, hf24⟩ : ∃ q, q = upd (fun _ => (0 : Int64)) 0 (1 : Int64) := ⟨_, rfl⟩
  rw [← hf24] at A22
  refine g_aload K X20 (pc' := 29) at_27 rfl rfl rfl ?_
  refine g_iconst K X20 (pc' := 30) (v := (1 : Int32)) at_29 rfl rfl ?_
  refine g_lconst K X20 (pc' := 31) (v := (0 : Int64)) at_30 rfl rfl ?_
  refine g_lastore K X20 (pc' := 32) (i := 1) at_31 rfl A22 na16 rfl (by decide) (fun T25 h26 X27 Kp28 A29 => ?_)
  obtain ⟨f30, hf31⟩ : ∃ q, q = upd f23 1 (0 : Int64) := ⟨_, rfl⟩
  rw [← hf31] at A29
  refine g_aload K X27 (pc' := 34) at_32 rfl rfl rfl ?_
  refine g_iconst K X27 (pc' := 35) (v := (2 : Int32)) at_34 rfl rfl ?_
  refine g_lconst K X27 (pc' := 36) (v := (0 : Int64)) at_35 rfl rfl ?_
  refine g_lastore K X27 (pc' := 37) (i := 2) at_36 rfl A29 na16 rfl (by decide) (fun T32 h33 X34 Kp35 A36 => ?_)
  obtain ⟨f37, hf38⟩ : ∃ q, q = upd f30 2 (0 : Int64) := ⟨_, rfl⟩
  rw [← hf38] at A36
  refine g_new K X34 (pc' := 40) at_37 rfl (hw _ (List.mem_of_getElem? (i := 5) rfl)) (hw _ (List.mem_of_getElem? (i := 6) rfl)) (hw _ (List.mem_of_getElem? (i := 7) rfl)) (by decide) (by decide) (fun T39 h40 a41 X42 E43 ga44 na45 A46 Dn47 => ?_)
  have ne_a12_a41 : a12 ≠ a41 := Nat.ne_of_lt (by rw [ga44]; exact A36.lt)
  have f48 := A36.ext E43
  have F49 := Dn47 (Or.inl (hw _ (List.mem_of_getElem? (i := 15) rfl))) (ty := .long) (by decide)
  have F49 : Fld Z h40 a41 "com/example/seille/seille/io/LineCounter" "line" "J" (.long (0 : Int64)) := F49
  have F50 := Dn47 (Or.inl (hw _ (List.mem_of_getElem? (i := 22) rfl))) (ty := .long) (by decide)
  have F50 : Fld Z h40 a41 "com/example/seille/seille/io/LineCounter" "length" "J" (.long (0 : Int64)) := F50
  have F51 := Dn47 (Or.inl (hw _ (List.mem_of_getElem? (i := 24) rfl))) (ty := .boolean) (by decide)
  have F51 : Fld Z h40 a41 "com/example/seille/seille/io/LineCounter" "afterCarriageReturn" "Z" (.int (0 : Int32)) := F51
  refine g_dup K X42 (pc' := 41) at_40 rfl rfl ?_
  refine g_specialK0 K X42 (pc' := 44) (a := a41) (argsL := []) (rest := [.ref a41]) 1 at_41 rfl (hw _ (List.mem_of_getElem? (i := 8) rfl)) (hw _ (List.mem_of_getElem? (i := 9) rfl)) (hw _ (List.mem_of_getElem? (i := 7) rfl)) (hw _ (List.mem_of_getElem? (i := 10) rfl)) rfl (by decide) (rm_init l Z a0 hw a41 h40 n0 X42.z na45 ⟨A46, F49, F50, F51⟩) (by decide) (by decide) (by decide) (by decide) (lenOf pd_1 rfl) rfl rfl (Nat.le_of_ble_eq_true rfl) (fun T53 h55 X54 Kp56 hP52 => ?_)
  have f57 := AL.keep f48 Kp56 (ninS ne_a12_a41 nin0)
  have f58 := Exa.keep A46 Kp56
  obtain ⟨e59, u60, u61, u62⟩ := hP52
  refine g_astore K X54 (pc' := 46) (L' := #[.val (.int p1), .val (.int p2), .val (.int p3), .val (.int c1), .val (.int c4), .val (.int c7), .val (.ref a12), .val (.ref a41), .unset, .unset, .unset, .unset, .unset, .unset, .unset, .unset, .unset]) at_44 rfl rfl rfl ?_
  have i0 : (1 : Int64) = f37 0 := by simp [hf24, hf31, hf38, upd]
  have i1 : (0 : Int64) = f37 1 := by simp [hf24, hf31, hf38, upd]
  have i2 : (0 : Int64) = f37 2 := by simp [hf24, hf31, hf38, upd]
  have i3 : (0 : Int32).toInt = 0 ↔ (f37 2).toInt = 0 := by rw [← i2]; exact ⟨fun _ => rfl, fun _ => rfl⟩
  refine g_aload K X54 (pc' := 48) at_46 rfl rfl rfl ?_
  refine g_iloadN K X54 (pc' := 49) at_48 rfl rfl ?_
  refine g_virtualKI K X54 (pc' := 52) (a := a41) (argsL := [.int c1]) (rest := []) 0 at_49 rfl (hw _ (List.mem_of_getElem? (i := 16) rfl)) (hw _ (List.mem_of_getElem? (i := 17) rfl)) (hw _ (List.mem_of_getElem? (i := 19) rfl)) (hw _ (List.mem_of_getElem? (i := 18) rfl)) (hw _ (List.mem_of_getElem? (i := 7) rfl)) (hw _ (List.mem_of_getElem? (i := 20) rfl)) (by decide) e59 (rm_take l Z a0 hw a41 c1 (1 : Int64) (0 : Int64) (0 : Int32) h55 n0 X54.z na45 ⟨e59, u60, u61, u62⟩) (by decide) (by decide) (by decide) (by decide) (lenOf pd_2 rfl) rfl rfl (Nat.le_of_ble_eq_true rfl) (fun r63 T65 h67 X66 Kp68 hP64 => ?_)
  have f69 := AL.keep f57 Kp68 (ninS ne_a12_a41 nin0)
  have f70 := Exa.keep e59 Kp68
  obtain ⟨ln71, le72, ac73, ⟨e74, u75, u76, u77⟩, tk78⟩ := hP64
  refine g_istore K X66 (pc' := 54) (L' := #[.val (.int p1), .val (.int p2), .val (.int p3), .val (.int c1), .val (.int c4), .val (.int c7), .val (.ref a12), .val (.ref a41), .val (.int r63), .unset, .unset, .unset, .unset, .unset, .unset, .unset, .unset]) at_52 rfl rfl ?_
  refine g_aload K X66 (pc' := 56) at_54 rfl rfl rfl ?_
  refine g_iloadN K X66 (pc' := 57) at_56 rfl rfl ?_
  refine g_callSKI K X66 (pc' := 60) (argsL := [.ref a12, .int c1]) (rest := []) 0 at_57 rfl (hw _ (List.mem_of_getElem? (i := 25) rfl)) (hw _ (List.mem_of_getElem? (i := 26) rfl)) (hw _ (List.mem_of_getElem? (i := 2) rfl)) (hw _ (List.mem_of_getElem? (i := 27) rfl)) (by decide) (rm_expect l Z a0 hw a12 c1 f37 h67 n0 X66.z na16 f69) (by decide) (by decide) (by decide) (by decide) (lenOf pd_3 rfl) rfl rfl (Nat.le_of_ble_eq_true rfl) (fun r79 T81 h83 X82 Kp84 hP80 => ?_)
  have f85 := Exa.keep e74 Kp84
  have f86 := Fld.keep u75 Kp84 (ninS (Ne.symm ne_a12_a41) nin0)
  have f87 := Fld.keep u76 Kp84 (ninS (Ne.symm ne_a12_a41) nin0)
  have f88 := Fld.keep u77 Kp84 (ninS (Ne.symm ne_a12_a41) nin0)
  obtain ⟨g89, A90, ex91⟩ := hP80
  obtain ⟨j92, j93, j94, j95⟩ := own_step tk78 ex91 i0 i1 i3
  refine g_istore K X82 (pc' := 62) (L' := #[.val (.int p1), .val (.int p2), .val (.int p3), .val (.int c1), .val (.int c4), .val (.int c7), .val (.ref a12), .val (.ref a41), .val (.int r63), .val (.int r79), .unset, .unset, .unset, .unset, .unset, .unset, .unset]) at_60 rfl rfl ?_
  refine g_iload K X82 (pc' := 64) at_62 rfl rfl ?_
  refine g_iload K X82 (pc' := 66) at_64 rfl rfl ?_
  refine g_icmp_ne K X82 (pc' := 99) (pc'' := 69) r63.toInt r79.toInt at_66 (by decide) rfl rfl rfl ?_ ?_
  · intro b66
    exact absurd (congrArg Int32.toInt j92) b66
  · intro b66
    refine g_aload K X82 (pc' := 71) at_69 rfl rfl rfl ?_
    refine g_virtualJ K X82 (pc' := 74) (a := a41) (argsL := []) (rest := []) 0 at_71 rfl (hw _ (List.mem_of_getElem? (i := 28) rfl)) (hw _ (List.mem_of_getElem? (i := 29) rfl)) (hw _ (List.mem_of_getElem? (i := 31) rfl)) (hw _ (List.mem_of_getElem? (i := 30) rfl)) (hw _ (List.mem_of_getElem? (i := 7) rfl)) (hw _ (List.mem_of_getElem? (i := 32) rfl)) (by decide) f85 (rm_line l Z a0 hw a41 ln71 le72 ac73 h83 n0 X82.z ⟨f85, f86, f87, f88⟩) (by decide) (by decide) (by decide) (by decide) (lenOf pd_4 rfl) rfl rfl (Nat.le_of_ble_eq_true rfl) (fun r96 T98 X99 hP97 => ?_)
    refine g_aload K X99 (pc' := 76) at_74 rfl rfl rfl ?_
    refine g_iconst K X99 (pc' := 77) (v := (0 : Int32)) at_76 rfl rfl ?_
    refine g_laload K X99 (pc' := 78) (i := 0) at_77 rfl A90 rfl (by decide) ?_
    refine g_lcmp_ne K X99 (pc1 := 79) (pc' := 99) (pc'' := 82) r96.toInt (g89 0).toInt at_78 rfl at_79 (by decide) rfl rfl rfl ?_ ?_
    · intro b79
      exact absurd (by rw [hP97, j93]) b79
    · intro b79
      refine g_aload K X99 (pc' := 84) at_82 rfl rfl rfl ?_
      refine g_virtualJ K X99 (pc' := 87) (a := a41) (argsL := []) (rest := []) 0 at_84 rfl (hw _ (List.mem_of_getElem? (i := 33) rfl)) (hw _ (List.mem_of_getElem? (i := 34) rfl)) (hw _ (List.mem_of_getElem? (i := 36) rfl)) (hw _ (List.mem_of_getElem? (i := 35) rfl)) (hw _ (List.mem_of_getElem? (i := 7) rfl)) (hw _ (List.mem_of_getElem? (i := 37) rfl)) (by decide) f85 (rm_length l Z a0 hw a41 ln71 le72 ac73 h83 n0 X99.z ⟨f85, f86, f87, f88⟩) (by decide) (by decide) (by decide) (by decide) (lenOf pd_4 rfl) rfl rfl (Nat.le_of_ble_eq_true rfl) (fun r100 T102 X103 hP101 => ?_)
      refine g_aload K X103 (pc' := 89) at_87 rfl rfl rfl ?_
      refine g_iconst K X103 (pc' := 90) (v := (1 : Int32)) at_89 rfl rfl ?_
      refine g_laload K X103 (pc' := 91) (i := 1) at_90 rfl A90 rfl (by decide) ?_
      refine g_lcmp_ne K X103 (pc1 := 92) (pc' := 99) (pc'' := 95) r100.toInt (g89 1).toInt at_91 rfl at_92 (by decide) rfl rfl rfl ?_ ?_
      · intro b92
        exact absurd (by rw [hP101, j94]) b92
      · intro b92
        refine g_iconst K X103 (pc' := 96) (v := (1 : Int32)) at_95 rfl rfl ?_
        refine g_goto K X103 (pc' := 100) at_96 (by decide) ?_
        refine g_istore K X103 (pc' := 102) (L' := #[.val (.int p1), .val (.int p2), .val (.int p3), .val (.int c1), .val (.int c4), .val (.int c7), .val (.ref a12), .val (.ref a41), .val (.int r63), .val (.int r79), .val (.int (1 : Int32)), .unset, .unset, .unset, .unset, .unset, .unset]) at_100 rfl rfl ?_
        refine g_aload K X103 (pc' := 104) at_102 rfl rfl rfl ?_
        refine g_iload K X103 (pc' := 106) at_104 rfl rfl ?_
        refine g_virtualKI K X103 (pc' := 109) (a := a41) (argsL := [.int c4]) (rest := []) 0 at_106 rfl (hw _ (List.mem_of_getElem? (i := 16) rfl)) (hw _ (List.mem_of_getElem? (i := 17) rfl)) (hw _ (List.mem_of_getElem? (i := 19) rfl)) (hw _ (List.mem_of_getElem? (i := 18) rfl)) (hw _ (List.mem_of_getElem? (i := 7) rfl)) (hw _ (List.mem_of_getElem? (i := 20) rfl)) (by decide) f85 (rm_take l Z a0 hw a41 c4 ln71 le72 ac73 h83 n0 X103.z na45 ⟨f85, f86, f87, f88⟩) (by decide) (by decide) (by decide) (by decide) (lenOf pd_2 rfl) rfl rfl (Nat.le_of_ble_eq_true rfl) (fun r104 T106 h108 X107 Kp109 hP105 => ?_)
        have f110 := Exa.keep f85 Kp109
        have f111 := AL.keep A90 Kp109 (ninS ne_a12_a41 nin0)
        obtain ⟨ln112, le113, ac114, ⟨e115, u116, u117, u118⟩, tk119⟩ := hP105
        refine g_istore K X107 (pc' := 111) (L' := #[.val (.int p1), .val (.int p2), .val (.int p3), .val (.int c1), .val (.int c4), .val (.int c7), .val (.ref a12), .val (.ref a41), .val (.int r63), .val (.int r79), .val (.int (1 : Int32)), .val (.int r104), .unset, .unset, .unset, .unset, .unset]) at_109 rfl rfl ?_
        refine g_aload K X107 (pc' := 113) at_111 rfl rfl rfl ?_
        refine g_iload K X107 (pc' := 115) at_113 rfl rfl ?_
        refine g_callSKI K X107 (pc' := 118) (argsL := [.ref a12, .int c4]) (rest := []) 0 at_115 rfl (hw _ (List.mem_of_getElem? (i := 25) rfl)) (hw _ (List.mem_of_getElem? (i := 26) rfl)) (hw _ (List.mem_of_getElem? (i := 2) rfl)) (hw _ (List.mem_of_getElem? (i := 27) rfl)) (by decide) (rm_expect l Z a0 hw a12 c4 g89 h108 n0 X107.z na16 f111) (by decide) (by decide) (by decide) (by decide) (lenOf pd_3 rfl) rfl rfl (Nat.le_of_ble_eq_true rfl) (fun r120 T122 h124 X123 Kp125 hP121 => ?_)
        have f126 := Exa.keep e115 Kp125
        have f127 := Fld.keep u116 Kp125 (ninS (Ne.symm ne_a12_a41) nin0)
        have f128 := Fld.keep u117 Kp125 (ninS (Ne.symm ne_a12_a41) nin0)
        have f129 := Fld.keep u118 Kp125 (ninS (Ne.symm ne_a12_a41) nin0)
        obtain ⟨g130, A131, ex132⟩ := hP121
        obtain ⟨j133, j134, j135, j136⟩ := own_step tk119 ex132 j93 j94 j95
        refine g_istore K X123 (pc' := 120) (L' := #[.val (.int p1), .val (.int p2), .val (.int p3), .val (.int c1), .val (.int c4), .val (.int c7), .val (.ref a12), .val (.ref a41), .val (.int r63), .val (.int r79), .val (.int (1 : Int32)), .val (.int r104), .val (.int r120), .unset, .unset, .unset, .unset]) at_118 rfl rfl ?_
        refine g_iload K X123 (pc' := 122) at_120 rfl rfl ?_
        refine g_iload K X123 (pc' := 124) at_122 rfl rfl ?_
        refine g_icmp_ne K X123 (pc' := 157) (pc'' := 127) r104.toInt r120.toInt at_124 (by decide) rfl rfl rfl ?_ ?_
        · intro b124
          exact absurd (congrArg Int32.toInt j133) b124
        · intro b124
          refine g_aload K X123 (pc' := 129) at_127 rfl rfl rfl ?_
          refine g_virtualJ K X123 (pc' := 132) (a := a41) (argsL := []) (rest := []) 0 at_129 rfl (hw _ (List.mem_of_getElem? (i := 28) rfl)) (hw _ (List.mem_of_getElem? (i := 29) rfl)) (hw _ (List.mem_of_getElem? (i := 31) rfl)) (hw _ (List.mem_of_getElem? (i := 30) rfl)) (hw _ (List.mem_of_getElem? (i := 7) rfl)) (hw _ (List.mem_of_getElem? (i := 32) rfl)) (by decide) f126 (rm_line l Z a0 hw a41 ln112 le113 ac114 h124 n0 X123.z ⟨f126, f127, f128, f129⟩) (by decide) (by decide) (by decide) (by decide) (lenOf pd_4 rfl) rfl rfl (Nat.le_of_ble_eq_true rfl) (fun r137 T139 X140 hP138 => ?_)
          refine g_aload K X140 (pc' := 134) at_132 rfl rfl rfl ?_
          refine g_iconst K X140 (pc' := 135) (v := (0 : Int32)) at_134 rfl rfl ?_
          refine g_laload K X140 (pc' := 136) (i := 0) at_135 rfl A131 rfl (by decide) ?_
          refine g_lcmp_ne K X140 (pc1 := 137) (pc' := 157) (pc'' := 140) r137.toInt (g130 0).toInt at_136 rfl at_137 (by decide) rfl rfl rfl ?_ ?_
          · intro b137
            exact absurd (by rw [hP138, j134]) b137
          · intro b137
            refine g_aload K X140 (pc' := 142) at_140 rfl rfl rfl ?_
            refine g_virtualJ K X140 (pc' := 145) (a := a41) (argsL := []) (rest := []) 0 at_142 rfl (hw _ (List.mem_of_getElem? (i := 33) rfl)) (hw _ (List.mem_of_getElem? (i := 34) rfl)) (hw _ (List.mem_of_getElem? (i := 36) rfl)) (hw _ (List.mem_of_getElem? (i := 35) rfl)) (hw _ (List.mem_of_getElem? (i := 7) rfl)) (hw _ (List.mem_of_getElem? (i := 37) rfl)) (by decide) f126 (rm_length l Z a0 hw a41 ln112 le113 ac114 h124 n0 X140.z ⟨f126, f127, f128, f129⟩) (by decide) (by decide) (by decide) (by decide) (lenOf pd_4 rfl) rfl rfl (Nat.le_of_ble_eq_true rfl) (fun r141 T143 X144 hP142 => ?_)
            refine g_aload K X144 (pc' := 147) at_145 rfl rfl rfl ?_
            refine g_iconst K X144 (pc' := 148) (v := (1 : Int32)) at_147 rfl rfl ?_
            refine g_laload K X144 (pc' := 149) (i := 1) at_148 rfl A131 rfl (by decide) ?_
            refine g_lcmp_ne K X144 (pc1 := 150) (pc' := 157) (pc'' := 153) r141.toInt (g130 1).toInt at_149 rfl at_150 (by decide) rfl rfl rfl ?_ ?_
            · intro b150
              exact absurd (by rw [hP142, j135]) b150
            · intro b150
              refine g_iconst K X144 (pc' := 154) (v := (1 : Int32)) at_153 rfl rfl ?_
              refine g_goto K X144 (pc' := 158) at_154 (by decide) ?_
              refine g_istore K X144 (pc' := 160) (L' := #[.val (.int p1), .val (.int p2), .val (.int p3), .val (.int c1), .val (.int c4), .val (.int c7), .val (.ref a12), .val (.ref a41), .val (.int r63), .val (.int r79), .val (.int (1 : Int32)), .val (.int r104), .val (.int r120), .val (.int (1 : Int32)), .unset, .unset, .unset]) at_158 rfl rfl ?_
              refine g_aload K X144 (pc' := 162) at_160 rfl rfl rfl ?_
              refine g_iload K X144 (pc' := 164) at_162 rfl rfl ?_
              refine g_virtualKI K X144 (pc' := 167) (a := a41) (argsL := [.int c7]) (rest := []) 0 at_164 rfl (hw _ (List.mem_of_getElem? (i := 16) rfl)) (hw _ (List.mem_of_getElem? (i := 17) rfl)) (hw _ (List.mem_of_getElem? (i := 19) rfl)) (hw _ (List.mem_of_getElem? (i := 18) rfl)) (hw _ (List.mem_of_getElem? (i := 7) rfl)) (hw _ (List.mem_of_getElem? (i := 20) rfl)) (by decide) f126 (rm_take l Z a0 hw a41 c7 ln112 le113 ac114 h124 n0 X144.z na45 ⟨f126, f127, f128, f129⟩) (by decide) (by decide) (by decide) (by decide) (lenOf pd_2 rfl) rfl rfl (Nat.le_of_ble_eq_true rfl) (fun r145 T147 h149 X148 Kp150 hP146 => ?_)
              have f151 := Exa.keep f126 Kp150
              have f152 := AL.keep A131 Kp150 (ninS ne_a12_a41 nin0)
              obtain ⟨ln153, le154, ac155, ⟨e156, u157, u158, u159⟩, tk160⟩ := hP146
              refine g_istore K X148 (pc' := 169) (L' := #[.val (.int p1), .val (.int p2), .val (.int p3), .val (.int c1), .val (.int c4), .val (.int c7), .val (.ref a12), .val (.ref a41), .val (.int r63), .val (.int r79), .val (.int (1 : Int32)), .val (.int r104), .val (.int r120), .val (.int (1 : Int32)), .val (.int r145), .unset, .unset]) at_167 rfl rfl ?_
              refine g_aload K X148 (pc' := 171) at_169 rfl rfl rfl ?_
              refine g_iload K X148 (pc' := 173) at_171 rfl rfl ?_
              refine g_callSKI K X148 (pc' := 176) (argsL := [.ref a12, .int c7]) (rest := []) 0 at_173 rfl (hw _ (List.mem_of_getElem? (i := 25) rfl)) (hw _ (List.mem_of_getElem? (i := 26) rfl)) (hw _ (List.mem_of_getElem? (i := 2) rfl)) (hw _ (List.mem_of_getElem? (i := 27) rfl)) (by decide) (rm_expect l Z a0 hw a12 c7 g130 h149 n0 X148.z na16 f152) (by decide) (by decide) (by decide) (by decide) (lenOf pd_3 rfl) rfl rfl (Nat.le_of_ble_eq_true rfl) (fun r161 T163 h165 X164 Kp166 hP162 => ?_)
              have f167 := Exa.keep e156 Kp166
              have f168 := Fld.keep u157 Kp166 (ninS (Ne.symm ne_a12_a41) nin0)
              have f169 := Fld.keep u158 Kp166 (ninS (Ne.symm ne_a12_a41) nin0)
              have f170 := Fld.keep u159 Kp166 (ninS (Ne.symm ne_a12_a41) nin0)
              obtain ⟨g171, A172, ex173⟩ := hP162
              obtain ⟨j174, j175, j176, j177⟩ := own_step tk160 ex173 j134 j135 j136
              refine g_istore K X164 (pc' := 178) (L' := #[.val (.int p1), .val (.int p2), .val (.int p3), .val (.int c1), .val (.int c4), .val (.int c7), .val (.ref a12), .val (.ref a41), .val (.int r63), .val (.int r79), .val (.int (1 : Int32)), .val (.int r104), .val (.int r120), .val (.int (1 : Int32)), .val (.int r145), .val (.int r161), .unset]) at_176 rfl rfl ?_
              refine g_iload K X164 (pc' := 180) at_178 rfl rfl ?_
              refine g_iload K X164 (pc' := 182) at_180 rfl rfl ?_
              refine g_icmp_ne K X164 (pc' := 215) (pc'' := 185) r145.toInt r161.toInt at_182 (by decide) rfl rfl rfl ?_ ?_
              · intro b182
                exact absurd (congrArg Int32.toInt j174) b182
              · intro b182
                refine g_aload K X164 (pc' := 187) at_185 rfl rfl rfl ?_
                refine g_virtualJ K X164 (pc' := 190) (a := a41) (argsL := []) (rest := []) 0 at_187 rfl (hw _ (List.mem_of_getElem? (i := 28) rfl)) (hw _ (List.mem_of_getElem? (i := 29) rfl)) (hw _ (List.mem_of_getElem? (i := 31) rfl)) (hw _ (List.mem_of_getElem? (i := 30) rfl)) (hw _ (List.mem_of_getElem? (i := 7) rfl)) (hw _ (List.mem_of_getElem? (i := 32) rfl)) (by decide) f167 (rm_line l Z a0 hw a41 ln153 le154 ac155 h165 n0 X164.z ⟨f167, f168, f169, f170⟩) (by decide) (by decide) (by decide) (by decide) (lenOf pd_4 rfl) rfl rfl (Nat.le_of_ble_eq_true rfl) (fun r178 T180 X181 hP179 => ?_)
                refine g_aload K X181 (pc' := 192) at_190 rfl rfl rfl ?_
                refine g_iconst K X181 (pc' := 193) (v := (0 : Int32)) at_192 rfl rfl ?_
                refine g_laload K X181 (pc' := 194) (i := 0) at_193 rfl A172 rfl (by decide) ?_
                refine g_lcmp_ne K X181 (pc1 := 195) (pc' := 215) (pc'' := 198) r178.toInt (g171 0).toInt at_194 rfl at_195 (by decide) rfl rfl rfl ?_ ?_
                · intro b195
                  exact absurd (by rw [hP179, j175]) b195
                · intro b195
                  refine g_aload K X181 (pc' := 200) at_198 rfl rfl rfl ?_
                  refine g_virtualJ K X181 (pc' := 203) (a := a41) (argsL := []) (rest := []) 0 at_200 rfl (hw _ (List.mem_of_getElem? (i := 33) rfl)) (hw _ (List.mem_of_getElem? (i := 34) rfl)) (hw _ (List.mem_of_getElem? (i := 36) rfl)) (hw _ (List.mem_of_getElem? (i := 35) rfl)) (hw _ (List.mem_of_getElem? (i := 7) rfl)) (hw _ (List.mem_of_getElem? (i := 37) rfl)) (by decide) f167 (rm_length l Z a0 hw a41 ln153 le154 ac155 h165 n0 X181.z ⟨f167, f168, f169, f170⟩) (by decide) (by decide) (by decide) (by decide) (lenOf pd_4 rfl) rfl rfl (Nat.le_of_ble_eq_true rfl) (fun r182 T184 X185 hP183 => ?_)
                  refine g_aload K X185 (pc' := 205) at_203 rfl rfl rfl ?_
                  refine g_iconst K X185 (pc' := 206) (v := (1 : Int32)) at_205 rfl rfl ?_
                  refine g_laload K X185 (pc' := 207) (i := 1) at_206 rfl A172 rfl (by decide) ?_
                  refine g_lcmp_ne K X185 (pc1 := 208) (pc' := 215) (pc'' := 211) r182.toInt (g171 1).toInt at_207 rfl at_208 (by decide) rfl rfl rfl ?_ ?_
                  · intro b208
                    exact absurd (by rw [hP183, j176]) b208
                  · intro b208
                    refine g_iconst K X185 (pc' := 212) (v := (1 : Int32)) at_211 rfl rfl ?_
                    refine g_goto K X185 (pc' := 216) at_212 (by decide) ?_
                    refine g_istore K X185 (pc' := 218) (L' := #[.val (.int p1), .val (.int p2), .val (.int p3), .val (.int c1), .val (.int c4), .val (.int c7), .val (.ref a12), .val (.ref a41), .val (.int r63), .val (.int r79), .val (.int (1 : Int32)), .val (.int r104), .val (.int r120), .val (.int (1 : Int32)), .val (.int r145), .val (.int r161), .val (.int (1 : Int32))]) at_216 rfl rfl ?_
                    refine g_iload K X185 (pc' := 220) at_218 rfl rfl ?_
                    refine g_if_eq K X185 (pc' := 237) (pc'' := 223) 1 at_220 (by decide) rfl rfl ?_ ?_
                    · intro b220
                      omega
                    · intro b220
                      refine g_iload K X185 (pc' := 225) at_223 rfl rfl ?_
                      refine g_if_eq K X185 (pc' := 237) (pc'' := 228) 1 at_225 (by decide) rfl rfl ?_ ?_
                      · intro b225
                        omega
                      · intro b225
                        refine g_iload K X185 (pc' := 230) at_228 rfl rfl ?_
                        refine g_if_eq K X185 (pc' := 237) (pc'' := 233) 1 at_230 (by decide) rfl rfl ?_ ?_
                        · intro b230
                          omega
                        · intro b230
                          refine g_iconst K X185 (pc' := 234) (v := (1 : Int32)) at_233 rfl rfl ?_
                          refine g_goto K X185 (pc' := 238) at_234 (by decide) ?_
                          exact g_retN K X185 at_238 (by simp) (by decide) (by decide) rfl

set_option maxRecDepth 65536 in
set_option maxHeartbeats 40000000 in
theorem comes_1 {Post : Tables → Env → Array Value → State → Outcome → State → Prop} (hpost : ∀ tb e args s v u, (limb_1_1.after args s (.returned v) u = true ∧ limb_1_2.after args s (.returned v) u = true ∧ True) → FrameEnd s (.returned v) u (Jvm.fieldLocs frame_1_writes args s ++ Jvm.arrayLocs frame_1_arrays args s ++ Jvm.staticLocs frame_1_statics s) 16 128 → Post tb e args s (.returned v) u) :
    ArmFor flags0 classFile x code maxLocals ret World_1 tables_1 room_1 Calls_1 rest_1 Pre_1 Post := by
  intro l hfl _ _ p e ha hc hk s m args below hf hA hF happ hP
  obtain ⟨hcalls, hrest, hpre⟩ := hP
  obtain ⟨-, -, -, hnamed, -, -, -, hat⟩ := (Spec.applies_iff hf).mp happ
  obtain ⟨hg, hn⟩ := and_e (Cond.before_iff.mp (show (Jvm.Cond.and given_1 narrow_1).before args s = true from hpre))
  obtain ⟨g0, r0⟩ := and_e hg
  obtain ⟨g1, r1⟩ := and_e r0
  obtain ⟨g2, r2⟩ := and_e r1
  obtain ⟨w0, w1, w2, rfl⟩ : ∃ w0 w1 w2 : Value, args = #[w0, w1, w2] := by
    have hs : args.size = 3 := by simpa [Cond.value, given_1] using g0
    obtain ⟨L⟩ := args
    match L, hs with
    | [w0, w1, w2], _ => exact ⟨w0, w1, w2, rfl⟩
  have hw := fun d (hd : d ∈ tables_1) => atoms_spec (ws := Jvm.Cond.code x code maxLocals ret :: tables_1) hat d (List.mem_cons_of_mem _ hd)
  obtain ⟨i0, ei0⟩ := is_v g1
  obtain rfl : w0 = (.int i0) := Option.some.inj ei0
  obtain ⟨i1, ei1⟩ := is_v g2
  obtain rfl : w1 = (.int i1) := Option.some.inj ei1
  obtain ⟨i2, ei2⟩ := is_v r2
  obtain rfl : w2 = (.int i2) := Option.some.inj ei2
  obtain ⟨n, o, h1, h2, h3, _, L, rfl, ⟨rfl, N⟩, hq⟩ := rm0 l s _ hw i0 i1 i2 s.heap s.heap.size (Nat.le_refl _) tables_1 p e ha hc hk s m _ below hf ((Spec.applies_iff_loose hf).mp happ).1 ⟨rfl, State.Warmed39.refl s, rfl⟩ trivial
  refine ⟨n, _, h1, h2, h3, hpost _ _ _ _ _ _ ⟨Cond.after_iff.mpr rfl, Cond.after_iff.mpr (eq_i res_at (Term.int_eval (1)) rfl), trivial⟩ ⟨hq.1, hq.2.1, (hq.2.2.sift fun y hy => Or.inr (N y hy)).mono (by decide) (by decide)⟩⟩
theorem main_1_1 : Claimed_1_1 := comes_1 fun _ _ _ _ _ _ h hF => ⟨h.1, hF⟩
theorem main_1_2 : Claimed_1_2 := comes_1 fun _ _ _ _ _ _ h hF => ⟨h.2.1, hF⟩
end Jvm.Pilot.@@N@@
namespace Jvm.Pilot.@@N@@
open Jvm Jvm.ClassFile Sem Op Lib Jvm.Free Jvm.Stand Jvm.Pilot.@@N@@.Jvm.D
/-! MADE BY PROGRAM (witnessworld.py) out of the Statement's table words and the real class files: 11 classes; the members and pool entries that the words name. The judged class is class 1, her method 3. -/
namespace start1
open Jvm.ClassFile
def u (s : String) : CpInfo := .utf8 (stringToUtf16 s)
/-- a pool by its gaps: so many unusable entries, then the entry; so many at the end -/
def gap : Nat → List CpInfo → List CpInfo
  | 0, r => r
  | n + 1, r => .unusable :: gap n r
def poolList (es : List (Nat × CpInfo)) (last : Nat) : List CpInfo := es.foldr (fun e r => gap e.1 (e.2 :: r)) (gap last [])
def pool (es : List (Nat × CpInfo)) (last : Nat) : Array CpInfo := ⟨poolList es last⟩
def fileOf (pool : Array CpInfo) (this : Nat) (attrs : Array Attribute := #[]) (ms : Array MethodInfo := #[]) (fl : Nat := 33) (sup : Nat := 0) (ifs : Array Nat := #[]) (fds : Array FieldInfo := #[]) : ClassFile where
  minorVersion := 0
  majorVersion := 65
  constantPool := pool
  accessFlags := fl
  thisClass := this
  superClass := sup
  interfaces := ifs
  fields := fds
  methods := ms
  attributes := attrs
def plain (name : String) (sup : Option ClassId) : Class where
  name := name
  kind := .ordinary
  loader := none
  accessFlags := 33
  super := sup
  interfaces := #[]
  cf := none
  fields := #[]
  methods := #[]
  instanceTypes := #[]
  staticTypes := #[]
  resolved := #[]
  callSites := []
  init := .initialized
  statics := none
  mirror := none

def pool0 : Array CpInfo := pool [(5, u "<init>"), (0, u "()V"), (1, .class_ 10), (1, u "java/lang/Object")] 113

def k0c0 : Code := { maxStack := 0, maxLocals := 1, code := object_method_1_code, exceptionTable := #[], attributes := #[] }
def k0m0 : Method := { name := "<init>", desc := "()V", sig := { parameters := [], returnType := none }, accessFlags := 1, code := some k0c0 }
/-- java/lang/Object -/
def k0 : Class := { plain "java/lang/Object" none with
  accessFlags := 33
  interfaces := #[]
  cf := some (fileOf pool0 8 #[] #[{ accessFlags := 1, nameIndex := 5, descriptorIndex := 6, attributes := #[] }] 33 0 #[] #[])
  fields := #[]
  methods := #[k0m0]
  instanceTypes := #[]
  staticTypes := #[]
  resolved := Array.replicate 124 none
  statics := none }

def pool1 : Array CpInfo := pool [(2, .class_ 4), (0, .nameAndType 5 6), (0, u "java/lang/Object"), (0, u "<init>"), (0, u "()V"), (0, .methodref 8 9), (0, .class_ 10), (0, .nameAndType 11 12), (0, u "com/example/seille/seille/io/LineCounterTakePinLaw"), (0, u "draw"), (0, u "(I)C"), (0, .class_ 14), (0, u "com/example/seille/seille/io/LineCounter"), (0, .methodref 13 3), (0, .methodref 13 17), (0, .nameAndType 18 19), (0, u "take"), (0, u "(C)Z"), (0, .methodref 8 21), (0, .nameAndType 22 23), (0, u "expect"), (0, u "([JC)Z"), (0, .methodref 13 25), (0, .nameAndType 26 27), (0, u "line"), (0, u "()J"), (0, .methodref 13 29), (0, .nameAndType 30 27), (0, u "length"), (5, u "law"), (0, u "(III)Z")] 2

def k1m0 : Method := { name := "<init>", desc := "()V", sig := { parameters := [], returnType := none }, accessFlags := 1, code := none }
def k1c1 : Code := { maxStack := 2, maxLocals := 2, code := method_2_code, exceptionTable := #[], attributes := #[] }
def k1m1 : Method := { name := "draw", desc := "(I)C", sig := { parameters := [.int], returnType := some .char }, accessFlags := 10, code := some k1c1 }
def k1c2 : Code := { maxStack := 6, maxLocals := 3, code := method_3_code, exceptionTable := #[], attributes := #[] }
def k1m2 : Method := { name := "expect", desc := "([JC)Z", sig := { parameters := [(.array .long), .char], returnType := some .boolean }, accessFlags := 10, code := some k1c2 }
def k1c3 : Code := { maxStack := 4, maxLocals := 17, code := code, exceptionTable := #[], attributes := #[] }
def k1m3 : Method := { name := "law", desc := "(III)Z", sig := { parameters := [.int, .int, .int], returnType := some .boolean }, accessFlags := 9, code := some k1c3 }
/-- com/example/seille/seille/io/LineCounterTakePinLaw -/
def k1 : Class := { plain "com/example/seille/seille/io/LineCounterTakePinLaw" (some 0) with
  accessFlags := 49
  interfaces := #[]
  cf := some (fileOf pool1 8 #[] #[{ accessFlags := 1, nameIndex := 5, descriptorIndex := 6, attributes := #[] }, { accessFlags := 10, nameIndex := 11, descriptorIndex := 12, attributes := #[] }, { accessFlags := 10, nameIndex := 22, descriptorIndex := 23, attributes := #[] }, { accessFlags := 9, nameIndex := 36, descriptorIndex := 37, attributes := #[] }] 49 2 #[] #[])
  fields := #[]
  methods := #[k1m0, k1m1, k1m2, k1m3]
  instanceTypes := #[]
  staticTypes := #[]
  resolved := Array.replicate 40 none
  statics := none }

def pool2 : Array CpInfo := pool [(1, .methodref 2 3), (0, .class_ 4), (0, .nameAndType 5 6), (0, u "java/lang/Object"), (0, u "<init>"), (0, u "()V"), (0, .fieldref 8 9), (0, .class_ 10), (0, .nameAndType 11 12), (0, u "com/example/seille/seille/io/LineCounter"), (0, u "line"), (0, u "J"), (0, .fieldref 8 14), (0, .nameAndType 15 16), (0, u "afterCarriageReturn"), (0, u "Z"), (0, .fieldref 8 18), (0, .nameAndType 19 12), (0, u "length"), (2, u "take"), (0, u "(C)Z"), (3, u "()J")] 2

def k2c0 : Code := { maxStack := 3, maxLocals := 1, code := prog_15_method_1_code, exceptionTable := #[], attributes := #[] }
def k2m0 : Method := { name := "<init>", desc := "()V", sig := { parameters := [], returnType := none }, accessFlags := 0, code := some k2c0 }
def k2c1 : Code := { maxStack := 5, maxLocals := 3, code := prog_15_method_2_code, exceptionTable := #[], attributes := #[] }
def k2m1 : Method := { name := "take", desc := "(C)Z", sig := { parameters := [.char], returnType := some .boolean }, accessFlags := 0, code := some k2c1 }
def k2c2 : Code := { maxStack := 2, maxLocals := 1, code := prog_15_method_4_code, exceptionTable := #[], attributes := #[] }
def k2m2 : Method := { name := "line", desc := "()J", sig := { parameters := [], returnType := some .long }, accessFlags := 0, code := some k2c2 }
def k2c3 : Code := { maxStack := 2, maxLocals := 1, code := prog_15_method_5_code, exceptionTable := #[], attributes := #[] }
def k2m3 : Method := { name := "length", desc := "()J", sig := { parameters := [], returnType := some .long }, accessFlags := 0, code := some k2c3 }
/-- com/example/seille/seille/io/LineCounter -/
def k2 : Class := { plain "com/example/seille/seille/io/LineCounter" (some 0) with
  accessFlags := 48
  interfaces := #[]
  cf := some (fileOf pool2 8 #[] #[{ accessFlags := 0, nameIndex := 5, descriptorIndex := 6, attributes := #[] }, { accessFlags := 0, nameIndex := 22, descriptorIndex := 23, attributes := #[] }, { accessFlags := 0, nameIndex := 11, descriptorIndex := 27, attributes := #[] }, { accessFlags := 0, nameIndex := 19, descriptorIndex := 27, attributes := #[] }] 48 2 #[] #[{ accessFlags := 2, nameIndex := 11, descriptorIndex := 12, attributes := #[] }, { accessFlags := 2, nameIndex := 19, descriptorIndex := 12, attributes := #[] }, { accessFlags := 2, nameIndex := 15, descriptorIndex := 16, attributes := #[] }])
  fields := #[{ name := "line", type := .long, accessFlags := 2, slot := 0, constantValue := 0 }, { name := "length", type := .long, accessFlags := 2, slot := 1, constantValue := 0 }, { name := "afterCarriageReturn", type := .boolean, accessFlags := 2, slot := 2, constantValue := 0 }]
  methods := #[k2m0, k2m1, k2m2, k2m3]
  instanceTypes := #[.long, .long, .boolean]
  staticTypes := #[]
  resolved := Array.replicate 30 none
  statics := none }

def pool3 : Array CpInfo := pool [(1, u "java/lang/Cloneable"), (0, .class_ 1), (0, u "java/lang/Object"), (0, .class_ 3)] 3

/-- java/lang/Cloneable -/
def k3 : Class := { plain "java/lang/Cloneable" (some 0) with
  accessFlags := 1537
  interfaces := #[]
  cf := some (fileOf pool3 2 #[] #[] 1537 4 #[] #[])
  fields := #[]
  methods := #[]
  instanceTypes := #[]
  staticTypes := #[]
  resolved := Array.replicate 8 none
  statics := none }

def pool4 : Array CpInfo := pool [(1, u "java/io/Serializable"), (0, .class_ 1), (0, u "java/lang/Object"), (0, .class_ 3)] 3

/-- java/io/Serializable -/
def k4 : Class := { plain "java/io/Serializable" (some 0) with
  accessFlags := 1537
  interfaces := #[]
  cf := some (fileOf pool4 2 #[] #[] 1537 4 #[] #[])
  fields := #[]
  methods := #[]
  instanceTypes := #[]
  staticTypes := #[]
  resolved := Array.replicate 8 none
  statics := none }

/-- the primitive byte -/
def k5 : Class := { plain "byte" none with kind := .primitive 'B', accessFlags := 0x411 }
/-- [B -/
def k6 : Class := { plain "[B" (some 0) with kind := .array 5 .byte, interfaces := #[3, 4], accessFlags := 1041 }

/-- the primitive int -/
def k7 : Class := { plain "int" none with kind := .primitive 'I', accessFlags := 0x411 }
/-- [I -/
def k8 : Class := { plain "[I" (some 0) with kind := .array 7 .int, interfaces := #[3, 4], accessFlags := 1041 }

/-- the primitive long -/
def k9 : Class := { plain "long" none with kind := .primitive 'J', accessFlags := 0x411 }
/-- [J -/
def k10 : Class := { plain "[J" (some 0) with kind := .array 9 .long, interfaces := #[3, 4], accessFlags := 1041 }

def heap : Heap := #[]
def classes : Array Class := #[k0, k1, k2, k3, k4, k5, k6, k7, k8, k9, k10]
def interned : List (Array UInt16 × Addr) := []
def slotsUsed : Nat := 0
def theMethod : MethodId := ⟨1, 3⟩
def args0 : Array Value := #[.int 5, .int 7, .int 3]
def aboutOver (below : List Frame) : State where
  vm := { classes := classes, interned := interned.toArray }
  heap := heap
  slotsUsed := slotsUsed
  threads := #[{ frames := .invoking theMethod args0 :: below }]
def below0 : List Frame := [.native { method := ⟨0, 0⟩, args := #[] }]
def about1 : State := aboutOver below0
def p0 : Program := .bare "" "" ""
def e0 : Env := launch0.env 0 0 0
theorem w_frames : about1.frames = Frame.invoking theMethod args0 :: below0 := rfl
set_option maxRecDepth 65536 in
theorem w_args : argsFit about1.vm theMethod args0 = true := by decide +kernel
set_option maxRecDepth 65536 in
theorem w_heap : heapFits about1 = true := by decide +kernel
set_option maxRecDepth 65536 in
theorem w_runnable : about1.curStatus? = some .runnable := by decide +kernel
set_option maxRecDepth 65536 in
theorem w_alone : about1.alone = true := by decide +kernel
set_option maxRecDepth 65536 in
theorem w_named : about1.methodNamed? x = some theMethod := by decide +kernel
set_option maxRecDepth 65536 in
theorem w_hears : about1.hears theMethod below0 = true := by decide +kernel
set_option maxRecDepth 65536 in
theorem w_ripe : about1.ripe theMethod args0 below0 = true := by decide +kernel
theorem w_running : about1.status = .running := rfl
set_option maxRecDepth 65536 in
theorem w_room : about1.hasRoom e0.platform room_1 = true :=
  launch0.hasRoom_least _ room_1 (by decide +kernel) (by decide +kernel) (by decide +kernel) (by decide +kernel) (by decide +kernel) (by decide +kernel)
theorem allAtoms_all (ts : List Jvm.Cond) (a : Array Jvm.Value) (st : Jvm.State) : (allAtoms ts).before a st = ts.all (fun c => c.before a st) := by
  induction ts with
  | nil => rfl
  | cons c t ih =>
    show (Jvm.Cond.and c (allAtoms t)).before a st = _
    rw [Jvm.Cond.before_and, ih, List.all_cons]
def words1 : List Jvm.Cond := Jvm.Cond.code x code maxLocals ret :: tables_1
/-- a 'code' word, met by the world's own term for the bytes: nothing is compared byte by byte -/
theorem code_word {y : MethodName} {bytes : ByteArray} {mx : Nat} {rt : Option FieldType} {a : Array Value} {s : State} {m : MethodId} {meth : Method} {c : Code} (h1 : s.methodNamed? y = some m) (h2 : s.vm.method? m = some meth) (h3 : meth.code = some c) (h4 : c.code = bytes)
    (h5 : (c.maxLocals == mx && c.exceptionTable.isEmpty && decide (c.maxStack ≤ mostOperands) && decide (meth.sig.returnType = rt) && !meth.locks && decide (parseMethodDescriptor y.desc = some meth.sig)) = true) : (Jvm.Cond.code y bytes mx rt).before a s = true := by
  simp only [Bool.and_eq_true, beq_iff_eq, Bool.not_eq_true', decide_eq_true_eq] at h5
  obtain ⟨⟨⟨⟨⟨g1, g2⟩, g3⟩, g4⟩, g5⟩, g6⟩ := h5
  simp [Cond.before, Cond.holds, Cond.value, h1, h2, h3, h4, g1, g2, g3, g4, g5, g6]
def isCode : Jvm.Cond → Bool
  | .code _ _ _ _ => true
  | _ => false
theorem all_split {L : List Jvm.Cond} {P : Jvm.Cond → Bool} (h1 : L.all (fun c => isCode c || P c) = true) (h2 : ∀ c ∈ L.filter isCode, P c = true) : L.all P = true := by
  refine List.all_eq_true.mpr fun c hc => ?_
  have h := List.all_eq_true.mp h1 c hc
  rcases Bool.eq_false_or_eq_true (isCode c) with hi | hi
  · exact h2 c (List.mem_filter.mpr ⟨hc, hi⟩)
  · simpa [hi] using h
set_option maxRecDepth 65536 in
theorem w_c0 : (Jvm.Cond.code x code maxLocals ret).before args0 about1 = true := code_word (m := ⟨1, 3⟩) (meth := k1m3) (c := k1c3) (by decide +kernel) rfl rfl rfl (by decide +kernel)
set_option maxRecDepth 65536 in
theorem w_c1 : (Jvm.Cond.code ({ cls := "com/example/seille/seille/io/LineCounterTakePinLaw", name := "draw", desc := "(I)C" } : Jvm.MethodName) method_2_code (2 : Nat) (Option.some Jvm.ClassFile.FieldType.char)).before args0 about1 = true := code_word (m := ⟨1, 1⟩) (meth := k1m1) (c := k1c1) (by decide +kernel) rfl rfl rfl (by decide +kernel)
set_option maxRecDepth 65536 in
theorem w_c2 : (Jvm.Cond.code ({ cls := "com/example/seille/seille/io/LineCounter", name := "<init>", desc := "()V" } : Jvm.MethodName) prog_15_method_1_code (1 : Nat) (Option.none : Option Jvm.ClassFile.FieldType)).before args0 about1 = true := code_word (m := ⟨2, 0⟩) (meth := k2m0) (c := k2c0) (by decide +kernel) rfl rfl rfl (by decide +kernel)
set_option maxRecDepth 65536 in
theorem w_c3 : (Jvm.Cond.code ({ cls := "java/lang/Object", name := "<init>", desc := "()V" } : Jvm.MethodName) object_method_1_code (1 : Nat) (Option.none : Option Jvm.ClassFile.FieldType)).before args0 about1 = true := code_word (m := ⟨0, 0⟩) (meth := k0m0) (c := k0c0) (by decide +kernel) rfl rfl rfl (by decide +kernel)
set_option maxRecDepth 65536 in
theorem w_c4 : (Jvm.Cond.code ({ cls := "com/example/seille/seille/io/LineCounter", name := "take", desc := "(C)Z" } : Jvm.MethodName) prog_15_method_2_code (3 : Nat) (Option.some Jvm.ClassFile.FieldType.boolean)).before args0 about1 = true := code_word (m := ⟨2, 1⟩) (meth := k2m1) (c := k2c1) (by decide +kernel) rfl rfl rfl (by decide +kernel)
set_option maxRecDepth 65536 in
theorem w_c5 : (Jvm.Cond.code ({ cls := "com/example/seille/seille/io/LineCounterTakePinLaw", name := "expect", desc := "([JC)Z" } : Jvm.MethodName) method_3_code (3 : Nat) (Option.some Jvm.ClassFile.FieldType.boolean)).before args0 about1 = true := code_word (m := ⟨1, 2⟩) (meth := k1m2) (c := k1c2) (by decide +kernel) rfl rfl rfl (by decide +kernel)
set_option maxRecDepth 65536 in
theorem w_c6 : (Jvm.Cond.code ({ cls := "com/example/seille/seille/io/LineCounter", name := "line", desc := "()J" } : Jvm.MethodName) prog_15_method_4_code (1 : Nat) (Option.some Jvm.ClassFile.FieldType.long)).before args0 about1 = true := code_word (m := ⟨2, 2⟩) (meth := k2m2) (c := k2c2) (by decide +kernel) rfl rfl rfl (by decide +kernel)
set_option maxRecDepth 65536 in
theorem w_c7 : (Jvm.Cond.code ({ cls := "com/example/seille/seille/io/LineCounter", name := "length", desc := "()J" } : Jvm.MethodName) prog_15_method_5_code (1 : Nat) (Option.some Jvm.ClassFile.FieldType.long)).before args0 about1 = true := code_word (m := ⟨2, 3⟩) (meth := k2m3) (c := k2c3) (by decide +kernel) rfl rfl rfl (by decide +kernel)
def codes1 : List Jvm.Cond := [Jvm.Cond.code x code maxLocals ret, Jvm.Cond.code ({ cls := "com/example/seille/seille/io/LineCounterTakePinLaw", name := "draw", desc := "(I)C" } : Jvm.MethodName) method_2_code (2 : Nat) (Option.some Jvm.ClassFile.FieldType.char), Jvm.Cond.code ({ cls := "com/example/seille/seille/io/LineCounter", name := "<init>", desc := "()V" } : Jvm.MethodName) prog_15_method_1_code (1 : Nat) (Option.none : Option Jvm.ClassFile.FieldType), Jvm.Cond.code ({ cls := "java/lang/Object", name := "<init>", desc := "()V" } : Jvm.MethodName) object_method_1_code (1 : Nat) (Option.none : Option Jvm.ClassFile.FieldType), Jvm.Cond.code ({ cls := "com/example/seille/seille/io/LineCounter", name := "take", desc := "(C)Z" } : Jvm.MethodName) prog_15_method_2_code (3 : Nat) (Option.some Jvm.ClassFile.FieldType.boolean), Jvm.Cond.code ({ cls := "com/example/seille/seille/io/LineCounterTakePinLaw", name := "expect", desc := "([JC)Z" } : Jvm.MethodName) method_3_code (3 : Nat) (Option.some Jvm.ClassFile.FieldType.boolean), Jvm.Cond.code ({ cls := "com/example/seille/seille/io/LineCounter", name := "line", desc := "()J" } : Jvm.MethodName) prog_15_method_4_code (1 : Nat) (Option.some Jvm.ClassFile.FieldType.long), Jvm.Cond.code ({ cls := "com/example/seille/seille/io/LineCounter", name := "length", desc := "()J" } : Jvm.MethodName) prog_15_method_5_code (1 : Nat) (Option.some Jvm.ClassFile.FieldType.long)]
set_option maxRecDepth 65536 in
theorem codes_eq : words1.filter isCode = codes1 := rfl
theorem w_codes : ∀ c ∈ words1.filter isCode, c.before args0 about1 = true := by
  rw [codes_eq]
  intro c hc
  simp only [codes1, List.mem_cons, List.not_mem_nil, or_false] at hc
  rcases hc with rfl | rfl | rfl | rfl | rfl | rfl | rfl | rfl
  · exact w_c0
  · exact w_c1
  · exact w_c2
  · exact w_c3
  · exact w_c4
  · exact w_c5
  · exact w_c6
  · exact w_c7
set_option maxRecDepth 65536 in
theorem w_t1 : (words1.take 24).all (fun c => isCode c || c.before args0 about1) = true := by decide +kernel
set_option maxRecDepth 65536 in
theorem w_t2 : (words1.drop 24).all (fun c => isCode c || c.before args0 about1) = true := by decide +kernel
theorem w_tables : (allAtoms (Jvm.Cond.code x code maxLocals ret :: tables_1)).before args0 about1 = true := by
  rw [allAtoms_all]
  show words1.all (fun c => c.before args0 about1) = true
  refine all_split ?_ w_codes
  rw [← List.take_append_drop 24 words1, List.all_append, w_t1, w_t2]
  rfl
set_option maxRecDepth 65536 in
theorem w_case : (Jvm.Cond.and given_1 narrow_1).before args0 about1 = true := by decide +kernel
theorem w_applies : (headSpec (Jvm.Cond.code x code maxLocals ret :: tables_1) room_1).applies x e0.platform about1 = true :=
  (Spec.applies_iff w_frames).mpr ⟨w_running, w_runnable, w_alone, w_named, w_hears, w_ripe, w_room, w_tables⟩
theorem atStart : AtStart classFile x code maxLocals ret World_1 tables_1 room_1 Calls_1 rest_1 Pre_1 launch0 p0 e0 about1 theMethod args0 below0 :=
  ⟨lists_1, trivial, launch0.admits_env _ _ _, launch0.least_env, fairChoices_fair.cas, fairChoices_fair.clock, w_frames, w_args, w_heap, w_applies, trivial, trivial, w_case⟩
end start1
theorem witness_1 : WitnessClaimed_1 := ⟨start1.p0, start1.e0, start1.about1, start1.theMethod, start1.args0, start1.below0, start1.atStart⟩
end Jvm.Pilot.@@N@@
