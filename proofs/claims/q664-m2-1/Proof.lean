import JvmDerived
import JvmDerived.Pilot.@@N@@Statement
import JvmDerived.Pilot.@@N@@Code
set_option linter.unusedVariables false
set_option linter.unusedSimpArgs false

namespace Jvm.RoadKit
open Sem ClassFile Op Lib Jvm.Stand Jvm.Free Jvm.LawKit
section New
variable {p : Program} {l : Launch} {e : Env} {R : Room} {s : State} {m : MethodId} {args : Array Value} {below : List Frame} {meth : Method} {c : Code} {T : State} {locs : List Loc} {cells slots : Nat}
theorem retI (X : Stand p l e R s m args below meth c T locs cells slots) (hx : p.tables.exec = Jvm.exec) {pc : Nat} {Ls : Array Slot} {z : Int32} {rest : List Value} (hret : meth.sig.returnType = some .int) (hd : decode c.code pc = .ok (.ireturn, 1)) {fs : List Frame}
    (hl : ∀ (f : JFrame) (acts : List Action), f.method = m → f.locked = none → f.entered = [] → (doReturn e (T.setTop f) acts (some (.int z))).1 = T.setFrames fs) : Steps p.tables e below (T.setTop (mkF m pc Ls (.int z :: rest))) (T.setFrames fs) := by
  have hm' : T.vm.method? m = some meth := X.method'
  have hn : narrow .int (.int z) = .int z := rfl
  show Steps p.tables e below (T.setTop { method := m, pc := pc, locals := Ls, stack := _ :: rest, locked := none }) _
  jvm_step X.here [X.here.top, hx, hd, hm', hret, hn]
  first | (intro acts; rw [hl _ acts rfl rfl rfl]) | rw [hl _ _ rfl rfl rfl]
  exact Steps.refl _
theorem retL (X : Stand p l e R s m args below meth c T locs cells slots) (hx : p.tables.exec = Jvm.exec) {pc : Nat} {Ls : Array Slot} {z : Int64} {rest : List Value} (hret : meth.sig.returnType = some .long) (hd : decode c.code pc = .ok (.lreturn, 1)) {fs : List Frame}
    (hl : ∀ (f : JFrame) (acts : List Action), f.method = m → f.locked = none → f.entered = [] → (doReturn e (T.setTop f) acts (some (.long z))).1 = T.setFrames fs) : Steps p.tables e below (T.setTop (mkF m pc Ls (.long z :: rest))) (T.setFrames fs) := by
  have hm' : T.vm.method? m = some meth := X.method'
  have hn : narrow .long (.long z) = .long z := rfl
  show Steps p.tables e below (T.setTop { method := m, pc := pc, locals := Ls, stack := _ :: rest, locked := none }) _
  jvm_step X.here [X.here.top, hx, hd, hm', hret, hn]
  first | (intro acts; rw [hl _ acts rfl rfl rfl]) | rw [hl _ _ rfl rfl rfl]
  exact Steps.refl _
end New
end Jvm.RoadKit
namespace Jvm.Pilot.@@N@@
open Jvm Jvm.ClassFile Sem Op Lib Jvm.Free Jvm.Stand Jvm.LawKit Jvm.RoadKit Bundle Jvm.Pilot.@@N@@.Jvm.D
/-- from here the run comes to an end of which W holds -/
def own_Go (p : Program) (e : Env) (below : List Frame) (W : State → Outcome → Prop) (T : State) (g : JFrame) : Prop :=
  ∃ s₂ o, Steps p.tables e below (T.setTop g) s₂ ∧ s₂.status = .running ∧ Ended s₂ below o ∧ W s₂ o
theorem own_Go.of {p : Program} {e : Env} {below : List Frame} {W : State → Outcome → Prop} {T T' : State} {g g' : JFrame} (f : ∀ t, Steps p.tables e below (T'.setTop g') t → Steps p.tables e below (T.setTop g) t) (k : own_Go p e below W T' g') : own_Go p e below W T g := by
  obtain ⟨s₂, o, h1, h2⟩ := k
  exact ⟨s₂, o, f _ h1, h2⟩
theorem own_via {G A : Prop} (h1 : A → G) (h2 : A) : G := h1 h2
section OwnSteps
variable {p : Program} {l : Launch} {e : Env} {R : Room} {s : State} {m : MethodId} {args : Array Value} {below : List Frame} {meth : Method} {c : Code} {T : State} {locs : List Loc} {cells slots : Nat} {W : State → Outcome → Prop} {pc pc' : Nat} {L : Array Slot} {S : List Value}
theorem og_iloadN (X : Stand p l e R s m args below meth c T locs cells slots) (hx : p.tables.exec = Jvm.exec) {k : Fin 4} {v : Int32} (hd : decode c.code pc = .ok (.iload_n k, 1)) (hl : L[k.val]? = some (.val (.int v))) (hp : pc + 1 = pc') (h : own_Go p e below W T (mkF m pc' L ((.int v) :: S))) : own_Go p e below W T (mkF m pc L S) := by
  subst hp; exact own_Go.of (fun t q => XS.iloadN X.here hx rfl hd hl q) h
theorem og_iload (X : Stand p l e R s m args below meth c T locs cells slots) (hx : p.tables.exec = Jvm.exec) {k : Nat} {v : Int32} (hd : decode c.code pc = .ok (.iload k, 2)) (hl : L[k]? = some (.val (.int v))) (hp : pc + 2 = pc') (h : own_Go p e below W T (mkF m pc' L ((.int v) :: S))) : own_Go p e below W T (mkF m pc L S) := by
  subst hp; exact own_Go.of (fun t q => XS.iload X.here hx rfl hd hl q) h
theorem og_istoreN (X : Stand p l e R s m args below meth c T locs cells slots) (hx : p.tables.exec = Jvm.exec) {k : Fin 4} {v : Int32} {L' : Array Slot} (hd : decode c.code pc = .ok (.istore_n k, 1)) (hl : storeLocals L k.val (.int v) = some L') (hp : pc + 1 = pc') (h : own_Go p e below W T (mkF m pc' L' S)) : own_Go p e below W T (mkF m pc L ((.int v) :: S)) := by
  subst hp; exact own_Go.of (fun t q => XS.istoreN X.here hx rfl hd rfl hl q) h
theorem og_istore (X : Stand p l e R s m args below meth c T locs cells slots) (hx : p.tables.exec = Jvm.exec) {k : Nat} {v : Int32} {L' : Array Slot} (hd : decode c.code pc = .ok (.istore k, 2)) (hl : storeLocals L k (.int v) = some L') (hp : pc + 2 = pc') (h : own_Go p e below W T (mkF m pc' L' S)) : own_Go p e below W T (mkF m pc L ((.int v) :: S)) := by
  subst hp; exact own_Go.of (fun t q => XS.istore X.here hx rfl hd rfl hl q) h
theorem og_lloadN (X : Stand p l e R s m args below meth c T locs cells slots) (hx : p.tables.exec = Jvm.exec) {k : Fin 4} {v : Int64} (hd : decode c.code pc = .ok (.lload_n k, 1)) (hl : L[k.val]? = some (.val (.long v))) (hp : pc + 1 = pc') (h : own_Go p e below W T (mkF m pc' L ((.long v) :: S))) : own_Go p e below W T (mkF m pc L S) := by
  subst hp; exact own_Go.of (fun t q => XS.lloadN X.here hx rfl hd hl q) h
theorem og_lload (X : Stand p l e R s m args below meth c T locs cells slots) (hx : p.tables.exec = Jvm.exec) {k : Nat} {v : Int64} (hd : decode c.code pc = .ok (.lload k, 2)) (hl : L[k]? = some (.val (.long v))) (hp : pc + 2 = pc') (h : own_Go p e below W T (mkF m pc' L ((.long v) :: S))) : own_Go p e below W T (mkF m pc L S) := by
  subst hp; exact own_Go.of (fun t q => XS.lload X.here hx rfl hd hl q) h
theorem og_lstoreN (X : Stand p l e R s m args below meth c T locs cells slots) (hx : p.tables.exec = Jvm.exec) {k : Fin 4} {v : Int64} {L' : Array Slot} (hd : decode c.code pc = .ok (.lstore_n k, 1)) (hl : storeLocals L k.val (.long v) = some L') (hp : pc + 1 = pc') (h : own_Go p e below W T (mkF m pc' L' S)) : own_Go p e below W T (mkF m pc L ((.long v) :: S)) := by
  subst hp; exact own_Go.of (fun t q => XS.lstoreN X.here hx rfl hd rfl hl q) h
theorem og_lstore (X : Stand p l e R s m args below meth c T locs cells slots) (hx : p.tables.exec = Jvm.exec) {k : Nat} {v : Int64} {L' : Array Slot} (hd : decode c.code pc = .ok (.lstore k, 2)) (hl : storeLocals L k (.long v) = some L') (hp : pc + 2 = pc') (h : own_Go p e below W T (mkF m pc' L' S)) : own_Go p e below W T (mkF m pc L ((.long v) :: S)) := by
  subst hp; exact own_Go.of (fun t q => XS.lstore X.here hx rfl hd rfl hl q) h
theorem og_aloadN (X : Stand p l e R s m args below meth c T locs cells slots) (hx : p.tables.exec = Jvm.exec) {k : Fin 4} {v : Value} (hd : decode c.code pc = .ok (.aload_n k, 1)) (hl : L[k.val]? = some (.val v)) (hv : v.isRef = true) (hp : pc + 1 = pc') (h : own_Go p e below W T (mkF m pc' L (v :: S))) : own_Go p e below W T (mkF m pc L S) := by
  subst hp; exact own_Go.of (fun t q => XS.aloadN X.here hx rfl hd hl hv q) h
theorem og_aload (X : Stand p l e R s m args below meth c T locs cells slots) (hx : p.tables.exec = Jvm.exec) {k : Nat} {v : Value} (hd : decode c.code pc = .ok (.aload k, 2)) (hl : L[k]? = some (.val v)) (hv : v.isRef = true) (hp : pc + 2 = pc') (h : own_Go p e below W T (mkF m pc' L (v :: S))) : own_Go p e below W T (mkF m pc L S) := by
  subst hp; exact own_Go.of (fun t q => XS.aload X.here hx rfl hd hl hv q) h
theorem og_astoreN (X : Stand p l e R s m args below meth c T locs cells slots) (hx : p.tables.exec = Jvm.exec) {k : Fin 4} {v : Value} {L' : Array Slot} (hd : decode c.code pc = .ok (.astore_n k, 1)) (hv : v.isRef = true) (hl : storeLocals L k.val v = some L') (hp : pc + 1 = pc') (h : own_Go p e below W T (mkF m pc' L' S)) : own_Go p e below W T (mkF m pc L (v :: S)) := by
  subst hp; exact own_Go.of (fun t q => XS.astoreN X.here hx rfl hd rfl hv hl q) h
theorem og_astore (X : Stand p l e R s m args below meth c T locs cells slots) (hx : p.tables.exec = Jvm.exec) {k : Nat} {v : Value} {L' : Array Slot} (hd : decode c.code pc = .ok (.astore k, 2)) (hv : v.isRef = true) (hl : storeLocals L k v = some L') (hp : pc + 2 = pc') (h : own_Go p e below W T (mkF m pc' L' S)) : own_Go p e below W T (mkF m pc L (v :: S)) := by
  subst hp; exact own_Go.of (fun t q => XS.astore X.here hx rfl hd rfl hv hl q) h
theorem og_iconst (X : Stand p l e R s m args below meth c T locs cells slots) (hx : p.tables.exec = Jvm.exec) {i : Int} {n : Int32} (hd : decode c.code pc = .ok (.iconst i, 1)) (hn : Int32.ofInt i = n) (hp : pc + 1 = pc') (h : own_Go p e below W T (mkF m pc' L (.int n :: S))) : own_Go p e below W T (mkF m pc L S) := by
  subst hp hn; exact own_Go.of (fun t q => XS.iconst X.here hx rfl hd q) h
theorem og_bipush (X : Stand p l e R s m args below meth c T locs cells slots) (hx : p.tables.exec = Jvm.exec) {i : Int} {n : Int32} (hd : decode c.code pc = .ok (.bipush i, 2)) (hn : (Int8.ofInt i).toInt32 = n) (hp : pc + 2 = pc') (h : own_Go p e below W T (mkF m pc' L (.int n :: S))) : own_Go p e below W T (mkF m pc L S) := by
  subst hp hn; exact own_Go.of (fun t q => XS.bipush X.here hx rfl hd q) h
theorem og_sipush (X : Stand p l e R s m args below meth c T locs cells slots) (hx : p.tables.exec = Jvm.exec) {i : Int} {n : Int32} (hd : decode c.code pc = .ok (.sipush i, 3)) (hn : (Int16.ofInt i).toInt32 = n) (hp : pc + 3 = pc') (h : own_Go p e below W T (mkF m pc' L (.int n :: S))) : own_Go p e below W T (mkF m pc L S) := by
  subst hp hn; exact own_Go.of (fun t q => XS.sipush X.here hx rfl hd q) h
theorem og_lconst0 (X : Stand p l e R s m args below meth c T locs cells slots) (hx : p.tables.exec = Jvm.exec) (hd : decode c.code pc = .ok (.lconst 0, 1)) (hp : pc + 1 = pc') (h : own_Go p e below W T (mkF m pc' L (.long (0 : Int64) :: S))) : own_Go p e below W T (mkF m pc L S) := by
  subst hp; exact own_Go.of (fun t q => XS.lconst X.here hx rfl hd q) h
theorem og_lconst1 (X : Stand p l e R s m args below meth c T locs cells slots) (hx : p.tables.exec = Jvm.exec) (hd : decode c.code pc = .ok (.lconst 1, 1)) (hp : pc + 1 = pc') (h : own_Go p e below W T (mkF m pc' L (.long (1 : Int64) :: S))) : own_Go p e below W T (mkF m pc L S) := by
  subst hp; exact own_Go.of (fun t q => XS.lconst X.here hx rfl hd q) h
theorem og_aconst_null (X : Stand p l e R s m args below meth c T locs cells slots) (hx : p.tables.exec = Jvm.exec)  (hd : decode c.code pc = .ok (.aconst_null, 1)) (hp : pc + 1 = pc') (h : own_Go p e below W T (mkF m pc' L (.null :: S))) : own_Go p e below W T (mkF m pc L S) := by
  subst hp; exact own_Go.of (fun t q => XS.aconstNull X.here hx rfl hd q) h
theorem og_iadd (X : Stand p l e R s m args below meth c T locs cells slots) (hx : p.tables.exec = Jvm.exec) {x y : Int32} (hd : decode c.code pc = .ok (.iadd, 1)) (hp : pc + 1 = pc') (h : own_Go p e below W T (mkF m pc' L (.int (x + y) :: S))) : own_Go p e below W T (mkF m pc L (.int y :: .int x :: S)) := by
  subst hp; exact own_Go.of (fun t q => XS.iadd X.here hx rfl hd rfl q) h
theorem og_ladd (X : Stand p l e R s m args below meth c T locs cells slots) (hx : p.tables.exec = Jvm.exec) {x y : Int64} (hd : decode c.code pc = .ok (.ladd, 1)) (hp : pc + 1 = pc') (h : own_Go p e below W T (mkF m pc' L (.long (x + y) :: S))) : own_Go p e below W T (mkF m pc L (.long y :: .long x :: S)) := by
  subst hp; exact own_Go.of (fun t q => XS.ladd X.here hx rfl hd rfl q) h
theorem og_isub (X : Stand p l e R s m args below meth c T locs cells slots) (hx : p.tables.exec = Jvm.exec) {x y : Int32} (hd : decode c.code pc = .ok (.isub, 1)) (hp : pc + 1 = pc') (h : own_Go p e below W T (mkF m pc' L (.int (x - y) :: S))) : own_Go p e below W T (mkF m pc L (.int y :: .int x :: S)) := by
  subst hp; exact own_Go.of (fun t q => XS.isub X.here hx rfl hd rfl q) h
theorem og_lsub (X : Stand p l e R s m args below meth c T locs cells slots) (hx : p.tables.exec = Jvm.exec) {x y : Int64} (hd : decode c.code pc = .ok (.lsub, 1)) (hp : pc + 1 = pc') (h : own_Go p e below W T (mkF m pc' L (.long (x - y) :: S))) : own_Go p e below W T (mkF m pc L (.long y :: .long x :: S)) := by
  subst hp; exact own_Go.of (fun t q => XS.lsub X.here hx rfl hd rfl q) h
theorem og_imul (X : Stand p l e R s m args below meth c T locs cells slots) (hx : p.tables.exec = Jvm.exec) {x y : Int32} (hd : decode c.code pc = .ok (.imul, 1)) (hp : pc + 1 = pc') (h : own_Go p e below W T (mkF m pc' L (.int (x * y) :: S))) : own_Go p e below W T (mkF m pc L (.int y :: .int x :: S)) := by
  subst hp; exact own_Go.of (fun t q => XS.imul X.here hx rfl hd rfl q) h
theorem og_lmul (X : Stand p l e R s m args below meth c T locs cells slots) (hx : p.tables.exec = Jvm.exec) {x y : Int64} (hd : decode c.code pc = .ok (.lmul, 1)) (hp : pc + 1 = pc') (h : own_Go p e below W T (mkF m pc' L (.long (x * y) :: S))) : own_Go p e below W T (mkF m pc L (.long y :: .long x :: S)) := by
  subst hp; exact own_Go.of (fun t q => XS.lmul X.here hx rfl hd rfl q) h
theorem og_iand (X : Stand p l e R s m args below meth c T locs cells slots) (hx : p.tables.exec = Jvm.exec) {x y : Int32} (hd : decode c.code pc = .ok (.iand, 1)) (hp : pc + 1 = pc') (h : own_Go p e below W T (mkF m pc' L (.int (x &&& y) :: S))) : own_Go p e below W T (mkF m pc L (.int y :: .int x :: S)) := by
  subst hp; exact own_Go.of (fun t q => XS.iand X.here hx rfl hd rfl q) h
theorem og_land (X : Stand p l e R s m args below meth c T locs cells slots) (hx : p.tables.exec = Jvm.exec) {x y : Int64} (hd : decode c.code pc = .ok (.land, 1)) (hp : pc + 1 = pc') (h : own_Go p e below W T (mkF m pc' L (.long (x &&& y) :: S))) : own_Go p e below W T (mkF m pc L (.long y :: .long x :: S)) := by
  subst hp; exact own_Go.of (fun t q => XS.land X.here hx rfl hd rfl q) h
theorem og_ior (X : Stand p l e R s m args below meth c T locs cells slots) (hx : p.tables.exec = Jvm.exec) {x y : Int32} (hd : decode c.code pc = .ok (.ior, 1)) (hp : pc + 1 = pc') (h : own_Go p e below W T (mkF m pc' L (.int (x ||| y) :: S))) : own_Go p e below W T (mkF m pc L (.int y :: .int x :: S)) := by
  subst hp; exact own_Go.of (fun t q => XS.ior X.here hx rfl hd rfl q) h
theorem og_lor (X : Stand p l e R s m args below meth c T locs cells slots) (hx : p.tables.exec = Jvm.exec) {x y : Int64} (hd : decode c.code pc = .ok (.lor, 1)) (hp : pc + 1 = pc') (h : own_Go p e below W T (mkF m pc' L (.long (x ||| y) :: S))) : own_Go p e below W T (mkF m pc L (.long y :: .long x :: S)) := by
  subst hp; exact own_Go.of (fun t q => XS.lor X.here hx rfl hd rfl q) h
theorem og_ixor (X : Stand p l e R s m args below meth c T locs cells slots) (hx : p.tables.exec = Jvm.exec) {x y : Int32} (hd : decode c.code pc = .ok (.ixor, 1)) (hp : pc + 1 = pc') (h : own_Go p e below W T (mkF m pc' L (.int (x ^^^ y) :: S))) : own_Go p e below W T (mkF m pc L (.int y :: .int x :: S)) := by
  subst hp; exact own_Go.of (fun t q => XS.ixor X.here hx rfl hd rfl q) h
theorem og_lxor (X : Stand p l e R s m args below meth c T locs cells slots) (hx : p.tables.exec = Jvm.exec) {x y : Int64} (hd : decode c.code pc = .ok (.lxor, 1)) (hp : pc + 1 = pc') (h : own_Go p e below W T (mkF m pc' L (.long (x ^^^ y) :: S))) : own_Go p e below W T (mkF m pc L (.long y :: .long x :: S)) := by
  subst hp; exact own_Go.of (fun t q => XS.lxor X.here hx rfl hd rfl q) h
theorem og_ineg (X : Stand p l e R s m args below meth c T locs cells slots) (hx : p.tables.exec = Jvm.exec) {x : Int32} (hd : decode c.code pc = .ok (.ineg, 1)) (hp : pc + 1 = pc') (h : own_Go p e below W T (mkF m pc' L (.int (-x) :: S))) : own_Go p e below W T (mkF m pc L (.int x :: S)) := by
  subst hp; exact own_Go.of (fun t q => XS.ineg X.here hx rfl hd rfl q) h
theorem og_lneg (X : Stand p l e R s m args below meth c T locs cells slots) (hx : p.tables.exec = Jvm.exec) {x : Int64} (hd : decode c.code pc = .ok (.lneg, 1)) (hp : pc + 1 = pc') (h : own_Go p e below W T (mkF m pc' L (.long (-x) :: S))) : own_Go p e below W T (mkF m pc L (.long x :: S)) := by
  subst hp; exact own_Go.of (fun t q => XS.lneg X.here hx rfl hd rfl q) h
theorem og_i2l (X : Stand p l e R s m args below meth c T locs cells slots) (hx : p.tables.exec = Jvm.exec) {x : Int32} (hd : decode c.code pc = .ok (.i2l, 1)) (hp : pc + 1 = pc') (h : own_Go p e below W T (mkF m pc' L (.long (x.toInt64) :: S))) : own_Go p e below W T (mkF m pc L (.int x :: S)) := by
  subst hp; exact own_Go.of (fun t q => XS.i2l X.here hx rfl hd rfl q) h
theorem og_l2i (X : Stand p l e R s m args below meth c T locs cells slots) (hx : p.tables.exec = Jvm.exec) {x : Int64} (hd : decode c.code pc = .ok (.l2i, 1)) (hp : pc + 1 = pc') (h : own_Go p e below W T (mkF m pc' L (.int (x.toInt32) :: S))) : own_Go p e below W T (mkF m pc L (.long x :: S)) := by
  subst hp; exact own_Go.of (fun t q => XS.l2i X.here hx rfl hd rfl q) h
theorem og_i2b (X : Stand p l e R s m args below meth c T locs cells slots) (hx : p.tables.exec = Jvm.exec) {x : Int32} (hd : decode c.code pc = .ok (.i2b, 1)) (hp : pc + 1 = pc') (h : own_Go p e below W T (mkF m pc' L (.int (x.toInt8.toInt32) :: S))) : own_Go p e below W T (mkF m pc L (.int x :: S)) := by
  subst hp; exact own_Go.of (fun t q => XS.i2b X.here hx rfl hd rfl q) h
theorem og_i2s (X : Stand p l e R s m args below meth c T locs cells slots) (hx : p.tables.exec = Jvm.exec) {x : Int32} (hd : decode c.code pc = .ok (.i2s, 1)) (hp : pc + 1 = pc') (h : own_Go p e below W T (mkF m pc' L (.int (x.toInt16.toInt32) :: S))) : own_Go p e below W T (mkF m pc L (.int x :: S)) := by
  subst hp; exact own_Go.of (fun t q => XS.i2s X.here hx rfl hd rfl q) h
theorem og_i2c (X : Stand p l e R s m args below meth c T locs cells slots) (hx : p.tables.exec = Jvm.exec) {x : Int32} (hd : decode c.code pc = .ok (.i2c, 1)) (hp : pc + 1 = pc') (h : own_Go p e below W T (mkF m pc' L (.int (x.toUInt32.toUInt16.toUInt32.toInt32) :: S))) : own_Go p e below W T (mkF m pc L (.int x :: S)) := by
  subst hp; exact own_Go.of (fun t q => XS.i2c X.here hx rfl hd rfl q) h
theorem og_ishl (X : Stand p l e R s m args below meth c T locs cells slots) (hx : p.tables.exec = Jvm.exec) {x : Int32} {y : Int32} (hd : decode c.code pc = .ok (.ishl, 1)) (hp : pc + 1 = pc') (h : own_Go p e below W T (mkF m pc' L (.int (x <<< (y &&& 31)) :: S))) : own_Go p e below W T (mkF m pc L (.int y :: .int x :: S)) := by
  subst hp; exact own_Go.of (fun t q => XS.ishl X.here hx rfl hd rfl q) h
theorem og_ishr (X : Stand p l e R s m args below meth c T locs cells slots) (hx : p.tables.exec = Jvm.exec) {x : Int32} {y : Int32} (hd : decode c.code pc = .ok (.ishr, 1)) (hp : pc + 1 = pc') (h : own_Go p e below W T (mkF m pc' L (.int (x >>> (y &&& 31)) :: S))) : own_Go p e below W T (mkF m pc L (.int y :: .int x :: S)) := by
  subst hp; exact own_Go.of (fun t q => XS.ishr X.here hx rfl hd rfl q) h
theorem og_iushr (X : Stand p l e R s m args below meth c T locs cells slots) (hx : p.tables.exec = Jvm.exec) {x : Int32} {y : Int32} (hd : decode c.code pc = .ok (.iushr, 1)) (hp : pc + 1 = pc') (h : own_Go p e below W T (mkF m pc' L (.int ((x.toUInt32 >>> (y &&& 31).toUInt32).toInt32) :: S))) : own_Go p e below W T (mkF m pc L (.int y :: .int x :: S)) := by
  subst hp; exact own_Go.of (fun t q => XS.iushr X.here hx rfl hd rfl q) h
theorem og_lshl (X : Stand p l e R s m args below meth c T locs cells slots) (hx : p.tables.exec = Jvm.exec) {x : Int64} {y : Int32} (hd : decode c.code pc = .ok (.lshl, 1)) (hp : pc + 1 = pc') (h : own_Go p e below W T (mkF m pc' L (.long (x <<< (y &&& 0x3f).toInt64) :: S))) : own_Go p e below W T (mkF m pc L (.int y :: .long x :: S)) := by
  subst hp; exact own_Go.of (fun t q => XS.lshl X.here hx rfl hd rfl q) h
theorem og_lshr (X : Stand p l e R s m args below meth c T locs cells slots) (hx : p.tables.exec = Jvm.exec) {x : Int64} {y : Int32} (hd : decode c.code pc = .ok (.lshr, 1)) (hp : pc + 1 = pc') (h : own_Go p e below W T (mkF m pc' L (.long (x >>> (y &&& 0x3f).toInt64) :: S))) : own_Go p e below W T (mkF m pc L (.int y :: .long x :: S)) := by
  subst hp; exact own_Go.of (fun t q => XS.lshr X.here hx rfl hd rfl q) h
theorem og_lushr (X : Stand p l e R s m args below meth c T locs cells slots) (hx : p.tables.exec = Jvm.exec) {x : Int64} {y : Int32} (hd : decode c.code pc = .ok (.lushr, 1)) (hp : pc + 1 = pc') (h : own_Go p e below W T (mkF m pc' L (.long ((x.toUInt64 >>> (y &&& 0x3f).toInt64.toUInt64).toInt64) :: S))) : own_Go p e below W T (mkF m pc L (.int y :: .long x :: S)) := by
  subst hp; exact own_Go.of (fun t q => XS.lushr X.here hx rfl hd rfl q) h
theorem og_lcmp (X : Stand p l e R s m args below meth c T locs cells slots) (hx : p.tables.exec = Jvm.exec) {x y : Int64} (hd : decode c.code pc = .ok (.lcmp, 1)) (hp : pc + 1 = pc') (h : own_Go p e below W T (mkF m pc' L (.int (lcmpW x y) :: S))) : own_Go p e below W T (mkF m pc L (.long y :: .long x :: S)) := by
  subst hp; exact own_Go.of (fun t q => XS.lcmp X.here hx rfl hd rfl q) h
theorem og_idiv (X : Stand p l e R s m args below meth c T locs cells slots) (hx : p.tables.exec = Jvm.exec) {x y : Int32} (hd : decode c.code pc = .ok (.idiv, 1)) (hy : y ≠ 0) (hp : pc + 1 = pc') (h : own_Go p e below W T (mkF m pc' L (.int (x / y) :: S))) : own_Go p e below W T (mkF m pc L (.int y :: .int x :: S)) := by
  subst hp; exact own_Go.of (fun t q => XS.idiv X.here hx rfl hd rfl hy q) h
theorem og_ldiv (X : Stand p l e R s m args below meth c T locs cells slots) (hx : p.tables.exec = Jvm.exec) {x y : Int64} (hd : decode c.code pc = .ok (.ldiv, 1)) (hy : y ≠ 0) (hp : pc + 1 = pc') (h : own_Go p e below W T (mkF m pc' L (.long (x / y) :: S))) : own_Go p e below W T (mkF m pc L (.long y :: .long x :: S)) := by
  subst hp; exact own_Go.of (fun t q => XS.ldiv X.here hx rfl hd rfl hy q) h
theorem og_irem (X : Stand p l e R s m args below meth c T locs cells slots) (hx : p.tables.exec = Jvm.exec) {x y : Int32} (hd : decode c.code pc = .ok (.irem, 1)) (hy : y ≠ 0) (hp : pc + 1 = pc') (h : own_Go p e below W T (mkF m pc' L (.int (x % y) :: S))) : own_Go p e below W T (mkF m pc L (.int y :: .int x :: S)) := by
  subst hp; exact own_Go.of (fun t q => iremM X hx rfl hd rfl hy q) h
theorem og_lrem (X : Stand p l e R s m args below meth c T locs cells slots) (hx : p.tables.exec = Jvm.exec) {x y : Int64} (hd : decode c.code pc = .ok (.lrem, 1)) (hy : y ≠ 0) (hp : pc + 1 = pc') (h : own_Go p e below W T (mkF m pc' L (.long (x - (x / y) * y) :: S))) : own_Go p e below W T (mkF m pc L (.long y :: .long x :: S)) := by
  subst hp; exact own_Go.of (fun t q => XS.lrem X.here hx rfl hd rfl hy q) h
theorem og_iinc (X : Stand p l e R s m args below meth c T locs cells slots) (hx : p.tables.exec = Jvm.exec) {k : Nat} {z : Int} {v : Int32} {L' : Array Slot} (hd : decode c.code pc = .ok (.iinc k z, 3)) (hl : L[k]? = some (.val (.int v))) (hs : storeLocals L k (.int (v + Int32.ofInt z)) = some L') (hp : pc + 3 = pc') (h : own_Go p e below W T (mkF m pc' L' S)) : own_Go p e below W T (mkF m pc L S) := by
  subst hp; exact own_Go.of (fun t q => XS.iinc X.here hx rfl hd hl hs q) h
theorem og_dup (X : Stand p l e R s m args below meth c T locs cells slots) (hx : p.tables.exec = Jvm.exec) {v : Value} (hd : decode c.code pc = .ok (.dup, 1)) (hc : v.category = 1) (hp : pc + 1 = pc') (h : own_Go p e below W T (mkF m pc' L (v :: v :: S))) : own_Go p e below W T (mkF m pc L (v :: S)) := by
  subst hp; exact own_Go.of (fun t q => XS.dup X.here hx rfl hd rfl hc q) h
theorem og_pop (X : Stand p l e R s m args below meth c T locs cells slots) (hx : p.tables.exec = Jvm.exec) {v : Value} (hd : decode c.code pc = .ok (.pop, 1)) (hc : v.category = 1) (hp : pc + 1 = pc') (h : own_Go p e below W T (mkF m pc' L S)) : own_Go p e below W T (mkF m pc L (v :: S)) := by
  subst hp; exact own_Go.of (fun t q => XS.pop X.here hx rfl hd rfl hc q) h
theorem og_dup_x1 (X : Stand p l e R s m args below meth c T locs cells slots) (hx : p.tables.exec = Jvm.exec) {v w : Value} (hd : decode c.code pc = .ok (.dup_x1, 1)) (hc : v.category = 1) (hc' : w.category = 1) (hp : pc + 1 = pc') (h : own_Go p e below W T (mkF m pc' L (v :: w :: v :: S))) : own_Go p e below W T (mkF m pc L (v :: w :: S)) := by
  subst hp; exact own_Go.of (fun t q => XS.dupX1 X.here hx rfl hd rfl hc hc' q) h
theorem og_goto (X : Stand p l e R s m args below meth c T locs cells slots) (hx : p.tables.exec = Jvm.exec) {o : Int} (hd : decode c.code pc = .ok (.goto o, 3)) (ho : 0 ≤ (pc : Int) + o) (hp : ((pc : Int) + o).toNat = pc') (h : own_Go p e below W T (mkF m pc' L S)) : own_Go p e below W T (mkF m pc L S) := by
  exact own_Go.of (fun t q => XS.goto X.here hx rfl rfl hd ho hp q) h
theorem og_ifYes (X : Stand p l e R s m args below meth c T locs cells slots) (hx : p.tables.exec = Jvm.exec) {cd : ClassFile.Cond} {x : Int32} {o : Int} (hd : decode c.code pc = .ok (.ifCond cd o, 3)) (hc : ifCond.holds cd x = true) (ho : 0 ≤ (pc : Int) + o) (hp : ((pc : Int) + o).toNat = pc') (h : own_Go p e below W T (mkF m pc' L S)) : own_Go p e below W T (mkF m pc L (.int x :: S)) := by
  exact own_Go.of (fun t q => XS.ifYes X.here hx rfl rfl hd rfl hc ho hp q) h
theorem og_ifNo (X : Stand p l e R s m args below meth c T locs cells slots) (hx : p.tables.exec = Jvm.exec) {cd : ClassFile.Cond} {x : Int32} {o : Int} (hd : decode c.code pc = .ok (.ifCond cd o, 3)) (hc : ifCond.holds cd x = false) (hp : pc + 3 = pc') (h : own_Go p e below W T (mkF m pc' L S)) : own_Go p e below W T (mkF m pc L (.int x :: S)) := by
  subst hp; exact own_Go.of (fun t q => XS.ifNo X.here hx rfl hd rfl hc q) h
theorem og_icmpYes (X : Stand p l e R s m args below meth c T locs cells slots) (hx : p.tables.exec = Jvm.exec) {cd : ClassFile.Cond} {x y : Int32} {o : Int} (hd : decode c.code pc = .ok (.if_icmp cd o, 3)) (hc : if_icmp.holds cd x y = true) (ho : 0 ≤ (pc : Int) + o) (hp : ((pc : Int) + o).toNat = pc') (h : own_Go p e below W T (mkF m pc' L S)) : own_Go p e below W T (mkF m pc L (.int y :: .int x :: S)) := by
  exact own_Go.of (fun t q => XS.icmpYes X.here hx rfl rfl hd rfl hc ho hp q) h
theorem og_icmpNo (X : Stand p l e R s m args below meth c T locs cells slots) (hx : p.tables.exec = Jvm.exec) {cd : ClassFile.Cond} {x y : Int32} {o : Int} (hd : decode c.code pc = .ok (.if_icmp cd o, 3)) (hc : if_icmp.holds cd x y = false) (hp : pc + 3 = pc') (h : own_Go p e below W T (mkF m pc' L S)) : own_Go p e below W T (mkF m pc L (.int y :: .int x :: S)) := by
  subst hp; exact own_Go.of (fun t q => XS.icmpNo X.here hx rfl hd rfl hc q) h
theorem og_ifnullYes (X : Stand p l e R s m args below meth c T locs cells slots) (hx : p.tables.exec = Jvm.exec) {o : Int} (hd : decode c.code pc = .ok (.ifnull o, 3)) (ho : 0 ≤ (pc : Int) + o) (hp : ((pc : Int) + o).toNat = pc') (h : own_Go p e below W T (mkF m pc' L S)) : own_Go p e below W T (mkF m pc L (.null :: S)) := by
  exact own_Go.of (fun t q => XS.ifnullYes X.here hx rfl rfl hd rfl ho hp q) h
theorem og_ifnullNo (X : Stand p l e R s m args below meth c T locs cells slots) (hx : p.tables.exec = Jvm.exec) {b : Addr} {o : Int} (hd : decode c.code pc = .ok (.ifnull o, 3)) (hp : pc + 3 = pc') (h : own_Go p e below W T (mkF m pc' L S)) : own_Go p e below W T (mkF m pc L (.ref b :: S)) := by
  subst hp; exact own_Go.of (fun t q => XS.ifnullNo X.here hx rfl hd rfl q) h
theorem og_ifnonnullYes (X : Stand p l e R s m args below meth c T locs cells slots) (hx : p.tables.exec = Jvm.exec) {b : Addr} {o : Int} (hd : decode c.code pc = .ok (.ifnonnull o, 3)) (ho : 0 ≤ (pc : Int) + o) (hp : ((pc : Int) + o).toNat = pc') (h : own_Go p e below W T (mkF m pc' L S)) : own_Go p e below W T (mkF m pc L (.ref b :: S)) := by
  exact own_Go.of (fun t q => XS.ifnonnullYes X.here hx rfl rfl hd rfl ho hp q) h
theorem og_ifnonnullNo (X : Stand p l e R s m args below meth c T locs cells slots) (hx : p.tables.exec = Jvm.exec) {o : Int} (hd : decode c.code pc = .ok (.ifnonnull o, 3)) (hp : pc + 3 = pc') (h : own_Go p e below W T (mkF m pc' L S)) : own_Go p e below W T (mkF m pc L (.null :: S)) := by
  subst hp; exact own_Go.of (fun t q => XS.ifnonnullNo X.here hx rfl hd rfl q) h
theorem og_ldc (X : Stand p l e R s m args below meth c T locs cells slots) (hx : p.tables.exec = Jvm.exec) {own : String} {index : Nat} {v : Int32} (hd : decode c.code pc = .ok (.ldc index, 2)) (hown : s.vm.findClass own = some m.cls) (w : (Jvm.Cond.constant own index v).before args s = true) (hp : pc + 2 = pc') (h : own_Go p e below W T (mkF m pc' L (.int v :: S))) : own_Go p e below W T (mkF m pc L S) := by
  subst hp; exact own_Go.of (fun t q => X.ldcInt hx hown w (g := mkF m pc L S) rfl hd _ q) h
theorem og_ldc2_w (X : Stand p l e R s m args below meth c T locs cells slots) (hx : p.tables.exec = Jvm.exec) {own : String} {index : Nat} {v : Int64} (hd : decode c.code pc = .ok (.ldc2_w index, 3)) (hown : s.vm.findClass own = some m.cls) (w : (Jvm.Cond.constantLong own index v).before args s = true) (hp : pc + 3 = pc') (h : own_Go p e below W T (mkF m pc' L (.long v :: S))) : own_Go p e below W T (mkF m pc L S) := by
  subst hp; exact own_Go.of (fun t q => X.ldc2Long hx hown w (g := mkF m pc L S) rfl hd _ q) h
end OwnSteps
def own_cmp (x0 : Int64) (x1 : Int64) : Int32 := (if x0 < x1 then (-1 : Int32) else (if x0 = x1 then (0 : Int32) else (1 : Int32)))
theorem d5_0 : decode jdk_35_method_42_code 0 = .ok (.lload_n 0, 1) := by decide +kernel
theorem d5_1 : decode jdk_35_method_42_code 1 = .ok (.lload_n 2, 1) := by decide +kernel
theorem d5_2 : decode jdk_35_method_42_code 2 = .ok (.lcmp, 1) := by decide +kernel
theorem d5_3 : decode jdk_35_method_42_code 3 = .ok (.ifCond .ge 7, 3) := by decide +kernel
theorem d5_6 : decode jdk_35_method_42_code 6 = .ok (.iconst (-1), 1) := by decide +kernel
theorem d5_7 : decode jdk_35_method_42_code 7 = .ok (.goto 14, 3) := by decide +kernel
theorem d5_10 : decode jdk_35_method_42_code 10 = .ok (.lload_n 0, 1) := by decide +kernel
theorem d5_11 : decode jdk_35_method_42_code 11 = .ok (.lload_n 2, 1) := by decide +kernel
theorem d5_12 : decode jdk_35_method_42_code 12 = .ok (.lcmp, 1) := by decide +kernel
theorem d5_13 : decode jdk_35_method_42_code 13 = .ok (.ifCond .ne 7, 3) := by decide +kernel
theorem d5_16 : decode jdk_35_method_42_code 16 = .ok (.iconst 0, 1) := by decide +kernel
theorem d5_17 : decode jdk_35_method_42_code 17 = .ok (.goto 4, 3) := by decide +kernel
theorem d5_20 : decode jdk_35_method_42_code 20 = .ok (.iconst 1, 1) := by decide +kernel
theorem d5_21 : decode jdk_35_method_42_code 21 = .ok (.ireturn, 1) := by decide +kernel
theorem pncmp : plainName "java/lang/Long" = true := by first | (simp [plainName, overriddenIn]; done) | decide +kernel
theorem efcmp (m : MethodId) (z0 : Int64) (z1 : Int64) : entryFrame m #[(.long z0), (.long z1)] 4 = mkF m 0 #[.val (.long z0), .second, .val (.long z1), .second] [] := by first | (simp [entryFrame, mkF, argsToLocals, Value.category]; done) | rfl
def Qcmp (Z : State) (x0 : Int64) (x1 : Int64) (h0 : Heap) (n0 : Nat) (v : Option Value) (h : Heap) (L : List Loc) : Prop := v = some (.int (own_cmp x0 x1)) ∧ Fr n0 L ∧ h = h0
set_option maxRecDepth 65536 in
set_option maxHeartbeats 40000000 in
theorem rmcmp (l : Launch) (Z : State) (a0 : Array Value) (hw : ∀ d ∈ tables_1, d.before a0 Z = true) (ws : List Jvm.Cond) (x0 : Int64) (x1 : Int64) (h0 : Heap) (n0 : Nat) (Z0 : n0 ≤ h0.size) :
    MetFree l (⟨"java/lang/Long", "compare", "(JJ)I"⟩ : MethodName) (head1 (Jvm.Cond.code (⟨"java/lang/Long", "compare", "(JJ)I"⟩ : MethodName) jdk_35_method_42_code 4 (some .int) :: ws) ({ frames := 0, cells := 0, slots := 0, locals := 0 } : Room)) (fun a U => a = #[(.long x0), (.long x1)] ∧ Z.Warmed39 U.vm ∧ U.heap = h0) (fun _ _ _ _ _ => True) (fun _ U oc U' => ∃ v L, oc = .returned v ∧ Qcmp Z x0 x1 h0 n0 v U'.heap L ∧ FrameEnd U oc U' L ({ frames := 0, cells := 0, slots := 0, locals := 0 } : Room).cells ({ frames := 0, cells := 0, slots := 0, locals := 0 } : Room).slots) := by
  refine MetFree.of_bodySF (plainFor_of_name pncmp) hisR ?_
  intro p e s m args below meth c s₁ Bd hml0 hP hK
  obtain ⟨rfl, hZ, hh⟩ := hP
  have hx := Bd.exec
  have hby := Bd.bytes
  have hml : c.maxLocals = 4 := hml0
  have hown : s.vm.findClass "java/lang/Long" = some m.cls := findClass_of_methodNamed Bd.named
  have hnm := (name_of_methodNamed Bd.named Bd.method).1
  have X0 : Stand p l e ({ frames := 0, cells := 0, slots := 0, locals := 0 } : Room) s m #[(.long x0), (.long x1)] below meth c s₁ [] 0 0 := Stand.of_body Bd
  have e0 : s₁.heap = h0 := by rw [← hh, Bd.state]; rfl
  have N0 := Fr.nil n0
  show own_Go p e below (fun s₂ oc => ∃ v L, oc = .returned v ∧ Qcmp Z x0 x1 h0 n0 v s₂.heap L ∧ FrameEnd s oc s₂ L ({ frames := 0, cells := 0, slots := 0, locals := 0 } : Room).cells ({ frames := 0, cells := 0, slots := 0, locals := 0 } : Room).slots) s₁ (entryFrame m #[(.long x0), (.long x1)] 4)
  refine own_Go.of (g' := mkF m 0 #[.val (.long x0), .second, .val (.long x1), .second] []) (fun t k => castTop (efcmp m x0 x1) k) ?_
  have hv : own_cmp x0 x1 = own_cmp x0 x1 := rfl
  refine og_lloadN (pc' := 1) X0 hx (hb hby d5_0) rfl rfl ?_
  refine og_lloadN (pc' := 2) X0 hx (hb hby d5_1) rfl rfl ?_
  refine og_lcmp (pc' := 3) X0 hx (hb hby d5_2) rfl ?_
  by_cases hc3_1 : x0 < x1
  · have hv := hv.trans (if_pos hc3_1)
    refine og_ifNo (pc' := 6) X0 hx (hb hby d5_3) ((if0 _ _).trans (tlt ((lw_lt _ _).mpr hc3_1)).2.1) rfl ?_
    refine og_iconst (pc' := 7) (n := -1) X0 hx (hb hby d5_6) rfl rfl ?_
    refine og_goto (pc' := 21) X0 hx (hb hby d5_7) (by decide) (by decide) ?_
    obtain ⟨fs, hr, hrun, hended, hW, hsame⟩ := X0.leave (v := some (.int (-1 : Int32))) (fun h => by rw [Bd.returns] at h; cases h) (BodyLoose.notSynchronized Bd)
    refine ⟨_, _, retI X0 hx Bd.returns (hb hby d5_21) hr, hrun, hended, some (.int (-1 : Int32)), _, rfl, ?_, ⟨_, rfl⟩, hW, hsame.mono (by decide) (by decide)⟩
    show Qcmp Z x0 x1 h0 n0 _ s₁.heap _
    rw [e0]
    exact ⟨(congrArg (fun z => some (Value.int z)) hv.symm), N0, rfl⟩
  · have hv := hv.trans (if_neg hc3_1)
    refine og_ifYes (pc' := 10) X0 hx (hb hby d5_3) ((if0 _ _).trans (flt (fun q => hc3_1 ((lw_lt _ _).mp q))).2.1) (by decide) (by decide) ?_
    refine og_lloadN (pc' := 11) X0 hx (hb hby d5_10) rfl rfl ?_
    refine og_lloadN (pc' := 12) X0 hx (hb hby d5_11) rfl rfl ?_
    refine og_lcmp (pc' := 13) X0 hx (hb hby d5_12) rfl ?_
    by_cases hc13_2 : x0 = x1
    · have hv := hv.trans (if_pos hc13_2)
      refine og_ifNo (pc' := 16) X0 hx (hb hby d5_13) ((if0 _ _).trans (teq ((lw_eq _ _).mpr hc13_2)).2) rfl ?_
      refine og_iconst (pc' := 17) (n := 0) X0 hx (hb hby d5_16) rfl rfl ?_
      refine og_goto (pc' := 21) X0 hx (hb hby d5_17) (by decide) (by decide) ?_
      obtain ⟨fs, hr, hrun, hended, hW, hsame⟩ := X0.leave (v := some (.int (0 : Int32))) (fun h => by rw [Bd.returns] at h; cases h) (BodyLoose.notSynchronized Bd)
      refine ⟨_, _, retI X0 hx Bd.returns (hb hby d5_21) hr, hrun, hended, some (.int (0 : Int32)), _, rfl, ?_, ⟨_, rfl⟩, hW, hsame.mono (by decide) (by decide)⟩
      show Qcmp Z x0 x1 h0 n0 _ s₁.heap _
      rw [e0]
      exact ⟨(congrArg (fun z => some (Value.int z)) hv.symm), N0, rfl⟩
    · have hv := hv.trans (if_neg hc13_2)
      refine og_ifYes (pc' := 20) X0 hx (hb hby d5_13) ((if0 _ _).trans (feq (fun q => hc13_2 ((lw_eq _ _).mp q))).2) (by decide) (by decide) ?_
      refine og_iconst (pc' := 21) (n := 1) X0 hx (hb hby d5_20) rfl rfl ?_
      obtain ⟨fs, hr, hrun, hended, hW, hsame⟩ := X0.leave (v := some (.int (1 : Int32))) (fun h => by rw [Bd.returns] at h; cases h) (BodyLoose.notSynchronized Bd)
      refine ⟨_, _, retI X0 hx Bd.returns (hb hby d5_21) hr, hrun, hended, some (.int (1 : Int32)), _, rfl, ?_, ⟨_, rfl⟩, hW, hsame.mono (by decide) (by decide)⟩
      show Qcmp Z x0 x1 h0 n0 _ s₁.heap _
      rw [e0]
      exact ⟨(congrArg (fun z => some (Value.int z)) hv.symm), N0, rfl⟩

def own_cu (x0 : Int64) (x1 : Int64) : Int32 := (own_cmp (x0 + (-9223372036854775808 : Int64)) (x1 + (-9223372036854775808 : Int64)))
theorem d4_0 : decode jdk_35_method_43_code 0 = .ok (.lload_n 0, 1) := by decide +kernel
theorem d4_1 : decode jdk_35_method_43_code 1 = .ok (.ldc2_w 168, 3) := by decide +kernel
theorem d4_4 : decode jdk_35_method_43_code 4 = .ok (.ladd, 1) := by decide +kernel
theorem d4_5 : decode jdk_35_method_43_code 5 = .ok (.lload_n 2, 1) := by decide +kernel
theorem d4_6 : decode jdk_35_method_43_code 6 = .ok (.ldc2_w 168, 3) := by decide +kernel
theorem d4_9 : decode jdk_35_method_43_code 9 = .ok (.ladd, 1) := by decide +kernel
theorem d4_10 : decode jdk_35_method_43_code 10 = .ok (.invokestatic 302, 3) := by decide +kernel
theorem d4_13 : decode jdk_35_method_43_code 13 = .ok (.ireturn, 1) := by decide +kernel
theorem pncu : plainName "java/lang/Long" = true := by first | (simp [plainName, overriddenIn]; done) | decide +kernel
theorem pd_0 : parseMethodDescriptor "(JJ)I" = some ⟨[.long, .long], some .int⟩ := by decide +kernel
theorem efcu (m : MethodId) (z0 : Int64) (z1 : Int64) : entryFrame m #[(.long z0), (.long z1)] 4 = mkF m 0 #[.val (.long z0), .second, .val (.long z1), .second] [] := by first | (simp [entryFrame, mkF, argsToLocals, Value.category]; done) | rfl
def Qcu (Z : State) (x0 : Int64) (x1 : Int64) (h0 : Heap) (n0 : Nat) (v : Option Value) (h : Heap) (L : List Loc) : Prop := v = some (.int (own_cu x0 x1)) ∧ Fr n0 L ∧ h = h0
set_option maxRecDepth 65536 in
set_option maxHeartbeats 40000000 in
theorem rmcu (l : Launch) (Z : State) (a0 : Array Value) (hw : ∀ d ∈ tables_1, d.before a0 Z = true) (ws : List Jvm.Cond) (x0 : Int64) (x1 : Int64) (h0 : Heap) (n0 : Nat) (Z0 : n0 ≤ h0.size) :
    MetFree l (⟨"java/lang/Long", "compareUnsigned", "(JJ)I"⟩ : MethodName) (head1 (Jvm.Cond.code (⟨"java/lang/Long", "compareUnsigned", "(JJ)I"⟩ : MethodName) jdk_35_method_43_code 4 (some .int) :: ws) ({ frames := 1, cells := 0, slots := 0, locals := 15 } : Room)) (fun a U => a = #[(.long x0), (.long x1)] ∧ Z.Warmed39 U.vm ∧ U.heap = h0) (fun _ _ _ _ _ => True) (fun _ U oc U' => ∃ v L, oc = .returned v ∧ Qcu Z x0 x1 h0 n0 v U'.heap L ∧ FrameEnd U oc U' L ({ frames := 1, cells := 0, slots := 0, locals := 15 } : Room).cells ({ frames := 1, cells := 0, slots := 0, locals := 15 } : Room).slots) := by
  refine MetFree.of_bodySF (plainFor_of_name pncu) hisR ?_
  intro p e s m args below meth c s₁ Bd hml0 hP hK
  obtain ⟨rfl, hZ, hh⟩ := hP
  have hx := Bd.exec
  have hby := Bd.bytes
  have hml : c.maxLocals = 4 := hml0
  have hown : s.vm.findClass "java/lang/Long" = some m.cls := findClass_of_methodNamed Bd.named
  have hnm := (name_of_methodNamed Bd.named Bd.method).1
  have X0 : Stand p l e ({ frames := 1, cells := 0, slots := 0, locals := 15 } : Room) s m #[(.long x0), (.long x1)] below meth c s₁ [] 0 0 := Stand.of_body Bd
  have e0 : s₁.heap = h0 := by rw [← hh, Bd.state]; rfl
  have N0 := Fr.nil n0
  show own_Go p e below (fun s₂ oc => ∃ v L, oc = .returned v ∧ Qcu Z x0 x1 h0 n0 v s₂.heap L ∧ FrameEnd s oc s₂ L ({ frames := 1, cells := 0, slots := 0, locals := 15 } : Room).cells ({ frames := 1, cells := 0, slots := 0, locals := 15 } : Room).slots) s₁ (entryFrame m #[(.long x0), (.long x1)] 4)
  refine own_Go.of (g' := mkF m 0 #[.val (.long x0), .second, .val (.long x1), .second] []) (fun t k => castTop (efcu m x0 x1) k) ?_
  have hv : own_cu x0 x1 = own_cu x0 x1 := rfl
  refine og_lloadN (pc' := 1) X0 hx (hb hby d4_0) rfl rfl ?_
  refine og_ldc2_w (pc' := 4) X0 hx (hb hby d4_1) hown (mvT hZ (hw _ (List.mem_of_getElem? (i := 21) rfl))) rfl ?_
  refine og_ladd (pc' := 5) X0 hx (hb hby d4_4) rfl ?_
  refine og_lloadN (pc' := 6) X0 hx (hb hby d4_5) rfl rfl ?_
  refine og_ldc2_w (pc' := 9) X0 hx (hb hby d4_6) hown (mvT hZ (hw _ (List.mem_of_getElem? (i := 21) rfl))) rfl ?_
  refine og_ladd (pc' := 10) X0 hx (hb hby d4_9) rfl ?_
  obtain ⟨_, _, ⟨T1, L1, k1, n1⟩, -, X1, ⟨Lc1, hQ1, l1, y1, z1⟩, st1⟩ := Jvm.LawKit.callS X0 hx (y := (⟨"java/lang/Long", "compare", "(JJ)I"⟩ : MethodName)) hown (mvT hZ (hw _ (List.mem_of_getElem? (i := 22) rfl))) (mvT hZ (hw _ (List.mem_of_getElem? (i := 23) rfl))) (mvT hZ (hw _ (List.mem_of_getElem? (i := 19) rfl))) (mvT hZ (hw _ (List.mem_of_getElem? (i := 24) rfl))) (by decide) (backOf (W := 0) (rmcmp l Z a0 hw [] (x0 + (-9223372036854775808 : Int64)) (x1 + (-9223372036854775808 : Int64)) h0 n0 Z0 ) hZ (hw _ (List.mem_of_getElem? (i := 24) rfl)) (hw _ (List.mem_of_getElem? (i := 19) rfl)) (by decide) (by decide)) (g := (mkF m 10 #[.val (.long x0), .second, .val (.long x1), .second] [(.long (x1 + (-9223372036854775808 : Int64))), (.long (x0 + (-9223372036854775808 : Int64)))])) rfl (by rw [hml]; rfl) (argsL := [(.long (x0 + (-9223372036854775808 : Int64))), (.long (x1 + (-9223372036854775808 : Int64)))]) (rest := []) (lenOf pd_0 rfl) rfl (by show 2 * 0 + _ ≤ _; exact Nat.le_of_eq rfl) (hb hby d4_10) (fun _ _ => ⟨rfl, e0, (by decide : 0 + 0 ≤ _), (by decide : 0 + 0 ≤ _)⟩)
  dsimp only [Pt.U, Pt.locs, Pt.cells, Pt.slots] at X1 l1 y1 z1 st1 hQ1
  subst l1 y1 z1
  obtain ⟨rfl, N1q, e1⟩ := hQ1
  have N1 := Fr.app N0 N1q
  refine own_Go.of (g' := (mkF m 13 #[.val (.long x0), .second, .val (.long x1), .second] [(.int (own_cmp (x0 + (-9223372036854775808 : Int64)) (x1 + (-9223372036854775808 : Int64))))])) (fun t k => st1 _ k) ?_
  obtain ⟨fs, hr, hrun, hended, hW, hsame⟩ := X1.leave (v := some (.int (own_cmp (x0 + (-9223372036854775808 : Int64)) (x1 + (-9223372036854775808 : Int64))))) (fun h => by rw [Bd.returns] at h; cases h) (BodyLoose.notSynchronized Bd)
  refine ⟨_, _, retI X1 hx Bd.returns (hb hby d4_13) hr, hrun, hended, some (.int (own_cmp (x0 + (-9223372036854775808 : Int64)) (x1 + (-9223372036854775808 : Int64)))), _, rfl, ?_, ⟨_, rfl⟩, hW, hsame.mono (by decide) (by decide)⟩
  show Qcu Z x0 x1 h0 n0 _ T1.heap _
  rw [e1]
  exact ⟨(congrArg (fun z => some (Value.int z)) hv.symm), N1, rfl⟩

theorem d1_0 : decode prog_55_method_1_code 0 = .ok (.aload_n 0, 1) := by decide +kernel
theorem d1_1 : decode prog_55_method_1_code 1 = .ok (.invokespecial 1, 3) := by decide +kernel
theorem d1_4 : decode prog_55_method_1_code 4 = .ok (.return_, 1) := by decide +kernel
theorem pnini : plainName "com/example/ostracon/ostracon/WideSum" = true := by first | (simp [plainName, overriddenIn]; done) | decide +kernel
theorem efini (m : MethodId) (z0 : Addr) : entryFrame m #[(.ref z0)] 1 = mkF m 0 #[.val (.ref z0)] [] := by first | (simp [entryFrame, mkF, argsToLocals, Value.category]; done) | rfl
def Qini (Z : State) (o : Addr) (h0 : Heap) (n0 : Nat) (v : Option Value) (h : Heap) (L : List Loc) : Prop := v = none ∧ Fr n0 L ∧ h = h0
set_option maxRecDepth 65536 in
set_option maxHeartbeats 40000000 in
theorem rmini (l : Launch) (Z : State) (a0 : Array Value) (hw : ∀ d ∈ tables_1, d.before a0 Z = true) (ws : List Jvm.Cond) (o : Addr) (h0 : Heap) (n0 : Nat) (Z0 : n0 ≤ h0.size) :
    MetFree l (⟨"com/example/ostracon/ostracon/WideSum", "<init>", "()V"⟩ : MethodName) (head1 (Jvm.Cond.code (⟨"com/example/ostracon/ostracon/WideSum", "<init>", "()V"⟩ : MethodName) prog_55_method_1_code 1 none :: ws) ({ frames := 1, cells := 0, slots := 0, locals := 12 } : Room)) (fun a U => a = #[(.ref o)] ∧ Z.Warmed39 U.vm ∧ U.heap = h0) (fun _ _ _ _ _ => True) (fun _ U oc U' => ∃ v L, oc = .returned v ∧ Qini Z o h0 n0 v U'.heap L ∧ FrameEnd U oc U' L ({ frames := 1, cells := 0, slots := 0, locals := 12 } : Room).cells ({ frames := 1, cells := 0, slots := 0, locals := 12 } : Room).slots) := by
  refine MetFree.of_bodySF (plainFor_of_name pnini) hisR ?_
  intro p e s m args below meth c s₁ Bd hml0 hP hK
  obtain ⟨rfl, hZ, hh⟩ := hP
  have hx := Bd.exec
  have hby := Bd.bytes
  have hml : c.maxLocals = 1 := hml0
  have hown : s.vm.findClass "com/example/ostracon/ostracon/WideSum" = some m.cls := findClass_of_methodNamed Bd.named
  have hnm := (name_of_methodNamed Bd.named Bd.method).1
  have X0 : Stand p l e ({ frames := 1, cells := 0, slots := 0, locals := 12 } : Room) s m #[(.ref o)] below meth c s₁ [] 0 0 := Stand.of_body Bd
  have e0 : s₁.heap = h0 := by rw [← hh, Bd.state]; rfl
  have N0 := Fr.nil n0
  show own_Go p e below (fun s₂ oc => ∃ v L, oc = .returned v ∧ Qini Z o h0 n0 v s₂.heap L ∧ FrameEnd s oc s₂ L ({ frames := 1, cells := 0, slots := 0, locals := 12 } : Room).cells ({ frames := 1, cells := 0, slots := 0, locals := 12 } : Room).slots) s₁ (entryFrame m #[(.ref o)] 1)
  refine own_Go.of (g' := mkF m 0 #[.val (.ref o)] []) (fun t k => castTop (efini m o) k) ?_
  refine og_aloadN (pc' := 1) X0 hx (hb hby d1_0) rfl rfl rfl ?_
  obtain ⟨T1, X1, e1, st1⟩ := initO X0 hx hZ hown (hw _ (List.mem_of_getElem? (i := 7) rfl)) (hw _ (List.mem_of_getElem? (i := 8) rfl)) (hw _ (List.mem_of_getElem? (i := 9) rfl)) e0 (g := (mkF m 1 #[.val (.ref o)] [(.ref o)])) rfl (by rw [hml]; rfl) rfl (hb hby d1_1) (by decide) (W := 0) (by show 2 * 0 + _ ≤ _; exact Nat.le_of_eq rfl) (by decide)
  refine own_Go.of (g' := (mkF m 4 #[.val (.ref o)] [])) (fun t k => st1 _ k) ?_
  obtain ⟨fs, hr, hrun, hended, hW, hsame⟩ := X1.leave (v := none) (fun _ => rfl) (BodyLoose.notSynchronized Bd)
  refine ⟨_, _, X1.returnOut hx Bd.returns (hb hby d1_4) hr, hrun, hended, none, _, rfl, ?_, ⟨_, rfl⟩, hW, hsame.mono (by decide) (by decide)⟩
  show Qini Z o h0 n0 _ T1.heap _
  rw [e1]
  exact ⟨rfl, N0, rfl⟩

def own_ah (lo hi x : Int64) : Int64 := if own_cu (lo + x) lo < (0 : Int32) then hi + (1 : Int64) else hi
def own_sh (lo hi x : Int64) : Int64 := if own_cu lo x < (0 : Int32) then hi - (1 : Int64) else hi

theorem d3_0 : decode prog_55_method_2_code 0 = .ok (.aload_n 0, 1) := by decide +kernel
theorem d3_1 : decode prog_55_method_2_code 1 = .ok (.getfield 7, 3) := by decide +kernel
theorem d3_4 : decode prog_55_method_2_code 4 = .ok (.lload_n 1, 1) := by decide +kernel
theorem d3_5 : decode prog_55_method_2_code 5 = .ok (.ladd, 1) := by decide +kernel
theorem d3_6 : decode prog_55_method_2_code 6 = .ok (.lstore_n 3, 1) := by decide +kernel
theorem d3_7 : decode prog_55_method_2_code 7 = .ok (.lload_n 3, 1) := by decide +kernel
theorem d3_8 : decode prog_55_method_2_code 8 = .ok (.aload_n 0, 1) := by decide +kernel
theorem d3_9 : decode prog_55_method_2_code 9 = .ok (.getfield 7, 3) := by decide +kernel
theorem d3_12 : decode prog_55_method_2_code 12 = .ok (.invokestatic 13, 3) := by decide +kernel
theorem d3_15 : decode prog_55_method_2_code 15 = .ok (.ifCond .ge 13, 3) := by decide +kernel
theorem d3_18 : decode prog_55_method_2_code 18 = .ok (.aload_n 0, 1) := by decide +kernel
theorem d3_19 : decode prog_55_method_2_code 19 = .ok (.dup, 1) := by decide +kernel
theorem d3_20 : decode prog_55_method_2_code 20 = .ok (.getfield 19, 3) := by decide +kernel
theorem d3_23 : decode prog_55_method_2_code 23 = .ok (.lconst 1, 1) := by decide +kernel
theorem d3_24 : decode prog_55_method_2_code 24 = .ok (.ladd, 1) := by decide +kernel
theorem d3_25 : decode prog_55_method_2_code 25 = .ok (.putfield 19, 3) := by decide +kernel
theorem d3_28 : decode prog_55_method_2_code 28 = .ok (.aload_n 0, 1) := by decide +kernel
theorem d3_29 : decode prog_55_method_2_code 29 = .ok (.lload_n 3, 1) := by decide +kernel
theorem d3_30 : decode prog_55_method_2_code 30 = .ok (.putfield 7, 3) := by decide +kernel
theorem d3_33 : decode prog_55_method_2_code 33 = .ok (.return_, 1) := by decide +kernel
theorem pnadd : plainName "com/example/ostracon/ostracon/WideSum" = true := by first | (simp [plainName, overriddenIn]; done) | decide +kernel
theorem efadd (m : MethodId) (z0 : Addr) (z1 : Int64) : entryFrame m #[(.ref z0), (.long z1)] 5 = mkF m 0 #[.val (.ref z0), .val (.long z1), .second, .unset, .unset] [] := by first | (simp [entryFrame, mkF, argsToLocals, Value.category]; done) | rfl
def Qadd (Z : State) (o : Addr) (x : Int64) (lo : Int64) (hi : Int64) (h0 : Heap) (n0 : Nat) (v : Option Value) (h : Heap) (L : List Loc) : Prop := v = none ∧ Fr n0 L ∧ Keep h0 h [o] ∧ Exa Z h o "com/example/ostracon/ostracon/WideSum" ∧ Fld Z h o "com/example/ostracon/ostracon/WideSum" "low" "J" (.long (lo + x)) ∧ Fld Z h o "com/example/ostracon/ostracon/WideSum" "high" "J" (.long (own_ah lo hi x))
set_option maxRecDepth 65536 in
set_option maxHeartbeats 40000000 in
theorem rmadd (l : Launch) (Z : State) (a0 : Array Value) (hw : ∀ d ∈ tables_1, d.before a0 Z = true) (ws : List Jvm.Cond) (o : Addr) (x : Int64) (lo : Int64) (hi : Int64) (h0 : Heap) (n0 : Nat) (Z0 : n0 ≤ h0.size) (E_o : Exa Z h0 o "com/example/ostracon/ostracon/WideSum") (L_o : Fld Z h0 o "com/example/ostracon/ostracon/WideSum" "low" "J" (.long lo)) (H_o : Fld Z h0 o "com/example/ostracon/ostracon/WideSum" "high" "J" (.long hi)) (g_o : n0 ≤ o) :
    MetFree l (⟨"com/example/ostracon/ostracon/WideSum", "add", "(J)V"⟩ : MethodName) (head1 (Jvm.Cond.code (⟨"com/example/ostracon/ostracon/WideSum", "add", "(J)V"⟩ : MethodName) prog_55_method_2_code 5 none :: ws) ({ frames := 2, cells := 0, slots := 0, locals := 30 } : Room)) (fun a U => a = #[(.ref o), (.long x)] ∧ Z.Warmed39 U.vm ∧ U.heap = h0) (fun _ _ _ _ _ => True) (fun _ U oc U' => ∃ v L, oc = .returned v ∧ Qadd Z o x lo hi h0 n0 v U'.heap L ∧ FrameEnd U oc U' L ({ frames := 2, cells := 0, slots := 0, locals := 30 } : Room).cells ({ frames := 2, cells := 0, slots := 0, locals := 30 } : Room).slots) := by
  refine MetFree.of_bodySF (plainFor_of_name pnadd) hisR ?_
  intro p e s m args below meth c s₁ Bd hml0 hP hK
  obtain ⟨rfl, hZ, hh⟩ := hP
  have hx := Bd.exec
  have hby := Bd.bytes
  have hml : c.maxLocals = 5 := hml0
  have hown : s.vm.findClass "com/example/ostracon/ostracon/WideSum" = some m.cls := findClass_of_methodNamed Bd.named
  have hnm := (name_of_methodNamed Bd.named Bd.method).1
  have X0 : Stand p l e ({ frames := 2, cells := 0, slots := 0, locals := 30 } : Room) s m #[(.ref o), (.long x)] below meth c s₁ [] 0 0 := Stand.of_body Bd
  have e0 : s₁.heap = h0 := by rw [← hh, Bd.state]; rfl
  have N0 := Fr.nil n0
  show own_Go p e below (fun s₂ oc => ∃ v L, oc = .returned v ∧ Qadd Z o x lo hi h0 n0 v s₂.heap L ∧ FrameEnd s oc s₂ L ({ frames := 2, cells := 0, slots := 0, locals := 30 } : Room).cells ({ frames := 2, cells := 0, slots := 0, locals := 30 } : Room).slots) s₁ (entryFrame m #[(.ref o), (.long x)] 5)
  refine own_Go.of (g' := mkF m 0 #[.val (.ref o), .val (.long x), .second, .unset, .unset] []) (fun t k => castTop (efadd m o x) k) ?_
  refine og_aloadN (pc' := 1) X0 hx (hb hby d3_0) rfl rfl rfl ?_
  obtain ⟨T1, X1, e1, st1⟩ := getF X0 hx hZ hown (host := "") (Or.inl (hw _ (List.mem_of_getElem? (i := 15) rfl))) Via.refl e0 L_o (g := (mkF m 1 #[.val (.ref o), .val (.long x), .second, .unset, .unset] [(.ref o)])) rfl rfl (hb hby d3_1)
  refine own_Go.of (g' := (mkF m 4 #[.val (.ref o), .val (.long x), .second, .unset, .unset] [(.long lo)])) (fun t k => st1 _ k) ?_
  refine og_lloadN (pc' := 5) X1 hx (hb hby d3_4) rfl rfl ?_
  refine og_ladd (pc' := 6) X1 hx (hb hby d3_5) rfl ?_
  refine og_lstoreN (pc' := 7) (L' := #[.val (.ref o), .val (.long x), .second, .val (.long (lo + x)), .second]) X1 hx (hb hby d3_6) rfl rfl ?_
  refine og_lloadN (pc' := 8) X1 hx (hb hby d3_7) rfl rfl ?_
  refine og_aloadN (pc' := 9) X1 hx (hb hby d3_8) rfl rfl rfl ?_
  obtain ⟨T2, X2, e2, st2⟩ := getF X1 hx hZ hown (host := "") (Or.inl (hw _ (List.mem_of_getElem? (i := 15) rfl))) Via.refl e1 L_o (g := (mkF m 9 #[.val (.ref o), .val (.long x), .second, .val (.long (lo + x)), .second] [(.ref o), (.long (lo + x))])) rfl rfl (hb hby d3_9)
  refine own_Go.of (g' := (mkF m 12 #[.val (.ref o), .val (.long x), .second, .val (.long (lo + x)), .second] [(.long lo), (.long (lo + x))])) (fun t k => st2 _ k) ?_
  obtain ⟨_, _, ⟨T3, L3, k3, n3⟩, -, X3, ⟨Lc3, hQ3, l3, y3, z3⟩, st3⟩ := Jvm.LawKit.callS X2 hx (y := (⟨"java/lang/Long", "compareUnsigned", "(JJ)I"⟩ : MethodName)) hown (mvT hZ (hw _ (List.mem_of_getElem? (i := 17) rfl))) (mvT hZ (hw _ (List.mem_of_getElem? (i := 18) rfl))) (mvT hZ (hw _ (List.mem_of_getElem? (i := 19) rfl))) (mvT hZ (hw _ (List.mem_of_getElem? (i := 20) rfl))) (by decide) (backOf (W := 0) (rmcu l Z a0 hw [] (lo + x) lo h0 n0 Z0 ) hZ (hw _ (List.mem_of_getElem? (i := 20) rfl)) (hw _ (List.mem_of_getElem? (i := 19) rfl)) (by decide) (by decide)) (g := (mkF m 12 #[.val (.ref o), .val (.long x), .second, .val (.long (lo + x)), .second] [(.long lo), (.long (lo + x))])) rfl (by rw [hml]; rfl) (argsL := [(.long (lo + x)), (.long lo)]) (rest := []) (lenOf pd_0 rfl) rfl (by show 2 * 0 + _ ≤ _; exact Nat.le_of_eq rfl) (hb hby d3_12) (fun _ _ => ⟨rfl, e2, (by decide : 0 + 0 ≤ _), (by decide : 0 + 0 ≤ _)⟩)
  dsimp only [Pt.U, Pt.locs, Pt.cells, Pt.slots] at X3 l3 y3 z3 st3 hQ3
  subst l3 y3 z3
  obtain ⟨rfl, N3q, e3⟩ := hQ3
  have N3 := Fr.app N0 N3q
  refine own_Go.of (g' := (mkF m 15 #[.val (.ref o), .val (.long x), .second, .val (.long (lo + x)), .second] [(.int (own_cu (lo + x) lo))])) (fun t k => st3 _ k) ?_
  by_cases hc15_1 : (own_cu (lo + x) lo) < (0 : Int32)
  · refine og_ifNo (pc' := 18) X3 hx (hb hby d3_15) ((if0 _ _).trans (tlt hc15_1).2.1) rfl ?_
    refine og_aloadN (pc' := 19) X3 hx (hb hby d3_18) rfl rfl rfl ?_
    refine og_dup (pc' := 20) X3 hx (hb hby d3_19) rfl rfl ?_
    obtain ⟨T4, X4, e4, st4⟩ := getF X3 hx hZ hown (host := "") (Or.inl (hw _ (List.mem_of_getElem? (i := 35) rfl))) Via.refl e3 H_o (g := (mkF m 20 #[.val (.ref o), .val (.long x), .second, .val (.long (lo + x)), .second] [(.ref o), (.ref o)])) rfl rfl (hb hby d3_20)
    refine own_Go.of (g' := (mkF m 23 #[.val (.ref o), .val (.long x), .second, .val (.long (lo + x)), .second] [(.long hi), (.ref o)])) (fun t k => st4 _ k) ?_
    refine og_lconst1 (pc' := 24) X4 hx (hb hby d3_23) rfl ?_
    refine og_ladd (pc' := 25) X4 hx (hb hby d3_24) rfl ?_
    obtain ⟨T5, h5, X5, e5, W5, st5⟩ := putF X4 hx hZ hown (host := "") (Or.inl (hw _ (List.mem_of_getElem? (i := 35) rfl))) Via.refl e4 H_o E_o (Or.inl (hw _ (List.mem_of_getElem? (i := 36) rfl))) (hw _ (List.mem_of_getElem? (i := 2) rfl)) (ty := .long) (by decide) rfl rfl (g := (mkF m 25 #[.val (.ref o), .val (.long x), .second, .val (.long (lo + x)), .second] [(.long (hi + (1 : Int64))), (.ref o)])) rfl rfl (hb hby d3_25)
    have w5 : Fld Z h5 o "com/example/ostracon/ostracon/WideSum" "high" "J" (.long (hi + (1 : Int64))) := H_o.same W5
    have f5_0 := E_o.wr W5
    have f5_1 := L_o.other W5 (Or.inr (slot_ne (a0 := a0) (C := "com/example/ostracon/ostracon/WideSum") (Or.inl (hw _ (List.mem_of_getElem? (i := 16) rfl))) (Or.inl (hw _ (List.mem_of_getElem? (i := 36) rfl))) (by decide) (t := .long) (t' := .long) (by decide) (by decide)))
    have K5 : Keep h0 h5 [o] := (Keep.refl h0 [o]).wr W5 (Or.inl (List.mem_of_getElem? (i := 0) rfl))
    have Z5 : n0 ≤ h5.size := Nat.le_trans Z0 K5.1
    have N5 := Fr.snoc X5 N3 g_o
    refine own_Go.of (g' := (mkF m 28 #[.val (.ref o), .val (.long x), .second, .val (.long (lo + x)), .second] [])) (fun t k => st5 _ k) ?_
    refine og_aloadN (pc' := 29) X5 hx (hb hby d3_28) rfl rfl rfl ?_
    refine og_lloadN (pc' := 30) X5 hx (hb hby d3_29) rfl rfl ?_
    obtain ⟨T6, h6, X6, e6, W6, st6⟩ := putF X5 hx hZ hown (host := "") (Or.inl (hw _ (List.mem_of_getElem? (i := 15) rfl))) Via.refl e5 f5_1 f5_0 (Or.inl (hw _ (List.mem_of_getElem? (i := 16) rfl))) (hw _ (List.mem_of_getElem? (i := 2) rfl)) (ty := .long) (by decide) rfl rfl (g := (mkF m 30 #[.val (.ref o), .val (.long x), .second, .val (.long (lo + x)), .second] [(.long (lo + x)), (.ref o)])) rfl rfl (hb hby d3_30)
    have w6 : Fld Z h6 o "com/example/ostracon/ostracon/WideSum" "low" "J" (.long (lo + x)) := f5_1.same W6
    have f6_0 := f5_0.wr W6
    have f6_2 := w5.other W6 (Or.inr (slot_ne (a0 := a0) (C := "com/example/ostracon/ostracon/WideSum") (Or.inl (hw _ (List.mem_of_getElem? (i := 36) rfl))) (Or.inl (hw _ (List.mem_of_getElem? (i := 16) rfl))) (by decide) (t := .long) (t' := .long) (by decide) (by decide)))
    have K6 : Keep h0 h6 [o] := K5.wr W6 (Or.inl (List.mem_of_getElem? (i := 0) rfl))
    have Z6 : n0 ≤ h6.size := Nat.le_trans Z0 K6.1
    have N6 := Fr.snoc X6 N5 g_o
    refine own_Go.of (g' := (mkF m 33 #[.val (.ref o), .val (.long x), .second, .val (.long (lo + x)), .second] [])) (fun t k => st6 _ k) ?_
    obtain ⟨fs, hr, hrun, hended, hW, hsame⟩ := X6.leave (v := none) (fun _ => rfl) (BodyLoose.notSynchronized Bd)
    refine ⟨_, _, X6.returnOut hx Bd.returns (hb hby d3_33) hr, hrun, hended, none, _, rfl, ?_, ⟨_, rfl⟩, hW, hsame.mono (by decide) (by decide)⟩
    show Qadd Z o x lo hi h0 n0 _ T6.heap _
    rw [e6]
    exact ⟨rfl, N6, K6, f6_0, w6, (by have q := f6_2; simpa only [own_ah, if_pos hc15_1] using q)⟩
  · refine og_ifYes (pc' := 28) X3 hx (hb hby d3_15) ((if0 _ _).trans (flt hc15_1).2.1) (by decide) (by decide) ?_
    refine og_aloadN (pc' := 29) X3 hx (hb hby d3_28) rfl rfl rfl ?_
    refine og_lloadN (pc' := 30) X3 hx (hb hby d3_29) rfl rfl ?_
    obtain ⟨T7, h7, X7, e7, W7, st7⟩ := putF X3 hx hZ hown (host := "") (Or.inl (hw _ (List.mem_of_getElem? (i := 15) rfl))) Via.refl e3 L_o E_o (Or.inl (hw _ (List.mem_of_getElem? (i := 16) rfl))) (hw _ (List.mem_of_getElem? (i := 2) rfl)) (ty := .long) (by decide) rfl rfl (g := (mkF m 30 #[.val (.ref o), .val (.long x), .second, .val (.long (lo + x)), .second] [(.long (lo + x)), (.ref o)])) rfl rfl (hb hby d3_30)
    have w7 : Fld Z h7 o "com/example/ostracon/ostracon/WideSum" "low" "J" (.long (lo + x)) := L_o.same W7
    have f7_0 := E_o.wr W7
    have f7_1 := H_o.other W7 (Or.inr (slot_ne (a0 := a0) (C := "com/example/ostracon/ostracon/WideSum") (Or.inl (hw _ (List.mem_of_getElem? (i := 36) rfl))) (Or.inl (hw _ (List.mem_of_getElem? (i := 16) rfl))) (by decide) (t := .long) (t' := .long) (by decide) (by decide)))
    have K7 : Keep h0 h7 [o] := (Keep.refl h0 [o]).wr W7 (Or.inl (List.mem_of_getElem? (i := 0) rfl))
    have Z7 : n0 ≤ h7.size := Nat.le_trans Z0 K7.1
    have N7 := Fr.snoc X7 N3 g_o
    refine own_Go.of (g' := (mkF m 33 #[.val (.ref o), .val (.long x), .second, .val (.long (lo + x)), .second] [])) (fun t k => st7 _ k) ?_
    obtain ⟨fs, hr, hrun, hended, hW, hsame⟩ := X7.leave (v := none) (fun _ => rfl) (BodyLoose.notSynchronized Bd)
    refine ⟨_, _, X7.returnOut hx Bd.returns (hb hby d3_33) hr, hrun, hended, none, _, rfl, ?_, ⟨_, rfl⟩, hW, hsame.mono (by decide) (by decide)⟩
    show Qadd Z o x lo hi h0 n0 _ T7.heap _
    rw [e7]
    exact ⟨rfl, N7, K7, f7_0, w7, (by have q := f7_1; simpa only [own_ah, if_neg hc15_1] using q)⟩

theorem d6_0 : decode prog_55_method_3_code 0 = .ok (.aload_n 0, 1) := by decide +kernel
theorem d6_1 : decode prog_55_method_3_code 1 = .ok (.getfield 7, 3) := by decide +kernel
theorem d6_4 : decode prog_55_method_3_code 4 = .ok (.lload_n 1, 1) := by decide +kernel
theorem d6_5 : decode prog_55_method_3_code 5 = .ok (.invokestatic 13, 3) := by decide +kernel
theorem d6_8 : decode prog_55_method_3_code 8 = .ok (.ifCond .ge 13, 3) := by decide +kernel
theorem d6_11 : decode prog_55_method_3_code 11 = .ok (.aload_n 0, 1) := by decide +kernel
theorem d6_12 : decode prog_55_method_3_code 12 = .ok (.dup, 1) := by decide +kernel
theorem d6_13 : decode prog_55_method_3_code 13 = .ok (.getfield 19, 3) := by decide +kernel
theorem d6_16 : decode prog_55_method_3_code 16 = .ok (.lconst 1, 1) := by decide +kernel
theorem d6_17 : decode prog_55_method_3_code 17 = .ok (.lsub, 1) := by decide +kernel
theorem d6_18 : decode prog_55_method_3_code 18 = .ok (.putfield 19, 3) := by decide +kernel
theorem d6_21 : decode prog_55_method_3_code 21 = .ok (.aload_n 0, 1) := by decide +kernel
theorem d6_22 : decode prog_55_method_3_code 22 = .ok (.dup, 1) := by decide +kernel
theorem d6_23 : decode prog_55_method_3_code 23 = .ok (.getfield 7, 3) := by decide +kernel
theorem d6_26 : decode prog_55_method_3_code 26 = .ok (.lload_n 1, 1) := by decide +kernel
theorem d6_27 : decode prog_55_method_3_code 27 = .ok (.lsub, 1) := by decide +kernel
theorem d6_28 : decode prog_55_method_3_code 28 = .ok (.putfield 7, 3) := by decide +kernel
theorem d6_31 : decode prog_55_method_3_code 31 = .ok (.return_, 1) := by decide +kernel
theorem pnsub : plainName "com/example/ostracon/ostracon/WideSum" = true := by first | (simp [plainName, overriddenIn]; done) | decide +kernel
theorem efsub (m : MethodId) (z0 : Addr) (z1 : Int64) : entryFrame m #[(.ref z0), (.long z1)] 3 = mkF m 0 #[.val (.ref z0), .val (.long z1), .second] [] := by first | (simp [entryFrame, mkF, argsToLocals, Value.category]; done) | rfl
def Qsub (Z : State) (o : Addr) (x : Int64) (lo : Int64) (hi : Int64) (h0 : Heap) (n0 : Nat) (v : Option Value) (h : Heap) (L : List Loc) : Prop := v = none ∧ Fr n0 L ∧ Keep h0 h [o] ∧ Exa Z h o "com/example/ostracon/ostracon/WideSum" ∧ Fld Z h o "com/example/ostracon/ostracon/WideSum" "low" "J" (.long (lo - x)) ∧ Fld Z h o "com/example/ostracon/ostracon/WideSum" "high" "J" (.long (own_sh lo hi x))
set_option maxRecDepth 65536 in
set_option maxHeartbeats 40000000 in
theorem rmsub (l : Launch) (Z : State) (a0 : Array Value) (hw : ∀ d ∈ tables_1, d.before a0 Z = true) (ws : List Jvm.Cond) (o : Addr) (x : Int64) (lo : Int64) (hi : Int64) (h0 : Heap) (n0 : Nat) (Z0 : n0 ≤ h0.size) (E_o : Exa Z h0 o "com/example/ostracon/ostracon/WideSum") (L_o : Fld Z h0 o "com/example/ostracon/ostracon/WideSum" "low" "J" (.long lo)) (H_o : Fld Z h0 o "com/example/ostracon/ostracon/WideSum" "high" "J" (.long hi)) (g_o : n0 ≤ o) :
    MetFree l (⟨"com/example/ostracon/ostracon/WideSum", "subtract", "(J)V"⟩ : MethodName) (head1 (Jvm.Cond.code (⟨"com/example/ostracon/ostracon/WideSum", "subtract", "(J)V"⟩ : MethodName) prog_55_method_3_code 3 none :: ws) ({ frames := 2, cells := 0, slots := 0, locals := 30 } : Room)) (fun a U => a = #[(.ref o), (.long x)] ∧ Z.Warmed39 U.vm ∧ U.heap = h0) (fun _ _ _ _ _ => True) (fun _ U oc U' => ∃ v L, oc = .returned v ∧ Qsub Z o x lo hi h0 n0 v U'.heap L ∧ FrameEnd U oc U' L ({ frames := 2, cells := 0, slots := 0, locals := 30 } : Room).cells ({ frames := 2, cells := 0, slots := 0, locals := 30 } : Room).slots) := by
  refine MetFree.of_bodySF (plainFor_of_name pnsub) hisR ?_
  intro p e s m args below meth c s₁ Bd hml0 hP hK
  obtain ⟨rfl, hZ, hh⟩ := hP
  have hx := Bd.exec
  have hby := Bd.bytes
  have hml : c.maxLocals = 3 := hml0
  have hown : s.vm.findClass "com/example/ostracon/ostracon/WideSum" = some m.cls := findClass_of_methodNamed Bd.named
  have hnm := (name_of_methodNamed Bd.named Bd.method).1
  have X0 : Stand p l e ({ frames := 2, cells := 0, slots := 0, locals := 30 } : Room) s m #[(.ref o), (.long x)] below meth c s₁ [] 0 0 := Stand.of_body Bd
  have e0 : s₁.heap = h0 := by rw [← hh, Bd.state]; rfl
  have N0 := Fr.nil n0
  show own_Go p e below (fun s₂ oc => ∃ v L, oc = .returned v ∧ Qsub Z o x lo hi h0 n0 v s₂.heap L ∧ FrameEnd s oc s₂ L ({ frames := 2, cells := 0, slots := 0, locals := 30 } : Room).cells ({ frames := 2, cells := 0, slots := 0, locals := 30 } : Room).slots) s₁ (entryFrame m #[(.ref o), (.long x)] 3)
  refine own_Go.of (g' := mkF m 0 #[.val (.ref o), .val (.long x), .second] []) (fun t k => castTop (efsub m o x) k) ?_
  refine og_aloadN (pc' := 1) X0 hx (hb hby d6_0) rfl rfl rfl ?_
  obtain ⟨T1, X1, e1, st1⟩ := getF X0 hx hZ hown (host := "") (Or.inl (hw _ (List.mem_of_getElem? (i := 15) rfl))) Via.refl e0 L_o (g := (mkF m 1 #[.val (.ref o), .val (.long x), .second] [(.ref o)])) rfl rfl (hb hby d6_1)
  refine own_Go.of (g' := (mkF m 4 #[.val (.ref o), .val (.long x), .second] [(.long lo)])) (fun t k => st1 _ k) ?_
  refine og_lloadN (pc' := 5) X1 hx (hb hby d6_4) rfl rfl ?_
  obtain ⟨_, _, ⟨T2, L2, k2, n2⟩, -, X2, ⟨Lc2, hQ2, l2, y2, z2⟩, st2⟩ := Jvm.LawKit.callS X1 hx (y := (⟨"java/lang/Long", "compareUnsigned", "(JJ)I"⟩ : MethodName)) hown (mvT hZ (hw _ (List.mem_of_getElem? (i := 17) rfl))) (mvT hZ (hw _ (List.mem_of_getElem? (i := 18) rfl))) (mvT hZ (hw _ (List.mem_of_getElem? (i := 19) rfl))) (mvT hZ (hw _ (List.mem_of_getElem? (i := 20) rfl))) (by decide) (backOf (W := 0) (rmcu l Z a0 hw [] lo x h0 n0 Z0 ) hZ (hw _ (List.mem_of_getElem? (i := 20) rfl)) (hw _ (List.mem_of_getElem? (i := 19) rfl)) (by decide) (by decide)) (g := (mkF m 5 #[.val (.ref o), .val (.long x), .second] [(.long x), (.long lo)])) rfl (by rw [hml]; rfl) (argsL := [(.long lo), (.long x)]) (rest := []) (lenOf pd_0 rfl) rfl (by show 2 * 0 + _ ≤ _; exact Nat.le_of_eq rfl) (hb hby d6_5) (fun _ _ => ⟨rfl, e1, (by decide : 0 + 0 ≤ _), (by decide : 0 + 0 ≤ _)⟩)
  dsimp only [Pt.U, Pt.locs, Pt.cells, Pt.slots] at X2 l2 y2 z2 st2 hQ2
  subst l2 y2 z2
  obtain ⟨rfl, N2q, e2⟩ := hQ2
  have N2 := Fr.app N0 N2q
  refine own_Go.of (g' := (mkF m 8 #[.val (.ref o), .val (.long x), .second] [(.int (own_cu lo x))])) (fun t k => st2 _ k) ?_
  by_cases hc8_1 : (own_cu lo x) < (0 : Int32)
  · refine og_ifNo (pc' := 11) X2 hx (hb hby d6_8) ((if0 _ _).trans (tlt hc8_1).2.1) rfl ?_
    refine og_aloadN (pc' := 12) X2 hx (hb hby d6_11) rfl rfl rfl ?_
    refine og_dup (pc' := 13) X2 hx (hb hby d6_12) rfl rfl ?_
    obtain ⟨T3, X3, e3, st3⟩ := getF X2 hx hZ hown (host := "") (Or.inl (hw _ (List.mem_of_getElem? (i := 35) rfl))) Via.refl e2 H_o (g := (mkF m 13 #[.val (.ref o), .val (.long x), .second] [(.ref o), (.ref o)])) rfl rfl (hb hby d6_13)
    refine own_Go.of (g' := (mkF m 16 #[.val (.ref o), .val (.long x), .second] [(.long hi), (.ref o)])) (fun t k => st3 _ k) ?_
    refine og_lconst1 (pc' := 17) X3 hx (hb hby d6_16) rfl ?_
    refine og_lsub (pc' := 18) X3 hx (hb hby d6_17) rfl ?_
    obtain ⟨T4, h4, X4, e4, W4, st4⟩ := putF X3 hx hZ hown (host := "") (Or.inl (hw _ (List.mem_of_getElem? (i := 35) rfl))) Via.refl e3 H_o E_o (Or.inl (hw _ (List.mem_of_getElem? (i := 36) rfl))) (hw _ (List.mem_of_getElem? (i := 2) rfl)) (ty := .long) (by decide) rfl rfl (g := (mkF m 18 #[.val (.ref o), .val (.long x), .second] [(.long (hi - (1 : Int64))), (.ref o)])) rfl rfl (hb hby d6_18)
    have w4 : Fld Z h4 o "com/example/ostracon/ostracon/WideSum" "high" "J" (.long (hi - (1 : Int64))) := H_o.same W4
    have f4_0 := E_o.wr W4
    have f4_1 := L_o.other W4 (Or.inr (slot_ne (a0 := a0) (C := "com/example/ostracon/ostracon/WideSum") (Or.inl (hw _ (List.mem_of_getElem? (i := 16) rfl))) (Or.inl (hw _ (List.mem_of_getElem? (i := 36) rfl))) (by decide) (t := .long) (t' := .long) (by decide) (by decide)))
    have K4 : Keep h0 h4 [o] := (Keep.refl h0 [o]).wr W4 (Or.inl (List.mem_of_getElem? (i := 0) rfl))
    have Z4 : n0 ≤ h4.size := Nat.le_trans Z0 K4.1
    have N4 := Fr.snoc X4 N2 g_o
    refine own_Go.of (g' := (mkF m 21 #[.val (.ref o), .val (.long x), .second] [])) (fun t k => st4 _ k) ?_
    refine og_aloadN (pc' := 22) X4 hx (hb hby d6_21) rfl rfl rfl ?_
    refine og_dup (pc' := 23) X4 hx (hb hby d6_22) rfl rfl ?_
    obtain ⟨T5, X5, e5, st5⟩ := getF X4 hx hZ hown (host := "") (Or.inl (hw _ (List.mem_of_getElem? (i := 15) rfl))) Via.refl e4 f4_1 (g := (mkF m 23 #[.val (.ref o), .val (.long x), .second] [(.ref o), (.ref o)])) rfl rfl (hb hby d6_23)
    refine own_Go.of (g' := (mkF m 26 #[.val (.ref o), .val (.long x), .second] [(.long lo), (.ref o)])) (fun t k => st5 _ k) ?_
    refine og_lloadN (pc' := 27) X5 hx (hb hby d6_26) rfl rfl ?_
    refine og_lsub (pc' := 28) X5 hx (hb hby d6_27) rfl ?_
    obtain ⟨T6, h6, X6, e6, W6, st6⟩ := putF X5 hx hZ hown (host := "") (Or.inl (hw _ (List.mem_of_getElem? (i := 15) rfl))) Via.refl e5 f4_1 f4_0 (Or.inl (hw _ (List.mem_of_getElem? (i := 16) rfl))) (hw _ (List.mem_of_getElem? (i := 2) rfl)) (ty := .long) (by decide) rfl rfl (g := (mkF m 28 #[.val (.ref o), .val (.long x), .second] [(.long (lo - x)), (.ref o)])) rfl rfl (hb hby d6_28)
    have w6 : Fld Z h6 o "com/example/ostracon/ostracon/WideSum" "low" "J" (.long (lo - x)) := f4_1.same W6
    have f6_0 := f4_0.wr W6
    have f6_2 := w4.other W6 (Or.inr (slot_ne (a0 := a0) (C := "com/example/ostracon/ostracon/WideSum") (Or.inl (hw _ (List.mem_of_getElem? (i := 36) rfl))) (Or.inl (hw _ (List.mem_of_getElem? (i := 16) rfl))) (by decide) (t := .long) (t' := .long) (by decide) (by decide)))
    have K6 : Keep h0 h6 [o] := K4.wr W6 (Or.inl (List.mem_of_getElem? (i := 0) rfl))
    have Z6 : n0 ≤ h6.size := Nat.le_trans Z0 K6.1
    have N6 := Fr.snoc X6 N4 g_o
    refine own_Go.of (g' := (mkF m 31 #[.val (.ref o), .val (.long x), .second] [])) (fun t k => st6 _ k) ?_
    obtain ⟨fs, hr, hrun, hended, hW, hsame⟩ := X6.leave (v := none) (fun _ => rfl) (BodyLoose.notSynchronized Bd)
    refine ⟨_, _, X6.returnOut hx Bd.returns (hb hby d6_31) hr, hrun, hended, none, _, rfl, ?_, ⟨_, rfl⟩, hW, hsame.mono (by decide) (by decide)⟩
    show Qsub Z o x lo hi h0 n0 _ T6.heap _
    rw [e6]
    exact ⟨rfl, N6, K6, f6_0, w6, (by have q := f6_2; simpa only [own_sh, if_pos hc8_1] using q)⟩
  · refine og_ifYes (pc' := 21) X2 hx (hb hby d6_8) ((if0 _ _).trans (flt hc8_1).2.1) (by decide) (by decide) ?_
    refine og_aloadN (pc' := 22) X2 hx (hb hby d6_21) rfl rfl rfl ?_
    refine og_dup (pc' := 23) X2 hx (hb hby d6_22) rfl rfl ?_
    obtain ⟨T7, X7, e7, st7⟩ := getF X2 hx hZ hown (host := "") (Or.inl (hw _ (List.mem_of_getElem? (i := 15) rfl))) Via.refl e2 L_o (g := (mkF m 23 #[.val (.ref o), .val (.long x), .second] [(.ref o), (.ref o)])) rfl rfl (hb hby d6_23)
    refine own_Go.of (g' := (mkF m 26 #[.val (.ref o), .val (.long x), .second] [(.long lo), (.ref o)])) (fun t k => st7 _ k) ?_
    refine og_lloadN (pc' := 27) X7 hx (hb hby d6_26) rfl rfl ?_
    refine og_lsub (pc' := 28) X7 hx (hb hby d6_27) rfl ?_
    obtain ⟨T8, h8, X8, e8, W8, st8⟩ := putF X7 hx hZ hown (host := "") (Or.inl (hw _ (List.mem_of_getElem? (i := 15) rfl))) Via.refl e7 L_o E_o (Or.inl (hw _ (List.mem_of_getElem? (i := 16) rfl))) (hw _ (List.mem_of_getElem? (i := 2) rfl)) (ty := .long) (by decide) rfl rfl (g := (mkF m 28 #[.val (.ref o), .val (.long x), .second] [(.long (lo - x)), (.ref o)])) rfl rfl (hb hby d6_28)
    have w8 : Fld Z h8 o "com/example/ostracon/ostracon/WideSum" "low" "J" (.long (lo - x)) := L_o.same W8
    have f8_0 := E_o.wr W8
    have f8_1 := H_o.other W8 (Or.inr (slot_ne (a0 := a0) (C := "com/example/ostracon/ostracon/WideSum") (Or.inl (hw _ (List.mem_of_getElem? (i := 36) rfl))) (Or.inl (hw _ (List.mem_of_getElem? (i := 16) rfl))) (by decide) (t := .long) (t' := .long) (by decide) (by decide)))
    have K8 : Keep h0 h8 [o] := (Keep.refl h0 [o]).wr W8 (Or.inl (List.mem_of_getElem? (i := 0) rfl))
    have Z8 : n0 ≤ h8.size := Nat.le_trans Z0 K8.1
    have N8 := Fr.snoc X8 N2 g_o
    refine own_Go.of (g' := (mkF m 31 #[.val (.ref o), .val (.long x), .second] [])) (fun t k => st8 _ k) ?_
    obtain ⟨fs, hr, hrun, hended, hW, hsame⟩ := X8.leave (v := none) (fun _ => rfl) (BodyLoose.notSynchronized Bd)
    refine ⟨_, _, X8.returnOut hx Bd.returns (hb hby d6_31) hr, hrun, hended, none, _, rfl, ?_, ⟨_, rfl⟩, hW, hsame.mono (by decide) (by decide)⟩
    show Qsub Z o x lo hi h0 n0 _ T8.heap _
    rw [e8]
    exact ⟨rfl, N8, K8, f8_0, w8, (by have q := f8_1; simpa only [own_sh, if_neg hc8_1] using q)⟩

def own_isz (lo : Int64) (hi : Int64) : Int32 := (if lo = (0 : Int64) then (if hi = (0 : Int64) then (1 : Int32) else (0 : Int32)) else (0 : Int32))
theorem d7_0 : decode prog_55_method_4_code 0 = .ok (.aload_n 0, 1) := by decide +kernel
theorem d7_1 : decode prog_55_method_4_code 1 = .ok (.getfield 7, 3) := by decide +kernel
theorem d7_4 : decode prog_55_method_4_code 4 = .ok (.lconst 0, 1) := by decide +kernel
theorem d7_5 : decode prog_55_method_4_code 5 = .ok (.lcmp, 1) := by decide +kernel
theorem d7_6 : decode prog_55_method_4_code 6 = .ok (.ifCond .ne 16, 3) := by decide +kernel
theorem d7_9 : decode prog_55_method_4_code 9 = .ok (.aload_n 0, 1) := by decide +kernel
theorem d7_10 : decode prog_55_method_4_code 10 = .ok (.getfield 19, 3) := by decide +kernel
theorem d7_13 : decode prog_55_method_4_code 13 = .ok (.lconst 0, 1) := by decide +kernel
theorem d7_14 : decode prog_55_method_4_code 14 = .ok (.lcmp, 1) := by decide +kernel
theorem d7_15 : decode prog_55_method_4_code 15 = .ok (.ifCond .ne 7, 3) := by decide +kernel
theorem d7_18 : decode prog_55_method_4_code 18 = .ok (.iconst 1, 1) := by decide +kernel
theorem d7_19 : decode prog_55_method_4_code 19 = .ok (.goto 4, 3) := by decide +kernel
theorem d7_22 : decode prog_55_method_4_code 22 = .ok (.iconst 0, 1) := by decide +kernel
theorem d7_23 : decode prog_55_method_4_code 23 = .ok (.ireturn, 1) := by decide +kernel
theorem pnisz : plainName "com/example/ostracon/ostracon/WideSum" = true := by first | (simp [plainName, overriddenIn]; done) | decide +kernel
theorem efisz (m : MethodId) (z0 : Addr) : entryFrame m #[(.ref z0)] 1 = mkF m 0 #[.val (.ref z0)] [] := by first | (simp [entryFrame, mkF, argsToLocals, Value.category]; done) | rfl
def Qisz (Z : State) (o : Addr) (lo : Int64) (hi : Int64) (h0 : Heap) (n0 : Nat) (v : Option Value) (h : Heap) (L : List Loc) : Prop := v = some (.int (own_isz lo hi)) ∧ Fr n0 L ∧ h = h0
set_option maxRecDepth 65536 in
set_option maxHeartbeats 40000000 in
theorem rmisz (l : Launch) (Z : State) (a0 : Array Value) (hw : ∀ d ∈ tables_1, d.before a0 Z = true) (ws : List Jvm.Cond) (o : Addr) (lo : Int64) (hi : Int64) (h0 : Heap) (n0 : Nat) (Z0 : n0 ≤ h0.size) (L_o : Fld Z h0 o "com/example/ostracon/ostracon/WideSum" "low" "J" (.long lo)) (H_o : Fld Z h0 o "com/example/ostracon/ostracon/WideSum" "high" "J" (.long hi)) :
    MetFree l (⟨"com/example/ostracon/ostracon/WideSum", "isZero", "()Z"⟩ : MethodName) (head1 (Jvm.Cond.code (⟨"com/example/ostracon/ostracon/WideSum", "isZero", "()Z"⟩ : MethodName) prog_55_method_4_code 1 (some .boolean) :: ws) ({ frames := 0, cells := 0, slots := 0, locals := 0 } : Room)) (fun a U => a = #[(.ref o)] ∧ Z.Warmed39 U.vm ∧ U.heap = h0) (fun _ _ _ _ _ => True) (fun _ U oc U' => ∃ v L, oc = .returned v ∧ Qisz Z o lo hi h0 n0 v U'.heap L ∧ FrameEnd U oc U' L ({ frames := 0, cells := 0, slots := 0, locals := 0 } : Room).cells ({ frames := 0, cells := 0, slots := 0, locals := 0 } : Room).slots) := by
  refine MetFree.of_bodySF (plainFor_of_name pnisz) hisR ?_
  intro p e s m args below meth c s₁ Bd hml0 hP hK
  obtain ⟨rfl, hZ, hh⟩ := hP
  have hx := Bd.exec
  have hby := Bd.bytes
  have hml : c.maxLocals = 1 := hml0
  have hown : s.vm.findClass "com/example/ostracon/ostracon/WideSum" = some m.cls := findClass_of_methodNamed Bd.named
  have hnm := (name_of_methodNamed Bd.named Bd.method).1
  have X0 : Stand p l e ({ frames := 0, cells := 0, slots := 0, locals := 0 } : Room) s m #[(.ref o)] below meth c s₁ [] 0 0 := Stand.of_body Bd
  have e0 : s₁.heap = h0 := by rw [← hh, Bd.state]; rfl
  have N0 := Fr.nil n0
  show own_Go p e below (fun s₂ oc => ∃ v L, oc = .returned v ∧ Qisz Z o lo hi h0 n0 v s₂.heap L ∧ FrameEnd s oc s₂ L ({ frames := 0, cells := 0, slots := 0, locals := 0 } : Room).cells ({ frames := 0, cells := 0, slots := 0, locals := 0 } : Room).slots) s₁ (entryFrame m #[(.ref o)] 1)
  refine own_Go.of (g' := mkF m 0 #[.val (.ref o)] []) (fun t k => castTop (efisz m o) k) ?_
  have hv : own_isz lo hi = own_isz lo hi := rfl
  refine og_aloadN (pc' := 1) X0 hx (hb hby d7_0) rfl rfl rfl ?_
  obtain ⟨T1, X1, e1, st1⟩ := getF X0 hx hZ hown (host := "") (Or.inl (hw _ (List.mem_of_getElem? (i := 15) rfl))) Via.refl e0 L_o (g := (mkF m 1 #[.val (.ref o)] [(.ref o)])) rfl rfl (hb hby d7_1)
  refine own_Go.of (g' := (mkF m 4 #[.val (.ref o)] [(.long lo)])) (fun t k => st1 _ k) ?_
  refine og_lconst0 (pc' := 5) X1 hx (hb hby d7_4) rfl ?_
  refine og_lcmp (pc' := 6) X1 hx (hb hby d7_5) rfl ?_
  by_cases hc6_1 : lo = (0 : Int64)
  · have hv := hv.trans (if_pos hc6_1)
    refine og_ifNo (pc' := 9) X1 hx (hb hby d7_6) ((if0 _ _).trans (teq ((lw_eq _ _).mpr hc6_1)).2) rfl ?_
    refine og_aloadN (pc' := 10) X1 hx (hb hby d7_9) rfl rfl rfl ?_
    obtain ⟨T2, X2, e2, st2⟩ := getF X1 hx hZ hown (host := "") (Or.inl (hw _ (List.mem_of_getElem? (i := 35) rfl))) Via.refl e1 H_o (g := (mkF m 10 #[.val (.ref o)] [(.ref o)])) rfl rfl (hb hby d7_10)
    refine own_Go.of (g' := (mkF m 13 #[.val (.ref o)] [(.long hi)])) (fun t k => st2 _ k) ?_
    refine og_lconst0 (pc' := 14) X2 hx (hb hby d7_13) rfl ?_
    refine og_lcmp (pc' := 15) X2 hx (hb hby d7_14) rfl ?_
    by_cases hc15_2 : hi = (0 : Int64)
    · have hv := hv.trans (if_pos hc15_2)
      refine og_ifNo (pc' := 18) X2 hx (hb hby d7_15) ((if0 _ _).trans (teq ((lw_eq _ _).mpr hc15_2)).2) rfl ?_
      refine og_iconst (pc' := 19) (n := 1) X2 hx (hb hby d7_18) rfl rfl ?_
      refine og_goto (pc' := 23) X2 hx (hb hby d7_19) (by decide) (by decide) ?_
      obtain ⟨fs, hr, hrun, hended, hW, hsame⟩ := X2.leave (v := some (.int (1 : Int32))) (fun h => by rw [Bd.returns] at h; cases h) (BodyLoose.notSynchronized Bd)
      refine ⟨_, _, retN X2 hx (t := .boolean) Bd.returns (by simp) (hb hby d7_23) hr, hrun, hended, some (.int (1 : Int32)), _, rfl, ?_, ⟨_, rfl⟩, hW, hsame.mono (by decide) (by decide)⟩
      show Qisz Z o lo hi h0 n0 _ T2.heap _
      rw [e2]
      exact ⟨(congrArg (fun z => some (Value.int z)) hv.symm), N0, rfl⟩
    · have hv := hv.trans (if_neg hc15_2)
      refine og_ifYes (pc' := 22) X2 hx (hb hby d7_15) ((if0 _ _).trans (feq (fun q => hc15_2 ((lw_eq _ _).mp q))).2) (by decide) (by decide) ?_
      refine og_iconst (pc' := 23) (n := 0) X2 hx (hb hby d7_22) rfl rfl ?_
      obtain ⟨fs, hr, hrun, hended, hW, hsame⟩ := X2.leave (v := some (.int (0 : Int32))) (fun h => by rw [Bd.returns] at h; cases h) (BodyLoose.notSynchronized Bd)
      refine ⟨_, _, retN X2 hx (t := .boolean) Bd.returns (by simp) (hb hby d7_23) hr, hrun, hended, some (.int (0 : Int32)), _, rfl, ?_, ⟨_, rfl⟩, hW, hsame.mono (by decide) (by decide)⟩
      show Qisz Z o lo hi h0 n0 _ T2.heap _
      rw [e2]
      exact ⟨(congrArg (fun z => some (Value.int z)) hv.symm), N0, rfl⟩
  · have hv := hv.trans (if_neg hc6_1)
    refine og_ifYes (pc' := 22) X1 hx (hb hby d7_6) ((if0 _ _).trans (feq (fun q => hc6_1 ((lw_eq _ _).mp q))).2) (by decide) (by decide) ?_
    refine og_iconst (pc' := 23) (n := 0) X1 hx (hb hby d7_22) rfl rfl ?_
    obtain ⟨fs, hr, hrun, hended, hW, hsame⟩ := X1.leave (v := some (.int (0 : Int32))) (fun h => by rw [Bd.returns] at h; cases h) (BodyLoose.notSynchronized Bd)
    refine ⟨_, _, retN X1 hx (t := .boolean) Bd.returns (by simp) (hb hby d7_23) hr, hrun, hended, some (.int (0 : Int32)), _, rfl, ?_, ⟨_, rfl⟩, hW, hsame.mono (by decide) (by decide)⟩
    show Qisz Z o lo hi h0 n0 _ T1.heap _
    rw [e1]
    exact ⟨(congrArg (fun z => some (Value.int z)) hv.symm), N0, rfl⟩

def own_rep (lo hi : Int64) (n : Int) : Prop := lo.toInt % 18446744073709551616 + 18446744073709551616 * hi.toInt = n
theorem own_rep0 : own_rep (0 : Int64) (0 : Int64) 0 := by unfold own_rep; decide
theorem own_mask {a X : Int64} (h : (a &&& (9223372036854775807 : Int64)) = X) : 0 ≤ X.toInt ∧ X.toInt < 9223372036854775808 := by
  have q := c_maskL a (9223372036854775807 : Int64) 63 (by decide) (by decide)
  rw [h] at q
  have e : ((2 ^ 63 : Nat) : Int) = 9223372036854775808 := by decide
  rw [e] at q
  omega
theorem own_cmp_lt (a b : Int64) : own_cmp a b < (0 : Int32) ↔ a < b := by
  unfold own_cmp
  by_cases h : a < b
  · simp [h]
  · by_cases h2 : a = b
    · simp [h, h2]
    · simp [h, h2]
theorem own_cu_lt (a b : Int64) : own_cu a b < (0 : Int32) ↔ a.toInt % 18446744073709551616 < b.toInt % 18446744073709551616 := by
  unfold own_cu
  rw [own_cmp_lt, Int64.lt_iff_toInt_lt]
  have h1 := c_ladd a (-9223372036854775808 : Int64)
  have h2 := c_ladd b (-9223372036854775808 : Int64)
  have e : (-9223372036854775808 : Int64).toInt = -9223372036854775808 := by decide
  rw [e] at h1 h2
  have r1 := rng64 a
  have r2 := rng64 b
  have r3 := rng64 (a + (-9223372036854775808 : Int64))
  have r4 := rng64 (b + (-9223372036854775808 : Int64))
  omega
theorem own_rep_add {lo hi x : Int64} {n : Int} (r : own_rep lo hi n) (hx : 0 ≤ x.toInt) (h0 : 0 ≤ n) (h1 : n < 1000000000000000000000000) : own_rep (lo + x) (own_ah lo hi x) (n + x.toInt) := by
  unfold own_rep at r ⊢
  have q1 := c_ladd lo x
  have q2 := c_ladd hi 1
  have e : (1 : Int64).toInt = 1 := by decide
  rw [e] at q2
  have r1 := rng64 lo
  have r2 := rng64 hi
  have r3 := rng64 (lo + x)
  have r4 := rng64 (hi + 1)
  have r5 := rng64 x
  have q3 := own_cu_lt (lo + x) lo
  unfold own_ah
  by_cases h : own_cu (lo + x) lo < (0 : Int32)
  · rw [if_pos h]
    have q4 := q3.mp h
    omega
  · rw [if_neg h]
    have q4 : ¬ _ := fun z => h (q3.mpr z)
    omega
theorem own_rep_sub {lo hi x : Int64} {n : Int} (r : own_rep lo hi n) (hx : 0 ≤ x.toInt) (h0 : x.toInt ≤ n) (h1 : n < 1000000000000000000000000) : own_rep (lo - x) (own_sh lo hi x) (n - x.toInt) := by
  unfold own_rep at r ⊢
  have q1 := c_lsub lo x
  have q2 := c_lsub hi 1
  have e : (1 : Int64).toInt = 1 := by decide
  rw [e] at q2
  have r1 := rng64 lo
  have r2 := rng64 hi
  have r3 := rng64 (lo - x)
  have r4 := rng64 (hi - 1)
  have r5 := rng64 x
  have q3 := own_cu_lt lo x
  unfold own_sh
  by_cases h : own_cu lo x < (0 : Int32)
  · rw [if_pos h]
    have q4 := q3.mp h
    omega
  · rw [if_neg h]
    have q4 : ¬ _ := fun z => h (q3.mpr z)
    omega
theorem own_eq0 (X : Int64) : (X = (0 : Int64)) = (X.toInt = 0) := by
  rw [← Int64.toInt_inj]; rfl
theorem own_isz_rep {lo hi : Int64} {n : Int} (r : own_rep lo hi n) : own_isz lo hi = if n = 0 then (1 : Int32) else (0 : Int32) := by
  unfold own_rep at r
  have r1 := rng64 lo
  have r2 := rng64 hi
  unfold own_isz
  simp only [own_eq0]
  (repeat' split) <;> first | rfl | omega

theorem pn0 : plainName "com/example/ostracon/ostracon/WideSumIsZeroPinLaw" = true := by first | (simp [plainName, overriddenIn]; done) | decide +kernel
theorem pd_1 : parseMethodDescriptor "()V" = some ⟨[], none⟩ := by decide +kernel
theorem pd_2 : parseMethodDescriptor "(J)V" = some ⟨[.long], none⟩ := by decide +kernel
theorem pd_3 : parseMethodDescriptor "()Z" = some ⟨[], some .boolean⟩ := by decide +kernel
theorem ef0 (m : MethodId) (z0 : Int64) (z1 : Int64) (z2 : Int64) (z3 : Int32) : entryFrame m #[(.long z0), (.long z1), (.long z2), (.int z3)] maxLocals = mkF m 0 #[.val (.long z0), .second, .val (.long z1), .second, .val (.long z2), .second, .val (.int z3), .unset, .unset, .unset, .unset, .unset, .unset, .unset, .unset, .unset, .unset, .unset] [] := by first | (simp [entryFrame, mkF, argsToLocals, Value.category, maxLocals]; done) | rfl
def Q0 (Z : State) (x0 : Int64) (x1 : Int64) (x2 : Int64) (x3 : Int32) (h0 : Heap) (n0 : Nat) (v : Option Value) (h : Heap) (L : List Loc) : Prop := v = some (.int 1) ∧ Fr n0 L
set_option maxRecDepth 65536 in
set_option maxHeartbeats 40000000 in
theorem rm0 (l : Launch) (Z : State) (a0 : Array Value) (hw : ∀ d ∈ tables_1, d.before a0 Z = true) (ws : List Jvm.Cond) (x0 : Int64) (x1 : Int64) (x2 : Int64) (x3 : Int32) (h0 : Heap) (n0 : Nat) (Z0 : n0 ≤ h0.size) :
    MetFree l x (head1 (Jvm.Cond.code x code maxLocals ret :: ws) room_1) (fun a U => a = #[(.long x0), (.long x1), (.long x2), (.int x3)] ∧ Z.Warmed39 U.vm ∧ U.heap = h0) (fun _ _ _ _ _ => True) (fun _ U oc U' => ∃ v L, oc = .returned v ∧ Q0 Z x0 x1 x2 x3 h0 n0 v U'.heap L ∧ FrameEnd U oc U' L room_1.cells room_1.slots) := by
  refine MetFree.of_bodySF (plainFor_of_name pn0) hisR ?_
  intro p e s m args below meth c s₁ Bd hml0 hP hK
  obtain ⟨rfl, hZ, hh⟩ := hP
  have hx := Bd.exec
  have hby := Bd.bytes
  have hml : c.maxLocals = 18 := hml0
  have hown : s.vm.findClass "com/example/ostracon/ostracon/WideSumIsZeroPinLaw" = some m.cls := findClass_of_methodNamed Bd.named
  have hnm := (name_of_methodNamed Bd.named Bd.method).1
  have X0 : Stand p l e room_1 s m #[(.long x0), (.long x1), (.long x2), (.int x3)] below meth c s₁ [] 0 0 := Stand.of_body Bd
  have e0 : s₁.heap = h0 := by rw [← hh, Bd.state]; rfl
  have N0 := Fr.nil n0
  show own_Go p e below (fun s₂ oc => ∃ v L, oc = .returned v ∧ Q0 Z x0 x1 x2 x3 h0 n0 v s₂.heap L ∧ FrameEnd s oc s₂ L room_1.cells room_1.slots) s₁ (entryFrame m #[(.long x0), (.long x1), (.long x2), (.int x3)] maxLocals)
  refine own_Go.of (g' := mkF m 0 #[.val (.long x0), .second, .val (.long x1), .second, .val (.long x2), .second, .val (.int x3), .unset, .unset, .unset, .unset, .unset, .unset, .unset, .unset, .unset, .unset, .unset] []) (fun t k => castTop (ef0 m x0 x1 x2 x3) k) ?_
  refine og_lloadN (pc' := 1) X0 hx (hb hby at_0) rfl rfl ?_
  refine og_ldc2_w (pc' := 4) X0 hx (hb hby at_1) hown (mvT hZ (hw _ (List.mem_of_getElem? (i := 0) rfl))) rfl ?_
  refine og_land (pc' := 5) X0 hx (hb hby at_4) rfl ?_
  refine og_lstore (pc' := 7) (L' := #[.val (.long x0), .second, .val (.long x1), .second, .val (.long x2), .second, .val (.int x3), .val (.long (x0 &&& (9223372036854775807 : Int64))), .second, .unset, .unset, .unset, .unset, .unset, .unset, .unset, .unset, .unset]) X0 hx (hb hby at_5) rfl rfl ?_
  generalize hX : (x0 &&& (9223372036854775807 : Int64)) = X
  have mX := own_mask hX
  refine og_lloadN (pc' := 8) X0 hx (hb hby at_7) rfl rfl ?_
  refine og_ldc2_w (pc' := 11) X0 hx (hb hby at_8) hown (mvT hZ (hw _ (List.mem_of_getElem? (i := 0) rfl))) rfl ?_
  refine og_land (pc' := 12) X0 hx (hb hby at_11) rfl ?_
  refine og_lstore (pc' := 14) (L' := #[.val (.long x0), .second, .val (.long x1), .second, .val (.long x2), .second, .val (.int x3), .val (.long X), .second, .val (.long (x1 &&& (9223372036854775807 : Int64))), .second, .unset, .unset, .unset, .unset, .unset, .unset, .unset]) X0 hx (hb hby at_12) rfl rfl ?_
  generalize hY : (x1 &&& (9223372036854775807 : Int64)) = Y
  have mY := own_mask hY
  refine og_lload (pc' := 16) X0 hx (hb hby at_14) rfl rfl ?_
  refine og_ldc2_w (pc' := 19) X0 hx (hb hby at_16) hown (mvT hZ (hw _ (List.mem_of_getElem? (i := 0) rfl))) rfl ?_
  refine og_land (pc' := 20) X0 hx (hb hby at_19) rfl ?_
  refine og_lstore (pc' := 22) (L' := #[.val (.long x0), .second, .val (.long x1), .second, .val (.long x2), .second, .val (.int x3), .val (.long X), .second, .val (.long Y), .second, .val (.long (x2 &&& (9223372036854775807 : Int64))), .second, .unset, .unset, .unset, .unset, .unset]) X0 hx (hb hby at_20) rfl rfl ?_
  generalize hU : (x2 &&& (9223372036854775807 : Int64)) = U
  have mU := own_mask hU
  refine og_iload (pc' := 24) X0 hx (hb hby at_22) rfl rfl ?_
  refine og_iconst (pc' := 25) (n := 1) X0 hx (hb hby at_24) rfl rfl ?_
  refine og_iand (pc' := 26) X0 hx (hb hby at_25) rfl ?_
  refine own_via (A := own_Go p e below (fun s₂ oc => ∃ v L, oc = .returned v ∧ Q0 Z x0 x1 x2 x3 h0 n0 v s₂.heap L ∧ FrameEnd s oc s₂ L room_1.cells room_1.slots) s₁ (mkF m 34 #[.val (.long x0), .second, .val (.long x1), .second, .val (.long x2), .second, .val (.int x3), .val (.long X), .second, .val (.long Y), .second, .val (.long U), .second, .unset, .unset, .unset, .unset, .unset] [(.int (if (x3 &&& (1 : Int32)) = (0 : Int32) then (0 : Int32) else (1 : Int32)))])) (fun k => ?_) ?_
  · by_cases hc26_1 : (x3 &&& (1 : Int32)) = (0 : Int32)
    · refine og_ifYes (pc' := 33) X0 hx (hb hby at_26) ((if0 _ _).trans (teq hc26_1).1) (by decide) (by decide) ?_
      refine og_iconst (pc' := 34) (n := 0) X0 hx (hb hby at_33) rfl rfl ?_
      simp only [if_pos hc26_1] at k
      exact k
    · refine og_ifNo (pc' := 29) X0 hx (hb hby at_26) ((if0 _ _).trans (feq hc26_1).1) rfl ?_
      refine og_iconst (pc' := 30) (n := 1) X0 hx (hb hby at_29) rfl rfl ?_
      refine og_goto (pc' := 34) X0 hx (hb hby at_30) (by decide) (by decide) ?_
      simp only [if_neg hc26_1] at k
      exact k
  refine og_istore (pc' := 36) (L' := #[.val (.long x0), .second, .val (.long x1), .second, .val (.long x2), .second, .val (.int x3), .val (.long X), .second, .val (.long Y), .second, .val (.long U), .second, .val (.int (if (x3 &&& (1 : Int32)) = (0 : Int32) then (0 : Int32) else (1 : Int32))), .unset, .unset, .unset, .unset]) X0 hx (hb hby at_34) rfl rfl ?_
  generalize hsa : (if (x3 &&& (1 : Int32)) = (0 : Int32) then (0 : Int32) else (1 : Int32)) = sa
  refine og_iload (pc' := 38) X0 hx (hb hby at_36) rfl rfl ?_
  refine og_iconst (pc' := 39) (n := 2) X0 hx (hb hby at_38) rfl rfl ?_
  refine og_iand (pc' := 40) X0 hx (hb hby at_39) rfl ?_
  refine own_via (A := own_Go p e below (fun s₂ oc => ∃ v L, oc = .returned v ∧ Q0 Z x0 x1 x2 x3 h0 n0 v s₂.heap L ∧ FrameEnd s oc s₂ L room_1.cells room_1.slots) s₁ (mkF m 48 #[.val (.long x0), .second, .val (.long x1), .second, .val (.long x2), .second, .val (.int x3), .val (.long X), .second, .val (.long Y), .second, .val (.long U), .second, .val (.int sa), .unset, .unset, .unset, .unset] [(.int (if (x3 &&& (2 : Int32)) = (0 : Int32) then (0 : Int32) else (1 : Int32)))])) (fun k => ?_) ?_
  · by_cases hc40_2 : (x3 &&& (2 : Int32)) = (0 : Int32)
    · refine og_ifYes (pc' := 47) X0 hx (hb hby at_40) ((if0 _ _).trans (teq hc40_2).1) (by decide) (by decide) ?_
      refine og_iconst (pc' := 48) (n := 0) X0 hx (hb hby at_47) rfl rfl ?_
      simp only [if_pos hc40_2] at k
      exact k
    · refine og_ifNo (pc' := 43) X0 hx (hb hby at_40) ((if0 _ _).trans (feq hc40_2).1) rfl ?_
      refine og_iconst (pc' := 44) (n := 1) X0 hx (hb hby at_43) rfl rfl ?_
      refine og_goto (pc' := 48) X0 hx (hb hby at_44) (by decide) (by decide) ?_
      simp only [if_neg hc40_2] at k
      exact k
  refine og_istore (pc' := 50) (L' := #[.val (.long x0), .second, .val (.long x1), .second, .val (.long x2), .second, .val (.int x3), .val (.long X), .second, .val (.long Y), .second, .val (.long U), .second, .val (.int sa), .val (.int (if (x3 &&& (2 : Int32)) = (0 : Int32) then (0 : Int32) else (1 : Int32))), .unset, .unset, .unset]) X0 hx (hb hby at_48) rfl rfl ?_
  generalize hsb : (if (x3 &&& (2 : Int32)) = (0 : Int32) then (0 : Int32) else (1 : Int32)) = sb
  refine og_iload (pc' := 52) X0 hx (hb hby at_50) rfl rfl ?_
  refine og_iconst (pc' := 53) (n := 4) X0 hx (hb hby at_52) rfl rfl ?_
  refine og_iand (pc' := 54) X0 hx (hb hby at_53) rfl ?_
  refine own_via (A := own_Go p e below (fun s₂ oc => ∃ v L, oc = .returned v ∧ Q0 Z x0 x1 x2 x3 h0 n0 v s₂.heap L ∧ FrameEnd s oc s₂ L room_1.cells room_1.slots) s₁ (mkF m 62 #[.val (.long x0), .second, .val (.long x1), .second, .val (.long x2), .second, .val (.int x3), .val (.long X), .second, .val (.long Y), .second, .val (.long U), .second, .val (.int sa), .val (.int sb), .unset, .unset, .unset] [(.int (if (x3 &&& (4 : Int32)) = (0 : Int32) then (0 : Int32) else (1 : Int32)))])) (fun k => ?_) ?_
  · by_cases hc54_3 : (x3 &&& (4 : Int32)) = (0 : Int32)
    · refine og_ifYes (pc' := 61) X0 hx (hb hby at_54) ((if0 _ _).trans (teq hc54_3).1) (by decide) (by decide) ?_
      refine og_iconst (pc' := 62) (n := 0) X0 hx (hb hby at_61) rfl rfl ?_
      simp only [if_pos hc54_3] at k
      exact k
    · refine og_ifNo (pc' := 57) X0 hx (hb hby at_54) ((if0 _ _).trans (feq hc54_3).1) rfl ?_
      refine og_iconst (pc' := 58) (n := 1) X0 hx (hb hby at_57) rfl rfl ?_
      refine og_goto (pc' := 62) X0 hx (hb hby at_58) (by decide) (by decide) ?_
      simp only [if_neg hc54_3] at k
      exact k
  refine og_istore (pc' := 64) (L' := #[.val (.long x0), .second, .val (.long x1), .second, .val (.long x2), .second, .val (.int x3), .val (.long X), .second, .val (.long Y), .second, .val (.long U), .second, .val (.int sa), .val (.int sb), .val (.int (if (x3 &&& (4 : Int32)) = (0 : Int32) then (0 : Int32) else (1 : Int32))), .unset, .unset]) X0 hx (hb hby at_62) rfl rfl ?_
  generalize hsc : (if (x3 &&& (4 : Int32)) = (0 : Int32) then (0 : Int32) else (1 : Int32)) = sc
  obtain ⟨T1, h1, X1, e1, E1, A1, D1, -, st1⟩ := newO X0 hx hZ hown (hw _ (List.mem_of_getElem? (i := 1) rfl)) (hw _ (List.mem_of_getElem? (i := 2) rfl)) (hw _ (List.mem_of_getElem? (i := 3) rfl)) e0 (g := (mkF m 64 #[.val (.long x0), .second, .val (.long x1), .second, .val (.long x2), .second, .val (.int x3), .val (.long X), .second, .val (.long Y), .second, .val (.long U), .second, .val (.int sa), .val (.int sb), .val (.int sc), .unset, .unset] [])) rfl (hb hby at_64) (by decide) (by decide)
  obtain ⟨b1, g1⟩ : ∃ z, z = h0.size := ⟨_, rfl⟩
  rw [← g1] at A1 D1 st1
  have g_b1 : n0 ≤ b1 := Nat.le_trans Z0 (Nat.le_of_eq g1.symm)
  have sz_b1 : h0.size ≤ b1 := Nat.le_trans (Keep.refl h0 []).1 (Nat.le_of_eq g1.symm)
  have F1_low : Fld Z h1 b1 "com/example/ostracon/ostracon/WideSum" "low" "J" (.long (0 : Int64)) := D1 (Or.inl (hw _ (List.mem_of_getElem? (i := 16) rfl))) (ty := .long) (by decide)
  have F1_high : Fld Z h1 b1 "com/example/ostracon/ostracon/WideSum" "high" "J" (.long (0 : Int64)) := D1 (Or.inl (hw _ (List.mem_of_getElem? (i := 36) rfl))) (ty := .long) (by decide)
  have K1 : Keep h0 h1 [] := (Keep.refl h0 []).ext E1
  have Z1 : n0 ≤ h1.size := Nat.le_trans Z0 K1.1
  refine own_Go.of (g' := (mkF m 67 #[.val (.long x0), .second, .val (.long x1), .second, .val (.long x2), .second, .val (.int x3), .val (.long X), .second, .val (.long Y), .second, .val (.long U), .second, .val (.int sa), .val (.int sb), .val (.int sc), .unset, .unset] [(.ref b1)])) (fun t k => st1 _ k) ?_
  refine og_dup (pc' := 68) X1 hx (hb hby at_67) rfl rfl ?_
  obtain ⟨_, _, ⟨T2, L2, k2, n2⟩, -, X2, ⟨Lc2, hQ2, l2, y2, z2⟩, st2⟩ := X1.specialBack hx (y := (⟨"com/example/ostracon/ostracon/WideSum", "<init>", "()V"⟩ : MethodName)) rfl hown (mvT hZ (hw _ (List.mem_of_getElem? (i := 4) rfl))) (mvT hZ (hw _ (List.mem_of_getElem? (i := 5) rfl))) (mvT hZ (hw _ (List.mem_of_getElem? (i := 6) rfl))) (by decide) (backOf (W := 1) (rmini l Z a0 hw [] b1 h1 n0 Z1 ) hZ (hw _ (List.mem_of_getElem? (i := 6) rfl)) (hw _ (List.mem_of_getElem? (i := 3) rfl)) (by decide) (by decide)) (g := (mkF m 68 #[.val (.long x0), .second, .val (.long x1), .second, .val (.long x2), .second, .val (.int x3), .val (.long X), .second, .val (.long Y), .second, .val (.long U), .second, .val (.int sa), .val (.int sb), .val (.int sc), .unset, .unset] [(.ref b1), (.ref b1)])) rfl (by rw [hml]; rfl) (Steps.refl _) (a := b1) (argsL := []) (rest := [(.ref b1)]) (lenOf pd_1 rfl) rfl (by show 2 * 0 + _ ≤ _; exact Nat.le_of_eq rfl) (hb hby at_68) (fun _ _ => ⟨rfl, e1, (by decide : 1 + 0 ≤ _), (by decide : 2 + 0 ≤ _)⟩)
  dsimp only [Pt.U, Pt.locs, Pt.cells, Pt.slots] at X2 l2 y2 z2 st2 hQ2
  subst l2 y2 z2
  obtain ⟨rfl, N2q, e2⟩ := hQ2
  have N2 := Fr.app N0 N2q
  refine own_Go.of (g' := (mkF m 71 #[.val (.long x0), .second, .val (.long x1), .second, .val (.long x2), .second, .val (.int x3), .val (.long X), .second, .val (.long Y), .second, .val (.long U), .second, .val (.int sa), .val (.int sb), .val (.int sc), .unset, .unset] [(.ref b1)])) (fun t k => st2.trans k) ?_
  refine og_astore (pc' := 73) (L' := #[.val (.long x0), .second, .val (.long x1), .second, .val (.long x2), .second, .val (.int x3), .val (.long X), .second, .val (.long Y), .second, .val (.long U), .second, .val (.int sa), .val (.int sb), .val (.int sc), .val (.ref b1), .unset]) X2 hx (hb hby at_71) rfl rfl rfl ?_
  refine og_aload (pc' := 75) X2 hx (hb hby at_73) rfl rfl rfl ?_
  refine og_lload (pc' := 77) X2 hx (hb hby at_75) rfl rfl ?_
  obtain ⟨cq3, kq3, q3a, q3b, q3c⟩ := isOf hZ e2 A1
  obtain ⟨_, _, ⟨T3, L3, k3, n3⟩, -, X3, ⟨Lc3, hQ3, l3, y3, z3⟩, st3⟩ := X2.virtualBack hx (y := (⟨"com/example/ostracon/ostracon/WideSum", "add", "(J)V"⟩ : MethodName)) (z := (⟨"com/example/ostracon/ostracon/WideSum", "add", "(J)V"⟩ : MethodName)) hown (mvT hZ (hw _ (List.mem_of_getElem? (i := 10) rfl))) (mvT hZ (hw _ (List.mem_of_getElem? (i := 11) rfl))) (notFace_of_selects (args := #[]) (mvT hZ (hw _ (List.mem_of_getElem? (i := 13) rfl)))) (mvT hZ (hw _ (List.mem_of_getElem? (i := 13) rfl))) (mvT hZ (hw _ (List.mem_of_getElem? (i := 12) rfl))) (by decide) (backOf (W := 0) (rmadd l Z a0 hw [] b1 X (0 : Int64) (0 : Int64) h1 n0 Z1 A1 F1_low F1_high g_b1) hZ (hw _ (List.mem_of_getElem? (i := 14) rfl)) (hw _ (List.mem_of_getElem? (i := 3) rfl)) (by decide) (by decide)) q3a q3c (g := (mkF m 77 #[.val (.long x0), .second, .val (.long x1), .second, .val (.long x2), .second, .val (.int x3), .val (.long X), .second, .val (.long Y), .second, .val (.long U), .second, .val (.int sa), .val (.int sb), .val (.int sc), .val (.ref b1), .unset] [(.long X), (.ref b1)])) rfl (by rw [hml]; rfl) (Steps.refl _) (argsL := [(.long X)]) (rest := []) (lenOf pd_2 rfl) rfl (by show 2 * 0 + _ ≤ _; exact Nat.le_of_eq rfl) (hb hby at_77) (fun _ _ => ⟨rfl, e2, (by decide : 1 + 0 ≤ _), (by decide : 2 + 0 ≤ _)⟩)
  dsimp only [Pt.U, Pt.locs, Pt.cells, Pt.slots] at X3 l3 y3 z3 st3 hQ3
  subst l3 y3 z3
  obtain ⟨rfl, N3q, K3q, c3_0, c3_1, c3_2⟩ := hQ3
  have N3 := Fr.app N2 N3q
  have f3_0 := A1.keep K3q
  have K3 : Keep h0 T3.heap [] := K1.trans K3q (allS (Or.inr sz_b1) all0)
  have Z3 : n0 ≤ T3.heap.size := Nat.le_trans Z0 K3.1
  refine own_Go.of (g' := (mkF m 80 #[.val (.long x0), .second, .val (.long x1), .second, .val (.long x2), .second, .val (.int x3), .val (.long X), .second, .val (.long Y), .second, .val (.long U), .second, .val (.int sa), .val (.int sb), .val (.int sc), .val (.ref b1), .unset] [])) (fun t k => st3.trans k) ?_
  have R3 : own_rep ((0 : Int64) + X) (own_ah (0 : Int64) (0 : Int64) X) (0 + X.toInt) := own_rep_add own_rep0 (by omega) (by omega) (by omega)
  refine og_aload (pc' := 82) X3 hx (hb hby at_80) rfl rfl rfl ?_
  refine og_lload (pc' := 84) X3 hx (hb hby at_82) rfl rfl ?_
  obtain ⟨cq4, kq4, q4a, q4b, q4c⟩ := isOf hZ rfl c3_0
  obtain ⟨_, _, ⟨T4, L4, k4, n4⟩, -, X4, ⟨Lc4, hQ4, l4, y4, z4⟩, st4⟩ := X3.virtualBack hx (y := (⟨"com/example/ostracon/ostracon/WideSum", "add", "(J)V"⟩ : MethodName)) (z := (⟨"com/example/ostracon/ostracon/WideSum", "add", "(J)V"⟩ : MethodName)) hown (mvT hZ (hw _ (List.mem_of_getElem? (i := 10) rfl))) (mvT hZ (hw _ (List.mem_of_getElem? (i := 11) rfl))) (notFace_of_selects (args := #[]) (mvT hZ (hw _ (List.mem_of_getElem? (i := 13) rfl)))) (mvT hZ (hw _ (List.mem_of_getElem? (i := 13) rfl))) (mvT hZ (hw _ (List.mem_of_getElem? (i := 12) rfl))) (by decide) (backOf (W := 0) (rmadd l Z a0 hw [] b1 Y ((0 : Int64) + X) (own_ah (0 : Int64) (0 : Int64) X) T3.heap n0 Z3 c3_0 c3_1 c3_2 g_b1) hZ (hw _ (List.mem_of_getElem? (i := 14) rfl)) (hw _ (List.mem_of_getElem? (i := 3) rfl)) (by decide) (by decide)) q4a q4c (g := (mkF m 84 #[.val (.long x0), .second, .val (.long x1), .second, .val (.long x2), .second, .val (.int x3), .val (.long X), .second, .val (.long Y), .second, .val (.long U), .second, .val (.int sa), .val (.int sb), .val (.int sc), .val (.ref b1), .unset] [(.long Y), (.ref b1)])) rfl (by rw [hml]; rfl) (Steps.refl _) (argsL := [(.long Y)]) (rest := []) (lenOf pd_2 rfl) rfl (by show 2 * 0 + _ ≤ _; exact Nat.le_of_eq rfl) (hb hby at_84) (fun _ _ => ⟨rfl, rfl, (by decide : 1 + 0 ≤ _), (by decide : 2 + 0 ≤ _)⟩)
  dsimp only [Pt.U, Pt.locs, Pt.cells, Pt.slots] at X4 l4 y4 z4 st4 hQ4
  subst l4 y4 z4
  obtain ⟨rfl, N4q, K4q, c4_0, c4_1, c4_2⟩ := hQ4
  have N4 := Fr.app N3 N4q
  have f4_0 := c3_0.keep K4q
  have K4 : Keep h0 T4.heap [] := K3.trans K4q (allS (Or.inr sz_b1) all0)
  have Z4 : n0 ≤ T4.heap.size := Nat.le_trans Z0 K4.1
  refine own_Go.of (g' := (mkF m 87 #[.val (.long x0), .second, .val (.long x1), .second, .val (.long x2), .second, .val (.int x3), .val (.long X), .second, .val (.long Y), .second, .val (.long U), .second, .val (.int sa), .val (.int sb), .val (.int sc), .val (.ref b1), .unset] [])) (fun t k => st4.trans k) ?_
  have R4 : own_rep (((0 : Int64) + X) + Y) (own_ah ((0 : Int64) + X) (own_ah (0 : Int64) (0 : Int64) X) Y) ((0 + X.toInt) + Y.toInt) := own_rep_add R3 (by omega) (by omega) (by omega)
  refine og_aload (pc' := 89) X4 hx (hb hby at_87) rfl rfl rfl ?_
  refine og_lload (pc' := 91) X4 hx (hb hby at_89) rfl rfl ?_
  obtain ⟨cq5, kq5, q5a, q5b, q5c⟩ := isOf hZ rfl c4_0
  obtain ⟨_, _, ⟨T5, L5, k5, n5⟩, -, X5, ⟨Lc5, hQ5, l5, y5, z5⟩, st5⟩ := X4.virtualBack hx (y := (⟨"com/example/ostracon/ostracon/WideSum", "add", "(J)V"⟩ : MethodName)) (z := (⟨"com/example/ostracon/ostracon/WideSum", "add", "(J)V"⟩ : MethodName)) hown (mvT hZ (hw _ (List.mem_of_getElem? (i := 10) rfl))) (mvT hZ (hw _ (List.mem_of_getElem? (i := 11) rfl))) (notFace_of_selects (args := #[]) (mvT hZ (hw _ (List.mem_of_getElem? (i := 13) rfl)))) (mvT hZ (hw _ (List.mem_of_getElem? (i := 13) rfl))) (mvT hZ (hw _ (List.mem_of_getElem? (i := 12) rfl))) (by decide) (backOf (W := 0) (rmadd l Z a0 hw [] b1 U (((0 : Int64) + X) + Y) (own_ah ((0 : Int64) + X) (own_ah (0 : Int64) (0 : Int64) X) Y) T4.heap n0 Z4 c4_0 c4_1 c4_2 g_b1) hZ (hw _ (List.mem_of_getElem? (i := 14) rfl)) (hw _ (List.mem_of_getElem? (i := 3) rfl)) (by decide) (by decide)) q5a q5c (g := (mkF m 91 #[.val (.long x0), .second, .val (.long x1), .second, .val (.long x2), .second, .val (.int x3), .val (.long X), .second, .val (.long Y), .second, .val (.long U), .second, .val (.int sa), .val (.int sb), .val (.int sc), .val (.ref b1), .unset] [(.long U), (.ref b1)])) rfl (by rw [hml]; rfl) (Steps.refl _) (argsL := [(.long U)]) (rest := []) (lenOf pd_2 rfl) rfl (by show 2 * 0 + _ ≤ _; exact Nat.le_of_eq rfl) (hb hby at_91) (fun _ _ => ⟨rfl, rfl, (by decide : 1 + 0 ≤ _), (by decide : 2 + 0 ≤ _)⟩)
  dsimp only [Pt.U, Pt.locs, Pt.cells, Pt.slots] at X5 l5 y5 z5 st5 hQ5
  subst l5 y5 z5
  obtain ⟨rfl, N5q, K5q, c5_0, c5_1, c5_2⟩ := hQ5
  have N5 := Fr.app N4 N5q
  have f5_0 := c4_0.keep K5q
  have K5 : Keep h0 T5.heap [] := K4.trans K5q (allS (Or.inr sz_b1) all0)
  have Z5 : n0 ≤ T5.heap.size := Nat.le_trans Z0 K5.1
  refine own_Go.of (g' := (mkF m 94 #[.val (.long x0), .second, .val (.long x1), .second, .val (.long x2), .second, .val (.int x3), .val (.long X), .second, .val (.long Y), .second, .val (.long U), .second, .val (.int sa), .val (.int sb), .val (.int sc), .val (.ref b1), .unset] [])) (fun t k => st5.trans k) ?_
  have R5 : own_rep ((((0 : Int64) + X) + Y) + U) (own_ah (((0 : Int64) + X) + Y) (own_ah ((0 : Int64) + X) (own_ah (0 : Int64) (0 : Int64) X) Y) U) (((0 + X.toInt) + Y.toInt) + U.toInt) := own_rep_add R4 (by omega) (by omega) (by omega)
  refine og_iload (pc' := 96) X5 hx (hb hby at_94) rfl rfl ?_
  by_cases hc96_4 : sa = (0 : Int32)
  · refine og_ifYes (pc' := 106) X5 hx (hb hby at_96) ((if0 _ _).trans (teq hc96_4).1) (by decide) (by decide) ?_
    refine og_iload (pc' := 108) X5 hx (hb hby at_106) rfl rfl ?_
    by_cases hc108_5 : sb = (0 : Int32)
    · refine og_ifYes (pc' := 118) X5 hx (hb hby at_108) ((if0 _ _).trans (teq hc108_5).1) (by decide) (by decide) ?_
      refine og_iload (pc' := 120) X5 hx (hb hby at_118) rfl rfl ?_
      by_cases hc120_6 : sc = (0 : Int32)
      · refine og_ifYes (pc' := 130) X5 hx (hb hby at_120) ((if0 _ _).trans (teq hc120_6).1) (by decide) (by decide) ?_
        refine og_iload (pc' := 132) X5 hx (hb hby at_130) rfl rfl ?_
        refine own_via (A := own_Go p e below (fun s₂ oc => ∃ v L, oc = .returned v ∧ Q0 Z x0 x1 x2 x3 h0 n0 v s₂.heap L ∧ FrameEnd s oc s₂ L room_1.cells room_1.slots) T5 (mkF m 171 #[.val (.long x0), .second, .val (.long x1), .second, .val (.long x2), .second, .val (.int x3), .val (.long X), .second, .val (.long Y), .second, .val (.long U), .second, .val (.int sa), .val (.int sb), .val (.int sc), .val (.ref b1), .unset] [(.int (if X = (0 : Int64) then (if Y = (0 : Int64) then (if U = (0 : Int64) then (1 : Int32) else (0 : Int32)) else (0 : Int32)) else (0 : Int32)))])) (fun k => ?_) ?_
        · refine og_ifNo (pc' := 135) X5 hx (hb hby at_132) ((if0 _ _).trans (teq hc96_4).2) rfl ?_
          refine og_lload (pc' := 137) X5 hx (hb hby at_135) rfl rfl ?_
          refine og_lconst0 (pc' := 138) X5 hx (hb hby at_137) rfl ?_
          refine og_lcmp (pc' := 139) X5 hx (hb hby at_138) rfl ?_
          by_cases hc139_7 : X = (0 : Int64)
          · refine og_ifNo (pc' := 142) X5 hx (hb hby at_139) ((if0 _ _).trans (teq ((lw_eq _ _).mpr hc139_7)).2) rfl ?_
            refine og_iload (pc' := 144) X5 hx (hb hby at_142) rfl rfl ?_
            refine og_ifNo (pc' := 147) X5 hx (hb hby at_144) ((if0 _ _).trans (teq hc108_5).2) rfl ?_
            refine og_lload (pc' := 149) X5 hx (hb hby at_147) rfl rfl ?_
            refine og_lconst0 (pc' := 150) X5 hx (hb hby at_149) rfl ?_
            refine og_lcmp (pc' := 151) X5 hx (hb hby at_150) rfl ?_
            by_cases hc151_8 : Y = (0 : Int64)
            · refine og_ifNo (pc' := 154) X5 hx (hb hby at_151) ((if0 _ _).trans (teq ((lw_eq _ _).mpr hc151_8)).2) rfl ?_
              refine og_iload (pc' := 156) X5 hx (hb hby at_154) rfl rfl ?_
              refine og_ifNo (pc' := 159) X5 hx (hb hby at_156) ((if0 _ _).trans (teq hc120_6).2) rfl ?_
              refine og_lload (pc' := 161) X5 hx (hb hby at_159) rfl rfl ?_
              refine og_lconst0 (pc' := 162) X5 hx (hb hby at_161) rfl ?_
              refine og_lcmp (pc' := 163) X5 hx (hb hby at_162) rfl ?_
              by_cases hc163_9 : U = (0 : Int64)
              · refine og_ifNo (pc' := 166) X5 hx (hb hby at_163) ((if0 _ _).trans (teq ((lw_eq _ _).mpr hc163_9)).2) rfl ?_
                refine og_iconst (pc' := 167) (n := 1) X5 hx (hb hby at_166) rfl rfl ?_
                refine og_goto (pc' := 171) X5 hx (hb hby at_167) (by decide) (by decide) ?_
                simp only [if_pos hc139_7, if_pos hc151_8, if_pos hc163_9] at k
                exact k
              · refine og_ifYes (pc' := 170) X5 hx (hb hby at_163) ((if0 _ _).trans (feq (fun q => hc163_9 ((lw_eq _ _).mp q))).2) (by decide) (by decide) ?_
                refine og_iconst (pc' := 171) (n := 0) X5 hx (hb hby at_170) rfl rfl ?_
                simp only [if_pos hc139_7, if_pos hc151_8, if_neg hc163_9] at k
                exact k
            · refine og_ifYes (pc' := 170) X5 hx (hb hby at_151) ((if0 _ _).trans (feq (fun q => hc151_8 ((lw_eq _ _).mp q))).2) (by decide) (by decide) ?_
              refine og_iconst (pc' := 171) (n := 0) X5 hx (hb hby at_170) rfl rfl ?_
              simp only [if_pos hc139_7, if_neg hc151_8] at k
              exact k
          · refine og_ifYes (pc' := 170) X5 hx (hb hby at_139) ((if0 _ _).trans (feq (fun q => hc139_7 ((lw_eq _ _).mp q))).2) (by decide) (by decide) ?_
            refine og_iconst (pc' := 171) (n := 0) X5 hx (hb hby at_170) rfl rfl ?_
            simp only [if_neg hc139_7] at k
            exact k
        refine og_istore (pc' := 173) (L' := #[.val (.long x0), .second, .val (.long x1), .second, .val (.long x2), .second, .val (.int x3), .val (.long X), .second, .val (.long Y), .second, .val (.long U), .second, .val (.int sa), .val (.int sb), .val (.int sc), .val (.ref b1), .val (.int (if X = (0 : Int64) then (if Y = (0 : Int64) then (if U = (0 : Int64) then (1 : Int32) else (0 : Int32)) else (0 : Int32)) else (0 : Int32)))]) X5 hx (hb hby at_171) rfl rfl ?_
        refine og_aload (pc' := 175) X5 hx (hb hby at_173) rfl rfl rfl ?_
        obtain ⟨cq6, kq6, q6a, q6b, q6c⟩ := isOf hZ rfl c5_0
        obtain ⟨_, _, ⟨T6, L6, k6, n6⟩, -, X6, ⟨Lc6, hQ6, l6, y6, z6⟩, st6⟩ := X5.virtualBack hx (y := (⟨"com/example/ostracon/ostracon/WideSum", "isZero", "()Z"⟩ : MethodName)) (z := (⟨"com/example/ostracon/ostracon/WideSum", "isZero", "()Z"⟩ : MethodName)) hown (mvT hZ (hw _ (List.mem_of_getElem? (i := 30) rfl))) (mvT hZ (hw _ (List.mem_of_getElem? (i := 31) rfl))) (notFace_of_selects (args := #[]) (mvT hZ (hw _ (List.mem_of_getElem? (i := 33) rfl)))) (mvT hZ (hw _ (List.mem_of_getElem? (i := 33) rfl))) (mvT hZ (hw _ (List.mem_of_getElem? (i := 32) rfl))) (by decide) (backOf (W := 0) (rmisz l Z a0 hw [] b1 ((((0 : Int64) + X) + Y) + U) (own_ah (((0 : Int64) + X) + Y) (own_ah ((0 : Int64) + X) (own_ah (0 : Int64) (0 : Int64) X) Y) U) T5.heap n0 Z5 c5_1 c5_2) hZ (hw _ (List.mem_of_getElem? (i := 34) rfl)) (hw _ (List.mem_of_getElem? (i := 3) rfl)) (by decide) (by decide)) q6a q6c (g := (mkF m 175 #[.val (.long x0), .second, .val (.long x1), .second, .val (.long x2), .second, .val (.int x3), .val (.long X), .second, .val (.long Y), .second, .val (.long U), .second, .val (.int sa), .val (.int sb), .val (.int sc), .val (.ref b1), .val (.int (if X = (0 : Int64) then (if Y = (0 : Int64) then (if U = (0 : Int64) then (1 : Int32) else (0 : Int32)) else (0 : Int32)) else (0 : Int32)))] [(.ref b1)])) rfl (by rw [hml]; rfl) (Steps.refl _) (argsL := []) (rest := []) (lenOf pd_3 rfl) rfl (by show 2 * 0 + _ ≤ _; exact Nat.le_of_eq rfl) (hb hby at_175) (fun _ _ => ⟨rfl, rfl, (by decide : 1 + 0 ≤ _), (by decide : 2 + 0 ≤ _)⟩)
        dsimp only [Pt.U, Pt.locs, Pt.cells, Pt.slots] at X6 l6 y6 z6 st6 hQ6
        subst l6 y6 z6
        obtain ⟨rfl, N6q, e6⟩ := hQ6
        have N6 := Fr.app N5 N6q
        refine own_Go.of (g' := (mkF m 178 #[.val (.long x0), .second, .val (.long x1), .second, .val (.long x2), .second, .val (.int x3), .val (.long X), .second, .val (.long Y), .second, .val (.long U), .second, .val (.int sa), .val (.int sb), .val (.int sc), .val (.ref b1), .val (.int (if X = (0 : Int64) then (if Y = (0 : Int64) then (if U = (0 : Int64) then (1 : Int32) else (0 : Int32)) else (0 : Int32)) else (0 : Int32)))] [(.int (own_isz ((((0 : Int64) + X) + Y) + U) (own_ah (((0 : Int64) + X) + Y) (own_ah ((0 : Int64) + X) (own_ah (0 : Int64) (0 : Int64) X) Y) U)))])) (fun t k => st6.trans k) ?_
        refine og_iload (pc' := 180) X6 hx (hb hby at_178) rfl rfl ?_
        refine og_icmpNo (pc' := 183) X6 hx (hb hby at_180) (teq (by rw [own_isz_rep R5]; (try simp only [own_eq0]); (repeat' split) <;> first | rfl | omega)).2 rfl ?_
        refine og_iconst (pc' := 184) (n := 1) X6 hx (hb hby at_183) rfl rfl ?_
        refine og_goto (pc' := 188) X6 hx (hb hby at_184) (by decide) (by decide) ?_
        obtain ⟨fs, hr, hrun, hended, hW, hsame⟩ := X6.leave (v := some (.int (1 : Int32))) (fun h => by rw [Bd.returns] at h; cases h) (BodyLoose.notSynchronized Bd)
        refine ⟨_, _, retN X6 hx (t := .boolean) Bd.returns (by simp) (hb hby at_188) hr, hrun, hended, some (.int (1 : Int32)), _, rfl, ?_, ⟨_, rfl⟩, hW, hsame.mono (by decide) (by decide)⟩
        show Q0 Z x0 x1 x2 x3 h0 n0 _ T6.heap _
        rw [e6]
        exact ⟨rfl, N6⟩
      · refine og_ifNo (pc' := 123) X5 hx (hb hby at_120) ((if0 _ _).trans (feq hc120_6).1) rfl ?_
        refine og_aload (pc' := 125) X5 hx (hb hby at_123) rfl rfl rfl ?_
        refine og_lload (pc' := 127) X5 hx (hb hby at_125) rfl rfl ?_
        obtain ⟨cq7, kq7, q7a, q7b, q7c⟩ := isOf hZ rfl c5_0
        obtain ⟨_, _, ⟨T7, L7, k7, n7⟩, -, X7, ⟨Lc7, hQ7, l7, y7, z7⟩, st7⟩ := X5.virtualBack hx (y := (⟨"com/example/ostracon/ostracon/WideSum", "subtract", "(J)V"⟩ : MethodName)) (z := (⟨"com/example/ostracon/ostracon/WideSum", "subtract", "(J)V"⟩ : MethodName)) hown (mvT hZ (hw _ (List.mem_of_getElem? (i := 25) rfl))) (mvT hZ (hw _ (List.mem_of_getElem? (i := 26) rfl))) (notFace_of_selects (args := #[]) (mvT hZ (hw _ (List.mem_of_getElem? (i := 28) rfl)))) (mvT hZ (hw _ (List.mem_of_getElem? (i := 28) rfl))) (mvT hZ (hw _ (List.mem_of_getElem? (i := 27) rfl))) (by decide) (backOf (W := 0) (rmsub l Z a0 hw [] b1 U ((((0 : Int64) + X) + Y) + U) (own_ah (((0 : Int64) + X) + Y) (own_ah ((0 : Int64) + X) (own_ah (0 : Int64) (0 : Int64) X) Y) U) T5.heap n0 Z5 c5_0 c5_1 c5_2 g_b1) hZ (hw _ (List.mem_of_getElem? (i := 29) rfl)) (hw _ (List.mem_of_getElem? (i := 3) rfl)) (by decide) (by decide)) q7a q7c (g := (mkF m 127 #[.val (.long x0), .second, .val (.long x1), .second, .val (.long x2), .second, .val (.int x3), .val (.long X), .second, .val (.long Y), .second, .val (.long U), .second, .val (.int sa), .val (.int sb), .val (.int sc), .val (.ref b1), .unset] [(.long U), (.ref b1)])) rfl (by rw [hml]; rfl) (Steps.refl _) (argsL := [(.long U)]) (rest := []) (lenOf pd_2 rfl) rfl (by show 2 * 0 + _ ≤ _; exact Nat.le_of_eq rfl) (hb hby at_127) (fun _ _ => ⟨rfl, rfl, (by decide : 1 + 0 ≤ _), (by decide : 2 + 0 ≤ _)⟩)
        dsimp only [Pt.U, Pt.locs, Pt.cells, Pt.slots] at X7 l7 y7 z7 st7 hQ7
        subst l7 y7 z7
        obtain ⟨rfl, N7q, K7q, c7_0, c7_1, c7_2⟩ := hQ7
        have N7 := Fr.app N5 N7q
        have f7_0 := c5_0.keep K7q
        have K7 : Keep h0 T7.heap [] := K5.trans K7q (allS (Or.inr sz_b1) all0)
        have Z7 : n0 ≤ T7.heap.size := Nat.le_trans Z0 K7.1
        refine own_Go.of (g' := (mkF m 130 #[.val (.long x0), .second, .val (.long x1), .second, .val (.long x2), .second, .val (.int x3), .val (.long X), .second, .val (.long Y), .second, .val (.long U), .second, .val (.int sa), .val (.int sb), .val (.int sc), .val (.ref b1), .unset] [])) (fun t k => st7.trans k) ?_
        have R7 : own_rep (((((0 : Int64) + X) + Y) + U) - U) (own_sh ((((0 : Int64) + X) + Y) + U) (own_ah (((0 : Int64) + X) + Y) (own_ah ((0 : Int64) + X) (own_ah (0 : Int64) (0 : Int64) X) Y) U) U) ((((0 + X.toInt) + Y.toInt) + U.toInt) - U.toInt) := own_rep_sub R5 (by omega) (by omega) (by omega)
        refine og_iload (pc' := 132) X7 hx (hb hby at_130) rfl rfl ?_
        refine own_via (A := own_Go p e below (fun s₂ oc => ∃ v L, oc = .returned v ∧ Q0 Z x0 x1 x2 x3 h0 n0 v s₂.heap L ∧ FrameEnd s oc s₂ L room_1.cells room_1.slots) T7 (mkF m 171 #[.val (.long x0), .second, .val (.long x1), .second, .val (.long x2), .second, .val (.int x3), .val (.long X), .second, .val (.long Y), .second, .val (.long U), .second, .val (.int sa), .val (.int sb), .val (.int sc), .val (.ref b1), .unset] [(.int (if X = (0 : Int64) then (if Y = (0 : Int64) then (1 : Int32) else (0 : Int32)) else (0 : Int32)))])) (fun k => ?_) ?_
        · refine og_ifNo (pc' := 135) X7 hx (hb hby at_132) ((if0 _ _).trans (teq hc96_4).2) rfl ?_
          refine og_lload (pc' := 137) X7 hx (hb hby at_135) rfl rfl ?_
          refine og_lconst0 (pc' := 138) X7 hx (hb hby at_137) rfl ?_
          refine og_lcmp (pc' := 139) X7 hx (hb hby at_138) rfl ?_
          by_cases hc139_10 : X = (0 : Int64)
          · refine og_ifNo (pc' := 142) X7 hx (hb hby at_139) ((if0 _ _).trans (teq ((lw_eq _ _).mpr hc139_10)).2) rfl ?_
            refine og_iload (pc' := 144) X7 hx (hb hby at_142) rfl rfl ?_
            refine og_ifNo (pc' := 147) X7 hx (hb hby at_144) ((if0 _ _).trans (teq hc108_5).2) rfl ?_
            refine og_lload (pc' := 149) X7 hx (hb hby at_147) rfl rfl ?_
            refine og_lconst0 (pc' := 150) X7 hx (hb hby at_149) rfl ?_
            refine og_lcmp (pc' := 151) X7 hx (hb hby at_150) rfl ?_
            by_cases hc151_11 : Y = (0 : Int64)
            · refine og_ifNo (pc' := 154) X7 hx (hb hby at_151) ((if0 _ _).trans (teq ((lw_eq _ _).mpr hc151_11)).2) rfl ?_
              refine og_iload (pc' := 156) X7 hx (hb hby at_154) rfl rfl ?_
              refine og_ifYes (pc' := 166) X7 hx (hb hby at_156) ((if0 _ _).trans (feq hc120_6).2) (by decide) (by decide) ?_
              refine og_iconst (pc' := 167) (n := 1) X7 hx (hb hby at_166) rfl rfl ?_
              refine og_goto (pc' := 171) X7 hx (hb hby at_167) (by decide) (by decide) ?_
              simp only [if_pos hc139_10, if_pos hc151_11] at k
              exact k
            · refine og_ifYes (pc' := 170) X7 hx (hb hby at_151) ((if0 _ _).trans (feq (fun q => hc151_11 ((lw_eq _ _).mp q))).2) (by decide) (by decide) ?_
              refine og_iconst (pc' := 171) (n := 0) X7 hx (hb hby at_170) rfl rfl ?_
              simp only [if_pos hc139_10, if_neg hc151_11] at k
              exact k
          · refine og_ifYes (pc' := 170) X7 hx (hb hby at_139) ((if0 _ _).trans (feq (fun q => hc139_10 ((lw_eq _ _).mp q))).2) (by decide) (by decide) ?_
            refine og_iconst (pc' := 171) (n := 0) X7 hx (hb hby at_170) rfl rfl ?_
            simp only [if_neg hc139_10] at k
            exact k
        refine og_istore (pc' := 173) (L' := #[.val (.long x0), .second, .val (.long x1), .second, .val (.long x2), .second, .val (.int x3), .val (.long X), .second, .val (.long Y), .second, .val (.long U), .second, .val (.int sa), .val (.int sb), .val (.int sc), .val (.ref b1), .val (.int (if X = (0 : Int64) then (if Y = (0 : Int64) then (1 : Int32) else (0 : Int32)) else (0 : Int32)))]) X7 hx (hb hby at_171) rfl rfl ?_
        refine og_aload (pc' := 175) X7 hx (hb hby at_173) rfl rfl rfl ?_
        obtain ⟨cq8, kq8, q8a, q8b, q8c⟩ := isOf hZ rfl c7_0
        obtain ⟨_, _, ⟨T8, L8, k8, n8⟩, -, X8, ⟨Lc8, hQ8, l8, y8, z8⟩, st8⟩ := X7.virtualBack hx (y := (⟨"com/example/ostracon/ostracon/WideSum", "isZero", "()Z"⟩ : MethodName)) (z := (⟨"com/example/ostracon/ostracon/WideSum", "isZero", "()Z"⟩ : MethodName)) hown (mvT hZ (hw _ (List.mem_of_getElem? (i := 30) rfl))) (mvT hZ (hw _ (List.mem_of_getElem? (i := 31) rfl))) (notFace_of_selects (args := #[]) (mvT hZ (hw _ (List.mem_of_getElem? (i := 33) rfl)))) (mvT hZ (hw _ (List.mem_of_getElem? (i := 33) rfl))) (mvT hZ (hw _ (List.mem_of_getElem? (i := 32) rfl))) (by decide) (backOf (W := 0) (rmisz l Z a0 hw [] b1 (((((0 : Int64) + X) + Y) + U) - U) (own_sh ((((0 : Int64) + X) + Y) + U) (own_ah (((0 : Int64) + X) + Y) (own_ah ((0 : Int64) + X) (own_ah (0 : Int64) (0 : Int64) X) Y) U) U) T7.heap n0 Z7 c7_1 c7_2) hZ (hw _ (List.mem_of_getElem? (i := 34) rfl)) (hw _ (List.mem_of_getElem? (i := 3) rfl)) (by decide) (by decide)) q8a q8c (g := (mkF m 175 #[.val (.long x0), .second, .val (.long x1), .second, .val (.long x2), .second, .val (.int x3), .val (.long X), .second, .val (.long Y), .second, .val (.long U), .second, .val (.int sa), .val (.int sb), .val (.int sc), .val (.ref b1), .val (.int (if X = (0 : Int64) then (if Y = (0 : Int64) then (1 : Int32) else (0 : Int32)) else (0 : Int32)))] [(.ref b1)])) rfl (by rw [hml]; rfl) (Steps.refl _) (argsL := []) (rest := []) (lenOf pd_3 rfl) rfl (by show 2 * 0 + _ ≤ _; exact Nat.le_of_eq rfl) (hb hby at_175) (fun _ _ => ⟨rfl, rfl, (by decide : 1 + 0 ≤ _), (by decide : 2 + 0 ≤ _)⟩)
        dsimp only [Pt.U, Pt.locs, Pt.cells, Pt.slots] at X8 l8 y8 z8 st8 hQ8
        subst l8 y8 z8
        obtain ⟨rfl, N8q, e8⟩ := hQ8
        have N8 := Fr.app N7 N8q
        refine own_Go.of (g' := (mkF m 178 #[.val (.long x0), .second, .val (.long x1), .second, .val (.long x2), .second, .val (.int x3), .val (.long X), .second, .val (.long Y), .second, .val (.long U), .second, .val (.int sa), .val (.int sb), .val (.int sc), .val (.ref b1), .val (.int (if X = (0 : Int64) then (if Y = (0 : Int64) then (1 : Int32) else (0 : Int32)) else (0 : Int32)))] [(.int (own_isz (((((0 : Int64) + X) + Y) + U) - U) (own_sh ((((0 : Int64) + X) + Y) + U) (own_ah (((0 : Int64) + X) + Y) (own_ah ((0 : Int64) + X) (own_ah (0 : Int64) (0 : Int64) X) Y) U) U)))])) (fun t k => st8.trans k) ?_
        refine og_iload (pc' := 180) X8 hx (hb hby at_178) rfl rfl ?_
        refine og_icmpNo (pc' := 183) X8 hx (hb hby at_180) (teq (by rw [own_isz_rep R7]; (try simp only [own_eq0]); (repeat' split) <;> first | rfl | omega)).2 rfl ?_
        refine og_iconst (pc' := 184) (n := 1) X8 hx (hb hby at_183) rfl rfl ?_
        refine og_goto (pc' := 188) X8 hx (hb hby at_184) (by decide) (by decide) ?_
        obtain ⟨fs, hr, hrun, hended, hW, hsame⟩ := X8.leave (v := some (.int (1 : Int32))) (fun h => by rw [Bd.returns] at h; cases h) (BodyLoose.notSynchronized Bd)
        refine ⟨_, _, retN X8 hx (t := .boolean) Bd.returns (by simp) (hb hby at_188) hr, hrun, hended, some (.int (1 : Int32)), _, rfl, ?_, ⟨_, rfl⟩, hW, hsame.mono (by decide) (by decide)⟩
        show Q0 Z x0 x1 x2 x3 h0 n0 _ T8.heap _
        rw [e8]
        exact ⟨rfl, N8⟩
    · refine og_ifNo (pc' := 111) X5 hx (hb hby at_108) ((if0 _ _).trans (feq hc108_5).1) rfl ?_
      refine og_aload (pc' := 113) X5 hx (hb hby at_111) rfl rfl rfl ?_
      refine og_lload (pc' := 115) X5 hx (hb hby at_113) rfl rfl ?_
      obtain ⟨cq9, kq9, q9a, q9b, q9c⟩ := isOf hZ rfl c5_0
      obtain ⟨_, _, ⟨T9, L9, k9, n9⟩, -, X9, ⟨Lc9, hQ9, l9, y9, z9⟩, st9⟩ := X5.virtualBack hx (y := (⟨"com/example/ostracon/ostracon/WideSum", "subtract", "(J)V"⟩ : MethodName)) (z := (⟨"com/example/ostracon/ostracon/WideSum", "subtract", "(J)V"⟩ : MethodName)) hown (mvT hZ (hw _ (List.mem_of_getElem? (i := 25) rfl))) (mvT hZ (hw _ (List.mem_of_getElem? (i := 26) rfl))) (notFace_of_selects (args := #[]) (mvT hZ (hw _ (List.mem_of_getElem? (i := 28) rfl)))) (mvT hZ (hw _ (List.mem_of_getElem? (i := 28) rfl))) (mvT hZ (hw _ (List.mem_of_getElem? (i := 27) rfl))) (by decide) (backOf (W := 0) (rmsub l Z a0 hw [] b1 Y ((((0 : Int64) + X) + Y) + U) (own_ah (((0 : Int64) + X) + Y) (own_ah ((0 : Int64) + X) (own_ah (0 : Int64) (0 : Int64) X) Y) U) T5.heap n0 Z5 c5_0 c5_1 c5_2 g_b1) hZ (hw _ (List.mem_of_getElem? (i := 29) rfl)) (hw _ (List.mem_of_getElem? (i := 3) rfl)) (by decide) (by decide)) q9a q9c (g := (mkF m 115 #[.val (.long x0), .second, .val (.long x1), .second, .val (.long x2), .second, .val (.int x3), .val (.long X), .second, .val (.long Y), .second, .val (.long U), .second, .val (.int sa), .val (.int sb), .val (.int sc), .val (.ref b1), .unset] [(.long Y), (.ref b1)])) rfl (by rw [hml]; rfl) (Steps.refl _) (argsL := [(.long Y)]) (rest := []) (lenOf pd_2 rfl) rfl (by show 2 * 0 + _ ≤ _; exact Nat.le_of_eq rfl) (hb hby at_115) (fun _ _ => ⟨rfl, rfl, (by decide : 1 + 0 ≤ _), (by decide : 2 + 0 ≤ _)⟩)
      dsimp only [Pt.U, Pt.locs, Pt.cells, Pt.slots] at X9 l9 y9 z9 st9 hQ9
      subst l9 y9 z9
      obtain ⟨rfl, N9q, K9q, c9_0, c9_1, c9_2⟩ := hQ9
      have N9 := Fr.app N5 N9q
      have f9_0 := c5_0.keep K9q
      have K9 : Keep h0 T9.heap [] := K5.trans K9q (allS (Or.inr sz_b1) all0)
      have Z9 : n0 ≤ T9.heap.size := Nat.le_trans Z0 K9.1
      refine own_Go.of (g' := (mkF m 118 #[.val (.long x0), .second, .val (.long x1), .second, .val (.long x2), .second, .val (.int x3), .val (.long X), .second, .val (.long Y), .second, .val (.long U), .second, .val (.int sa), .val (.int sb), .val (.int sc), .val (.ref b1), .unset] [])) (fun t k => st9.trans k) ?_
      have R9 : own_rep (((((0 : Int64) + X) + Y) + U) - Y) (own_sh ((((0 : Int64) + X) + Y) + U) (own_ah (((0 : Int64) + X) + Y) (own_ah ((0 : Int64) + X) (own_ah (0 : Int64) (0 : Int64) X) Y) U) Y) ((((0 + X.toInt) + Y.toInt) + U.toInt) - Y.toInt) := own_rep_sub R5 (by omega) (by omega) (by omega)
      refine og_iload (pc' := 120) X9 hx (hb hby at_118) rfl rfl ?_
      by_cases hc120_12 : sc = (0 : Int32)
      · refine og_ifYes (pc' := 130) X9 hx (hb hby at_120) ((if0 _ _).trans (teq hc120_12).1) (by decide) (by decide) ?_
        refine og_iload (pc' := 132) X9 hx (hb hby at_130) rfl rfl ?_
        refine own_via (A := own_Go p e below (fun s₂ oc => ∃ v L, oc = .returned v ∧ Q0 Z x0 x1 x2 x3 h0 n0 v s₂.heap L ∧ FrameEnd s oc s₂ L room_1.cells room_1.slots) T9 (mkF m 171 #[.val (.long x0), .second, .val (.long x1), .second, .val (.long x2), .second, .val (.int x3), .val (.long X), .second, .val (.long Y), .second, .val (.long U), .second, .val (.int sa), .val (.int sb), .val (.int sc), .val (.ref b1), .unset] [(.int (if X = (0 : Int64) then (if U = (0 : Int64) then (1 : Int32) else (0 : Int32)) else (0 : Int32)))])) (fun k => ?_) ?_
        · refine og_ifNo (pc' := 135) X9 hx (hb hby at_132) ((if0 _ _).trans (teq hc96_4).2) rfl ?_
          refine og_lload (pc' := 137) X9 hx (hb hby at_135) rfl rfl ?_
          refine og_lconst0 (pc' := 138) X9 hx (hb hby at_137) rfl ?_
          refine og_lcmp (pc' := 139) X9 hx (hb hby at_138) rfl ?_
          by_cases hc139_13 : X = (0 : Int64)
          · refine og_ifNo (pc' := 142) X9 hx (hb hby at_139) ((if0 _ _).trans (teq ((lw_eq _ _).mpr hc139_13)).2) rfl ?_
            refine og_iload (pc' := 144) X9 hx (hb hby at_142) rfl rfl ?_
            refine og_ifYes (pc' := 154) X9 hx (hb hby at_144) ((if0 _ _).trans (feq hc108_5).2) (by decide) (by decide) ?_
            refine og_iload (pc' := 156) X9 hx (hb hby at_154) rfl rfl ?_
            refine og_ifNo (pc' := 159) X9 hx (hb hby at_156) ((if0 _ _).trans (teq hc120_12).2) rfl ?_
            refine og_lload (pc' := 161) X9 hx (hb hby at_159) rfl rfl ?_
            refine og_lconst0 (pc' := 162) X9 hx (hb hby at_161) rfl ?_
            refine og_lcmp (pc' := 163) X9 hx (hb hby at_162) rfl ?_
            by_cases hc163_14 : U = (0 : Int64)
            · refine og_ifNo (pc' := 166) X9 hx (hb hby at_163) ((if0 _ _).trans (teq ((lw_eq _ _).mpr hc163_14)).2) rfl ?_
              refine og_iconst (pc' := 167) (n := 1) X9 hx (hb hby at_166) rfl rfl ?_
              refine og_goto (pc' := 171) X9 hx (hb hby at_167) (by decide) (by decide) ?_
              simp only [if_pos hc139_13, if_pos hc163_14] at k
              exact k
            · refine og_ifYes (pc' := 170) X9 hx (hb hby at_163) ((if0 _ _).trans (feq (fun q => hc163_14 ((lw_eq _ _).mp q))).2) (by decide) (by decide) ?_
              refine og_iconst (pc' := 171) (n := 0) X9 hx (hb hby at_170) rfl rfl ?_
              simp only [if_pos hc139_13, if_neg hc163_14] at k
              exact k
          · refine og_ifYes (pc' := 170) X9 hx (hb hby at_139) ((if0 _ _).trans (feq (fun q => hc139_13 ((lw_eq _ _).mp q))).2) (by decide) (by decide) ?_
            refine og_iconst (pc' := 171) (n := 0) X9 hx (hb hby at_170) rfl rfl ?_
            simp only [if_neg hc139_13] at k
            exact k
        refine og_istore (pc' := 173) (L' := #[.val (.long x0), .second, .val (.long x1), .second, .val (.long x2), .second, .val (.int x3), .val (.long X), .second, .val (.long Y), .second, .val (.long U), .second, .val (.int sa), .val (.int sb), .val (.int sc), .val (.ref b1), .val (.int (if X = (0 : Int64) then (if U = (0 : Int64) then (1 : Int32) else (0 : Int32)) else (0 : Int32)))]) X9 hx (hb hby at_171) rfl rfl ?_
        refine og_aload (pc' := 175) X9 hx (hb hby at_173) rfl rfl rfl ?_
        obtain ⟨cq10, kq10, q10a, q10b, q10c⟩ := isOf hZ rfl c9_0
        obtain ⟨_, _, ⟨T10, L10, k10, n10⟩, -, X10, ⟨Lc10, hQ10, l10, y10, z10⟩, st10⟩ := X9.virtualBack hx (y := (⟨"com/example/ostracon/ostracon/WideSum", "isZero", "()Z"⟩ : MethodName)) (z := (⟨"com/example/ostracon/ostracon/WideSum", "isZero", "()Z"⟩ : MethodName)) hown (mvT hZ (hw _ (List.mem_of_getElem? (i := 30) rfl))) (mvT hZ (hw _ (List.mem_of_getElem? (i := 31) rfl))) (notFace_of_selects (args := #[]) (mvT hZ (hw _ (List.mem_of_getElem? (i := 33) rfl)))) (mvT hZ (hw _ (List.mem_of_getElem? (i := 33) rfl))) (mvT hZ (hw _ (List.mem_of_getElem? (i := 32) rfl))) (by decide) (backOf (W := 0) (rmisz l Z a0 hw [] b1 (((((0 : Int64) + X) + Y) + U) - Y) (own_sh ((((0 : Int64) + X) + Y) + U) (own_ah (((0 : Int64) + X) + Y) (own_ah ((0 : Int64) + X) (own_ah (0 : Int64) (0 : Int64) X) Y) U) Y) T9.heap n0 Z9 c9_1 c9_2) hZ (hw _ (List.mem_of_getElem? (i := 34) rfl)) (hw _ (List.mem_of_getElem? (i := 3) rfl)) (by decide) (by decide)) q10a q10c (g := (mkF m 175 #[.val (.long x0), .second, .val (.long x1), .second, .val (.long x2), .second, .val (.int x3), .val (.long X), .second, .val (.long Y), .second, .val (.long U), .second, .val (.int sa), .val (.int sb), .val (.int sc), .val (.ref b1), .val (.int (if X = (0 : Int64) then (if U = (0 : Int64) then (1 : Int32) else (0 : Int32)) else (0 : Int32)))] [(.ref b1)])) rfl (by rw [hml]; rfl) (Steps.refl _) (argsL := []) (rest := []) (lenOf pd_3 rfl) rfl (by show 2 * 0 + _ ≤ _; exact Nat.le_of_eq rfl) (hb hby at_175) (fun _ _ => ⟨rfl, rfl, (by decide : 1 + 0 ≤ _), (by decide : 2 + 0 ≤ _)⟩)
        dsimp only [Pt.U, Pt.locs, Pt.cells, Pt.slots] at X10 l10 y10 z10 st10 hQ10
        subst l10 y10 z10
        obtain ⟨rfl, N10q, e10⟩ := hQ10
        have N10 := Fr.app N9 N10q
        refine own_Go.of (g' := (mkF m 178 #[.val (.long x0), .second, .val (.long x1), .second, .val (.long x2), .second, .val (.int x3), .val (.long X), .second, .val (.long Y), .second, .val (.long U), .second, .val (.int sa), .val (.int sb), .val (.int sc), .val (.ref b1), .val (.int (if X = (0 : Int64) then (if U = (0 : Int64) then (1 : Int32) else (0 : Int32)) else (0 : Int32)))] [(.int (own_isz (((((0 : Int64) + X) + Y) + U) - Y) (own_sh ((((0 : Int64) + X) + Y) + U) (own_ah (((0 : Int64) + X) + Y) (own_ah ((0 : Int64) + X) (own_ah (0 : Int64) (0 : Int64) X) Y) U) Y)))])) (fun t k => st10.trans k) ?_
        refine og_iload (pc' := 180) X10 hx (hb hby at_178) rfl rfl ?_
        refine og_icmpNo (pc' := 183) X10 hx (hb hby at_180) (teq (by rw [own_isz_rep R9]; (try simp only [own_eq0]); (repeat' split) <;> first | rfl | omega)).2 rfl ?_
        refine og_iconst (pc' := 184) (n := 1) X10 hx (hb hby at_183) rfl rfl ?_
        refine og_goto (pc' := 188) X10 hx (hb hby at_184) (by decide) (by decide) ?_
        obtain ⟨fs, hr, hrun, hended, hW, hsame⟩ := X10.leave (v := some (.int (1 : Int32))) (fun h => by rw [Bd.returns] at h; cases h) (BodyLoose.notSynchronized Bd)
        refine ⟨_, _, retN X10 hx (t := .boolean) Bd.returns (by simp) (hb hby at_188) hr, hrun, hended, some (.int (1 : Int32)), _, rfl, ?_, ⟨_, rfl⟩, hW, hsame.mono (by decide) (by decide)⟩
        show Q0 Z x0 x1 x2 x3 h0 n0 _ T10.heap _
        rw [e10]
        exact ⟨rfl, N10⟩
      · refine og_ifNo (pc' := 123) X9 hx (hb hby at_120) ((if0 _ _).trans (feq hc120_12).1) rfl ?_
        refine og_aload (pc' := 125) X9 hx (hb hby at_123) rfl rfl rfl ?_
        refine og_lload (pc' := 127) X9 hx (hb hby at_125) rfl rfl ?_
        obtain ⟨cq11, kq11, q11a, q11b, q11c⟩ := isOf hZ rfl c9_0
        obtain ⟨_, _, ⟨T11, L11, k11, n11⟩, -, X11, ⟨Lc11, hQ11, l11, y11, z11⟩, st11⟩ := X9.virtualBack hx (y := (⟨"com/example/ostracon/ostracon/WideSum", "subtract", "(J)V"⟩ : MethodName)) (z := (⟨"com/example/ostracon/ostracon/WideSum", "subtract", "(J)V"⟩ : MethodName)) hown (mvT hZ (hw _ (List.mem_of_getElem? (i := 25) rfl))) (mvT hZ (hw _ (List.mem_of_getElem? (i := 26) rfl))) (notFace_of_selects (args := #[]) (mvT hZ (hw _ (List.mem_of_getElem? (i := 28) rfl)))) (mvT hZ (hw _ (List.mem_of_getElem? (i := 28) rfl))) (mvT hZ (hw _ (List.mem_of_getElem? (i := 27) rfl))) (by decide) (backOf (W := 0) (rmsub l Z a0 hw [] b1 U (((((0 : Int64) + X) + Y) + U) - Y) (own_sh ((((0 : Int64) + X) + Y) + U) (own_ah (((0 : Int64) + X) + Y) (own_ah ((0 : Int64) + X) (own_ah (0 : Int64) (0 : Int64) X) Y) U) Y) T9.heap n0 Z9 c9_0 c9_1 c9_2 g_b1) hZ (hw _ (List.mem_of_getElem? (i := 29) rfl)) (hw _ (List.mem_of_getElem? (i := 3) rfl)) (by decide) (by decide)) q11a q11c (g := (mkF m 127 #[.val (.long x0), .second, .val (.long x1), .second, .val (.long x2), .second, .val (.int x3), .val (.long X), .second, .val (.long Y), .second, .val (.long U), .second, .val (.int sa), .val (.int sb), .val (.int sc), .val (.ref b1), .unset] [(.long U), (.ref b1)])) rfl (by rw [hml]; rfl) (Steps.refl _) (argsL := [(.long U)]) (rest := []) (lenOf pd_2 rfl) rfl (by show 2 * 0 + _ ≤ _; exact Nat.le_of_eq rfl) (hb hby at_127) (fun _ _ => ⟨rfl, rfl, (by decide : 1 + 0 ≤ _), (by decide : 2 + 0 ≤ _)⟩)
        dsimp only [Pt.U, Pt.locs, Pt.cells, Pt.slots] at X11 l11 y11 z11 st11 hQ11
        subst l11 y11 z11
        obtain ⟨rfl, N11q, K11q, c11_0, c11_1, c11_2⟩ := hQ11
        have N11 := Fr.app N9 N11q
        have f11_0 := c9_0.keep K11q
        have K11 : Keep h0 T11.heap [] := K9.trans K11q (allS (Or.inr sz_b1) all0)
        have Z11 : n0 ≤ T11.heap.size := Nat.le_trans Z0 K11.1
        refine own_Go.of (g' := (mkF m 130 #[.val (.long x0), .second, .val (.long x1), .second, .val (.long x2), .second, .val (.int x3), .val (.long X), .second, .val (.long Y), .second, .val (.long U), .second, .val (.int sa), .val (.int sb), .val (.int sc), .val (.ref b1), .unset] [])) (fun t k => st11.trans k) ?_
        have R11 : own_rep ((((((0 : Int64) + X) + Y) + U) - Y) - U) (own_sh (((((0 : Int64) + X) + Y) + U) - Y) (own_sh ((((0 : Int64) + X) + Y) + U) (own_ah (((0 : Int64) + X) + Y) (own_ah ((0 : Int64) + X) (own_ah (0 : Int64) (0 : Int64) X) Y) U) Y) U) (((((0 + X.toInt) + Y.toInt) + U.toInt) - Y.toInt) - U.toInt) := own_rep_sub R9 (by omega) (by omega) (by omega)
        refine og_iload (pc' := 132) X11 hx (hb hby at_130) rfl rfl ?_
        refine own_via (A := own_Go p e below (fun s₂ oc => ∃ v L, oc = .returned v ∧ Q0 Z x0 x1 x2 x3 h0 n0 v s₂.heap L ∧ FrameEnd s oc s₂ L room_1.cells room_1.slots) T11 (mkF m 171 #[.val (.long x0), .second, .val (.long x1), .second, .val (.long x2), .second, .val (.int x3), .val (.long X), .second, .val (.long Y), .second, .val (.long U), .second, .val (.int sa), .val (.int sb), .val (.int sc), .val (.ref b1), .unset] [(.int (if X = (0 : Int64) then (1 : Int32) else (0 : Int32)))])) (fun k => ?_) ?_
        · refine og_ifNo (pc' := 135) X11 hx (hb hby at_132) ((if0 _ _).trans (teq hc96_4).2) rfl ?_
          refine og_lload (pc' := 137) X11 hx (hb hby at_135) rfl rfl ?_
          refine og_lconst0 (pc' := 138) X11 hx (hb hby at_137) rfl ?_
          refine og_lcmp (pc' := 139) X11 hx (hb hby at_138) rfl ?_
          by_cases hc139_15 : X = (0 : Int64)
          · refine og_ifNo (pc' := 142) X11 hx (hb hby at_139) ((if0 _ _).trans (teq ((lw_eq _ _).mpr hc139_15)).2) rfl ?_
            refine og_iload (pc' := 144) X11 hx (hb hby at_142) rfl rfl ?_
            refine og_ifYes (pc' := 154) X11 hx (hb hby at_144) ((if0 _ _).trans (feq hc108_5).2) (by decide) (by decide) ?_
            refine og_iload (pc' := 156) X11 hx (hb hby at_154) rfl rfl ?_
            refine og_ifYes (pc' := 166) X11 hx (hb hby at_156) ((if0 _ _).trans (feq hc120_12).2) (by decide) (by decide) ?_
            refine og_iconst (pc' := 167) (n := 1) X11 hx (hb hby at_166) rfl rfl ?_
            refine og_goto (pc' := 171) X11 hx (hb hby at_167) (by decide) (by decide) ?_
            simp only [if_pos hc139_15] at k
            exact k
          · refine og_ifYes (pc' := 170) X11 hx (hb hby at_139) ((if0 _ _).trans (feq (fun q => hc139_15 ((lw_eq _ _).mp q))).2) (by decide) (by decide) ?_
            refine og_iconst (pc' := 171) (n := 0) X11 hx (hb hby at_170) rfl rfl ?_
            simp only [if_neg hc139_15] at k
            exact k
        refine og_istore (pc' := 173) (L' := #[.val (.long x0), .second, .val (.long x1), .second, .val (.long x2), .second, .val (.int x3), .val (.long X), .second, .val (.long Y), .second, .val (.long U), .second, .val (.int sa), .val (.int sb), .val (.int sc), .val (.ref b1), .val (.int (if X = (0 : Int64) then (1 : Int32) else (0 : Int32)))]) X11 hx (hb hby at_171) rfl rfl ?_
        refine og_aload (pc' := 175) X11 hx (hb hby at_173) rfl rfl rfl ?_
        obtain ⟨cq12, kq12, q12a, q12b, q12c⟩ := isOf hZ rfl c11_0
        obtain ⟨_, _, ⟨T12, L12, k12, n12⟩, -, X12, ⟨Lc12, hQ12, l12, y12, z12⟩, st12⟩ := X11.virtualBack hx (y := (⟨"com/example/ostracon/ostracon/WideSum", "isZero", "()Z"⟩ : MethodName)) (z := (⟨"com/example/ostracon/ostracon/WideSum", "isZero", "()Z"⟩ : MethodName)) hown (mvT hZ (hw _ (List.mem_of_getElem? (i := 30) rfl))) (mvT hZ (hw _ (List.mem_of_getElem? (i := 31) rfl))) (notFace_of_selects (args := #[]) (mvT hZ (hw _ (List.mem_of_getElem? (i := 33) rfl)))) (mvT hZ (hw _ (List.mem_of_getElem? (i := 33) rfl))) (mvT hZ (hw _ (List.mem_of_getElem? (i := 32) rfl))) (by decide) (backOf (W := 0) (rmisz l Z a0 hw [] b1 ((((((0 : Int64) + X) + Y) + U) - Y) - U) (own_sh (((((0 : Int64) + X) + Y) + U) - Y) (own_sh ((((0 : Int64) + X) + Y) + U) (own_ah (((0 : Int64) + X) + Y) (own_ah ((0 : Int64) + X) (own_ah (0 : Int64) (0 : Int64) X) Y) U) Y) U) T11.heap n0 Z11 c11_1 c11_2) hZ (hw _ (List.mem_of_getElem? (i := 34) rfl)) (hw _ (List.mem_of_getElem? (i := 3) rfl)) (by decide) (by decide)) q12a q12c (g := (mkF m 175 #[.val (.long x0), .second, .val (.long x1), .second, .val (.long x2), .second, .val (.int x3), .val (.long X), .second, .val (.long Y), .second, .val (.long U), .second, .val (.int sa), .val (.int sb), .val (.int sc), .val (.ref b1), .val (.int (if X = (0 : Int64) then (1 : Int32) else (0 : Int32)))] [(.ref b1)])) rfl (by rw [hml]; rfl) (Steps.refl _) (argsL := []) (rest := []) (lenOf pd_3 rfl) rfl (by show 2 * 0 + _ ≤ _; exact Nat.le_of_eq rfl) (hb hby at_175) (fun _ _ => ⟨rfl, rfl, (by decide : 1 + 0 ≤ _), (by decide : 2 + 0 ≤ _)⟩)
        dsimp only [Pt.U, Pt.locs, Pt.cells, Pt.slots] at X12 l12 y12 z12 st12 hQ12
        subst l12 y12 z12
        obtain ⟨rfl, N12q, e12⟩ := hQ12
        have N12 := Fr.app N11 N12q
        refine own_Go.of (g' := (mkF m 178 #[.val (.long x0), .second, .val (.long x1), .second, .val (.long x2), .second, .val (.int x3), .val (.long X), .second, .val (.long Y), .second, .val (.long U), .second, .val (.int sa), .val (.int sb), .val (.int sc), .val (.ref b1), .val (.int (if X = (0 : Int64) then (1 : Int32) else (0 : Int32)))] [(.int (own_isz ((((((0 : Int64) + X) + Y) + U) - Y) - U) (own_sh (((((0 : Int64) + X) + Y) + U) - Y) (own_sh ((((0 : Int64) + X) + Y) + U) (own_ah (((0 : Int64) + X) + Y) (own_ah ((0 : Int64) + X) (own_ah (0 : Int64) (0 : Int64) X) Y) U) Y) U)))])) (fun t k => st12.trans k) ?_
        refine og_iload (pc' := 180) X12 hx (hb hby at_178) rfl rfl ?_
        refine og_icmpNo (pc' := 183) X12 hx (hb hby at_180) (teq (by rw [own_isz_rep R11]; (try simp only [own_eq0]); (repeat' split) <;> first | rfl | omega)).2 rfl ?_
        refine og_iconst (pc' := 184) (n := 1) X12 hx (hb hby at_183) rfl rfl ?_
        refine og_goto (pc' := 188) X12 hx (hb hby at_184) (by decide) (by decide) ?_
        obtain ⟨fs, hr, hrun, hended, hW, hsame⟩ := X12.leave (v := some (.int (1 : Int32))) (fun h => by rw [Bd.returns] at h; cases h) (BodyLoose.notSynchronized Bd)
        refine ⟨_, _, retN X12 hx (t := .boolean) Bd.returns (by simp) (hb hby at_188) hr, hrun, hended, some (.int (1 : Int32)), _, rfl, ?_, ⟨_, rfl⟩, hW, hsame.mono (by decide) (by decide)⟩
        show Q0 Z x0 x1 x2 x3 h0 n0 _ T12.heap _
        rw [e12]
        exact ⟨rfl, N12⟩
  · refine og_ifNo (pc' := 99) X5 hx (hb hby at_96) ((if0 _ _).trans (feq hc96_4).1) rfl ?_
    refine og_aload (pc' := 101) X5 hx (hb hby at_99) rfl rfl rfl ?_
    refine og_lload (pc' := 103) X5 hx (hb hby at_101) rfl rfl ?_
    obtain ⟨cq13, kq13, q13a, q13b, q13c⟩ := isOf hZ rfl c5_0
    obtain ⟨_, _, ⟨T13, L13, k13, n13⟩, -, X13, ⟨Lc13, hQ13, l13, y13, z13⟩, st13⟩ := X5.virtualBack hx (y := (⟨"com/example/ostracon/ostracon/WideSum", "subtract", "(J)V"⟩ : MethodName)) (z := (⟨"com/example/ostracon/ostracon/WideSum", "subtract", "(J)V"⟩ : MethodName)) hown (mvT hZ (hw _ (List.mem_of_getElem? (i := 25) rfl))) (mvT hZ (hw _ (List.mem_of_getElem? (i := 26) rfl))) (notFace_of_selects (args := #[]) (mvT hZ (hw _ (List.mem_of_getElem? (i := 28) rfl)))) (mvT hZ (hw _ (List.mem_of_getElem? (i := 28) rfl))) (mvT hZ (hw _ (List.mem_of_getElem? (i := 27) rfl))) (by decide) (backOf (W := 0) (rmsub l Z a0 hw [] b1 X ((((0 : Int64) + X) + Y) + U) (own_ah (((0 : Int64) + X) + Y) (own_ah ((0 : Int64) + X) (own_ah (0 : Int64) (0 : Int64) X) Y) U) T5.heap n0 Z5 c5_0 c5_1 c5_2 g_b1) hZ (hw _ (List.mem_of_getElem? (i := 29) rfl)) (hw _ (List.mem_of_getElem? (i := 3) rfl)) (by decide) (by decide)) q13a q13c (g := (mkF m 103 #[.val (.long x0), .second, .val (.long x1), .second, .val (.long x2), .second, .val (.int x3), .val (.long X), .second, .val (.long Y), .second, .val (.long U), .second, .val (.int sa), .val (.int sb), .val (.int sc), .val (.ref b1), .unset] [(.long X), (.ref b1)])) rfl (by rw [hml]; rfl) (Steps.refl _) (argsL := [(.long X)]) (rest := []) (lenOf pd_2 rfl) rfl (by show 2 * 0 + _ ≤ _; exact Nat.le_of_eq rfl) (hb hby at_103) (fun _ _ => ⟨rfl, rfl, (by decide : 1 + 0 ≤ _), (by decide : 2 + 0 ≤ _)⟩)
    dsimp only [Pt.U, Pt.locs, Pt.cells, Pt.slots] at X13 l13 y13 z13 st13 hQ13
    subst l13 y13 z13
    obtain ⟨rfl, N13q, K13q, c13_0, c13_1, c13_2⟩ := hQ13
    have N13 := Fr.app N5 N13q
    have f13_0 := c5_0.keep K13q
    have K13 : Keep h0 T13.heap [] := K5.trans K13q (allS (Or.inr sz_b1) all0)
    have Z13 : n0 ≤ T13.heap.size := Nat.le_trans Z0 K13.1
    refine own_Go.of (g' := (mkF m 106 #[.val (.long x0), .second, .val (.long x1), .second, .val (.long x2), .second, .val (.int x3), .val (.long X), .second, .val (.long Y), .second, .val (.long U), .second, .val (.int sa), .val (.int sb), .val (.int sc), .val (.ref b1), .unset] [])) (fun t k => st13.trans k) ?_
    have R13 : own_rep (((((0 : Int64) + X) + Y) + U) - X) (own_sh ((((0 : Int64) + X) + Y) + U) (own_ah (((0 : Int64) + X) + Y) (own_ah ((0 : Int64) + X) (own_ah (0 : Int64) (0 : Int64) X) Y) U) X) ((((0 + X.toInt) + Y.toInt) + U.toInt) - X.toInt) := own_rep_sub R5 (by omega) (by omega) (by omega)
    refine og_iload (pc' := 108) X13 hx (hb hby at_106) rfl rfl ?_
    by_cases hc108_16 : sb = (0 : Int32)
    · refine og_ifYes (pc' := 118) X13 hx (hb hby at_108) ((if0 _ _).trans (teq hc108_16).1) (by decide) (by decide) ?_
      refine og_iload (pc' := 120) X13 hx (hb hby at_118) rfl rfl ?_
      by_cases hc120_17 : sc = (0 : Int32)
      · refine og_ifYes (pc' := 130) X13 hx (hb hby at_120) ((if0 _ _).trans (teq hc120_17).1) (by decide) (by decide) ?_
        refine og_iload (pc' := 132) X13 hx (hb hby at_130) rfl rfl ?_
        refine own_via (A := own_Go p e below (fun s₂ oc => ∃ v L, oc = .returned v ∧ Q0 Z x0 x1 x2 x3 h0 n0 v s₂.heap L ∧ FrameEnd s oc s₂ L room_1.cells room_1.slots) T13 (mkF m 171 #[.val (.long x0), .second, .val (.long x1), .second, .val (.long x2), .second, .val (.int x3), .val (.long X), .second, .val (.long Y), .second, .val (.long U), .second, .val (.int sa), .val (.int sb), .val (.int sc), .val (.ref b1), .unset] [(.int (if Y = (0 : Int64) then (if U = (0 : Int64) then (1 : Int32) else (0 : Int32)) else (0 : Int32)))])) (fun k => ?_) ?_
        · refine og_ifYes (pc' := 142) X13 hx (hb hby at_132) ((if0 _ _).trans (feq hc96_4).2) (by decide) (by decide) ?_
          refine og_iload (pc' := 144) X13 hx (hb hby at_142) rfl rfl ?_
          refine og_ifNo (pc' := 147) X13 hx (hb hby at_144) ((if0 _ _).trans (teq hc108_16).2) rfl ?_
          refine og_lload (pc' := 149) X13 hx (hb hby at_147) rfl rfl ?_
          refine og_lconst0 (pc' := 150) X13 hx (hb hby at_149) rfl ?_
          refine og_lcmp (pc' := 151) X13 hx (hb hby at_150) rfl ?_
          by_cases hc151_18 : Y = (0 : Int64)
          · refine og_ifNo (pc' := 154) X13 hx (hb hby at_151) ((if0 _ _).trans (teq ((lw_eq _ _).mpr hc151_18)).2) rfl ?_
            refine og_iload (pc' := 156) X13 hx (hb hby at_154) rfl rfl ?_
            refine og_ifNo (pc' := 159) X13 hx (hb hby at_156) ((if0 _ _).trans (teq hc120_17).2) rfl ?_
            refine og_lload (pc' := 161) X13 hx (hb hby at_159) rfl rfl ?_
            refine og_lconst0 (pc' := 162) X13 hx (hb hby at_161) rfl ?_
            refine og_lcmp (pc' := 163) X13 hx (hb hby at_162) rfl ?_
            by_cases hc163_19 : U = (0 : Int64)
            · refine og_ifNo (pc' := 166) X13 hx (hb hby at_163) ((if0 _ _).trans (teq ((lw_eq _ _).mpr hc163_19)).2) rfl ?_
              refine og_iconst (pc' := 167) (n := 1) X13 hx (hb hby at_166) rfl rfl ?_
              refine og_goto (pc' := 171) X13 hx (hb hby at_167) (by decide) (by decide) ?_
              simp only [if_pos hc151_18, if_pos hc163_19] at k
              exact k
            · refine og_ifYes (pc' := 170) X13 hx (hb hby at_163) ((if0 _ _).trans (feq (fun q => hc163_19 ((lw_eq _ _).mp q))).2) (by decide) (by decide) ?_
              refine og_iconst (pc' := 171) (n := 0) X13 hx (hb hby at_170) rfl rfl ?_
              simp only [if_pos hc151_18, if_neg hc163_19] at k
              exact k
          · refine og_ifYes (pc' := 170) X13 hx (hb hby at_151) ((if0 _ _).trans (feq (fun q => hc151_18 ((lw_eq _ _).mp q))).2) (by decide) (by decide) ?_
            refine og_iconst (pc' := 171) (n := 0) X13 hx (hb hby at_170) rfl rfl ?_
            simp only [if_neg hc151_18] at k
            exact k
        refine og_istore (pc' := 173) (L' := #[.val (.long x0), .second, .val (.long x1), .second, .val (.long x2), .second, .val (.int x3), .val (.long X), .second, .val (.long Y), .second, .val (.long U), .second, .val (.int sa), .val (.int sb), .val (.int sc), .val (.ref b1), .val (.int (if Y = (0 : Int64) then (if U = (0 : Int64) then (1 : Int32) else (0 : Int32)) else (0 : Int32)))]) X13 hx (hb hby at_171) rfl rfl ?_
        refine og_aload (pc' := 175) X13 hx (hb hby at_173) rfl rfl rfl ?_
        obtain ⟨cq14, kq14, q14a, q14b, q14c⟩ := isOf hZ rfl c13_0
        obtain ⟨_, _, ⟨T14, L14, k14, n14⟩, -, X14, ⟨Lc14, hQ14, l14, y14, z14⟩, st14⟩ := X13.virtualBack hx (y := (⟨"com/example/ostracon/ostracon/WideSum", "isZero", "()Z"⟩ : MethodName)) (z := (⟨"com/example/ostracon/ostracon/WideSum", "isZero", "()Z"⟩ : MethodName)) hown (mvT hZ (hw _ (List.mem_of_getElem? (i := 30) rfl))) (mvT hZ (hw _ (List.mem_of_getElem? (i := 31) rfl))) (notFace_of_selects (args := #[]) (mvT hZ (hw _ (List.mem_of_getElem? (i := 33) rfl)))) (mvT hZ (hw _ (List.mem_of_getElem? (i := 33) rfl))) (mvT hZ (hw _ (List.mem_of_getElem? (i := 32) rfl))) (by decide) (backOf (W := 0) (rmisz l Z a0 hw [] b1 (((((0 : Int64) + X) + Y) + U) - X) (own_sh ((((0 : Int64) + X) + Y) + U) (own_ah (((0 : Int64) + X) + Y) (own_ah ((0 : Int64) + X) (own_ah (0 : Int64) (0 : Int64) X) Y) U) X) T13.heap n0 Z13 c13_1 c13_2) hZ (hw _ (List.mem_of_getElem? (i := 34) rfl)) (hw _ (List.mem_of_getElem? (i := 3) rfl)) (by decide) (by decide)) q14a q14c (g := (mkF m 175 #[.val (.long x0), .second, .val (.long x1), .second, .val (.long x2), .second, .val (.int x3), .val (.long X), .second, .val (.long Y), .second, .val (.long U), .second, .val (.int sa), .val (.int sb), .val (.int sc), .val (.ref b1), .val (.int (if Y = (0 : Int64) then (if U = (0 : Int64) then (1 : Int32) else (0 : Int32)) else (0 : Int32)))] [(.ref b1)])) rfl (by rw [hml]; rfl) (Steps.refl _) (argsL := []) (rest := []) (lenOf pd_3 rfl) rfl (by show 2 * 0 + _ ≤ _; exact Nat.le_of_eq rfl) (hb hby at_175) (fun _ _ => ⟨rfl, rfl, (by decide : 1 + 0 ≤ _), (by decide : 2 + 0 ≤ _)⟩)
        dsimp only [Pt.U, Pt.locs, Pt.cells, Pt.slots] at X14 l14 y14 z14 st14 hQ14
        subst l14 y14 z14
        obtain ⟨rfl, N14q, e14⟩ := hQ14
        have N14 := Fr.app N13 N14q
        refine own_Go.of (g' := (mkF m 178 #[.val (.long x0), .second, .val (.long x1), .second, .val (.long x2), .second, .val (.int x3), .val (.long X), .second, .val (.long Y), .second, .val (.long U), .second, .val (.int sa), .val (.int sb), .val (.int sc), .val (.ref b1), .val (.int (if Y = (0 : Int64) then (if U = (0 : Int64) then (1 : Int32) else (0 : Int32)) else (0 : Int32)))] [(.int (own_isz (((((0 : Int64) + X) + Y) + U) - X) (own_sh ((((0 : Int64) + X) + Y) + U) (own_ah (((0 : Int64) + X) + Y) (own_ah ((0 : Int64) + X) (own_ah (0 : Int64) (0 : Int64) X) Y) U) X)))])) (fun t k => st14.trans k) ?_
        refine og_iload (pc' := 180) X14 hx (hb hby at_178) rfl rfl ?_
        refine og_icmpNo (pc' := 183) X14 hx (hb hby at_180) (teq (by rw [own_isz_rep R13]; (try simp only [own_eq0]); (repeat' split) <;> first | rfl | omega)).2 rfl ?_
        refine og_iconst (pc' := 184) (n := 1) X14 hx (hb hby at_183) rfl rfl ?_
        refine og_goto (pc' := 188) X14 hx (hb hby at_184) (by decide) (by decide) ?_
        obtain ⟨fs, hr, hrun, hended, hW, hsame⟩ := X14.leave (v := some (.int (1 : Int32))) (fun h => by rw [Bd.returns] at h; cases h) (BodyLoose.notSynchronized Bd)
        refine ⟨_, _, retN X14 hx (t := .boolean) Bd.returns (by simp) (hb hby at_188) hr, hrun, hended, some (.int (1 : Int32)), _, rfl, ?_, ⟨_, rfl⟩, hW, hsame.mono (by decide) (by decide)⟩
        show Q0 Z x0 x1 x2 x3 h0 n0 _ T14.heap _
        rw [e14]
        exact ⟨rfl, N14⟩
      · refine og_ifNo (pc' := 123) X13 hx (hb hby at_120) ((if0 _ _).trans (feq hc120_17).1) rfl ?_
        refine og_aload (pc' := 125) X13 hx (hb hby at_123) rfl rfl rfl ?_
        refine og_lload (pc' := 127) X13 hx (hb hby at_125) rfl rfl ?_
        obtain ⟨cq15, kq15, q15a, q15b, q15c⟩ := isOf hZ rfl c13_0
        obtain ⟨_, _, ⟨T15, L15, k15, n15⟩, -, X15, ⟨Lc15, hQ15, l15, y15, z15⟩, st15⟩ := X13.virtualBack hx (y := (⟨"com/example/ostracon/ostracon/WideSum", "subtract", "(J)V"⟩ : MethodName)) (z := (⟨"com/example/ostracon/ostracon/WideSum", "subtract", "(J)V"⟩ : MethodName)) hown (mvT hZ (hw _ (List.mem_of_getElem? (i := 25) rfl))) (mvT hZ (hw _ (List.mem_of_getElem? (i := 26) rfl))) (notFace_of_selects (args := #[]) (mvT hZ (hw _ (List.mem_of_getElem? (i := 28) rfl)))) (mvT hZ (hw _ (List.mem_of_getElem? (i := 28) rfl))) (mvT hZ (hw _ (List.mem_of_getElem? (i := 27) rfl))) (by decide) (backOf (W := 0) (rmsub l Z a0 hw [] b1 U (((((0 : Int64) + X) + Y) + U) - X) (own_sh ((((0 : Int64) + X) + Y) + U) (own_ah (((0 : Int64) + X) + Y) (own_ah ((0 : Int64) + X) (own_ah (0 : Int64) (0 : Int64) X) Y) U) X) T13.heap n0 Z13 c13_0 c13_1 c13_2 g_b1) hZ (hw _ (List.mem_of_getElem? (i := 29) rfl)) (hw _ (List.mem_of_getElem? (i := 3) rfl)) (by decide) (by decide)) q15a q15c (g := (mkF m 127 #[.val (.long x0), .second, .val (.long x1), .second, .val (.long x2), .second, .val (.int x3), .val (.long X), .second, .val (.long Y), .second, .val (.long U), .second, .val (.int sa), .val (.int sb), .val (.int sc), .val (.ref b1), .unset] [(.long U), (.ref b1)])) rfl (by rw [hml]; rfl) (Steps.refl _) (argsL := [(.long U)]) (rest := []) (lenOf pd_2 rfl) rfl (by show 2 * 0 + _ ≤ _; exact Nat.le_of_eq rfl) (hb hby at_127) (fun _ _ => ⟨rfl, rfl, (by decide : 1 + 0 ≤ _), (by decide : 2 + 0 ≤ _)⟩)
        dsimp only [Pt.U, Pt.locs, Pt.cells, Pt.slots] at X15 l15 y15 z15 st15 hQ15
        subst l15 y15 z15
        obtain ⟨rfl, N15q, K15q, c15_0, c15_1, c15_2⟩ := hQ15
        have N15 := Fr.app N13 N15q
        have f15_0 := c13_0.keep K15q
        have K15 : Keep h0 T15.heap [] := K13.trans K15q (allS (Or.inr sz_b1) all0)
        have Z15 : n0 ≤ T15.heap.size := Nat.le_trans Z0 K15.1
        refine own_Go.of (g' := (mkF m 130 #[.val (.long x0), .second, .val (.long x1), .second, .val (.long x2), .second, .val (.int x3), .val (.long X), .second, .val (.long Y), .second, .val (.long U), .second, .val (.int sa), .val (.int sb), .val (.int sc), .val (.ref b1), .unset] [])) (fun t k => st15.trans k) ?_
        have R15 : own_rep ((((((0 : Int64) + X) + Y) + U) - X) - U) (own_sh (((((0 : Int64) + X) + Y) + U) - X) (own_sh ((((0 : Int64) + X) + Y) + U) (own_ah (((0 : Int64) + X) + Y) (own_ah ((0 : Int64) + X) (own_ah (0 : Int64) (0 : Int64) X) Y) U) X) U) (((((0 + X.toInt) + Y.toInt) + U.toInt) - X.toInt) - U.toInt) := own_rep_sub R13 (by omega) (by omega) (by omega)
        refine og_iload (pc' := 132) X15 hx (hb hby at_130) rfl rfl ?_
        refine own_via (A := own_Go p e below (fun s₂ oc => ∃ v L, oc = .returned v ∧ Q0 Z x0 x1 x2 x3 h0 n0 v s₂.heap L ∧ FrameEnd s oc s₂ L room_1.cells room_1.slots) T15 (mkF m 171 #[.val (.long x0), .second, .val (.long x1), .second, .val (.long x2), .second, .val (.int x3), .val (.long X), .second, .val (.long Y), .second, .val (.long U), .second, .val (.int sa), .val (.int sb), .val (.int sc), .val (.ref b1), .unset] [(.int (if Y = (0 : Int64) then (1 : Int32) else (0 : Int32)))])) (fun k => ?_) ?_
        · refine og_ifYes (pc' := 142) X15 hx (hb hby at_132) ((if0 _ _).trans (feq hc96_4).2) (by decide) (by decide) ?_
          refine og_iload (pc' := 144) X15 hx (hb hby at_142) rfl rfl ?_
          refine og_ifNo (pc' := 147) X15 hx (hb hby at_144) ((if0 _ _).trans (teq hc108_16).2) rfl ?_
          refine og_lload (pc' := 149) X15 hx (hb hby at_147) rfl rfl ?_
          refine og_lconst0 (pc' := 150) X15 hx (hb hby at_149) rfl ?_
          refine og_lcmp (pc' := 151) X15 hx (hb hby at_150) rfl ?_
          by_cases hc151_20 : Y = (0 : Int64)
          · refine og_ifNo (pc' := 154) X15 hx (hb hby at_151) ((if0 _ _).trans (teq ((lw_eq _ _).mpr hc151_20)).2) rfl ?_
            refine og_iload (pc' := 156) X15 hx (hb hby at_154) rfl rfl ?_
            refine og_ifYes (pc' := 166) X15 hx (hb hby at_156) ((if0 _ _).trans (feq hc120_17).2) (by decide) (by decide) ?_
            refine og_iconst (pc' := 167) (n := 1) X15 hx (hb hby at_166) rfl rfl ?_
            refine og_goto (pc' := 171) X15 hx (hb hby at_167) (by decide) (by decide) ?_
            simp only [if_pos hc151_20] at k
            exact k
          · refine og_ifYes (pc' := 170) X15 hx (hb hby at_151) ((if0 _ _).trans (feq (fun q => hc151_20 ((lw_eq _ _).mp q))).2) (by decide) (by decide) ?_
            refine og_iconst (pc' := 171) (n := 0) X15 hx (hb hby at_170) rfl rfl ?_
            simp only [if_neg hc151_20] at k
            exact k
        refine og_istore (pc' := 173) (L' := #[.val (.long x0), .second, .val (.long x1), .second, .val (.long x2), .second, .val (.int x3), .val (.long X), .second, .val (.long Y), .second, .val (.long U), .second, .val (.int sa), .val (.int sb), .val (.int sc), .val (.ref b1), .val (.int (if Y = (0 : Int64) then (1 : Int32) else (0 : Int32)))]) X15 hx (hb hby at_171) rfl rfl ?_
        refine og_aload (pc' := 175) X15 hx (hb hby at_173) rfl rfl rfl ?_
        obtain ⟨cq16, kq16, q16a, q16b, q16c⟩ := isOf hZ rfl c15_0
        obtain ⟨_, _, ⟨T16, L16, k16, n16⟩, -, X16, ⟨Lc16, hQ16, l16, y16, z16⟩, st16⟩ := X15.virtualBack hx (y := (⟨"com/example/ostracon/ostracon/WideSum", "isZero", "()Z"⟩ : MethodName)) (z := (⟨"com/example/ostracon/ostracon/WideSum", "isZero", "()Z"⟩ : MethodName)) hown (mvT hZ (hw _ (List.mem_of_getElem? (i := 30) rfl))) (mvT hZ (hw _ (List.mem_of_getElem? (i := 31) rfl))) (notFace_of_selects (args := #[]) (mvT hZ (hw _ (List.mem_of_getElem? (i := 33) rfl)))) (mvT hZ (hw _ (List.mem_of_getElem? (i := 33) rfl))) (mvT hZ (hw _ (List.mem_of_getElem? (i := 32) rfl))) (by decide) (backOf (W := 0) (rmisz l Z a0 hw [] b1 ((((((0 : Int64) + X) + Y) + U) - X) - U) (own_sh (((((0 : Int64) + X) + Y) + U) - X) (own_sh ((((0 : Int64) + X) + Y) + U) (own_ah (((0 : Int64) + X) + Y) (own_ah ((0 : Int64) + X) (own_ah (0 : Int64) (0 : Int64) X) Y) U) X) U) T15.heap n0 Z15 c15_1 c15_2) hZ (hw _ (List.mem_of_getElem? (i := 34) rfl)) (hw _ (List.mem_of_getElem? (i := 3) rfl)) (by decide) (by decide)) q16a q16c (g := (mkF m 175 #[.val (.long x0), .second, .val (.long x1), .second, .val (.long x2), .second, .val (.int x3), .val (.long X), .second, .val (.long Y), .second, .val (.long U), .second, .val (.int sa), .val (.int sb), .val (.int sc), .val (.ref b1), .val (.int (if Y = (0 : Int64) then (1 : Int32) else (0 : Int32)))] [(.ref b1)])) rfl (by rw [hml]; rfl) (Steps.refl _) (argsL := []) (rest := []) (lenOf pd_3 rfl) rfl (by show 2 * 0 + _ ≤ _; exact Nat.le_of_eq rfl) (hb hby at_175) (fun _ _ => ⟨rfl, rfl, (by decide : 1 + 0 ≤ _), (by decide : 2 + 0 ≤ _)⟩)
        dsimp only [Pt.U, Pt.locs, Pt.cells, Pt.slots] at X16 l16 y16 z16 st16 hQ16
        subst l16 y16 z16
        obtain ⟨rfl, N16q, e16⟩ := hQ16
        have N16 := Fr.app N15 N16q
        refine own_Go.of (g' := (mkF m 178 #[.val (.long x0), .second, .val (.long x1), .second, .val (.long x2), .second, .val (.int x3), .val (.long X), .second, .val (.long Y), .second, .val (.long U), .second, .val (.int sa), .val (.int sb), .val (.int sc), .val (.ref b1), .val (.int (if Y = (0 : Int64) then (1 : Int32) else (0 : Int32)))] [(.int (own_isz ((((((0 : Int64) + X) + Y) + U) - X) - U) (own_sh (((((0 : Int64) + X) + Y) + U) - X) (own_sh ((((0 : Int64) + X) + Y) + U) (own_ah (((0 : Int64) + X) + Y) (own_ah ((0 : Int64) + X) (own_ah (0 : Int64) (0 : Int64) X) Y) U) X) U)))])) (fun t k => st16.trans k) ?_
        refine og_iload (pc' := 180) X16 hx (hb hby at_178) rfl rfl ?_
        refine og_icmpNo (pc' := 183) X16 hx (hb hby at_180) (teq (by rw [own_isz_rep R15]; (try simp only [own_eq0]); (repeat' split) <;> first | rfl | omega)).2 rfl ?_
        refine og_iconst (pc' := 184) (n := 1) X16 hx (hb hby at_183) rfl rfl ?_
        refine og_goto (pc' := 188) X16 hx (hb hby at_184) (by decide) (by decide) ?_
        obtain ⟨fs, hr, hrun, hended, hW, hsame⟩ := X16.leave (v := some (.int (1 : Int32))) (fun h => by rw [Bd.returns] at h; cases h) (BodyLoose.notSynchronized Bd)
        refine ⟨_, _, retN X16 hx (t := .boolean) Bd.returns (by simp) (hb hby at_188) hr, hrun, hended, some (.int (1 : Int32)), _, rfl, ?_, ⟨_, rfl⟩, hW, hsame.mono (by decide) (by decide)⟩
        show Q0 Z x0 x1 x2 x3 h0 n0 _ T16.heap _
        rw [e16]
        exact ⟨rfl, N16⟩
    · refine og_ifNo (pc' := 111) X13 hx (hb hby at_108) ((if0 _ _).trans (feq hc108_16).1) rfl ?_
      refine og_aload (pc' := 113) X13 hx (hb hby at_111) rfl rfl rfl ?_
      refine og_lload (pc' := 115) X13 hx (hb hby at_113) rfl rfl ?_
      obtain ⟨cq17, kq17, q17a, q17b, q17c⟩ := isOf hZ rfl c13_0
      obtain ⟨_, _, ⟨T17, L17, k17, n17⟩, -, X17, ⟨Lc17, hQ17, l17, y17, z17⟩, st17⟩ := X13.virtualBack hx (y := (⟨"com/example/ostracon/ostracon/WideSum", "subtract", "(J)V"⟩ : MethodName)) (z := (⟨"com/example/ostracon/ostracon/WideSum", "subtract", "(J)V"⟩ : MethodName)) hown (mvT hZ (hw _ (List.mem_of_getElem? (i := 25) rfl))) (mvT hZ (hw _ (List.mem_of_getElem? (i := 26) rfl))) (notFace_of_selects (args := #[]) (mvT hZ (hw _ (List.mem_of_getElem? (i := 28) rfl)))) (mvT hZ (hw _ (List.mem_of_getElem? (i := 28) rfl))) (mvT hZ (hw _ (List.mem_of_getElem? (i := 27) rfl))) (by decide) (backOf (W := 0) (rmsub l Z a0 hw [] b1 Y (((((0 : Int64) + X) + Y) + U) - X) (own_sh ((((0 : Int64) + X) + Y) + U) (own_ah (((0 : Int64) + X) + Y) (own_ah ((0 : Int64) + X) (own_ah (0 : Int64) (0 : Int64) X) Y) U) X) T13.heap n0 Z13 c13_0 c13_1 c13_2 g_b1) hZ (hw _ (List.mem_of_getElem? (i := 29) rfl)) (hw _ (List.mem_of_getElem? (i := 3) rfl)) (by decide) (by decide)) q17a q17c (g := (mkF m 115 #[.val (.long x0), .second, .val (.long x1), .second, .val (.long x2), .second, .val (.int x3), .val (.long X), .second, .val (.long Y), .second, .val (.long U), .second, .val (.int sa), .val (.int sb), .val (.int sc), .val (.ref b1), .unset] [(.long Y), (.ref b1)])) rfl (by rw [hml]; rfl) (Steps.refl _) (argsL := [(.long Y)]) (rest := []) (lenOf pd_2 rfl) rfl (by show 2 * 0 + _ ≤ _; exact Nat.le_of_eq rfl) (hb hby at_115) (fun _ _ => ⟨rfl, rfl, (by decide : 1 + 0 ≤ _), (by decide : 2 + 0 ≤ _)⟩)
      dsimp only [Pt.U, Pt.locs, Pt.cells, Pt.slots] at X17 l17 y17 z17 st17 hQ17
      subst l17 y17 z17
      obtain ⟨rfl, N17q, K17q, c17_0, c17_1, c17_2⟩ := hQ17
      have N17 := Fr.app N13 N17q
      have f17_0 := c13_0.keep K17q
      have K17 : Keep h0 T17.heap [] := K13.trans K17q (allS (Or.inr sz_b1) all0)
      have Z17 : n0 ≤ T17.heap.size := Nat.le_trans Z0 K17.1
      refine own_Go.of (g' := (mkF m 118 #[.val (.long x0), .second, .val (.long x1), .second, .val (.long x2), .second, .val (.int x3), .val (.long X), .second, .val (.long Y), .second, .val (.long U), .second, .val (.int sa), .val (.int sb), .val (.int sc), .val (.ref b1), .unset] [])) (fun t k => st17.trans k) ?_
      have R17 : own_rep ((((((0 : Int64) + X) + Y) + U) - X) - Y) (own_sh (((((0 : Int64) + X) + Y) + U) - X) (own_sh ((((0 : Int64) + X) + Y) + U) (own_ah (((0 : Int64) + X) + Y) (own_ah ((0 : Int64) + X) (own_ah (0 : Int64) (0 : Int64) X) Y) U) X) Y) (((((0 + X.toInt) + Y.toInt) + U.toInt) - X.toInt) - Y.toInt) := own_rep_sub R13 (by omega) (by omega) (by omega)
      refine og_iload (pc' := 120) X17 hx (hb hby at_118) rfl rfl ?_
      by_cases hc120_21 : sc = (0 : Int32)
      · refine og_ifYes (pc' := 130) X17 hx (hb hby at_120) ((if0 _ _).trans (teq hc120_21).1) (by decide) (by decide) ?_
        refine og_iload (pc' := 132) X17 hx (hb hby at_130) rfl rfl ?_
        refine own_via (A := own_Go p e below (fun s₂ oc => ∃ v L, oc = .returned v ∧ Q0 Z x0 x1 x2 x3 h0 n0 v s₂.heap L ∧ FrameEnd s oc s₂ L room_1.cells room_1.slots) T17 (mkF m 171 #[.val (.long x0), .second, .val (.long x1), .second, .val (.long x2), .second, .val (.int x3), .val (.long X), .second, .val (.long Y), .second, .val (.long U), .second, .val (.int sa), .val (.int sb), .val (.int sc), .val (.ref b1), .unset] [(.int (if U = (0 : Int64) then (1 : Int32) else (0 : Int32)))])) (fun k => ?_) ?_
        · refine og_ifYes (pc' := 142) X17 hx (hb hby at_132) ((if0 _ _).trans (feq hc96_4).2) (by decide) (by decide) ?_
          refine og_iload (pc' := 144) X17 hx (hb hby at_142) rfl rfl ?_
          refine og_ifYes (pc' := 154) X17 hx (hb hby at_144) ((if0 _ _).trans (feq hc108_16).2) (by decide) (by decide) ?_
          refine og_iload (pc' := 156) X17 hx (hb hby at_154) rfl rfl ?_
          refine og_ifNo (pc' := 159) X17 hx (hb hby at_156) ((if0 _ _).trans (teq hc120_21).2) rfl ?_
          refine og_lload (pc' := 161) X17 hx (hb hby at_159) rfl rfl ?_
          refine og_lconst0 (pc' := 162) X17 hx (hb hby at_161) rfl ?_
          refine og_lcmp (pc' := 163) X17 hx (hb hby at_162) rfl ?_
          by_cases hc163_22 : U = (0 : Int64)
          · refine og_ifNo (pc' := 166) X17 hx (hb hby at_163) ((if0 _ _).trans (teq ((lw_eq _ _).mpr hc163_22)).2) rfl ?_
            refine og_iconst (pc' := 167) (n := 1) X17 hx (hb hby at_166) rfl rfl ?_
            refine og_goto (pc' := 171) X17 hx (hb hby at_167) (by decide) (by decide) ?_
            simp only [if_pos hc163_22] at k
            exact k
          · refine og_ifYes (pc' := 170) X17 hx (hb hby at_163) ((if0 _ _).trans (feq (fun q => hc163_22 ((lw_eq _ _).mp q))).2) (by decide) (by decide) ?_
            refine og_iconst (pc' := 171) (n := 0) X17 hx (hb hby at_170) rfl rfl ?_
            simp only [if_neg hc163_22] at k
            exact k
        refine og_istore (pc' := 173) (L' := #[.val (.long x0), .second, .val (.long x1), .second, .val (.long x2), .second, .val (.int x3), .val (.long X), .second, .val (.long Y), .second, .val (.long U), .second, .val (.int sa), .val (.int sb), .val (.int sc), .val (.ref b1), .val (.int (if U = (0 : Int64) then (1 : Int32) else (0 : Int32)))]) X17 hx (hb hby at_171) rfl rfl ?_
        refine og_aload (pc' := 175) X17 hx (hb hby at_173) rfl rfl rfl ?_
        obtain ⟨cq18, kq18, q18a, q18b, q18c⟩ := isOf hZ rfl c17_0
        obtain ⟨_, _, ⟨T18, L18, k18, n18⟩, -, X18, ⟨Lc18, hQ18, l18, y18, z18⟩, st18⟩ := X17.virtualBack hx (y := (⟨"com/example/ostracon/ostracon/WideSum", "isZero", "()Z"⟩ : MethodName)) (z := (⟨"com/example/ostracon/ostracon/WideSum", "isZero", "()Z"⟩ : MethodName)) hown (mvT hZ (hw _ (List.mem_of_getElem? (i := 30) rfl))) (mvT hZ (hw _ (List.mem_of_getElem? (i := 31) rfl))) (notFace_of_selects (args := #[]) (mvT hZ (hw _ (List.mem_of_getElem? (i := 33) rfl)))) (mvT hZ (hw _ (List.mem_of_getElem? (i := 33) rfl))) (mvT hZ (hw _ (List.mem_of_getElem? (i := 32) rfl))) (by decide) (backOf (W := 0) (rmisz l Z a0 hw [] b1 ((((((0 : Int64) + X) + Y) + U) - X) - Y) (own_sh (((((0 : Int64) + X) + Y) + U) - X) (own_sh ((((0 : Int64) + X) + Y) + U) (own_ah (((0 : Int64) + X) + Y) (own_ah ((0 : Int64) + X) (own_ah (0 : Int64) (0 : Int64) X) Y) U) X) Y) T17.heap n0 Z17 c17_1 c17_2) hZ (hw _ (List.mem_of_getElem? (i := 34) rfl)) (hw _ (List.mem_of_getElem? (i := 3) rfl)) (by decide) (by decide)) q18a q18c (g := (mkF m 175 #[.val (.long x0), .second, .val (.long x1), .second, .val (.long x2), .second, .val (.int x3), .val (.long X), .second, .val (.long Y), .second, .val (.long U), .second, .val (.int sa), .val (.int sb), .val (.int sc), .val (.ref b1), .val (.int (if U = (0 : Int64) then (1 : Int32) else (0 : Int32)))] [(.ref b1)])) rfl (by rw [hml]; rfl) (Steps.refl _) (argsL := []) (rest := []) (lenOf pd_3 rfl) rfl (by show 2 * 0 + _ ≤ _; exact Nat.le_of_eq rfl) (hb hby at_175) (fun _ _ => ⟨rfl, rfl, (by decide : 1 + 0 ≤ _), (by decide : 2 + 0 ≤ _)⟩)
        dsimp only [Pt.U, Pt.locs, Pt.cells, Pt.slots] at X18 l18 y18 z18 st18 hQ18
        subst l18 y18 z18
        obtain ⟨rfl, N18q, e18⟩ := hQ18
        have N18 := Fr.app N17 N18q
        refine own_Go.of (g' := (mkF m 178 #[.val (.long x0), .second, .val (.long x1), .second, .val (.long x2), .second, .val (.int x3), .val (.long X), .second, .val (.long Y), .second, .val (.long U), .second, .val (.int sa), .val (.int sb), .val (.int sc), .val (.ref b1), .val (.int (if U = (0 : Int64) then (1 : Int32) else (0 : Int32)))] [(.int (own_isz ((((((0 : Int64) + X) + Y) + U) - X) - Y) (own_sh (((((0 : Int64) + X) + Y) + U) - X) (own_sh ((((0 : Int64) + X) + Y) + U) (own_ah (((0 : Int64) + X) + Y) (own_ah ((0 : Int64) + X) (own_ah (0 : Int64) (0 : Int64) X) Y) U) X) Y)))])) (fun t k => st18.trans k) ?_
        refine og_iload (pc' := 180) X18 hx (hb hby at_178) rfl rfl ?_
        refine og_icmpNo (pc' := 183) X18 hx (hb hby at_180) (teq (by rw [own_isz_rep R17]; (try simp only [own_eq0]); (repeat' split) <;> first | rfl | omega)).2 rfl ?_
        refine og_iconst (pc' := 184) (n := 1) X18 hx (hb hby at_183) rfl rfl ?_
        refine og_goto (pc' := 188) X18 hx (hb hby at_184) (by decide) (by decide) ?_
        obtain ⟨fs, hr, hrun, hended, hW, hsame⟩ := X18.leave (v := some (.int (1 : Int32))) (fun h => by rw [Bd.returns] at h; cases h) (BodyLoose.notSynchronized Bd)
        refine ⟨_, _, retN X18 hx (t := .boolean) Bd.returns (by simp) (hb hby at_188) hr, hrun, hended, some (.int (1 : Int32)), _, rfl, ?_, ⟨_, rfl⟩, hW, hsame.mono (by decide) (by decide)⟩
        show Q0 Z x0 x1 x2 x3 h0 n0 _ T18.heap _
        rw [e18]
        exact ⟨rfl, N18⟩
      · refine og_ifNo (pc' := 123) X17 hx (hb hby at_120) ((if0 _ _).trans (feq hc120_21).1) rfl ?_
        refine og_aload (pc' := 125) X17 hx (hb hby at_123) rfl rfl rfl ?_
        refine og_lload (pc' := 127) X17 hx (hb hby at_125) rfl rfl ?_
        obtain ⟨cq19, kq19, q19a, q19b, q19c⟩ := isOf hZ rfl c17_0
        obtain ⟨_, _, ⟨T19, L19, k19, n19⟩, -, X19, ⟨Lc19, hQ19, l19, y19, z19⟩, st19⟩ := X17.virtualBack hx (y := (⟨"com/example/ostracon/ostracon/WideSum", "subtract", "(J)V"⟩ : MethodName)) (z := (⟨"com/example/ostracon/ostracon/WideSum", "subtract", "(J)V"⟩ : MethodName)) hown (mvT hZ (hw _ (List.mem_of_getElem? (i := 25) rfl))) (mvT hZ (hw _ (List.mem_of_getElem? (i := 26) rfl))) (notFace_of_selects (args := #[]) (mvT hZ (hw _ (List.mem_of_getElem? (i := 28) rfl)))) (mvT hZ (hw _ (List.mem_of_getElem? (i := 28) rfl))) (mvT hZ (hw _ (List.mem_of_getElem? (i := 27) rfl))) (by decide) (backOf (W := 0) (rmsub l Z a0 hw [] b1 U ((((((0 : Int64) + X) + Y) + U) - X) - Y) (own_sh (((((0 : Int64) + X) + Y) + U) - X) (own_sh ((((0 : Int64) + X) + Y) + U) (own_ah (((0 : Int64) + X) + Y) (own_ah ((0 : Int64) + X) (own_ah (0 : Int64) (0 : Int64) X) Y) U) X) Y) T17.heap n0 Z17 c17_0 c17_1 c17_2 g_b1) hZ (hw _ (List.mem_of_getElem? (i := 29) rfl)) (hw _ (List.mem_of_getElem? (i := 3) rfl)) (by decide) (by decide)) q19a q19c (g := (mkF m 127 #[.val (.long x0), .second, .val (.long x1), .second, .val (.long x2), .second, .val (.int x3), .val (.long X), .second, .val (.long Y), .second, .val (.long U), .second, .val (.int sa), .val (.int sb), .val (.int sc), .val (.ref b1), .unset] [(.long U), (.ref b1)])) rfl (by rw [hml]; rfl) (Steps.refl _) (argsL := [(.long U)]) (rest := []) (lenOf pd_2 rfl) rfl (by show 2 * 0 + _ ≤ _; exact Nat.le_of_eq rfl) (hb hby at_127) (fun _ _ => ⟨rfl, rfl, (by decide : 1 + 0 ≤ _), (by decide : 2 + 0 ≤ _)⟩)
        dsimp only [Pt.U, Pt.locs, Pt.cells, Pt.slots] at X19 l19 y19 z19 st19 hQ19
        subst l19 y19 z19
        obtain ⟨rfl, N19q, K19q, c19_0, c19_1, c19_2⟩ := hQ19
        have N19 := Fr.app N17 N19q
        have f19_0 := c17_0.keep K19q
        have K19 : Keep h0 T19.heap [] := K17.trans K19q (allS (Or.inr sz_b1) all0)
        have Z19 : n0 ≤ T19.heap.size := Nat.le_trans Z0 K19.1
        refine own_Go.of (g' := (mkF m 130 #[.val (.long x0), .second, .val (.long x1), .second, .val (.long x2), .second, .val (.int x3), .val (.long X), .second, .val (.long Y), .second, .val (.long U), .second, .val (.int sa), .val (.int sb), .val (.int sc), .val (.ref b1), .unset] [])) (fun t k => st19.trans k) ?_
        have R19 : own_rep (((((((0 : Int64) + X) + Y) + U) - X) - Y) - U) (own_sh ((((((0 : Int64) + X) + Y) + U) - X) - Y) (own_sh (((((0 : Int64) + X) + Y) + U) - X) (own_sh ((((0 : Int64) + X) + Y) + U) (own_ah (((0 : Int64) + X) + Y) (own_ah ((0 : Int64) + X) (own_ah (0 : Int64) (0 : Int64) X) Y) U) X) Y) U) ((((((0 + X.toInt) + Y.toInt) + U.toInt) - X.toInt) - Y.toInt) - U.toInt) := own_rep_sub R17 (by omega) (by omega) (by omega)
        refine og_iload (pc' := 132) X19 hx (hb hby at_130) rfl rfl ?_
        refine own_via (A := own_Go p e below (fun s₂ oc => ∃ v L, oc = .returned v ∧ Q0 Z x0 x1 x2 x3 h0 n0 v s₂.heap L ∧ FrameEnd s oc s₂ L room_1.cells room_1.slots) T19 (mkF m 171 #[.val (.long x0), .second, .val (.long x1), .second, .val (.long x2), .second, .val (.int x3), .val (.long X), .second, .val (.long Y), .second, .val (.long U), .second, .val (.int sa), .val (.int sb), .val (.int sc), .val (.ref b1), .unset] [(.int (1 : Int32))])) (fun k => ?_) ?_
        · refine og_ifYes (pc' := 142) X19 hx (hb hby at_132) ((if0 _ _).trans (feq hc96_4).2) (by decide) (by decide) ?_
          refine og_iload (pc' := 144) X19 hx (hb hby at_142) rfl rfl ?_
          refine og_ifYes (pc' := 154) X19 hx (hb hby at_144) ((if0 _ _).trans (feq hc108_16).2) (by decide) (by decide) ?_
          refine og_iload (pc' := 156) X19 hx (hb hby at_154) rfl rfl ?_
          refine og_ifYes (pc' := 166) X19 hx (hb hby at_156) ((if0 _ _).trans (feq hc120_21).2) (by decide) (by decide) ?_
          refine og_iconst (pc' := 167) (n := 1) X19 hx (hb hby at_166) rfl rfl ?_
          refine og_goto (pc' := 171) X19 hx (hb hby at_167) (by decide) (by decide) ?_
          exact k
        refine og_istore (pc' := 173) (L' := #[.val (.long x0), .second, .val (.long x1), .second, .val (.long x2), .second, .val (.int x3), .val (.long X), .second, .val (.long Y), .second, .val (.long U), .second, .val (.int sa), .val (.int sb), .val (.int sc), .val (.ref b1), .val (.int (1 : Int32))]) X19 hx (hb hby at_171) rfl rfl ?_
        refine og_aload (pc' := 175) X19 hx (hb hby at_173) rfl rfl rfl ?_
        obtain ⟨cq20, kq20, q20a, q20b, q20c⟩ := isOf hZ rfl c19_0
        obtain ⟨_, _, ⟨T20, L20, k20, n20⟩, -, X20, ⟨Lc20, hQ20, l20, y20, z20⟩, st20⟩ := X19.virtualBack hx (y := (⟨"com/example/ostracon/ostracon/WideSum", "isZero", "()Z"⟩ : MethodName)) (z := (⟨"com/example/ostracon/ostracon/WideSum", "isZero", "()Z"⟩ : MethodName)) hown (mvT hZ (hw _ (List.mem_of_getElem? (i := 30) rfl))) (mvT hZ (hw _ (List.mem_of_getElem? (i := 31) rfl))) (notFace_of_selects (args := #[]) (mvT hZ (hw _ (List.mem_of_getElem? (i := 33) rfl)))) (mvT hZ (hw _ (List.mem_of_getElem? (i := 33) rfl))) (mvT hZ (hw _ (List.mem_of_getElem? (i := 32) rfl))) (by decide) (backOf (W := 0) (rmisz l Z a0 hw [] b1 (((((((0 : Int64) + X) + Y) + U) - X) - Y) - U) (own_sh ((((((0 : Int64) + X) + Y) + U) - X) - Y) (own_sh (((((0 : Int64) + X) + Y) + U) - X) (own_sh ((((0 : Int64) + X) + Y) + U) (own_ah (((0 : Int64) + X) + Y) (own_ah ((0 : Int64) + X) (own_ah (0 : Int64) (0 : Int64) X) Y) U) X) Y) U) T19.heap n0 Z19 c19_1 c19_2) hZ (hw _ (List.mem_of_getElem? (i := 34) rfl)) (hw _ (List.mem_of_getElem? (i := 3) rfl)) (by decide) (by decide)) q20a q20c (g := (mkF m 175 #[.val (.long x0), .second, .val (.long x1), .second, .val (.long x2), .second, .val (.int x3), .val (.long X), .second, .val (.long Y), .second, .val (.long U), .second, .val (.int sa), .val (.int sb), .val (.int sc), .val (.ref b1), .val (.int (1 : Int32))] [(.ref b1)])) rfl (by rw [hml]; rfl) (Steps.refl _) (argsL := []) (rest := []) (lenOf pd_3 rfl) rfl (by show 2 * 0 + _ ≤ _; exact Nat.le_of_eq rfl) (hb hby at_175) (fun _ _ => ⟨rfl, rfl, (by decide : 1 + 0 ≤ _), (by decide : 2 + 0 ≤ _)⟩)
        dsimp only [Pt.U, Pt.locs, Pt.cells, Pt.slots] at X20 l20 y20 z20 st20 hQ20
        subst l20 y20 z20
        obtain ⟨rfl, N20q, e20⟩ := hQ20
        have N20 := Fr.app N19 N20q
        refine own_Go.of (g' := (mkF m 178 #[.val (.long x0), .second, .val (.long x1), .second, .val (.long x2), .second, .val (.int x3), .val (.long X), .second, .val (.long Y), .second, .val (.long U), .second, .val (.int sa), .val (.int sb), .val (.int sc), .val (.ref b1), .val (.int (1 : Int32))] [(.int (own_isz (((((((0 : Int64) + X) + Y) + U) - X) - Y) - U) (own_sh ((((((0 : Int64) + X) + Y) + U) - X) - Y) (own_sh (((((0 : Int64) + X) + Y) + U) - X) (own_sh ((((0 : Int64) + X) + Y) + U) (own_ah (((0 : Int64) + X) + Y) (own_ah ((0 : Int64) + X) (own_ah (0 : Int64) (0 : Int64) X) Y) U) X) Y) U)))])) (fun t k => st20.trans k) ?_
        refine og_iload (pc' := 180) X20 hx (hb hby at_178) rfl rfl ?_
        refine og_icmpNo (pc' := 183) X20 hx (hb hby at_180) (teq (by rw [own_isz_rep R19]; (try simp only [own_eq0]); (repeat' split) <;> first | rfl | omega)).2 rfl ?_
        refine og_iconst (pc' := 184) (n := 1) X20 hx (hb hby at_183) rfl rfl ?_
        refine og_goto (pc' := 188) X20 hx (hb hby at_184) (by decide) (by decide) ?_
        obtain ⟨fs, hr, hrun, hended, hW, hsame⟩ := X20.leave (v := some (.int (1 : Int32))) (fun h => by rw [Bd.returns] at h; cases h) (BodyLoose.notSynchronized Bd)
        refine ⟨_, _, retN X20 hx (t := .boolean) Bd.returns (by simp) (hb hby at_188) hr, hrun, hended, some (.int (1 : Int32)), _, rfl, ?_, ⟨_, rfl⟩, hW, hsame.mono (by decide) (by decide)⟩
        show Q0 Z x0 x1 x2 x3 h0 n0 _ T20.heap _
        rw [e20]
        exact ⟨rfl, N20⟩

set_option maxRecDepth 65536 in
set_option maxHeartbeats 40000000 in
theorem comes_1 {Post : Tables → Env → Array Value → State → Outcome → State → Prop} (hpost : ∀ tb e args s v u, (limb_1_1.after args s (.returned v) u = true ∧ limb_1_2.after args s (.returned v) u = true ∧ True) → FrameEnd s (.returned v) u (Jvm.fieldLocs frame_1_writes args s ++ Jvm.arrayLocs frame_1_arrays args s ++ Jvm.staticLocs frame_1_statics s) 16 128 → Post tb e args s (.returned v) u) :
    ArmFor flags0 classFile x code maxLocals ret World_1 tables_1 room_1 Calls_1 rest_1 Pre_1 Post := by
  intro l hfl _ _ p e ha hc hk s m args below hf hA hF happ hP
  obtain ⟨hcalls, hrest, hpre⟩ := hP
  obtain ⟨-, -, -, hnamed, -, -, -, hat⟩ := (Spec.applies_iff hf).mp happ
  obtain ⟨hg, hn⟩ := and_e (Cond.before_iff.mp (show (Jvm.Cond.and given_1 narrow_1).before args s = true from hpre))
  obtain ⟨hcnt, hg0⟩ := and_e hg
  obtain ⟨a0, hg1⟩ := and_e hg0
  obtain ⟨a1, hg2⟩ := and_e hg1
  obtain ⟨a2, hg3⟩ := and_e hg2
  obtain ⟨w0, w1, w2, w3, rfl⟩ : ∃ w0 w1 w2 w3 : Value, args = #[w0, w1, w2, w3] := by
    have hs : args.size = 4 := by simpa [Cond.value, given_1] using hcnt
    obtain ⟨L⟩ := args
    match L, hs with
    | [w0, w1, w2, w3], _ => exact ⟨w0, w1, w2, w3, rfl⟩
  have hw := fun d (hd : d ∈ tables_1) => atoms_spec (ws := Jvm.Cond.code x code maxLocals ret :: tables_1) hat d (List.mem_cons_of_mem _ hd)
  have hfit : Fit s := fun {y c} hc i hi => by
    obtain ⟨ha, rfl⟩ := Array.getElem?_eq_some_iff.mp hc
    have q := List.all_eq_true.mp ((Array.all_eq_true_iff_forall_mem.mp hF) _ (Array.getElem_mem ha)) i (List.mem_range.mpr hi)
    simpa [Array.getElem?_eq_getElem hi] using q
  obtain ⟨i0, ei0⟩ := isL_v a0
  obtain rfl : w0 = (.long i0) := Option.some.inj ei0
  obtain ⟨i1, ei1⟩ := isL_v a1
  obtain rfl : w1 = (.long i1) := Option.some.inj ei1
  obtain ⟨i2, ei2⟩ := isL_v a2
  obtain rfl : w2 = (.long i2) := Option.some.inj ei2
  obtain ⟨i3, ei3⟩ := is_v hg3
  obtain rfl : w3 = (.int i3) := Option.some.inj ei3
  obtain ⟨n, o, h1, h2, h3, _, L, rfl, ⟨rfl, N⟩, hq⟩ := rm0 l s _ hw tables_1 i0 i1 i2 i3  s.heap s.heap.size (Nat.le_refl _)  p e ha hc hk s m _ below hf ((Spec.applies_iff_loose hf).mp happ).1 ⟨rfl, State.Warmed39.refl s, rfl⟩ trivial
  refine ⟨n, _, h1, h2, h3, hpost _ _ _ _ _ _ ⟨Cond.after_iff.mpr rfl, Cond.after_iff.mpr (eq_i res_at (Term.int_eval (1)) rfl), trivial⟩ ⟨hq.1, hq.2.1, (hq.2.2.sift fun y hy => Or.inr (N y hy)).mono (by decide) (by decide)⟩⟩
theorem main_1_1 : Claimed_1_1 := comes_1 fun _ _ _ _ _ _ h hF => ⟨h.1, hF⟩
theorem main_1_2 : Claimed_1_2 := comes_1 fun _ _ _ _ _ _ h hF => ⟨h.2.1, hF⟩

end Jvm.Pilot.@@N@@
namespace Jvm.Pilot.@@N@@
open Jvm Jvm.ClassFile Sem Op Lib Jvm.Free Jvm.Stand Jvm.Pilot.@@N@@.Jvm.D
/-! MADE BY PROGRAM (witnessworld.py) out of the Statement's table words and the real class files: 14 classes; the members and pool entries that the words name. The judged class is class 1, her method 1. -/
namespace start1
open Jvm.ClassFile
def u (s : String) : CpInfo := .utf8 (stringToUtf16 s)
/-- a pool by its gaps: so many unusable entries, then the entry; so many at the end -/
def gap : Nat → List CpInfo → List CpInfo
  | 0, r => r
  | n + 1, r => .unusable :: gap n r
def poolList (es : List (Nat × CpInfo)) (last : Nat) : List CpInfo := es.foldr (fun e r => gap e.1 (e.2 :: r)) (gap last [])
def pool (es : List (Nat × CpInfo)) (last : Nat) : Array CpInfo := ⟨poolList es last⟩
def fileOf (pool : Array CpInfo) (this : Nat) (attrs : Array Attribute := #[]) (ms : Array MethodInfo := #[]) (fl : Nat := 33) (sup : Nat := 0) (ifs : Array Nat := #[]) (fds : Array FieldInfo := #[]) : ClassFile where
  minorVersion := 0
  majorVersion := 65
  constantPool := pool
  accessFlags := fl
  thisClass := this
  superClass := sup
  interfaces := ifs
  fields := fds
  methods := ms
  attributes := attrs
def plain (name : String) (sup : Option ClassId) : Class where
  name := name
  kind := .ordinary
  loader := none
  accessFlags := 33
  super := sup
  interfaces := #[]
  cf := none
  fields := #[]
  methods := #[]
  instanceTypes := #[]
  staticTypes := #[]
  resolved := #[]
  callSites := []
  init := .initialized
  statics := none
  mirror := none

def pool0 : Array CpInfo := pool [(5, u "<init>"), (0, u "()V"), (1, .class_ 10), (1, u "java/lang/Object")] 113

def k0c0 : Code := { maxStack := 0, maxLocals := 1, code := object_method_1_code, exceptionTable := #[], attributes := #[] }
def k0m0 : Method := { name := "<init>", desc := "()V", sig := { parameters := [], returnType := none }, accessFlags := 1, code := some k0c0 }
/-- java/lang/Object -/
def k0 : Class := { plain "java/lang/Object" none with
  accessFlags := 33
  interfaces := #[]
  cf := some (fileOf pool0 8 #[] #[{ accessFlags := 1, nameIndex := 5, descriptorIndex := 6, attributes := #[] }] 33 0 #[] #[])
  fields := #[]
  methods := #[k0m0]
  instanceTypes := #[]
  staticTypes := #[]
  resolved := Array.replicate 124 none
  statics := none }

def pool1 : Array CpInfo := pool [(2, .class_ 4), (0, .nameAndType 5 6), (0, u "java/lang/Object"), (0, u "<init>"), (0, u "()V"), (2, .long 9223372036854775807), (1, .class_ 12), (0, u "com/example/ostracon/ostracon/WideSum"), (0, .methodref 11 3), (0, .methodref 11 15), (0, .nameAndType 16 17), (0, u "add"), (0, u "(J)V"), (0, .methodref 11 19), (0, .nameAndType 20 17), (0, u "subtract"), (0, .methodref 11 22), (0, .nameAndType 23 24), (0, u "isZero"), (0, u "()Z"), (0, .class_ 26), (0, u "com/example/ostracon/ostracon/WideSumIsZeroPinLaw"), (2, u "law"), (0, u "(JJJI)Z")] 3

def k1m0 : Method := { name := "<init>", desc := "()V", sig := { parameters := [], returnType := none }, accessFlags := 2, code := none }
def k1c1 : Code := { maxStack := 4, maxLocals := 18, code := code, exceptionTable := #[], attributes := #[] }
def k1m1 : Method := { name := "law", desc := "(JJJI)Z", sig := { parameters := [.long, .long, .long, .int], returnType := some .boolean }, accessFlags := 9, code := some k1c1 }
/-- com/example/ostracon/ostracon/WideSumIsZeroPinLaw -/
def k1 : Class := { plain "com/example/ostracon/ostracon/WideSumIsZeroPinLaw" (some 0) with
  accessFlags := 49
  interfaces := #[]
  cf := some (fileOf pool1 25 #[] #[{ accessFlags := 2, nameIndex := 5, descriptorIndex := 6, attributes := #[] }, { accessFlags := 9, nameIndex := 29, descriptorIndex := 30, attributes := #[] }] 49 2 #[] #[])
  fields := #[]
  methods := #[k1m0, k1m1]
  instanceTypes := #[]
  staticTypes := #[]
  resolved := Array.replicate 34 none
  statics := none }

def pool2 : Array CpInfo := pool [(1, .methodref 2 3), (0, .class_ 4), (0, .nameAndType 5 6), (0, u "java/lang/Object"), (0, u "<init>"), (0, u "()V"), (0, .fieldref 8 9), (0, .class_ 10), (0, .nameAndType 11 12), (0, u "com/example/ostracon/ostracon/WideSum"), (0, u "low"), (0, u "J"), (0, .methodref 14 15), (0, .class_ 16), (0, .nameAndType 17 18), (0, u "java/lang/Long"), (0, u "compareUnsigned"), (0, u "(JJ)I"), (0, .fieldref 8 20), (0, .nameAndType 21 12), (0, u "high"), (21, u "add"), (0, u "(J)V"), (1, u "subtract"), (0, u "isZero"), (0, u "()Z")] 4

def k2c0 : Code := { maxStack := 1, maxLocals := 1, code := prog_55_method_1_code, exceptionTable := #[], attributes := #[] }
def k2m0 : Method := { name := "<init>", desc := "()V", sig := { parameters := [], returnType := none }, accessFlags := 0, code := some k2c0 }
def k2c1 : Code := { maxStack := 5, maxLocals := 5, code := prog_55_method_2_code, exceptionTable := #[], attributes := #[] }
def k2m1 : Method := { name := "add", desc := "(J)V", sig := { parameters := [.long], returnType := none }, accessFlags := 0, code := some k2c1 }
def k2c2 : Code := { maxStack := 5, maxLocals := 3, code := prog_55_method_3_code, exceptionTable := #[], attributes := #[] }
def k2m2 : Method := { name := "subtract", desc := "(J)V", sig := { parameters := [.long], returnType := none }, accessFlags := 0, code := some k2c2 }
def k2c3 : Code := { maxStack := 4, maxLocals := 1, code := prog_55_method_4_code, exceptionTable := #[], attributes := #[] }
def k2m3 : Method := { name := "isZero", desc := "()Z", sig := { parameters := [], returnType := some .boolean }, accessFlags := 0, code := some k2c3 }
/-- com/example/ostracon/ostracon/WideSum -/
def k2 : Class := { plain "com/example/ostracon/ostracon/WideSum" (some 0) with
  accessFlags := 48
  interfaces := #[]
  cf := some (fileOf pool2 8 #[] #[{ accessFlags := 0, nameIndex := 5, descriptorIndex := 6, attributes := #[] }, { accessFlags := 0, nameIndex := 43, descriptorIndex := 44, attributes := #[] }, { accessFlags := 0, nameIndex := 46, descriptorIndex := 44, attributes := #[] }, { accessFlags := 0, nameIndex := 47, descriptorIndex := 48, attributes := #[] }] 48 2 #[] #[{ accessFlags := 2, nameIndex := 11, descriptorIndex := 12, attributes := #[] }, { accessFlags := 2, nameIndex := 21, descriptorIndex := 12, attributes := #[] }])
  fields := #[{ name := "low", type := .long, accessFlags := 2, slot := 0, constantValue := 0 }, { name := "high", type := .long, accessFlags := 2, slot := 1, constantValue := 0 }]
  methods := #[k2m0, k2m1, k2m2, k2m3]
  instanceTypes := #[.long, .long]
  staticTypes := #[]
  resolved := Array.replicate 53 none
  statics := none }

def pool3 : Array CpInfo := pool [(1, .class_ 2), (0, u "java/io/Serializable"), (0, .class_ 4), (0, u "java/lang/Object")] 2

/-- java/io/Serializable -/
def k3 : Class := { plain "java/io/Serializable" (some 0) with
  accessFlags := 1537
  interfaces := #[]
  cf := some (fileOf pool3 1 #[] #[] 1537 3 #[] #[])
  fields := #[]
  methods := #[]
  instanceTypes := #[]
  staticTypes := #[]
  resolved := Array.replicate 7 none
  statics := none }

def pool4 : Array CpInfo := pool [(2, .class_ 4), (1, u "java/lang/Object"), (0, u "<init>"), (0, u "()V"), (1, .class_ 10), (1, u "java/lang/Number"), (2, .class_ 14), (0, u "java/io/Serializable"), (0, u "serialVersionUID"), (0, u "J")] 20

def k4m0 : Method := { name := "<init>", desc := "()V", sig := { parameters := [], returnType := none }, accessFlags := 1, code := none }
/-- java/lang/Number -/
def k4 : Class := { plain "java/lang/Number" (some 0) with
  accessFlags := 1057
  interfaces := #[3]
  cf := some (fileOf pool4 8 #[] #[{ accessFlags := 1, nameIndex := 5, descriptorIndex := 6, attributes := #[] }] 1057 2 #[13] #[{ accessFlags := 26, nameIndex := 15, descriptorIndex := 16, attributes := #[] }])
  fields := #[{ name := "serialVersionUID", type := .long, accessFlags := 26, slot := 0, constantValue := 0 }]
  methods := #[k4m0]
  instanceTypes := #[]
  staticTypes := #[.long]
  resolved := Array.replicate 37 none
  statics := none }

def pool5 : Array CpInfo := pool [(1, .class_ 2), (0, u "java/lang/Comparable"), (0, .class_ 4), (0, u "java/lang/Object")] 7

/-- java/lang/Comparable -/
def k5 : Class := { plain "java/lang/Comparable" (some 0) with
  accessFlags := 1537
  interfaces := #[]
  cf := some (fileOf pool5 1 #[] #[] 1537 3 #[] #[])
  fields := #[]
  methods := #[]
  instanceTypes := #[]
  staticTypes := #[]
  resolved := Array.replicate 12 none
  statics := none }

def pool6 : Array CpInfo := pool [(1, .class_ 2), (0, u "java/lang/constant/Constable"), (0, .class_ 4), (0, u "java/lang/Object")] 6

/-- java/lang/constant/Constable -/
def k6 : Class := { plain "java/lang/constant/Constable" (some 0) with
  accessFlags := 1537
  interfaces := #[]
  cf := some (fileOf pool6 1 #[] #[] 1537 3 #[] #[])
  fields := #[]
  methods := #[]
  instanceTypes := #[]
  staticTypes := #[]
  resolved := Array.replicate 11 none
  statics := none }

def pool7 : Array CpInfo := pool [(1, .class_ 2), (0, u "java/lang/constant/ConstantDesc"), (0, .class_ 4), (0, u "java/lang/Object")] 32

/-- java/lang/constant/ConstantDesc -/
def k7 : Class := { plain "java/lang/constant/ConstantDesc" (some 0) with
  accessFlags := 1537
  interfaces := #[]
  cf := some (fileOf pool7 1 #[] #[] 1537 3 #[] #[])
  fields := #[]
  methods := #[]
  instanceTypes := #[]
  staticTypes := #[]
  resolved := Array.replicate 37 none
  statics := none }

def pool8 : Array CpInfo := pool [(1, .class_ 2), (0, u "java/lang/Long"), (165, .long 9223372036854775808), (66, .class_ 237), (1, u "java/lang/Long$LongCache"), (33, .class_ 272), (0, u "java/lang/Number"), (2, u "value"), (0, u "J"), (25, .methodref 1 303), (0, .nameAndType 304 305), (0, u "compare"), (0, u "(JJ)I"), (55, u "TYPE"), (0, u "Ljava/lang/Class;"), (0, .class_ 364), (0, u "java/lang/Comparable"), (0, .class_ 366), (0, u "java/lang/constant/Constable"), (0, .class_ 368), (0, u "java/lang/constant/ConstantDesc"), (0, u "MIN_VALUE"), (1, u "MAX_VALUE"), (4, u "SIZE"), (0, u "I"), (1, u "BYTES"), (1, u "serialVersionUID"), (87, u "compareUnsigned")] 54

def k8c0 : Code := { maxStack := 4, maxLocals := 4, code := jdk_35_method_42_code, exceptionTable := #[], attributes := #[] }
def k8m0 : Method := { name := "compare", desc := "(JJ)I", sig := { parameters := [.long, .long], returnType := some .int }, accessFlags := 9, code := some k8c0 }
def k8c1 : Code := { maxStack := 6, maxLocals := 4, code := jdk_35_method_43_code, exceptionTable := #[], attributes := #[] }
def k8m1 : Method := { name := "compareUnsigned", desc := "(JJ)I", sig := { parameters := [.long, .long], returnType := some .int }, accessFlags := 9, code := some k8c1 }
/-- java/lang/Long -/
def k8 : Class := { plain "java/lang/Long" (some 4) with
  accessFlags := 49
  interfaces := #[5, 6, 7]
  cf := some (fileOf pool8 1 #[.nestMembers #[235]] #[{ accessFlags := 9, nameIndex := 304, descriptorIndex := 305, attributes := #[] }, { accessFlags := 9, nameIndex := 469, descriptorIndex := 305, attributes := #[] }] 49 271 #[363, 365, 367] #[{ accessFlags := 25, nameIndex := 369, descriptorIndex := 276, attributes := #[] }, { accessFlags := 25, nameIndex := 371, descriptorIndex := 276, attributes := #[] }, { accessFlags := 25, nameIndex := 361, descriptorIndex := 362, attributes := #[] }, { accessFlags := 18, nameIndex := 275, descriptorIndex := 276, attributes := #[] }, { accessFlags := 25, nameIndex := 376, descriptorIndex := 377, attributes := #[] }, { accessFlags := 25, nameIndex := 379, descriptorIndex := 377, attributes := #[] }, { accessFlags := 26, nameIndex := 381, descriptorIndex := 276, attributes := #[] }])
  fields := #[{ name := "MIN_VALUE", type := .long, accessFlags := 25, slot := 0, constantValue := 0 }, { name := "MAX_VALUE", type := .long, accessFlags := 25, slot := 1, constantValue := 0 }, { name := "TYPE", type := (.object "java/lang/Class"), accessFlags := 25, slot := 2, constantValue := 0 }, { name := "value", type := .long, accessFlags := 18, slot := 0, constantValue := 0 }, { name := "SIZE", type := .int, accessFlags := 25, slot := 3, constantValue := 0 }, { name := "BYTES", type := .int, accessFlags := 25, slot := 4, constantValue := 0 }, { name := "serialVersionUID", type := .long, accessFlags := 26, slot := 5, constantValue := 0 }]
  methods := #[k8m0, k8m1]
  instanceTypes := #[.long]
  staticTypes := #[.long, .long, (.object "java/lang/Class"), .int, .int, .long]
  resolved := Array.replicate 524 none
  statics := none }

def pool9 : Array CpInfo := pool [(1, u "java/lang/Cloneable"), (0, .class_ 1), (0, u "java/lang/Object"), (0, .class_ 3)] 3

/-- java/lang/Cloneable -/
def k9 : Class := { plain "java/lang/Cloneable" (some 0) with
  accessFlags := 1537
  interfaces := #[]
  cf := some (fileOf pool9 2 #[] #[] 1537 4 #[] #[])
  fields := #[]
  methods := #[]
  instanceTypes := #[]
  staticTypes := #[]
  resolved := Array.replicate 8 none
  statics := none }

/-- the primitive byte -/
def k10 : Class := { plain "byte" none with kind := .primitive 'B', accessFlags := 0x411 }
/-- [B -/
def k11 : Class := { plain "[B" (some 0) with kind := .array 10 .byte, interfaces := #[9, 3], accessFlags := 1041 }

/-- the primitive int -/
def k12 : Class := { plain "int" none with kind := .primitive 'I', accessFlags := 0x411 }
/-- [I -/
def k13 : Class := { plain "[I" (some 0) with kind := .array 12 .int, interfaces := #[9, 3], accessFlags := 1041 }

def heap : Heap := #[]
def classes : Array Class := #[k0, k1, k2, k3, k4, k5, k6, k7, k8, k9, k10, k11, k12, k13]
def interned : List (Array UInt16 × Addr) := []
def slotsUsed : Nat := 0
def theMethod : MethodId := ⟨1, 1⟩
def args0 : Array Value := #[.long 5, .long 6, .long 7, .int 3]
def aboutOver (below : List Frame) : State where
  vm := { classes := classes, interned := interned.toArray }
  heap := heap
  slotsUsed := slotsUsed
  threads := #[{ frames := .invoking theMethod args0 :: below }]
def below0 : List Frame := [.native { method := ⟨0, 0⟩, args := #[] }]
def about1 : State := aboutOver below0
def p0 : Program := .bare "" "" ""
def e0 : Env := launch0.env 0 0 0
theorem w_frames : about1.frames = Frame.invoking theMethod args0 :: below0 := rfl
set_option maxRecDepth 65536 in
theorem w_args : argsFit about1.vm theMethod args0 = true := by decide +kernel
set_option maxRecDepth 65536 in
theorem w_heap : heapFits about1 = true := by decide +kernel
set_option maxRecDepth 65536 in
theorem w_runnable : about1.curStatus? = some .runnable := by decide +kernel
set_option maxRecDepth 65536 in
theorem w_alone : about1.alone = true := by decide +kernel
set_option maxRecDepth 65536 in
theorem w_named : about1.methodNamed? x = some theMethod := by decide +kernel
set_option maxRecDepth 65536 in
theorem w_hears : about1.hears theMethod below0 = true := by decide +kernel
set_option maxRecDepth 65536 in
theorem w_ripe : about1.ripe theMethod args0 below0 = true := by decide +kernel
theorem w_running : about1.status = .running := rfl
set_option maxRecDepth 65536 in
theorem w_room : about1.hasRoom e0.platform room_1 = true :=
  launch0.hasRoom_least _ room_1 (by decide +kernel) (by decide +kernel) (by decide +kernel) (by decide +kernel) (by decide +kernel) (by decide +kernel)
theorem allAtoms_all (ts : List Jvm.Cond) (a : Array Jvm.Value) (st : Jvm.State) : (allAtoms ts).before a st = ts.all (fun c => c.before a st) := by
  induction ts with
  | nil => rfl
  | cons c t ih =>
    show (Jvm.Cond.and c (allAtoms t)).before a st = _
    rw [Jvm.Cond.before_and, ih, List.all_cons]
def words1 : List Jvm.Cond := Jvm.Cond.code x code maxLocals ret :: tables_1
/-- a 'code' word, met by the world's own term for the bytes: nothing is compared byte by byte -/
theorem code_word {y : MethodName} {bytes : ByteArray} {mx : Nat} {rt : Option FieldType} {a : Array Value} {s : State} {m : MethodId} {meth : Method} {c : Code} (h1 : s.methodNamed? y = some m) (h2 : s.vm.method? m = some meth) (h3 : meth.code = some c) (h4 : c.code = bytes)
    (h5 : (c.maxLocals == mx && c.exceptionTable.isEmpty && decide (c.maxStack ≤ mostOperands) && decide (meth.sig.returnType = rt) && !meth.locks && decide (parseMethodDescriptor y.desc = some meth.sig)) = true) : (Jvm.Cond.code y bytes mx rt).before a s = true := by
  simp only [Bool.and_eq_true, beq_iff_eq, Bool.not_eq_true', decide_eq_true_eq] at h5
  obtain ⟨⟨⟨⟨⟨g1, g2⟩, g3⟩, g4⟩, g5⟩, g6⟩ := h5
  simp [Cond.before, Cond.holds, Cond.value, h1, h2, h3, h4, g1, g2, g3, g4, g5, g6]
def isCode : Jvm.Cond → Bool
  | .code _ _ _ _ => true
  | _ => false
theorem all_split {L : List Jvm.Cond} {P : Jvm.Cond → Bool} (h1 : L.all (fun c => isCode c || P c) = true) (h2 : ∀ c ∈ L.filter isCode, P c = true) : L.all P = true := by
  refine List.all_eq_true.mpr fun c hc => ?_
  have h := List.all_eq_true.mp h1 c hc
  rcases Bool.eq_false_or_eq_true (isCode c) with hi | hi
  · exact h2 c (List.mem_filter.mpr ⟨hc, hi⟩)
  · simpa [hi] using h
set_option maxRecDepth 65536 in
theorem w_c0 : (Jvm.Cond.code x code maxLocals ret).before args0 about1 = true := code_word (m := ⟨1, 1⟩) (meth := k1m1) (c := k1c1) (by decide +kernel) rfl rfl rfl (by decide +kernel)
set_option maxRecDepth 65536 in
theorem w_c1 : (Jvm.Cond.code ({ cls := "com/example/ostracon/ostracon/WideSum", name := "<init>", desc := "()V" } : Jvm.MethodName) prog_55_method_1_code (1 : Nat) (Option.none : Option Jvm.ClassFile.FieldType)).before args0 about1 = true := code_word (m := ⟨2, 0⟩) (meth := k2m0) (c := k2c0) (by decide +kernel) rfl rfl rfl (by decide +kernel)
set_option maxRecDepth 65536 in
theorem w_c2 : (Jvm.Cond.code ({ cls := "java/lang/Object", name := "<init>", desc := "()V" } : Jvm.MethodName) object_method_1_code (1 : Nat) (Option.none : Option Jvm.ClassFile.FieldType)).before args0 about1 = true := code_word (m := ⟨0, 0⟩) (meth := k0m0) (c := k0c0) (by decide +kernel) rfl rfl rfl (by decide +kernel)
set_option maxRecDepth 65536 in
theorem w_c3 : (Jvm.Cond.code ({ cls := "com/example/ostracon/ostracon/WideSum", name := "add", desc := "(J)V" } : Jvm.MethodName) prog_55_method_2_code (5 : Nat) (Option.none : Option Jvm.ClassFile.FieldType)).before args0 about1 = true := code_word (m := ⟨2, 1⟩) (meth := k2m1) (c := k2c1) (by decide +kernel) rfl rfl rfl (by decide +kernel)
set_option maxRecDepth 65536 in
theorem w_c4 : (Jvm.Cond.code ({ cls := "java/lang/Long", name := "compareUnsigned", desc := "(JJ)I" } : Jvm.MethodName) jdk_35_method_43_code (4 : Nat) (Option.some Jvm.ClassFile.FieldType.int)).before args0 about1 = true := code_word (m := ⟨8, 1⟩) (meth := k8m1) (c := k8c1) (by decide +kernel) rfl rfl rfl (by decide +kernel)
set_option maxRecDepth 65536 in
theorem w_c5 : (Jvm.Cond.code ({ cls := "java/lang/Long", name := "compare", desc := "(JJ)I" } : Jvm.MethodName) jdk_35_method_42_code (4 : Nat) (Option.some Jvm.ClassFile.FieldType.int)).before args0 about1 = true := code_word (m := ⟨8, 0⟩) (meth := k8m0) (c := k8c0) (by decide +kernel) rfl rfl rfl (by decide +kernel)
set_option maxRecDepth 65536 in
theorem w_c6 : (Jvm.Cond.code ({ cls := "com/example/ostracon/ostracon/WideSum", name := "subtract", desc := "(J)V" } : Jvm.MethodName) prog_55_method_3_code (3 : Nat) (Option.none : Option Jvm.ClassFile.FieldType)).before args0 about1 = true := code_word (m := ⟨2, 2⟩) (meth := k2m2) (c := k2c2) (by decide +kernel) rfl rfl rfl (by decide +kernel)
set_option maxRecDepth 65536 in
theorem w_c7 : (Jvm.Cond.code ({ cls := "com/example/ostracon/ostracon/WideSum", name := "isZero", desc := "()Z" } : Jvm.MethodName) prog_55_method_4_code (1 : Nat) (Option.some Jvm.ClassFile.FieldType.boolean)).before args0 about1 = true := code_word (m := ⟨2, 3⟩) (meth := k2m3) (c := k2c3) (by decide +kernel) rfl rfl rfl (by decide +kernel)
def codes1 : List Jvm.Cond := [Jvm.Cond.code x code maxLocals ret, Jvm.Cond.code ({ cls := "com/example/ostracon/ostracon/WideSum", name := "<init>", desc := "()V" } : Jvm.MethodName) prog_55_method_1_code (1 : Nat) (Option.none : Option Jvm.ClassFile.FieldType), Jvm.Cond.code ({ cls := "java/lang/Object", name := "<init>", desc := "()V" } : Jvm.MethodName) object_method_1_code (1 : Nat) (Option.none : Option Jvm.ClassFile.FieldType), Jvm.Cond.code ({ cls := "com/example/ostracon/ostracon/WideSum", name := "add", desc := "(J)V" } : Jvm.MethodName) prog_55_method_2_code (5 : Nat) (Option.none : Option Jvm.ClassFile.FieldType), Jvm.Cond.code ({ cls := "java/lang/Long", name := "compareUnsigned", desc := "(JJ)I" } : Jvm.MethodName) jdk_35_method_43_code (4 : Nat) (Option.some Jvm.ClassFile.FieldType.int), Jvm.Cond.code ({ cls := "java/lang/Long", name := "compare", desc := "(JJ)I" } : Jvm.MethodName) jdk_35_method_42_code (4 : Nat) (Option.some Jvm.ClassFile.FieldType.int), Jvm.Cond.code ({ cls := "com/example/ostracon/ostracon/WideSum", name := "subtract", desc := "(J)V" } : Jvm.MethodName) prog_55_method_3_code (3 : Nat) (Option.none : Option Jvm.ClassFile.FieldType), Jvm.Cond.code ({ cls := "com/example/ostracon/ostracon/WideSum", name := "isZero", desc := "()Z" } : Jvm.MethodName) prog_55_method_4_code (1 : Nat) (Option.some Jvm.ClassFile.FieldType.boolean)]
set_option maxRecDepth 65536 in
theorem codes_eq : words1.filter isCode = codes1 := rfl
theorem w_codes : ∀ c ∈ words1.filter isCode, c.before args0 about1 = true := by
  rw [codes_eq]
  intro c hc
  simp only [codes1, List.mem_cons, List.not_mem_nil, or_false] at hc
  rcases hc with rfl | rfl | rfl | rfl | rfl | rfl | rfl | rfl
  · exact w_c0
  · exact w_c1
  · exact w_c2
  · exact w_c3
  · exact w_c4
  · exact w_c5
  · exact w_c6
  · exact w_c7
set_option maxRecDepth 65536 in
theorem w_t1 : (words1.take 24).all (fun c => isCode c || c.before args0 about1) = true := by decide +kernel
set_option maxRecDepth 65536 in
theorem w_t2 : (words1.drop 24).all (fun c => isCode c || c.before args0 about1) = true := by decide +kernel
theorem w_tables : (allAtoms (Jvm.Cond.code x code maxLocals ret :: tables_1)).before args0 about1 = true := by
  rw [allAtoms_all]
  show words1.all (fun c => c.before args0 about1) = true
  refine all_split ?_ w_codes
  rw [← List.take_append_drop 24 words1, List.all_append, w_t1, w_t2]
  rfl
set_option maxRecDepth 65536 in
theorem w_case : (Jvm.Cond.and given_1 narrow_1).before args0 about1 = true := by decide +kernel
theorem w_applies : (headSpec (Jvm.Cond.code x code maxLocals ret :: tables_1) room_1).applies x e0.platform about1 = true :=
  (Spec.applies_iff w_frames).mpr ⟨w_running, w_runnable, w_alone, w_named, w_hears, w_ripe, w_room, w_tables⟩
theorem atStart : AtStart classFile x code maxLocals ret World_1 tables_1 room_1 Calls_1 rest_1 Pre_1 launch0 p0 e0 about1 theMethod args0 below0 :=
  ⟨lists_1, trivial, launch0.admits_env _ _ _, launch0.least_env, fairChoices_fair.cas, fairChoices_fair.clock, w_frames, w_args, w_heap, w_applies, trivial, trivial, w_case⟩
end start1
theorem witness_1 : WitnessClaimed_1 := ⟨start1.p0, start1.e0, start1.about1, start1.theMethod, start1.args0, start1.below0, start1.atStart⟩
end Jvm.Pilot.@@N@@
