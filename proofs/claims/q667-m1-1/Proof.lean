import JvmDerived
import JvmDerived.Pilot.@@N@@Statement
import JvmDerived.Pilot.@@N@@Code
set_option linter.unusedVariables false
set_option linter.unusedSimpArgs false

namespace Jvm.RoadKit
open Sem ClassFile Op Lib Jvm.Stand Jvm.Free Jvm.LawKit
section New
variable {p : Program} {l : Launch} {e : Env} {R : Room} {s : State} {m : MethodId} {args : Array Value} {below : List Frame} {meth : Method} {c : Code} {T : State} {locs : List Loc} {cells slots : Nat}
theorem retI (X : Stand p l e R s m args below meth c T locs cells slots) (hx : p.tables.exec = Jvm.exec) {pc : Nat} {Ls : Array Slot} {z : Int32} {rest : List Value} (hret : meth.sig.returnType = some .int) (hd : decode c.code pc = .ok (.ireturn, 1)) {fs : List Frame}
    (hl : ∀ (f : JFrame) (acts : List Action), f.method = m → f.locked = none → f.entered = [] → (doReturn e (T.setTop f) acts (some (.int z))).1 = T.setFrames fs) : Steps p.tables e below (T.setTop (mkF m pc Ls (.int z :: rest))) (T.setFrames fs) := by
  have hm' : T.vm.method? m = some meth := X.method'
  have hn : narrow .int (.int z) = .int z := rfl
  show Steps p.tables e below (T.setTop { method := m, pc := pc, locals := Ls, stack := _ :: rest, locked := none }) _
  jvm_step X.here [X.here.top, hx, hd, hm', hret, hn]
  first | (intro acts; rw [hl _ acts rfl rfl rfl]) | rw [hl _ _ rfl rfl rfl]
  exact Steps.refl _
theorem retL (X : Stand p l e R s m args below meth c T locs cells slots) (hx : p.tables.exec = Jvm.exec) {pc : Nat} {Ls : Array Slot} {z : Int64} {rest : List Value} (hret : meth.sig.returnType = some .long) (hd : decode c.code pc = .ok (.lreturn, 1)) {fs : List Frame}
    (hl : ∀ (f : JFrame) (acts : List Action), f.method = m → f.locked = none → f.entered = [] → (doReturn e (T.setTop f) acts (some (.long z))).1 = T.setFrames fs) : Steps p.tables e below (T.setTop (mkF m pc Ls (.long z :: rest))) (T.setFrames fs) := by
  have hm' : T.vm.method? m = some meth := X.method'
  have hn : narrow .long (.long z) = .long z := rfl
  show Steps p.tables e below (T.setTop { method := m, pc := pc, locals := Ls, stack := _ :: rest, locked := none }) _
  jvm_step X.here [X.here.top, hx, hd, hm', hret, hn]
  first | (intro acts; rw [hl _ acts rfl rfl rfl]) | rw [hl _ _ rfl rfl rfl]
  exact Steps.refl _
end New
end Jvm.RoadKit
namespace Jvm.Pilot.@@N@@
open Jvm Jvm.ClassFile Sem Op Lib Jvm.Free Jvm.Stand Jvm.LawKit Jvm.RoadKit Bundle Jvm.Pilot.@@N@@.Jvm.D
/-- from here the run comes to an end of which W holds -/
def own_Go (p : Program) (e : Env) (below : List Frame) (W : State → Outcome → Prop) (T : State) (g : JFrame) : Prop :=
  ∃ s₂ o, Steps p.tables e below (T.setTop g) s₂ ∧ s₂.status = .running ∧ Ended s₂ below o ∧ W s₂ o
theorem own_Go.of {p : Program} {e : Env} {below : List Frame} {W : State → Outcome → Prop} {T T' : State} {g g' : JFrame} (f : ∀ t, Steps p.tables e below (T'.setTop g') t → Steps p.tables e below (T.setTop g) t) (k : own_Go p e below W T' g') : own_Go p e below W T g := by
  obtain ⟨s₂, o, h1, h2⟩ := k
  exact ⟨s₂, o, f _ h1, h2⟩
theorem own_via {G A : Prop} (h1 : A → G) (h2 : A) : G := h1 h2
section OwnSteps
variable {p : Program} {l : Launch} {e : Env} {R : Room} {s : State} {m : MethodId} {args : Array Value} {below : List Frame} {meth : Method} {c : Code} {T : State} {locs : List Loc} {cells slots : Nat} {W : State → Outcome → Prop} {pc pc' : Nat} {L : Array Slot} {S : List Value}
theorem og_iloadN (X : Stand p l e R s m args below meth c T locs cells slots) (hx : p.tables.exec = Jvm.exec) {k : Fin 4} {v : Int32} (hd : decode c.code pc = .ok (.iload_n k, 1)) (hl : L[k.val]? = some (.val (.int v))) (hp : pc + 1 = pc') (h : own_Go p e below W T (mkF m pc' L ((.int v) :: S))) : own_Go p e below W T (mkF m pc L S) := by
  subst hp; exact own_Go.of (fun t q => XS.iloadN X.here hx rfl hd hl q) h
theorem og_iload (X : Stand p l e R s m args below meth c T locs cells slots) (hx : p.tables.exec = Jvm.exec) {k : Nat} {v : Int32} (hd : decode c.code pc = .ok (.iload k, 2)) (hl : L[k]? = some (.val (.int v))) (hp : pc + 2 = pc') (h : own_Go p e below W T (mkF m pc' L ((.int v) :: S))) : own_Go p e below W T (mkF m pc L S) := by
  subst hp; exact own_Go.of (fun t q => XS.iload X.here hx rfl hd hl q) h
theorem og_istoreN (X : Stand p l e R s m args below meth c T locs cells slots) (hx : p.tables.exec = Jvm.exec) {k : Fin 4} {v : Int32} {L' : Array Slot} (hd : decode c.code pc = .ok (.istore_n k, 1)) (hl : storeLocals L k.val (.int v) = some L') (hp : pc + 1 = pc') (h : own_Go p e below W T (mkF m pc' L' S)) : own_Go p e below W T (mkF m pc L ((.int v) :: S)) := by
  subst hp; exact own_Go.of (fun t q => XS.istoreN X.here hx rfl hd rfl hl q) h
theorem og_istore (X : Stand p l e R s m args below meth c T locs cells slots) (hx : p.tables.exec = Jvm.exec) {k : Nat} {v : Int32} {L' : Array Slot} (hd : decode c.code pc = .ok (.istore k, 2)) (hl : storeLocals L k (.int v) = some L') (hp : pc + 2 = pc') (h : own_Go p e below W T (mkF m pc' L' S)) : own_Go p e below W T (mkF m pc L ((.int v) :: S)) := by
  subst hp; exact own_Go.of (fun t q => XS.istore X.here hx rfl hd rfl hl q) h
theorem og_lloadN (X : Stand p l e R s m args below meth c T locs cells slots) (hx : p.tables.exec = Jvm.exec) {k : Fin 4} {v : Int64} (hd : decode c.code pc = .ok (.lload_n k, 1)) (hl : L[k.val]? = some (.val (.long v))) (hp : pc + 1 = pc') (h : own_Go p e below W T (mkF m pc' L ((.long v) :: S))) : own_Go p e below W T (mkF m pc L S) := by
  subst hp; exact own_Go.of (fun t q => XS.lloadN X.here hx rfl hd hl q) h
theorem og_lload (X : Stand p l e R s m args below meth c T locs cells slots) (hx : p.tables.exec = Jvm.exec) {k : Nat} {v : Int64} (hd : decode c.code pc = .ok (.lload k, 2)) (hl : L[k]? = some (.val (.long v))) (hp : pc + 2 = pc') (h : own_Go p e below W T (mkF m pc' L ((.long v) :: S))) : own_Go p e below W T (mkF m pc L S) := by
  subst hp; exact own_Go.of (fun t q => XS.lload X.here hx rfl hd hl q) h
theorem og_lstoreN (X : Stand p l e R s m args below meth c T locs cells slots) (hx : p.tables.exec = Jvm.exec) {k : Fin 4} {v : Int64} {L' : Array Slot} (hd : decode c.code pc = .ok (.lstore_n k, 1)) (hl : storeLocals L k.val (.long v) = some L') (hp : pc + 1 = pc') (h : own_Go p e below W T (mkF m pc' L' S)) : own_Go p e below W T (mkF m pc L ((.long v) :: S)) := by
  subst hp; exact own_Go.of (fun t q => XS.lstoreN X.here hx rfl hd rfl hl q) h
theorem og_lstore (X : Stand p l e R s m args below meth c T locs cells slots) (hx : p.tables.exec = Jvm.exec) {k : Nat} {v : Int64} {L' : Array Slot} (hd : decode c.code pc = .ok (.lstore k, 2)) (hl : storeLocals L k (.long v) = some L') (hp : pc + 2 = pc') (h : own_Go p e below W T (mkF m pc' L' S)) : own_Go p e below W T (mkF m pc L ((.long v) :: S)) := by
  subst hp; exact own_Go.of (fun t q => XS.lstore X.here hx rfl hd rfl hl q) h
theorem og_aloadN (X : Stand p l e R s m args below meth c T locs cells slots) (hx : p.tables.exec = Jvm.exec) {k : Fin 4} {v : Value} (hd : decode c.code pc = .ok (.aload_n k, 1)) (hl : L[k.val]? = some (.val v)) (hv : v.isRef = true) (hp : pc + 1 = pc') (h : own_Go p e below W T (mkF m pc' L (v :: S))) : own_Go p e below W T (mkF m pc L S) := by
  subst hp; exact own_Go.of (fun t q => XS.aloadN X.here hx rfl hd hl hv q) h
theorem og_aload (X : Stand p l e R s m args below meth c T locs cells slots) (hx : p.tables.exec = Jvm.exec) {k : Nat} {v : Value} (hd : decode c.code pc = .ok (.aload k, 2)) (hl : L[k]? = some (.val v)) (hv : v.isRef = true) (hp : pc + 2 = pc') (h : own_Go p e below W T (mkF m pc' L (v :: S))) : own_Go p e below W T (mkF m pc L S) := by
  subst hp; exact own_Go.of (fun t q => XS.aload X.here hx rfl hd hl hv q) h
theorem og_astoreN (X : Stand p l e R s m args below meth c T locs cells slots) (hx : p.tables.exec = Jvm.exec) {k : Fin 4} {v : Value} {L' : Array Slot} (hd : decode c.code pc = .ok (.astore_n k, 1)) (hv : v.isRef = true) (hl : storeLocals L k.val v = some L') (hp : pc + 1 = pc') (h : own_Go p e below W T (mkF m pc' L' S)) : own_Go p e below W T (mkF m pc L (v :: S)) := by
  subst hp; exact own_Go.of (fun t q => XS.astoreN X.here hx rfl hd rfl hv hl q) h
theorem og_astore (X : Stand p l e R s m args below meth c T locs cells slots) (hx : p.tables.exec = Jvm.exec) {k : Nat} {v : Value} {L' : Array Slot} (hd : decode c.code pc = .ok (.astore k, 2)) (hv : v.isRef = true) (hl : storeLocals L k v = some L') (hp : pc + 2 = pc') (h : own_Go p e below W T (mkF m pc' L' S)) : own_Go p e below W T (mkF m pc L (v :: S)) := by
  subst hp; exact own_Go.of (fun t q => XS.astore X.here hx rfl hd rfl hv hl q) h
theorem og_iconst (X : Stand p l e R s m args below meth c T locs cells slots) (hx : p.tables.exec = Jvm.exec) {i : Int} {n : Int32} (hd : decode c.code pc = .ok (.iconst i, 1)) (hn : Int32.ofInt i = n) (hp : pc + 1 = pc') (h : own_Go p e below W T (mkF m pc' L (.int n :: S))) : own_Go p e below W T (mkF m pc L S) := by
  subst hp hn; exact own_Go.of (fun t q => XS.iconst X.here hx rfl hd q) h
theorem og_bipush (X : Stand p l e R s m args below meth c T locs cells slots) (hx : p.tables.exec = Jvm.exec) {i : Int} {n : Int32} (hd : decode c.code pc = .ok (.bipush i, 2)) (hn : (Int8.ofInt i).toInt32 = n) (hp : pc + 2 = pc') (h : own_Go p e below W T (mkF m pc' L (.int n :: S))) : own_Go p e below W T (mkF m pc L S) := by
  subst hp hn; exact own_Go.of (fun t q => XS.bipush X.here hx rfl hd q) h
theorem og_sipush (X : Stand p l e R s m args below meth c T locs cells slots) (hx : p.tables.exec = Jvm.exec) {i : Int} {n : Int32} (hd : decode c.code pc = .ok (.sipush i, 3)) (hn : (Int16.ofInt i).toInt32 = n) (hp : pc + 3 = pc') (h : own_Go p e below W T (mkF m pc' L (.int n :: S))) : own_Go p e below W T (mkF m pc L S) := by
  subst hp hn; exact own_Go.of (fun t q => XS.sipush X.here hx rfl hd q) h
theorem og_lconst0 (X : Stand p l e R s m args below meth c T locs cells slots) (hx : p.tables.exec = Jvm.exec) (hd : decode c.code pc = .ok (.lconst 0, 1)) (hp : pc + 1 = pc') (h : own_Go p e below W T (mkF m pc' L (.long (0 : Int64) :: S))) : own_Go p e below W T (mkF m pc L S) := by
  subst hp; exact own_Go.of (fun t q => XS.lconst X.here hx rfl hd q) h
theorem og_lconst1 (X : Stand p l e R s m args below meth c T locs cells slots) (hx : p.tables.exec = Jvm.exec) (hd : decode c.code pc = .ok (.lconst 1, 1)) (hp : pc + 1 = pc') (h : own_Go p e below W T (mkF m pc' L (.long (1 : Int64) :: S))) : own_Go p e below W T (mkF m pc L S) := by
  subst hp; exact own_Go.of (fun t q => XS.lconst X.here hx rfl hd q) h
theorem og_aconst_null (X : Stand p l e R s m args below meth c T locs cells slots) (hx : p.tables.exec = Jvm.exec)  (hd : decode c.code pc = .ok (.aconst_null, 1)) (hp : pc + 1 = pc') (h : own_Go p e below W T (mkF m pc' L (.null :: S))) : own_Go p e below W T (mkF m pc L S) := by
  subst hp; exact own_Go.of (fun t q => XS.aconstNull X.here hx rfl hd q) h
theorem og_iadd (X : Stand p l e R s m args below meth c T locs cells slots) (hx : p.tables.exec = Jvm.exec) {x y : Int32} (hd : decode c.code pc = .ok (.iadd, 1)) (hp : pc + 1 = pc') (h : own_Go p e below W T (mkF m pc' L (.int (x + y) :: S))) : own_Go p e below W T (mkF m pc L (.int y :: .int x :: S)) := by
  subst hp; exact own_Go.of (fun t q => XS.iadd X.here hx rfl hd rfl q) h
theorem og_ladd (X : Stand p l e R s m args below meth c T locs cells slots) (hx : p.tables.exec = Jvm.exec) {x y : Int64} (hd : decode c.code pc = .ok (.ladd, 1)) (hp : pc + 1 = pc') (h : own_Go p e below W T (mkF m pc' L (.long (x + y) :: S))) : own_Go p e below W T (mkF m pc L (.long y :: .long x :: S)) := by
  subst hp; exact own_Go.of (fun t q => XS.ladd X.here hx rfl hd rfl q) h
theorem og_isub (X : Stand p l e R s m args below meth c T locs cells slots) (hx : p.tables.exec = Jvm.exec) {x y : Int32} (hd : decode c.code pc = .ok (.isub, 1)) (hp : pc + 1 = pc') (h : own_Go p e below W T (mkF m pc' L (.int (x - y) :: S))) : own_Go p e below W T (mkF m pc L (.int y :: .int x :: S)) := by
  subst hp; exact own_Go.of (fun t q => XS.isub X.here hx rfl hd rfl q) h
theorem og_lsub (X : Stand p l e R s m args below meth c T locs cells slots) (hx : p.tables.exec = Jvm.exec) {x y : Int64} (hd : decode c.code pc = .ok (.lsub, 1)) (hp : pc + 1 = pc') (h : own_Go p e below W T (mkF m pc' L (.long (x - y) :: S))) : own_Go p e below W T (mkF m pc L (.long y :: .long x :: S)) := by
  subst hp; exact own_Go.of (fun t q => XS.lsub X.here hx rfl hd rfl q) h
theorem og_imul (X : Stand p l e R s m args below meth c T locs cells slots) (hx : p.tables.exec = Jvm.exec) {x y : Int32} (hd : decode c.code pc = .ok (.imul, 1)) (hp : pc + 1 = pc') (h : own_Go p e below W T (mkF m pc' L (.int (x * y) :: S))) : own_Go p e below W T (mkF m pc L (.int y :: .int x :: S)) := by
  subst hp; exact own_Go.of (fun t q => XS.imul X.here hx rfl hd rfl q) h
theorem og_lmul (X : Stand p l e R s m args below meth c T locs cells slots) (hx : p.tables.exec = Jvm.exec) {x y : Int64} (hd : decode c.code pc = .ok (.lmul, 1)) (hp : pc + 1 = pc') (h : own_Go p e below W T (mkF m pc' L (.long (x * y) :: S))) : own_Go p e below W T (mkF m pc L (.long y :: .long x :: S)) := by
  subst hp; exact own_Go.of (fun t q => XS.lmul X.here hx rfl hd rfl q) h
theorem og_iand (X : Stand p l e R s m args below meth c T locs cells slots) (hx : p.tables.exec = Jvm.exec) {x y : Int32} (hd : decode c.code pc = .ok (.iand, 1)) (hp : pc + 1 = pc') (h : own_Go p e below W T (mkF m pc' L (.int (x &&& y) :: S))) : own_Go p e below W T (mkF m pc L (.int y :: .int x :: S)) := by
  subst hp; exact own_Go.of (fun t q => XS.iand X.here hx rfl hd rfl q) h
theorem og_land (X : Stand p l e R s m args below meth c T locs cells slots) (hx : p.tables.exec = Jvm.exec) {x y : Int64} (hd : decode c.code pc = .ok (.land, 1)) (hp : pc + 1 = pc') (h : own_Go p e below W T (mkF m pc' L (.long (x &&& y) :: S))) : own_Go p e below W T (mkF m pc L (.long y :: .long x :: S)) := by
  subst hp; exact own_Go.of (fun t q => XS.land X.here hx rfl hd rfl q) h
theorem og_ior (X : Stand p l e R s m args below meth c T locs cells slots) (hx : p.tables.exec = Jvm.exec) {x y : Int32} (hd : decode c.code pc = .ok (.ior, 1)) (hp : pc + 1 = pc') (h : own_Go p e below W T (mkF m pc' L (.int (x ||| y) :: S))) : own_Go p e below W T (mkF m pc L (.int y :: .int x :: S)) := by
  subst hp; exact own_Go.of (fun t q => XS.ior X.here hx rfl hd rfl q) h
theorem og_lor (X : Stand p l e R s m args below meth c T locs cells slots) (hx : p.tables.exec = Jvm.exec) {x y : Int64} (hd : decode c.code pc = .ok (.lor, 1)) (hp : pc + 1 = pc') (h : own_Go p e below W T (mkF m pc' L (.long (x ||| y) :: S))) : own_Go p e below W T (mkF m pc L (.long y :: .long x :: S)) := by
  subst hp; exact own_Go.of (fun t q => XS.lor X.here hx rfl hd rfl q) h
theorem og_ixor (X : Stand p l e R s m args below meth c T locs cells slots) (hx : p.tables.exec = Jvm.exec) {x y : Int32} (hd : decode c.code pc = .ok (.ixor, 1)) (hp : pc + 1 = pc') (h : own_Go p e below W T (mkF m pc' L (.int (x ^^^ y) :: S))) : own_Go p e below W T (mkF m pc L (.int y :: .int x :: S)) := by
  subst hp; exact own_Go.of (fun t q => XS.ixor X.here hx rfl hd rfl q) h
theorem og_lxor (X : Stand p l e R s m args below meth c T locs cells slots) (hx : p.tables.exec = Jvm.exec) {x y : Int64} (hd : decode c.code pc = .ok (.lxor, 1)) (hp : pc + 1 = pc') (h : own_Go p e below W T (mkF m pc' L (.long (x ^^^ y) :: S))) : own_Go p e below W T (mkF m pc L (.long y :: .long x :: S)) := by
  subst hp; exact own_Go.of (fun t q => XS.lxor X.here hx rfl hd rfl q) h
theorem og_ineg (X : Stand p l e R s m args below meth c T locs cells slots) (hx : p.tables.exec = Jvm.exec) {x : Int32} (hd : decode c.code pc = .ok (.ineg, 1)) (hp : pc + 1 = pc') (h : own_Go p e below W T (mkF m pc' L (.int (-x) :: S))) : own_Go p e below W T (mkF m pc L (.int x :: S)) := by
  subst hp; exact own_Go.of (fun t q => XS.ineg X.here hx rfl hd rfl q) h
theorem og_lneg (X : Stand p l e R s m args below meth c T locs cells slots) (hx : p.tables.exec = Jvm.exec) {x : Int64} (hd : decode c.code pc = .ok (.lneg, 1)) (hp : pc + 1 = pc') (h : own_Go p e below W T (mkF m pc' L (.long (-x) :: S))) : own_Go p e below W T (mkF m pc L (.long x :: S)) := by
  subst hp; exact own_Go.of (fun t q => XS.lneg X.here hx rfl hd rfl q) h
theorem og_i2l (X : Stand p l e R s m args below meth c T locs cells slots) (hx : p.tables.exec = Jvm.exec) {x : Int32} (hd : decode c.code pc = .ok (.i2l, 1)) (hp : pc + 1 = pc') (h : own_Go p e below W T (mkF m pc' L (.long (x.toInt64) :: S))) : own_Go p e below W T (mkF m pc L (.int x :: S)) := by
  subst hp; exact own_Go.of (fun t q => XS.i2l X.here hx rfl hd rfl q) h
theorem og_l2i (X : Stand p l e R s m args below meth c T locs cells slots) (hx : p.tables.exec = Jvm.exec) {x : Int64} (hd : decode c.code pc = .ok (.l2i, 1)) (hp : pc + 1 = pc') (h : own_Go p e below W T (mkF m pc' L (.int (x.toInt32) :: S))) : own_Go p e below W T (mkF m pc L (.long x :: S)) := by
  subst hp; exact own_Go.of (fun t q => XS.l2i X.here hx rfl hd rfl q) h
theorem og_i2b (X : Stand p l e R s m args below meth c T locs cells slots) (hx : p.tables.exec = Jvm.exec) {x : Int32} (hd : decode c.code pc = .ok (.i2b, 1)) (hp : pc + 1 = pc') (h : own_Go p e below W T (mkF m pc' L (.int (x.toInt8.toInt32) :: S))) : own_Go p e below W T (mkF m pc L (.int x :: S)) := by
  subst hp; exact own_Go.of (fun t q => XS.i2b X.here hx rfl hd rfl q) h
theorem og_i2s (X : Stand p l e R s m args below meth c T locs cells slots) (hx : p.tables.exec = Jvm.exec) {x : Int32} (hd : decode c.code pc = .ok (.i2s, 1)) (hp : pc + 1 = pc') (h : own_Go p e below W T (mkF m pc' L (.int (x.toInt16.toInt32) :: S))) : own_Go p e below W T (mkF m pc L (.int x :: S)) := by
  subst hp; exact own_Go.of (fun t q => XS.i2s X.here hx rfl hd rfl q) h
theorem og_i2c (X : Stand p l e R s m args below meth c T locs cells slots) (hx : p.tables.exec = Jvm.exec) {x : Int32} (hd : decode c.code pc = .ok (.i2c, 1)) (hp : pc + 1 = pc') (h : own_Go p e below W T (mkF m pc' L (.int (x.toUInt32.toUInt16.toUInt32.toInt32) :: S))) : own_Go p e below W T (mkF m pc L (.int x :: S)) := by
  subst hp; exact own_Go.of (fun t q => XS.i2c X.here hx rfl hd rfl q) h
theorem og_ishl (X : Stand p l e R s m args below meth c T locs cells slots) (hx : p.tables.exec = Jvm.exec) {x : Int32} {y : Int32} (hd : decode c.code pc = .ok (.ishl, 1)) (hp : pc + 1 = pc') (h : own_Go p e below W T (mkF m pc' L (.int (x <<< (y &&& 31)) :: S))) : own_Go p e below W T (mkF m pc L (.int y :: .int x :: S)) := by
  subst hp; exact own_Go.of (fun t q => XS.ishl X.here hx rfl hd rfl q) h
theorem og_ishr (X : Stand p l e R s m args below meth c T locs cells slots) (hx : p.tables.exec = Jvm.exec) {x : Int32} {y : Int32} (hd : decode c.code pc = .ok (.ishr, 1)) (hp : pc + 1 = pc') (h : own_Go p e below W T (mkF m pc' L (.int (x >>> (y &&& 31)) :: S))) : own_Go p e below W T (mkF m pc L (.int y :: .int x :: S)) := by
  subst hp; exact own_Go.of (fun t q => XS.ishr X.here hx rfl hd rfl q) h
theorem og_iushr (X : Stand p l e R s m args below meth c T locs cells slots) (hx : p.tables.exec = Jvm.exec) {x : Int32} {y : Int32} (hd : decode c.code pc = .ok (.iushr, 1)) (hp : pc + 1 = pc') (h : own_Go p e below W T (mkF m pc' L (.int ((x.toUInt32 >>> (y &&& 31).toUInt32).toInt32) :: S))) : own_Go p e below W T (mkF m pc L (.int y :: .int x :: S)) := by
  subst hp; exact own_Go.of (fun t q => XS.iushr X.here hx rfl hd rfl q) h
theorem og_lshl (X : Stand p l e R s m args below meth c T locs cells slots) (hx : p.tables.exec = Jvm.exec) {x : Int64} {y : Int32} (hd : decode c.code pc = .ok (.lshl, 1)) (hp : pc + 1 = pc') (h : own_Go p e below W T (mkF m pc' L (.long (x <<< (y &&& 0x3f).toInt64) :: S))) : own_Go p e below W T (mkF m pc L (.int y :: .long x :: S)) := by
  subst hp; exact own_Go.of (fun t q => XS.lshl X.here hx rfl hd rfl q) h
theorem og_lshr (X : Stand p l e R s m args below meth c T locs cells slots) (hx : p.tables.exec = Jvm.exec) {x : Int64} {y : Int32} (hd : decode c.code pc = .ok (.lshr, 1)) (hp : pc + 1 = pc') (h : own_Go p e below W T (mkF m pc' L (.long (x >>> (y &&& 0x3f).toInt64) :: S))) : own_Go p e below W T (mkF m pc L (.int y :: .long x :: S)) := by
  subst hp; exact own_Go.of (fun t q => XS.lshr X.here hx rfl hd rfl q) h
theorem og_lushr (X : Stand p l e R s m args below meth c T locs cells slots) (hx : p.tables.exec = Jvm.exec) {x : Int64} {y : Int32} (hd : decode c.code pc = .ok (.lushr, 1)) (hp : pc + 1 = pc') (h : own_Go p e below W T (mkF m pc' L (.long ((x.toUInt64 >>> (y &&& 0x3f).toInt64.toUInt64).toInt64) :: S))) : own_Go p e below W T (mkF m pc L (.int y :: .long x :: S)) := by
  subst hp; exact own_Go.of (fun t q => XS.lushr X.here hx rfl hd rfl q) h
theorem og_lcmp (X : Stand p l e R s m args below meth c T locs cells slots) (hx : p.tables.exec = Jvm.exec) {x y : Int64} (hd : decode c.code pc = .ok (.lcmp, 1)) (hp : pc + 1 = pc') (h : own_Go p e below W T (mkF m pc' L (.int (lcmpW x y) :: S))) : own_Go p e below W T (mkF m pc L (.long y :: .long x :: S)) := by
  subst hp; exact own_Go.of (fun t q => XS.lcmp X.here hx rfl hd rfl q) h
theorem og_idiv (X : Stand p l e R s m args below meth c T locs cells slots) (hx : p.tables.exec = Jvm.exec) {x y : Int32} (hd : decode c.code pc = .ok (.idiv, 1)) (hy : y ≠ 0) (hp : pc + 1 = pc') (h : own_Go p e below W T (mkF m pc' L (.int (x / y) :: S))) : own_Go p e below W T (mkF m pc L (.int y :: .int x :: S)) := by
  subst hp; exact own_Go.of (fun t q => XS.idiv X.here hx rfl hd rfl hy q) h
theorem og_ldiv (X : Stand p l e R s m args below meth c T locs cells slots) (hx : p.tables.exec = Jvm.exec) {x y : Int64} (hd : decode c.code pc = .ok (.ldiv, 1)) (hy : y ≠ 0) (hp : pc + 1 = pc') (h : own_Go p e below W T (mkF m pc' L (.long (x / y) :: S))) : own_Go p e below W T (mkF m pc L (.long y :: .long x :: S)) := by
  subst hp; exact own_Go.of (fun t q => XS.ldiv X.here hx rfl hd rfl hy q) h
theorem og_irem (X : Stand p l e R s m args below meth c T locs cells slots) (hx : p.tables.exec = Jvm.exec) {x y : Int32} (hd : decode c.code pc = .ok (.irem, 1)) (hy : y ≠ 0) (hp : pc + 1 = pc') (h : own_Go p e below W T (mkF m pc' L (.int (x % y) :: S))) : own_Go p e below W T (mkF m pc L (.int y :: .int x :: S)) := by
  subst hp; exact own_Go.of (fun t q => iremM X hx rfl hd rfl hy q) h
theorem og_lrem (X : Stand p l e R s m args below meth c T locs cells slots) (hx : p.tables.exec = Jvm.exec) {x y : Int64} (hd : decode c.code pc = .ok (.lrem, 1)) (hy : y ≠ 0) (hp : pc + 1 = pc') (h : own_Go p e below W T (mkF m pc' L (.long (x - (x / y) * y) :: S))) : own_Go p e below W T (mkF m pc L (.long y :: .long x :: S)) := by
  subst hp; exact own_Go.of (fun t q => XS.lrem X.here hx rfl hd rfl hy q) h
theorem og_iinc (X : Stand p l e R s m args below meth c T locs cells slots) (hx : p.tables.exec = Jvm.exec) {k : Nat} {z : Int} {v : Int32} {L' : Array Slot} (hd : decode c.code pc = .ok (.iinc k z, 3)) (hl : L[k]? = some (.val (.int v))) (hs : storeLocals L k (.int (v + Int32.ofInt z)) = some L') (hp : pc + 3 = pc') (h : own_Go p e below W T (mkF m pc' L' S)) : own_Go p e below W T (mkF m pc L S) := by
  subst hp; exact own_Go.of (fun t q => XS.iinc X.here hx rfl hd hl hs q) h
theorem og_dup (X : Stand p l e R s m args below meth c T locs cells slots) (hx : p.tables.exec = Jvm.exec) {v : Value} (hd : decode c.code pc = .ok (.dup, 1)) (hc : v.category = 1) (hp : pc + 1 = pc') (h : own_Go p e below W T (mkF m pc' L (v :: v :: S))) : own_Go p e below W T (mkF m pc L (v :: S)) := by
  subst hp; exact own_Go.of (fun t q => XS.dup X.here hx rfl hd rfl hc q) h
theorem og_pop (X : Stand p l e R s m args below meth c T locs cells slots) (hx : p.tables.exec = Jvm.exec) {v : Value} (hd : decode c.code pc = .ok (.pop, 1)) (hc : v.category = 1) (hp : pc + 1 = pc') (h : own_Go p e below W T (mkF m pc' L S)) : own_Go p e below W T (mkF m pc L (v :: S)) := by
  subst hp; exact own_Go.of (fun t q => XS.pop X.here hx rfl hd rfl hc q) h
theorem og_dup_x1 (X : Stand p l e R s m args below meth c T locs cells slots) (hx : p.tables.exec = Jvm.exec) {v w : Value} (hd : decode c.code pc = .ok (.dup_x1, 1)) (hc : v.category = 1) (hc' : w.category = 1) (hp : pc + 1 = pc') (h : own_Go p e below W T (mkF m pc' L (v :: w :: v :: S))) : own_Go p e below W T (mkF m pc L (v :: w :: S)) := by
  subst hp; exact own_Go.of (fun t q => XS.dupX1 X.here hx rfl hd rfl hc hc' q) h
theorem og_goto (X : Stand p l e R s m args below meth c T locs cells slots) (hx : p.tables.exec = Jvm.exec) {o : Int} (hd : decode c.code pc = .ok (.goto o, 3)) (ho : 0 ≤ (pc : Int) + o) (hp : ((pc : Int) + o).toNat = pc') (h : own_Go p e below W T (mkF m pc' L S)) : own_Go p e below W T (mkF m pc L S) := by
  exact own_Go.of (fun t q => XS.goto X.here hx rfl rfl hd ho hp q) h
theorem og_ifYes (X : Stand p l e R s m args below meth c T locs cells slots) (hx : p.tables.exec = Jvm.exec) {cd : ClassFile.Cond} {x : Int32} {o : Int} (hd : decode c.code pc = .ok (.ifCond cd o, 3)) (hc : ifCond.holds cd x = true) (ho : 0 ≤ (pc : Int) + o) (hp : ((pc : Int) + o).toNat = pc') (h : own_Go p e below W T (mkF m pc' L S)) : own_Go p e below W T (mkF m pc L (.int x :: S)) := by
  exact own_Go.of (fun t q => XS.ifYes X.here hx rfl rfl hd rfl hc ho hp q) h
theorem og_ifNo (X : Stand p l e R s m args below meth c T locs cells slots) (hx : p.tables.exec = Jvm.exec) {cd : ClassFile.Cond} {x : Int32} {o : Int} (hd : decode c.code pc = .ok (.ifCond cd o, 3)) (hc : ifCond.holds cd x = false) (hp : pc + 3 = pc') (h : own_Go p e below W T (mkF m pc' L S)) : own_Go p e below W T (mkF m pc L (.int x :: S)) := by
  subst hp; exact own_Go.of (fun t q => XS.ifNo X.here hx rfl hd rfl hc q) h
theorem og_icmpYes (X : Stand p l e R s m args below meth c T locs cells slots) (hx : p.tables.exec = Jvm.exec) {cd : ClassFile.Cond} {x y : Int32} {o : Int} (hd : decode c.code pc = .ok (.if_icmp cd o, 3)) (hc : if_icmp.holds cd x y = true) (ho : 0 ≤ (pc : Int) + o) (hp : ((pc : Int) + o).toNat = pc') (h : own_Go p e below W T (mkF m pc' L S)) : own_Go p e below W T (mkF m pc L (.int y :: .int x :: S)) := by
  exact own_Go.of (fun t q => XS.icmpYes X.here hx rfl rfl hd rfl hc ho hp q) h
theorem og_icmpNo (X : Stand p l e R s m args below meth c T locs cells slots) (hx : p.tables.exec = Jvm.exec) {cd : ClassFile.Cond} {x y : Int32} {o : Int} (hd : decode c.code pc = .ok (.if_icmp cd o, 3)) (hc : if_icmp.holds cd x y = false) (hp : pc + 3 = pc') (h : own_Go p e below W T (mkF m pc' L S)) : own_Go p e below W T (mkF m pc L (.int y :: .int x :: S)) := by
  subst hp; exact own_Go.of (fun t q => XS.icmpNo X.here hx rfl hd rfl hc q) h
theorem og_ifnullYes (X : Stand p l e R s m args below meth c T locs cells slots) (hx : p.tables.exec = Jvm.exec) {o : Int} (hd : decode c.code pc = .ok (.ifnull o, 3)) (ho : 0 ≤ (pc : Int) + o) (hp : ((pc : Int) + o).toNat = pc') (h : own_Go p e below W T (mkF m pc' L S)) : own_Go p e below W T (mkF m pc L (.null :: S)) := by
  exact own_Go.of (fun t q => XS.ifnullYes X.here hx rfl rfl hd rfl ho hp q) h
theorem og_ifnullNo (X : Stand p l e R s m args below meth c T locs cells slots) (hx : p.tables.exec = Jvm.exec) {b : Addr} {o : Int} (hd : decode c.code pc = .ok (.ifnull o, 3)) (hp : pc + 3 = pc') (h : own_Go p e below W T (mkF m pc' L S)) : own_Go p e below W T (mkF m pc L (.ref b :: S)) := by
  subst hp; exact own_Go.of (fun t q => XS.ifnullNo X.here hx rfl hd rfl q) h
theorem og_ifnonnullYes (X : Stand p l e R s m args below meth c T locs cells slots) (hx : p.tables.exec = Jvm.exec) {b : Addr} {o : Int} (hd : decode c.code pc = .ok (.ifnonnull o, 3)) (ho : 0 ≤ (pc : Int) + o) (hp : ((pc : Int) + o).toNat = pc') (h : own_Go p e below W T (mkF m pc' L S)) : own_Go p e below W T (mkF m pc L (.ref b :: S)) := by
  exact own_Go.of (fun t q => XS.ifnonnullYes X.here hx rfl rfl hd rfl ho hp q) h
theorem og_ifnonnullNo (X : Stand p l e R s m args below meth c T locs cells slots) (hx : p.tables.exec = Jvm.exec) {o : Int} (hd : decode c.code pc = .ok (.ifnonnull o, 3)) (hp : pc + 3 = pc') (h : own_Go p e below W T (mkF m pc' L S)) : own_Go p e below W T (mkF m pc L (.null :: S)) := by
  subst hp; exact own_Go.of (fun t q => XS.ifnonnullNo X.here hx rfl hd rfl q) h
theorem og_ldc (X : Stand p l e R s m args below meth c T locs cells slots) (hx : p.tables.exec = Jvm.exec) {own : String} {index : Nat} {v : Int32} (hd : decode c.code pc = .ok (.ldc index, 2)) (hown : s.vm.findClass own = some m.cls) (w : (Jvm.Cond.constant own index v).before args s = true) (hp : pc + 2 = pc') (h : own_Go p e below W T (mkF m pc' L (.int v :: S))) : own_Go p e below W T (mkF m pc L S) := by
  subst hp; exact own_Go.of (fun t q => X.ldcInt hx hown w (g := mkF m pc L S) rfl hd _ q) h
theorem og_ldc2_w (X : Stand p l e R s m args below meth c T locs cells slots) (hx : p.tables.exec = Jvm.exec) {own : String} {index : Nat} {v : Int64} (hd : decode c.code pc = .ok (.ldc2_w index, 3)) (hown : s.vm.findClass own = some m.cls) (w : (Jvm.Cond.constantLong own index v).before args s = true) (hp : pc + 3 = pc') (h : own_Go p e below W T (mkF m pc' L (.long v :: S))) : own_Go p e below W T (mkF m pc L S) := by
  subst hp; exact own_Go.of (fun t q => X.ldc2Long hx hown w (g := mkF m pc L S) rfl hd _ q) h
end OwnSteps
theorem own_nsRoot {Z : State} {a0 : Array Value} {O K : String} {n : Nat} (w : (Jvm.Cond.noSuperclass O).before a0 Z = true) (wk : (Jvm.Cond.instantiable K n).before a0 Z = true) (hn : O ≠ K) : NS Z O K := by
  obtain ⟨c, k, h1, h2, h3, -, -⟩ := Cond.noSuperclass_spec w
  obtain ⟨t, kt, g1, -⟩ := Cond.instantiable_spec wk
  have ne := ids_ne h1 g1 hn
  refine ⟨c, t, h1, g1, fun fuel => ?_⟩
  cases fuel with
  | zero => rfl
  | succ f => simp [Vm.isSubclassAux, ne, h2, h3]
theorem own_nsNo {Z : State} {a0 : Array Value} {C S K : String} {n : Nat} (w : (Jvm.Cond.superclass C S).before a0 Z = true) (wk : (Jvm.Cond.instantiable K n).before a0 Z = true) (q : NS Z C K) (hn : C ≠ K) : ∃ c t, Z.vm.findClass C = some c ∧ Z.vm.findClass K = some t ∧ Z.vm.assignable c t = false := by
  obtain ⟨c, t, h0, g0, n3⟩ := q
  obtain ⟨p, k, kp, h1, h2, h3, h4, h5, -, h7⟩ := Cond.superclass_spec h0 w
  obtain ⟨t', kt, g1, g2, g3, g4, -⟩ := Cond.instantiable_spec wk
  cases g0.symm.trans g1
  have ne := ids_ne h0 g0 hn
  have gi : kt.isInterface = false := by
    simp only [Bool.or_eq_false_iff] at g4
    exact g4.1
  refine ⟨c, t, h0, g0, ?_⟩
  show Z.vm.assignableAux (255 + 1) c t = false
  simp [Vm.assignableAux, ne, h2, g2, h5, g3, gi, Vm.isSubclass, n3]

theorem d2_0 : decode jdk_30_method_1_code 0 = .ok (.aload_n 0, 1) := by decide +kernel
theorem d2_1 : decode jdk_30_method_1_code 1 = .ok (.invokespecial 1, 3) := by decide +kernel
theorem d2_4 : decode jdk_30_method_1_code 4 = .ok (.return_, 1) := by decide +kernel
theorem pnRec : plainName "java/lang/Record" = true := by first | (simp [plainName, overriddenIn]; done) | decide +kernel
theorem efRec (m : MethodId) (z0 : Addr) : entryFrame m #[(.ref z0)] 1 = mkF m 0 #[.val (.ref z0)] [] := by first | (simp [entryFrame, mkF, argsToLocals, Value.category]; done) | rfl
def QRec (Z : State) (o : Addr) (h0 : Heap) (n0 : Nat) (v : Option Value) (h : Heap) (L : List Loc) : Prop := v = none ∧ Fr n0 L ∧ h = h0
set_option maxRecDepth 65536 in
set_option maxHeartbeats 40000000 in
theorem rmRec (l : Launch) (Z : State) (a0 : Array Value) (hw : ∀ d ∈ tables_1, d.before a0 Z = true) (ws : List Jvm.Cond) (o : Addr) (h0 : Heap) (n0 : Nat) (Z0 : n0 ≤ h0.size) :
    MetFree l (⟨"java/lang/Record", "<init>", "()V"⟩ : MethodName) (head1 (Jvm.Cond.code (⟨"java/lang/Record", "<init>", "()V"⟩ : MethodName) jdk_30_method_1_code 1 none :: ws) ({ frames := 1, cells := 0, slots := 0, locals := 12 } : Room)) (fun a U => a = #[(.ref o)] ∧ Z.Warmed39 U.vm ∧ U.heap = h0) (fun _ _ _ _ _ => True) (fun _ U oc U' => ∃ v L, oc = .returned v ∧ QRec Z o h0 n0 v U'.heap L ∧ FrameEnd U oc U' L ({ frames := 1, cells := 0, slots := 0, locals := 12 } : Room).cells ({ frames := 1, cells := 0, slots := 0, locals := 12 } : Room).slots) := by
  refine MetFree.of_bodySF (plainFor_of_name pnRec) hisR ?_
  intro p e s m args below meth c s₁ Bd hml0 hP hK
  obtain ⟨rfl, hZ, hh⟩ := hP
  have hx := Bd.exec
  have hby := Bd.bytes
  have hml : c.maxLocals = 1 := hml0
  have hown : s.vm.findClass "java/lang/Record" = some m.cls := findClass_of_methodNamed Bd.named
  have hnm := (name_of_methodNamed Bd.named Bd.method).1
  have X0 : Stand p l e ({ frames := 1, cells := 0, slots := 0, locals := 12 } : Room) s m #[(.ref o)] below meth c s₁ [] 0 0 := Stand.of_body Bd
  have e0 : s₁.heap = h0 := by rw [← hh, Bd.state]; rfl
  have N0 := Fr.nil n0
  show own_Go p e below (fun s₂ oc => ∃ v L, oc = .returned v ∧ QRec Z o h0 n0 v s₂.heap L ∧ FrameEnd s oc s₂ L ({ frames := 1, cells := 0, slots := 0, locals := 12 } : Room).cells ({ frames := 1, cells := 0, slots := 0, locals := 12 } : Room).slots) s₁ (entryFrame m #[(.ref o)] 1)
  refine own_Go.of (g' := mkF m 0 #[.val (.ref o)] []) (fun t k => castTop (efRec m o) k) ?_
  refine og_aloadN (pc' := 1) X0 hx (hb hby d2_0) rfl rfl rfl ?_
  obtain ⟨T1, X1, e1, st1⟩ := initO X0 hx hZ hown (hw _ (List.mem_of_getElem? (i := 11) rfl)) (hw _ (List.mem_of_getElem? (i := 12) rfl)) (hw _ (List.mem_of_getElem? (i := 13) rfl)) e0 (g := (mkF m 1 #[.val (.ref o)] [(.ref o)])) rfl (by rw [hml]; rfl) rfl (hb hby d2_1) (by decide) (W := 0) (by show 2 * 0 + _ ≤ _; exact Nat.le_of_eq rfl) (by decide)
  refine own_Go.of (g' := (mkF m 4 #[.val (.ref o)] [])) (fun t k => st1 _ k) ?_
  obtain ⟨fs, hr, hrun, hended, hW, hsame⟩ := X1.leave (v := none) (fun _ => rfl) (BodyLoose.notSynchronized Bd)
  refine ⟨_, _, X1.returnOut hx Bd.returns (hb hby d2_4) hr, hrun, hended, none, _, rfl, ?_, ⟨_, rfl⟩, hW, hsame.mono (by decide) (by decide)⟩
  show QRec Z o h0 n0 _ T1.heap _
  rw [e1]
  exact ⟨rfl, N0, rfl⟩

theorem d1_0 : decode prog_20_method_1_code 0 = .ok (.aload_n 0, 1) := by decide +kernel
theorem d1_1 : decode prog_20_method_1_code 1 = .ok (.invokespecial 1, 3) := by decide +kernel
theorem d1_4 : decode prog_20_method_1_code 4 = .ok (.aload_n 0, 1) := by decide +kernel
theorem d1_5 : decode prog_20_method_1_code 5 = .ok (.iload_n 1, 1) := by decide +kernel
theorem d1_6 : decode prog_20_method_1_code 6 = .ok (.putfield 7, 3) := by decide +kernel
theorem d1_9 : decode prog_20_method_1_code 9 = .ok (.aload_n 0, 1) := by decide +kernel
theorem d1_10 : decode prog_20_method_1_code 10 = .ok (.iload_n 2, 1) := by decide +kernel
theorem d1_11 : decode prog_20_method_1_code 11 = .ok (.putfield 13, 3) := by decide +kernel
theorem d1_14 : decode prog_20_method_1_code 14 = .ok (.aload_n 0, 1) := by decide +kernel
theorem d1_15 : decode prog_20_method_1_code 15 = .ok (.iload_n 3, 1) := by decide +kernel
theorem d1_16 : decode prog_20_method_1_code 16 = .ok (.putfield 16, 3) := by decide +kernel
theorem d1_19 : decode prog_20_method_1_code 19 = .ok (.return_, 1) := by decide +kernel
theorem pnEF : plainName "com/example/capwright/capwright/cap/CapFile$ExternalField" = true := by first | (simp [plainName, overriddenIn]; done) | decide +kernel
theorem pd_0 : parseMethodDescriptor "()V" = some ⟨[], none⟩ := by decide +kernel
theorem efEF (m : MethodId) (z0 : Addr) (z1 : Int32) (z2 : Int32) (z3 : Int32) : entryFrame m #[(.ref z0), (.int z1), (.int z2), (.int z3)] 4 = mkF m 0 #[.val (.ref z0), .val (.int z1), .val (.int z2), .val (.int z3)] [] := by first | (simp [entryFrame, mkF, argsToLocals, Value.category]; done) | rfl
def QEF (Z : State) (o : Addr) (p0 : Int32) (p1 : Int32) (p2 : Int32) (u0 : Value) (u1 : Value) (u2 : Value) (h0 : Heap) (n0 : Nat) (v : Option Value) (h : Heap) (L : List Loc) : Prop := v = none ∧ Fr n0 L ∧ Keep h0 h [o] ∧ Exa Z h o "com/example/capwright/capwright/cap/CapFile$ExternalField" ∧ Fld Z h o "com/example/capwright/capwright/cap/CapFile$ExternalField" "packageToken" "I" (.int p0) ∧ Fld Z h o "com/example/capwright/capwright/cap/CapFile$ExternalField" "classToken" "I" (.int p1) ∧ Fld Z h o "com/example/capwright/capwright/cap/CapFile$ExternalField" "token" "I" (.int p2)
set_option maxRecDepth 65536 in
set_option maxHeartbeats 40000000 in
theorem rmEF (l : Launch) (Z : State) (a0 : Array Value) (hw : ∀ d ∈ tables_1, d.before a0 Z = true) (ws : List Jvm.Cond) (o : Addr) (p0 : Int32) (p1 : Int32) (p2 : Int32) (u0 : Value) (u1 : Value) (u2 : Value) (h0 : Heap) (n0 : Nat) (Z0 : n0 ≤ h0.size) (E_o : Exa Z h0 o "com/example/capwright/capwright/cap/CapFile$ExternalField") (F0_o : Fld Z h0 o "com/example/capwright/capwright/cap/CapFile$ExternalField" "packageToken" "I" u0) (F1_o : Fld Z h0 o "com/example/capwright/capwright/cap/CapFile$ExternalField" "classToken" "I" u1) (F2_o : Fld Z h0 o "com/example/capwright/capwright/cap/CapFile$ExternalField" "token" "I" u2) (g_o : n0 ≤ o) :
    MetFree l (⟨"com/example/capwright/capwright/cap/CapFile$ExternalField", "<init>", "(III)V"⟩ : MethodName) (head1 (Jvm.Cond.code (⟨"com/example/capwright/capwright/cap/CapFile$ExternalField", "<init>", "(III)V"⟩ : MethodName) prog_20_method_1_code 4 none :: ws) ({ frames := 2, cells := 0, slots := 0, locals := 24 } : Room)) (fun a U => a = #[(.ref o), (.int p0), (.int p1), (.int p2)] ∧ Z.Warmed39 U.vm ∧ U.heap = h0) (fun _ _ _ _ _ => True) (fun _ U oc U' => ∃ v L, oc = .returned v ∧ QEF Z o p0 p1 p2 u0 u1 u2 h0 n0 v U'.heap L ∧ FrameEnd U oc U' L ({ frames := 2, cells := 0, slots := 0, locals := 24 } : Room).cells ({ frames := 2, cells := 0, slots := 0, locals := 24 } : Room).slots) := by
  refine MetFree.of_bodySF (plainFor_of_name pnEF) hisR ?_
  intro p e s m args below meth c s₁ Bd hml0 hP hK
  obtain ⟨rfl, hZ, hh⟩ := hP
  have hx := Bd.exec
  have hby := Bd.bytes
  have hml : c.maxLocals = 4 := hml0
  have hown : s.vm.findClass "com/example/capwright/capwright/cap/CapFile$ExternalField" = some m.cls := findClass_of_methodNamed Bd.named
  have hnm := (name_of_methodNamed Bd.named Bd.method).1
  have X0 : Stand p l e ({ frames := 2, cells := 0, slots := 0, locals := 24 } : Room) s m #[(.ref o), (.int p0), (.int p1), (.int p2)] below meth c s₁ [] 0 0 := Stand.of_body Bd
  have e0 : s₁.heap = h0 := by rw [← hh, Bd.state]; rfl
  have N0 := Fr.nil n0
  show own_Go p e below (fun s₂ oc => ∃ v L, oc = .returned v ∧ QEF Z o p0 p1 p2 u0 u1 u2 h0 n0 v s₂.heap L ∧ FrameEnd s oc s₂ L ({ frames := 2, cells := 0, slots := 0, locals := 24 } : Room).cells ({ frames := 2, cells := 0, slots := 0, locals := 24 } : Room).slots) s₁ (entryFrame m #[(.ref o), (.int p0), (.int p1), (.int p2)] 4)
  refine own_Go.of (g' := mkF m 0 #[.val (.ref o), .val (.int p0), .val (.int p1), .val (.int p2)] []) (fun t k => castTop (efEF m o p0 p1 p2) k) ?_
  refine og_aloadN (pc' := 1) X0 hx (hb hby d1_0) rfl rfl rfl ?_
  obtain ⟨_, _, ⟨T1, L1, k1, n1⟩, -, X1, ⟨Lc1, hQ1, l1, y1, z1⟩, st1⟩ := X0.specialBack hx (y := (⟨"java/lang/Record", "<init>", "()V"⟩ : MethodName)) rfl hown (mvT hZ (hw _ (List.mem_of_getElem? (i := 6) rfl))) (mvT hZ (hw _ (List.mem_of_getElem? (i := 7) rfl))) (mvT hZ (hw _ (List.mem_of_getElem? (i := 10) rfl))) (by decide) (backOf (W := 0) (rmRec l Z a0 hw [] o h0 n0 Z0 ) hZ (hw _ (List.mem_of_getElem? (i := 10) rfl)) (hw _ (List.mem_of_getElem? (i := 9) rfl)) (by decide) (by decide)) (g := (mkF m 1 #[.val (.ref o), .val (.int p0), .val (.int p1), .val (.int p2)] [(.ref o)])) rfl (by rw [hml]; rfl) (Steps.refl _) (a := o) (argsL := []) (rest := []) (lenOf pd_0 rfl) rfl (by show 2 * 0 + _ ≤ _; exact Nat.le_of_eq rfl) (hb hby d1_1) (fun _ _ => ⟨rfl, e0, (by decide : 0 + 0 ≤ _), (by decide : 0 + 0 ≤ _)⟩)
  dsimp only [Pt.U, Pt.locs, Pt.cells, Pt.slots] at X1 l1 y1 z1 st1 hQ1
  subst l1 y1 z1
  obtain ⟨rfl, N1q, e1⟩ := hQ1
  have N1 := Fr.app N0 N1q
  refine own_Go.of (g' := (mkF m 4 #[.val (.ref o), .val (.int p0), .val (.int p1), .val (.int p2)] [])) (fun t k => st1.trans k) ?_
  refine og_aloadN (pc' := 5) X1 hx (hb hby d1_4) rfl rfl rfl ?_
  refine og_iloadN (pc' := 6) X1 hx (hb hby d1_5) rfl rfl ?_
  obtain ⟨T2, h2, X2, e2, W2, st2⟩ := putF X1 hx hZ hown (host := "") (Or.inl (hw _ (List.mem_of_getElem? (i := 14) rfl))) Via.refl e1 F0_o E_o (Or.inr ⟨(hw _ (List.mem_of_getElem? (i := 15) rfl)), rfl, hnm⟩) (hw _ (List.mem_of_getElem? (i := 1) rfl)) (ty := .int) (by decide) rfl rfl (g := (mkF m 6 #[.val (.ref o), .val (.int p0), .val (.int p1), .val (.int p2)] [(.int p0), (.ref o)])) rfl rfl (hb hby d1_6)
  have w2 : Fld Z h2 o "com/example/capwright/capwright/cap/CapFile$ExternalField" "packageToken" "I" (.int p0) := F0_o.same W2
  have f2_0 := E_o.wr W2
  have f2_1 := F1_o.other W2 (Or.inr (slot_ne (a0 := a0) (C := "com/example/capwright/capwright/cap/CapFile$ExternalField") (Or.inr (hw _ (List.mem_of_getElem? (i := 17) rfl))) (Or.inr (hw _ (List.mem_of_getElem? (i := 15) rfl))) (by decide) (t := .int) (t' := .int) (by decide) (by decide)))
  have f2_2 := F2_o.other W2 (Or.inr (slot_ne (a0 := a0) (C := "com/example/capwright/capwright/cap/CapFile$ExternalField") (Or.inr (hw _ (List.mem_of_getElem? (i := 19) rfl))) (Or.inr (hw _ (List.mem_of_getElem? (i := 15) rfl))) (by decide) (t := .int) (t' := .int) (by decide) (by decide)))
  have K2 : Keep h0 h2 [o] := (Keep.refl h0 [o]).wr W2 (Or.inl (List.mem_of_getElem? (i := 0) rfl))
  have Z2 : n0 ≤ h2.size := Nat.le_trans Z0 K2.1
  have N2 := Fr.snoc X2 N1 g_o
  refine own_Go.of (g' := (mkF m 9 #[.val (.ref o), .val (.int p0), .val (.int p1), .val (.int p2)] [])) (fun t k => st2 _ k) ?_
  refine og_aloadN (pc' := 10) X2 hx (hb hby d1_9) rfl rfl rfl ?_
  refine og_iloadN (pc' := 11) X2 hx (hb hby d1_10) rfl rfl ?_
  obtain ⟨T3, h3, X3, e3, W3, st3⟩ := putF X2 hx hZ hown (host := "") (Or.inl (hw _ (List.mem_of_getElem? (i := 16) rfl))) Via.refl e2 f2_1 f2_0 (Or.inr ⟨(hw _ (List.mem_of_getElem? (i := 17) rfl)), rfl, hnm⟩) (hw _ (List.mem_of_getElem? (i := 1) rfl)) (ty := .int) (by decide) rfl rfl (g := (mkF m 11 #[.val (.ref o), .val (.int p0), .val (.int p1), .val (.int p2)] [(.int p1), (.ref o)])) rfl rfl (hb hby d1_11)
  have w3 : Fld Z h3 o "com/example/capwright/capwright/cap/CapFile$ExternalField" "classToken" "I" (.int p1) := f2_1.same W3
  have f3_0 := f2_0.wr W3
  have f3_1 := f2_2.other W3 (Or.inr (slot_ne (a0 := a0) (C := "com/example/capwright/capwright/cap/CapFile$ExternalField") (Or.inr (hw _ (List.mem_of_getElem? (i := 19) rfl))) (Or.inr (hw _ (List.mem_of_getElem? (i := 17) rfl))) (by decide) (t := .int) (t' := .int) (by decide) (by decide)))
  have f3_3 := w2.other W3 (Or.inr (slot_ne (a0 := a0) (C := "com/example/capwright/capwright/cap/CapFile$ExternalField") (Or.inr (hw _ (List.mem_of_getElem? (i := 15) rfl))) (Or.inr (hw _ (List.mem_of_getElem? (i := 17) rfl))) (by decide) (t := .int) (t' := .int) (by decide) (by decide)))
  have K3 : Keep h0 h3 [o] := K2.wr W3 (Or.inl (List.mem_of_getElem? (i := 0) rfl))
  have Z3 : n0 ≤ h3.size := Nat.le_trans Z0 K3.1
  have N3 := Fr.snoc X3 N2 g_o
  refine own_Go.of (g' := (mkF m 14 #[.val (.ref o), .val (.int p0), .val (.int p1), .val (.int p2)] [])) (fun t k => st3 _ k) ?_
  refine og_aloadN (pc' := 15) X3 hx (hb hby d1_14) rfl rfl rfl ?_
  refine og_iloadN (pc' := 16) X3 hx (hb hby d1_15) rfl rfl ?_
  obtain ⟨T4, h4, X4, e4, W4, st4⟩ := putF X3 hx hZ hown (host := "") (Or.inl (hw _ (List.mem_of_getElem? (i := 18) rfl))) Via.refl e3 f3_1 f3_0 (Or.inr ⟨(hw _ (List.mem_of_getElem? (i := 19) rfl)), rfl, hnm⟩) (hw _ (List.mem_of_getElem? (i := 1) rfl)) (ty := .int) (by decide) rfl rfl (g := (mkF m 16 #[.val (.ref o), .val (.int p0), .val (.int p1), .val (.int p2)] [(.int p2), (.ref o)])) rfl rfl (hb hby d1_16)
  have w4 : Fld Z h4 o "com/example/capwright/capwright/cap/CapFile$ExternalField" "token" "I" (.int p2) := f3_1.same W4
  have f4_0 := f3_0.wr W4
  have f4_2 := f3_3.other W4 (Or.inr (slot_ne (a0 := a0) (C := "com/example/capwright/capwright/cap/CapFile$ExternalField") (Or.inr (hw _ (List.mem_of_getElem? (i := 15) rfl))) (Or.inr (hw _ (List.mem_of_getElem? (i := 19) rfl))) (by decide) (t := .int) (t' := .int) (by decide) (by decide)))
  have f4_3 := w3.other W4 (Or.inr (slot_ne (a0 := a0) (C := "com/example/capwright/capwright/cap/CapFile$ExternalField") (Or.inr (hw _ (List.mem_of_getElem? (i := 17) rfl))) (Or.inr (hw _ (List.mem_of_getElem? (i := 19) rfl))) (by decide) (t := .int) (t' := .int) (by decide) (by decide)))
  have K4 : Keep h0 h4 [o] := K3.wr W4 (Or.inl (List.mem_of_getElem? (i := 0) rfl))
  have Z4 : n0 ≤ h4.size := Nat.le_trans Z0 K4.1
  have N4 := Fr.snoc X4 N3 g_o
  refine own_Go.of (g' := (mkF m 19 #[.val (.ref o), .val (.int p0), .val (.int p1), .val (.int p2)] [])) (fun t k => st4 _ k) ?_
  obtain ⟨fs, hr, hrun, hended, hW, hsame⟩ := X4.leave (v := none) (fun _ => rfl) (BodyLoose.notSynchronized Bd)
  refine ⟨_, _, X4.returnOut hx Bd.returns (hb hby d1_19) hr, hrun, hended, none, _, rfl, ?_, ⟨_, rfl⟩, hW, hsame.mono (by decide) (by decide)⟩
  show QEF Z o p0 p1 p2 u0 u1 u2 h0 n0 _ T4.heap _
  rw [e4]
  exact ⟨rfl, N4, K4, f4_0, f4_2, f4_3, w4⟩

theorem d5_0 : decode prog_21_method_1_code 0 = .ok (.aload_n 0, 1) := by decide +kernel
theorem d5_1 : decode prog_21_method_1_code 1 = .ok (.invokespecial 1, 3) := by decide +kernel
theorem d5_4 : decode prog_21_method_1_code 4 = .ok (.aload_n 0, 1) := by decide +kernel
theorem d5_5 : decode prog_21_method_1_code 5 = .ok (.iload_n 1, 1) := by decide +kernel
theorem d5_6 : decode prog_21_method_1_code 6 = .ok (.putfield 7, 3) := by decide +kernel
theorem d5_9 : decode prog_21_method_1_code 9 = .ok (.aload_n 0, 1) := by decide +kernel
theorem d5_10 : decode prog_21_method_1_code 10 = .ok (.iload_n 2, 1) := by decide +kernel
theorem d5_11 : decode prog_21_method_1_code 11 = .ok (.putfield 13, 3) := by decide +kernel
theorem d5_14 : decode prog_21_method_1_code 14 = .ok (.aload_n 0, 1) := by decide +kernel
theorem d5_15 : decode prog_21_method_1_code 15 = .ok (.iload_n 3, 1) := by decide +kernel
theorem d5_16 : decode prog_21_method_1_code 16 = .ok (.putfield 16, 3) := by decide +kernel
theorem d5_19 : decode prog_21_method_1_code 19 = .ok (.return_, 1) := by decide +kernel
theorem pnEM : plainName "com/example/capwright/capwright/cap/CapFile$ExternalMethod" = true := by first | (simp [plainName, overriddenIn]; done) | decide +kernel
theorem efEM (m : MethodId) (z0 : Addr) (z1 : Int32) (z2 : Int32) (z3 : Int32) : entryFrame m #[(.ref z0), (.int z1), (.int z2), (.int z3)] 4 = mkF m 0 #[.val (.ref z0), .val (.int z1), .val (.int z2), .val (.int z3)] [] := by first | (simp [entryFrame, mkF, argsToLocals, Value.category]; done) | rfl
def QEM (Z : State) (o : Addr) (p0 : Int32) (p1 : Int32) (p2 : Int32) (u0 : Value) (u1 : Value) (u2 : Value) (h0 : Heap) (n0 : Nat) (v : Option Value) (h : Heap) (L : List Loc) : Prop := v = none ∧ Fr n0 L ∧ Keep h0 h [o] ∧ Exa Z h o "com/example/capwright/capwright/cap/CapFile$ExternalMethod" ∧ Fld Z h o "com/example/capwright/capwright/cap/CapFile$ExternalMethod" "packageToken" "I" (.int p0) ∧ Fld Z h o "com/example/capwright/capwright/cap/CapFile$ExternalMethod" "classToken" "I" (.int p1) ∧ Fld Z h o "com/example/capwright/capwright/cap/CapFile$ExternalMethod" "token" "I" (.int p2)
set_option maxRecDepth 65536 in
set_option maxHeartbeats 40000000 in
theorem rmEM (l : Launch) (Z : State) (a0 : Array Value) (hw : ∀ d ∈ tables_1, d.before a0 Z = true) (ws : List Jvm.Cond) (o : Addr) (p0 : Int32) (p1 : Int32) (p2 : Int32) (u0 : Value) (u1 : Value) (u2 : Value) (h0 : Heap) (n0 : Nat) (Z0 : n0 ≤ h0.size) (E_o : Exa Z h0 o "com/example/capwright/capwright/cap/CapFile$ExternalMethod") (F0_o : Fld Z h0 o "com/example/capwright/capwright/cap/CapFile$ExternalMethod" "packageToken" "I" u0) (F1_o : Fld Z h0 o "com/example/capwright/capwright/cap/CapFile$ExternalMethod" "classToken" "I" u1) (F2_o : Fld Z h0 o "com/example/capwright/capwright/cap/CapFile$ExternalMethod" "token" "I" u2) (g_o : n0 ≤ o) :
    MetFree l (⟨"com/example/capwright/capwright/cap/CapFile$ExternalMethod", "<init>", "(III)V"⟩ : MethodName) (head1 (Jvm.Cond.code (⟨"com/example/capwright/capwright/cap/CapFile$ExternalMethod", "<init>", "(III)V"⟩ : MethodName) prog_21_method_1_code 4 none :: ws) ({ frames := 2, cells := 0, slots := 0, locals := 24 } : Room)) (fun a U => a = #[(.ref o), (.int p0), (.int p1), (.int p2)] ∧ Z.Warmed39 U.vm ∧ U.heap = h0) (fun _ _ _ _ _ => True) (fun _ U oc U' => ∃ v L, oc = .returned v ∧ QEM Z o p0 p1 p2 u0 u1 u2 h0 n0 v U'.heap L ∧ FrameEnd U oc U' L ({ frames := 2, cells := 0, slots := 0, locals := 24 } : Room).cells ({ frames := 2, cells := 0, slots := 0, locals := 24 } : Room).slots) := by
  refine MetFree.of_bodySF (plainFor_of_name pnEM) hisR ?_
  intro p e s m args below meth c s₁ Bd hml0 hP hK
  obtain ⟨rfl, hZ, hh⟩ := hP
  have hx := Bd.exec
  have hby := Bd.bytes
  have hml : c.maxLocals = 4 := hml0
  have hown : s.vm.findClass "com/example/capwright/capwright/cap/CapFile$ExternalMethod" = some m.cls := findClass_of_methodNamed Bd.named
  have hnm := (name_of_methodNamed Bd.named Bd.method).1
  have X0 : Stand p l e ({ frames := 2, cells := 0, slots := 0, locals := 24 } : Room) s m #[(.ref o), (.int p0), (.int p1), (.int p2)] below meth c s₁ [] 0 0 := Stand.of_body Bd
  have e0 : s₁.heap = h0 := by rw [← hh, Bd.state]; rfl
  have N0 := Fr.nil n0
  show own_Go p e below (fun s₂ oc => ∃ v L, oc = .returned v ∧ QEM Z o p0 p1 p2 u0 u1 u2 h0 n0 v s₂.heap L ∧ FrameEnd s oc s₂ L ({ frames := 2, cells := 0, slots := 0, locals := 24 } : Room).cells ({ frames := 2, cells := 0, slots := 0, locals := 24 } : Room).slots) s₁ (entryFrame m #[(.ref o), (.int p0), (.int p1), (.int p2)] 4)
  refine own_Go.of (g' := mkF m 0 #[.val (.ref o), .val (.int p0), .val (.int p1), .val (.int p2)] []) (fun t k => castTop (efEM m o p0 p1 p2) k) ?_
  refine og_aloadN (pc' := 1) X0 hx (hb hby d5_0) rfl rfl rfl ?_
  obtain ⟨_, _, ⟨T1, L1, k1, n1⟩, -, X1, ⟨Lc1, hQ1, l1, y1, z1⟩, st1⟩ := X0.specialBack hx (y := (⟨"java/lang/Record", "<init>", "()V"⟩ : MethodName)) rfl hown (mvT hZ (hw _ (List.mem_of_getElem? (i := 33) rfl))) (mvT hZ (hw _ (List.mem_of_getElem? (i := 7) rfl))) (mvT hZ (hw _ (List.mem_of_getElem? (i := 10) rfl))) (by decide) (backOf (W := 0) (rmRec l Z a0 hw [] o h0 n0 Z0 ) hZ (hw _ (List.mem_of_getElem? (i := 10) rfl)) (hw _ (List.mem_of_getElem? (i := 9) rfl)) (by decide) (by decide)) (g := (mkF m 1 #[.val (.ref o), .val (.int p0), .val (.int p1), .val (.int p2)] [(.ref o)])) rfl (by rw [hml]; rfl) (Steps.refl _) (a := o) (argsL := []) (rest := []) (lenOf pd_0 rfl) rfl (by show 2 * 0 + _ ≤ _; exact Nat.le_of_eq rfl) (hb hby d5_1) (fun _ _ => ⟨rfl, e0, (by decide : 0 + 0 ≤ _), (by decide : 0 + 0 ≤ _)⟩)
  dsimp only [Pt.U, Pt.locs, Pt.cells, Pt.slots] at X1 l1 y1 z1 st1 hQ1
  subst l1 y1 z1
  obtain ⟨rfl, N1q, e1⟩ := hQ1
  have N1 := Fr.app N0 N1q
  refine own_Go.of (g' := (mkF m 4 #[.val (.ref o), .val (.int p0), .val (.int p1), .val (.int p2)] [])) (fun t k => st1.trans k) ?_
  refine og_aloadN (pc' := 5) X1 hx (hb hby d5_4) rfl rfl rfl ?_
  refine og_iloadN (pc' := 6) X1 hx (hb hby d5_5) rfl rfl ?_
  obtain ⟨T2, h2, X2, e2, W2, st2⟩ := putF X1 hx hZ hown (host := "") (Or.inl (hw _ (List.mem_of_getElem? (i := 34) rfl))) Via.refl e1 F0_o E_o (Or.inr ⟨(hw _ (List.mem_of_getElem? (i := 35) rfl)), rfl, hnm⟩) (hw _ (List.mem_of_getElem? (i := 28) rfl)) (ty := .int) (by decide) rfl rfl (g := (mkF m 6 #[.val (.ref o), .val (.int p0), .val (.int p1), .val (.int p2)] [(.int p0), (.ref o)])) rfl rfl (hb hby d5_6)
  have w2 : Fld Z h2 o "com/example/capwright/capwright/cap/CapFile$ExternalMethod" "packageToken" "I" (.int p0) := F0_o.same W2
  have f2_0 := E_o.wr W2
  have f2_1 := F1_o.other W2 (Or.inr (slot_ne (a0 := a0) (C := "com/example/capwright/capwright/cap/CapFile$ExternalMethod") (Or.inr (hw _ (List.mem_of_getElem? (i := 37) rfl))) (Or.inr (hw _ (List.mem_of_getElem? (i := 35) rfl))) (by decide) (t := .int) (t' := .int) (by decide) (by decide)))
  have f2_2 := F2_o.other W2 (Or.inr (slot_ne (a0 := a0) (C := "com/example/capwright/capwright/cap/CapFile$ExternalMethod") (Or.inr (hw _ (List.mem_of_getElem? (i := 39) rfl))) (Or.inr (hw _ (List.mem_of_getElem? (i := 35) rfl))) (by decide) (t := .int) (t' := .int) (by decide) (by decide)))
  have K2 : Keep h0 h2 [o] := (Keep.refl h0 [o]).wr W2 (Or.inl (List.mem_of_getElem? (i := 0) rfl))
  have Z2 : n0 ≤ h2.size := Nat.le_trans Z0 K2.1
  have N2 := Fr.snoc X2 N1 g_o
  refine own_Go.of (g' := (mkF m 9 #[.val (.ref o), .val (.int p0), .val (.int p1), .val (.int p2)] [])) (fun t k => st2 _ k) ?_
  refine og_aloadN (pc' := 10) X2 hx (hb hby d5_9) rfl rfl rfl ?_
  refine og_iloadN (pc' := 11) X2 hx (hb hby d5_10) rfl rfl ?_
  obtain ⟨T3, h3, X3, e3, W3, st3⟩ := putF X2 hx hZ hown (host := "") (Or.inl (hw _ (List.mem_of_getElem? (i := 36) rfl))) Via.refl e2 f2_1 f2_0 (Or.inr ⟨(hw _ (List.mem_of_getElem? (i := 37) rfl)), rfl, hnm⟩) (hw _ (List.mem_of_getElem? (i := 28) rfl)) (ty := .int) (by decide) rfl rfl (g := (mkF m 11 #[.val (.ref o), .val (.int p0), .val (.int p1), .val (.int p2)] [(.int p1), (.ref o)])) rfl rfl (hb hby d5_11)
  have w3 : Fld Z h3 o "com/example/capwright/capwright/cap/CapFile$ExternalMethod" "classToken" "I" (.int p1) := f2_1.same W3
  have f3_0 := f2_0.wr W3
  have f3_1 := f2_2.other W3 (Or.inr (slot_ne (a0 := a0) (C := "com/example/capwright/capwright/cap/CapFile$ExternalMethod") (Or.inr (hw _ (List.mem_of_getElem? (i := 39) rfl))) (Or.inr (hw _ (List.mem_of_getElem? (i := 37) rfl))) (by decide) (t := .int) (t' := .int) (by decide) (by decide)))
  have f3_3 := w2.other W3 (Or.inr (slot_ne (a0 := a0) (C := "com/example/capwright/capwright/cap/CapFile$ExternalMethod") (Or.inr (hw _ (List.mem_of_getElem? (i := 35) rfl))) (Or.inr (hw _ (List.mem_of_getElem? (i := 37) rfl))) (by decide) (t := .int) (t' := .int) (by decide) (by decide)))
  have K3 : Keep h0 h3 [o] := K2.wr W3 (Or.inl (List.mem_of_getElem? (i := 0) rfl))
  have Z3 : n0 ≤ h3.size := Nat.le_trans Z0 K3.1
  have N3 := Fr.snoc X3 N2 g_o
  refine own_Go.of (g' := (mkF m 14 #[.val (.ref o), .val (.int p0), .val (.int p1), .val (.int p2)] [])) (fun t k => st3 _ k) ?_
  refine og_aloadN (pc' := 15) X3 hx (hb hby d5_14) rfl rfl rfl ?_
  refine og_iloadN (pc' := 16) X3 hx (hb hby d5_15) rfl rfl ?_
  obtain ⟨T4, h4, X4, e4, W4, st4⟩ := putF X3 hx hZ hown (host := "") (Or.inl (hw _ (List.mem_of_getElem? (i := 38) rfl))) Via.refl e3 f3_1 f3_0 (Or.inr ⟨(hw _ (List.mem_of_getElem? (i := 39) rfl)), rfl, hnm⟩) (hw _ (List.mem_of_getElem? (i := 28) rfl)) (ty := .int) (by decide) rfl rfl (g := (mkF m 16 #[.val (.ref o), .val (.int p0), .val (.int p1), .val (.int p2)] [(.int p2), (.ref o)])) rfl rfl (hb hby d5_16)
  have w4 : Fld Z h4 o "com/example/capwright/capwright/cap/CapFile$ExternalMethod" "token" "I" (.int p2) := f3_1.same W4
  have f4_0 := f3_0.wr W4
  have f4_2 := f3_3.other W4 (Or.inr (slot_ne (a0 := a0) (C := "com/example/capwright/capwright/cap/CapFile$ExternalMethod") (Or.inr (hw _ (List.mem_of_getElem? (i := 35) rfl))) (Or.inr (hw _ (List.mem_of_getElem? (i := 39) rfl))) (by decide) (t := .int) (t' := .int) (by decide) (by decide)))
  have f4_3 := w3.other W4 (Or.inr (slot_ne (a0 := a0) (C := "com/example/capwright/capwright/cap/CapFile$ExternalMethod") (Or.inr (hw _ (List.mem_of_getElem? (i := 37) rfl))) (Or.inr (hw _ (List.mem_of_getElem? (i := 39) rfl))) (by decide) (t := .int) (t' := .int) (by decide) (by decide)))
  have K4 : Keep h0 h4 [o] := K3.wr W4 (Or.inl (List.mem_of_getElem? (i := 0) rfl))
  have Z4 : n0 ≤ h4.size := Nat.le_trans Z0 K4.1
  have N4 := Fr.snoc X4 N3 g_o
  refine own_Go.of (g' := (mkF m 19 #[.val (.ref o), .val (.int p0), .val (.int p1), .val (.int p2)] [])) (fun t k => st4 _ k) ?_
  obtain ⟨fs, hr, hrun, hended, hW, hsame⟩ := X4.leave (v := none) (fun _ => rfl) (BodyLoose.notSynchronized Bd)
  refine ⟨_, _, X4.returnOut hx Bd.returns (hb hby d5_19) hr, hrun, hended, none, _, rfl, ?_, ⟨_, rfl⟩, hW, hsame.mono (by decide) (by decide)⟩
  show QEM Z o p0 p1 p2 u0 u1 u2 h0 n0 _ T4.heap _
  rw [e4]
  exact ⟨rfl, N4, K4, f4_0, f4_2, f4_3, w4⟩

theorem d6_0 : decode prog_26_method_1_code 0 = .ok (.aload_n 0, 1) := by decide +kernel
theorem d6_1 : decode prog_26_method_1_code 1 = .ok (.invokespecial 1, 3) := by decide +kernel
theorem d6_4 : decode prog_26_method_1_code 4 = .ok (.aload_n 0, 1) := by decide +kernel
theorem d6_5 : decode prog_26_method_1_code 5 = .ok (.iload_n 1, 1) := by decide +kernel
theorem d6_6 : decode prog_26_method_1_code 6 = .ok (.putfield 7, 3) := by decide +kernel
theorem d6_9 : decode prog_26_method_1_code 9 = .ok (.return_, 1) := by decide +kernel
theorem pnIF : plainName "com/example/capwright/capwright/cap/CapFile$InternalField" = true := by first | (simp [plainName, overriddenIn]; done) | decide +kernel
theorem efIF (m : MethodId) (z0 : Addr) (z1 : Int32) : entryFrame m #[(.ref z0), (.int z1)] 2 = mkF m 0 #[.val (.ref z0), .val (.int z1)] [] := by first | (simp [entryFrame, mkF, argsToLocals, Value.category]; done) | rfl
def QIF (Z : State) (o : Addr) (p0 : Int32) (u0 : Value) (h0 : Heap) (n0 : Nat) (v : Option Value) (h : Heap) (L : List Loc) : Prop := v = none ∧ Fr n0 L ∧ Keep h0 h [o] ∧ Exa Z h o "com/example/capwright/capwright/cap/CapFile$InternalField" ∧ Fld Z h o "com/example/capwright/capwright/cap/CapFile$InternalField" "fieldIndex" "I" (.int p0)
set_option maxRecDepth 65536 in
set_option maxHeartbeats 40000000 in
theorem rmIF (l : Launch) (Z : State) (a0 : Array Value) (hw : ∀ d ∈ tables_1, d.before a0 Z = true) (ws : List Jvm.Cond) (o : Addr) (p0 : Int32) (u0 : Value) (h0 : Heap) (n0 : Nat) (Z0 : n0 ≤ h0.size) (E_o : Exa Z h0 o "com/example/capwright/capwright/cap/CapFile$InternalField") (F0_o : Fld Z h0 o "com/example/capwright/capwright/cap/CapFile$InternalField" "fieldIndex" "I" u0) (g_o : n0 ≤ o) :
    MetFree l (⟨"com/example/capwright/capwright/cap/CapFile$InternalField", "<init>", "(I)V"⟩ : MethodName) (head1 (Jvm.Cond.code (⟨"com/example/capwright/capwright/cap/CapFile$InternalField", "<init>", "(I)V"⟩ : MethodName) prog_26_method_1_code 2 none :: ws) ({ frames := 2, cells := 0, slots := 0, locals := 24 } : Room)) (fun a U => a = #[(.ref o), (.int p0)] ∧ Z.Warmed39 U.vm ∧ U.heap = h0) (fun _ _ _ _ _ => True) (fun _ U oc U' => ∃ v L, oc = .returned v ∧ QIF Z o p0 u0 h0 n0 v U'.heap L ∧ FrameEnd U oc U' L ({ frames := 2, cells := 0, slots := 0, locals := 24 } : Room).cells ({ frames := 2, cells := 0, slots := 0, locals := 24 } : Room).slots) := by
  refine MetFree.of_bodySF (plainFor_of_name pnIF) hisR ?_
  intro p e s m args below meth c s₁ Bd hml0 hP hK
  obtain ⟨rfl, hZ, hh⟩ := hP
  have hx := Bd.exec
  have hby := Bd.bytes
  have hml : c.maxLocals = 2 := hml0
  have hown : s.vm.findClass "com/example/capwright/capwright/cap/CapFile$InternalField" = some m.cls := findClass_of_methodNamed Bd.named
  have hnm := (name_of_methodNamed Bd.named Bd.method).1
  have X0 : Stand p l e ({ frames := 2, cells := 0, slots := 0, locals := 24 } : Room) s m #[(.ref o), (.int p0)] below meth c s₁ [] 0 0 := Stand.of_body Bd
  have e0 : s₁.heap = h0 := by rw [← hh, Bd.state]; rfl
  have N0 := Fr.nil n0
  show own_Go p e below (fun s₂ oc => ∃ v L, oc = .returned v ∧ QIF Z o p0 u0 h0 n0 v s₂.heap L ∧ FrameEnd s oc s₂ L ({ frames := 2, cells := 0, slots := 0, locals := 24 } : Room).cells ({ frames := 2, cells := 0, slots := 0, locals := 24 } : Room).slots) s₁ (entryFrame m #[(.ref o), (.int p0)] 2)
  refine own_Go.of (g' := mkF m 0 #[.val (.ref o), .val (.int p0)] []) (fun t k => castTop (efIF m o p0) k) ?_
  refine og_aloadN (pc' := 1) X0 hx (hb hby d6_0) rfl rfl rfl ?_
  obtain ⟨_, _, ⟨T1, L1, k1, n1⟩, -, X1, ⟨Lc1, hQ1, l1, y1, z1⟩, st1⟩ := X0.specialBack hx (y := (⟨"java/lang/Record", "<init>", "()V"⟩ : MethodName)) rfl hown (mvT hZ (hw _ (List.mem_of_getElem? (i := 49) rfl))) (mvT hZ (hw _ (List.mem_of_getElem? (i := 7) rfl))) (mvT hZ (hw _ (List.mem_of_getElem? (i := 10) rfl))) (by decide) (backOf (W := 0) (rmRec l Z a0 hw [] o h0 n0 Z0 ) hZ (hw _ (List.mem_of_getElem? (i := 10) rfl)) (hw _ (List.mem_of_getElem? (i := 9) rfl)) (by decide) (by decide)) (g := (mkF m 1 #[.val (.ref o), .val (.int p0)] [(.ref o)])) rfl (by rw [hml]; rfl) (Steps.refl _) (a := o) (argsL := []) (rest := []) (lenOf pd_0 rfl) rfl (by show 2 * 0 + _ ≤ _; exact Nat.le_of_eq rfl) (hb hby d6_1) (fun _ _ => ⟨rfl, e0, (by decide : 0 + 0 ≤ _), (by decide : 0 + 0 ≤ _)⟩)
  dsimp only [Pt.U, Pt.locs, Pt.cells, Pt.slots] at X1 l1 y1 z1 st1 hQ1
  subst l1 y1 z1
  obtain ⟨rfl, N1q, e1⟩ := hQ1
  have N1 := Fr.app N0 N1q
  refine own_Go.of (g' := (mkF m 4 #[.val (.ref o), .val (.int p0)] [])) (fun t k => st1.trans k) ?_
  refine og_aloadN (pc' := 5) X1 hx (hb hby d6_4) rfl rfl rfl ?_
  refine og_iloadN (pc' := 6) X1 hx (hb hby d6_5) rfl rfl ?_
  obtain ⟨T2, h2, X2, e2, W2, st2⟩ := putF X1 hx hZ hown (host := "") (Or.inl (hw _ (List.mem_of_getElem? (i := 50) rfl))) Via.refl e1 F0_o E_o (Or.inr ⟨(hw _ (List.mem_of_getElem? (i := 51) rfl)), rfl, hnm⟩) (hw _ (List.mem_of_getElem? (i := 44) rfl)) (ty := .int) (by decide) rfl rfl (g := (mkF m 6 #[.val (.ref o), .val (.int p0)] [(.int p0), (.ref o)])) rfl rfl (hb hby d6_6)
  have w2 : Fld Z h2 o "com/example/capwright/capwright/cap/CapFile$InternalField" "fieldIndex" "I" (.int p0) := F0_o.same W2
  have f2_0 := E_o.wr W2
  have K2 : Keep h0 h2 [o] := (Keep.refl h0 [o]).wr W2 (Or.inl (List.mem_of_getElem? (i := 0) rfl))
  have Z2 : n0 ≤ h2.size := Nat.le_trans Z0 K2.1
  have N2 := Fr.snoc X2 N1 g_o
  refine own_Go.of (g' := (mkF m 9 #[.val (.ref o), .val (.int p0)] [])) (fun t k => st2 _ k) ?_
  obtain ⟨fs, hr, hrun, hended, hW, hsame⟩ := X2.leave (v := none) (fun _ => rfl) (BodyLoose.notSynchronized Bd)
  refine ⟨_, _, X2.returnOut hx Bd.returns (hb hby d6_9) hr, hrun, hended, none, _, rfl, ?_, ⟨_, rfl⟩, hW, hsame.mono (by decide) (by decide)⟩
  show QIF Z o p0 u0 h0 n0 _ T2.heap _
  rw [e2]
  exact ⟨rfl, N2, K2, f2_0, w2⟩

def own_eq (r0 : Int32) (r1 : Int32) (r2 : Int32) (s0 : Int32) (s1 : Int32) (s2 : Int32) : Int32 := (if s0 = r0 then (if s1 = r1 then (if s2 = r2 then (1 : Int32) else (0 : Int32)) else (0 : Int32)) else (0 : Int32))
theorem d4_0 : decode prog_20_method_2_code 0 = .ok (.aload_n 1, 1) := by decide +kernel
theorem d4_1 : decode prog_20_method_2_code 1 = .ok (.instanceof 8, 3) := by decide +kernel
theorem d4_4 : decode prog_20_method_2_code 4 = .ok (.ifCond .eq 45, 3) := by decide +kernel
theorem d4_7 : decode prog_20_method_2_code 7 = .ok (.aload_n 1, 1) := by decide +kernel
theorem d4_8 : decode prog_20_method_2_code 8 = .ok (.checkcast 8, 3) := by decide +kernel
theorem d4_11 : decode prog_20_method_2_code 11 = .ok (.astore_n 2, 1) := by decide +kernel
theorem d4_12 : decode prog_20_method_2_code 12 = .ok (.aload_n 2, 1) := by decide +kernel
theorem d4_13 : decode prog_20_method_2_code 13 = .ok (.getfield 7, 3) := by decide +kernel
theorem d4_16 : decode prog_20_method_2_code 16 = .ok (.aload_n 0, 1) := by decide +kernel
theorem d4_17 : decode prog_20_method_2_code 17 = .ok (.getfield 7, 3) := by decide +kernel
theorem d4_20 : decode prog_20_method_2_code 20 = .ok (.if_icmp .ne 29, 3) := by decide +kernel
theorem d4_23 : decode prog_20_method_2_code 23 = .ok (.aload_n 2, 1) := by decide +kernel
theorem d4_24 : decode prog_20_method_2_code 24 = .ok (.getfield 13, 3) := by decide +kernel
theorem d4_27 : decode prog_20_method_2_code 27 = .ok (.aload_n 0, 1) := by decide +kernel
theorem d4_28 : decode prog_20_method_2_code 28 = .ok (.getfield 13, 3) := by decide +kernel
theorem d4_31 : decode prog_20_method_2_code 31 = .ok (.if_icmp .ne 18, 3) := by decide +kernel
theorem d4_34 : decode prog_20_method_2_code 34 = .ok (.aload_n 2, 1) := by decide +kernel
theorem d4_35 : decode prog_20_method_2_code 35 = .ok (.getfield 16, 3) := by decide +kernel
theorem d4_38 : decode prog_20_method_2_code 38 = .ok (.aload_n 0, 1) := by decide +kernel
theorem d4_39 : decode prog_20_method_2_code 39 = .ok (.getfield 16, 3) := by decide +kernel
theorem d4_42 : decode prog_20_method_2_code 42 = .ok (.if_icmp .ne 7, 3) := by decide +kernel
theorem d4_45 : decode prog_20_method_2_code 45 = .ok (.iconst 1, 1) := by decide +kernel
theorem d4_46 : decode prog_20_method_2_code 46 = .ok (.goto 4, 3) := by decide +kernel
theorem d4_49 : decode prog_20_method_2_code 49 = .ok (.iconst 0, 1) := by decide +kernel
theorem d4_50 : decode prog_20_method_2_code 50 = .ok (.ireturn, 1) := by decide +kernel
theorem pneqA : plainName "com/example/capwright/capwright/cap/CapFile$ExternalField" = true := by first | (simp [plainName, overriddenIn]; done) | decide +kernel
theorem efeqA (m : MethodId) (z0 : Addr) (z1 : Addr) : entryFrame m #[(.ref z0), (.ref z1)] 3 = mkF m 0 #[.val (.ref z0), .val (.ref z1), .unset] [] := by first | (simp [entryFrame, mkF, argsToLocals, Value.category]; done) | rfl
def QeqA (Z : State) (o : Addr) (b : Addr) (r0 : Int32) (r1 : Int32) (r2 : Int32) (s0 : Int32) (s1 : Int32) (s2 : Int32) (h0 : Heap) (n0 : Nat) (v : Option Value) (h : Heap) (L : List Loc) : Prop := v = some (.int (own_eq r0 r1 r2 s0 s1 s2)) ∧ Fr n0 L ∧ h = h0
set_option maxRecDepth 65536 in
set_option maxHeartbeats 40000000 in
theorem rmeqA (l : Launch) (Z : State) (a0 : Array Value) (hw : ∀ d ∈ tables_1, d.before a0 Z = true) (ws : List Jvm.Cond) (o : Addr) (b : Addr) (r0 : Int32) (r1 : Int32) (r2 : Int32) (s0 : Int32) (s1 : Int32) (s2 : Int32) (h0 : Heap) (n0 : Nat) (Z0 : n0 ≤ h0.size) (F0_o : Fld Z h0 o "com/example/capwright/capwright/cap/CapFile$ExternalField" "packageToken" "I" (.int r0)) (F1_o : Fld Z h0 o "com/example/capwright/capwright/cap/CapFile$ExternalField" "classToken" "I" (.int r1)) (F2_o : Fld Z h0 o "com/example/capwright/capwright/cap/CapFile$ExternalField" "token" "I" (.int r2)) (F0_b : Fld Z h0 b "com/example/capwright/capwright/cap/CapFile$ExternalField" "packageToken" "I" (.int s0)) (F1_b : Fld Z h0 b "com/example/capwright/capwright/cap/CapFile$ExternalField" "classToken" "I" (.int s1)) (F2_b : Fld Z h0 b "com/example/capwright/capwright/cap/CapFile$ExternalField" "token" "I" (.int s2)) (E_b : Exa Z h0 b "com/example/capwright/capwright/cap/CapFile$ExternalField") :
    MetFree l (⟨"com/example/capwright/capwright/cap/CapFile$ExternalField", "equals", "(Ljava/lang/Object;)Z"⟩ : MethodName) (head1 (Jvm.Cond.code (⟨"com/example/capwright/capwright/cap/CapFile$ExternalField", "equals", "(Ljava/lang/Object;)Z"⟩ : MethodName) prog_20_method_2_code 3 (some .boolean) :: ws) ({ frames := 0, cells := 0, slots := 0, locals := 0 } : Room)) (fun a U => a = #[(.ref o), (.ref b)] ∧ Z.Warmed39 U.vm ∧ U.heap = h0) (fun _ _ _ _ _ => True) (fun _ U oc U' => ∃ v L, oc = .returned v ∧ QeqA Z o b r0 r1 r2 s0 s1 s2 h0 n0 v U'.heap L ∧ FrameEnd U oc U' L ({ frames := 0, cells := 0, slots := 0, locals := 0 } : Room).cells ({ frames := 0, cells := 0, slots := 0, locals := 0 } : Room).slots) := by
  refine MetFree.of_bodySF (plainFor_of_name pneqA) hisR ?_
  intro p e s m args below meth c s₁ Bd hml0 hP hK
  obtain ⟨rfl, hZ, hh⟩ := hP
  have hx := Bd.exec
  have hby := Bd.bytes
  have hml : c.maxLocals = 3 := hml0
  have hown : s.vm.findClass "com/example/capwright/capwright/cap/CapFile$ExternalField" = some m.cls := findClass_of_methodNamed Bd.named
  have hnm := (name_of_methodNamed Bd.named Bd.method).1
  have X0 : Stand p l e ({ frames := 0, cells := 0, slots := 0, locals := 0 } : Room) s m #[(.ref o), (.ref b)] below meth c s₁ [] 0 0 := Stand.of_body Bd
  have e0 : s₁.heap = h0 := by rw [← hh, Bd.state]; rfl
  have N0 := Fr.nil n0
  show own_Go p e below (fun s₂ oc => ∃ v L, oc = .returned v ∧ QeqA Z o b r0 r1 r2 s0 s1 s2 h0 n0 v s₂.heap L ∧ FrameEnd s oc s₂ L ({ frames := 0, cells := 0, slots := 0, locals := 0 } : Room).cells ({ frames := 0, cells := 0, slots := 0, locals := 0 } : Room).slots) s₁ (entryFrame m #[(.ref o), (.ref b)] 3)
  refine own_Go.of (g' := mkF m 0 #[.val (.ref o), .val (.ref b), .unset] []) (fun t k => castTop (efeqA m o b) k) ?_
  have hv : own_eq r0 r1 r2 s0 s1 s2 = own_eq r0 r1 r2 s0 s1 s2 := rfl
  refine og_aloadN (pc' := 1) X0 hx (hb hby d4_0) rfl rfl rfl ?_
  obtain ⟨T1, X1, e1, st1⟩ := instY X0 hx hZ hown (hw _ (List.mem_of_getElem? (i := 25) rfl)) e0 (Ins.self E_b) (g := (mkF m 1 #[.val (.ref o), .val (.ref b), .unset] [(.ref b)])) rfl rfl (hb hby d4_1)
  refine own_Go.of (g' := (mkF m 4 #[.val (.ref o), .val (.ref b), .unset] [(.int (1 : Int32))])) (fun t k => st1 _ k) ?_
  refine og_ifNo (pc' := 7) X1 hx (hb hby d4_4) ((if0 _ _).trans (feq (by decide)).1) rfl ?_
  refine og_aloadN (pc' := 8) X1 hx (hb hby d4_7) rfl rfl rfl ?_
  obtain ⟨T2, X2, e2, st2⟩ := castY X1 hx hZ hown (hw _ (List.mem_of_getElem? (i := 25) rfl)) e1 (Ins.self E_b) (g := (mkF m 8 #[.val (.ref o), .val (.ref b), .unset] [(.ref b)])) rfl rfl (hb hby d4_8)
  refine own_Go.of (g' := (mkF m 11 #[.val (.ref o), .val (.ref b), .unset] [(.ref b)])) (fun t k => st2 _ k) ?_
  refine og_astoreN (pc' := 12) (L' := #[.val (.ref o), .val (.ref b), .val (.ref b)]) X2 hx (hb hby d4_11) rfl rfl rfl ?_
  refine og_aloadN (pc' := 13) X2 hx (hb hby d4_12) rfl rfl rfl ?_
  obtain ⟨T3, X3, e3, st3⟩ := getF X2 hx hZ hown (host := "") (Or.inl (hw _ (List.mem_of_getElem? (i := 14) rfl))) Via.refl e2 F0_b (g := (mkF m 13 #[.val (.ref o), .val (.ref b), .val (.ref b)] [(.ref b)])) rfl rfl (hb hby d4_13)
  refine own_Go.of (g' := (mkF m 16 #[.val (.ref o), .val (.ref b), .val (.ref b)] [(.int s0)])) (fun t k => st3 _ k) ?_
  refine og_aloadN (pc' := 17) X3 hx (hb hby d4_16) rfl rfl rfl ?_
  obtain ⟨T4, X4, e4, st4⟩ := getF X3 hx hZ hown (host := "") (Or.inl (hw _ (List.mem_of_getElem? (i := 14) rfl))) Via.refl e3 F0_o (g := (mkF m 17 #[.val (.ref o), .val (.ref b), .val (.ref b)] [(.ref o), (.int s0)])) rfl rfl (hb hby d4_17)
  refine own_Go.of (g' := (mkF m 20 #[.val (.ref o), .val (.ref b), .val (.ref b)] [(.int r0), (.int s0)])) (fun t k => st4 _ k) ?_
  by_cases hc20_1 : s0 = r0
  · have hv := hv.trans (if_pos hc20_1)
    refine og_icmpNo (pc' := 23) X4 hx (hb hby d4_20) (teq hc20_1).2 rfl ?_
    refine og_aloadN (pc' := 24) X4 hx (hb hby d4_23) rfl rfl rfl ?_
    obtain ⟨T5, X5, e5, st5⟩ := getF X4 hx hZ hown (host := "") (Or.inl (hw _ (List.mem_of_getElem? (i := 16) rfl))) Via.refl e4 F1_b (g := (mkF m 24 #[.val (.ref o), .val (.ref b), .val (.ref b)] [(.ref b)])) rfl rfl (hb hby d4_24)
    refine own_Go.of (g' := (mkF m 27 #[.val (.ref o), .val (.ref b), .val (.ref b)] [(.int s1)])) (fun t k => st5 _ k) ?_
    refine og_aloadN (pc' := 28) X5 hx (hb hby d4_27) rfl rfl rfl ?_
    obtain ⟨T6, X6, e6, st6⟩ := getF X5 hx hZ hown (host := "") (Or.inl (hw _ (List.mem_of_getElem? (i := 16) rfl))) Via.refl e5 F1_o (g := (mkF m 28 #[.val (.ref o), .val (.ref b), .val (.ref b)] [(.ref o), (.int s1)])) rfl rfl (hb hby d4_28)
    refine own_Go.of (g' := (mkF m 31 #[.val (.ref o), .val (.ref b), .val (.ref b)] [(.int r1), (.int s1)])) (fun t k => st6 _ k) ?_
    by_cases hc31_2 : s1 = r1
    · have hv := hv.trans (if_pos hc31_2)
      refine og_icmpNo (pc' := 34) X6 hx (hb hby d4_31) (teq hc31_2).2 rfl ?_
      refine og_aloadN (pc' := 35) X6 hx (hb hby d4_34) rfl rfl rfl ?_
      obtain ⟨T7, X7, e7, st7⟩ := getF X6 hx hZ hown (host := "") (Or.inl (hw _ (List.mem_of_getElem? (i := 18) rfl))) Via.refl e6 F2_b (g := (mkF m 35 #[.val (.ref o), .val (.ref b), .val (.ref b)] [(.ref b)])) rfl rfl (hb hby d4_35)
      refine own_Go.of (g' := (mkF m 38 #[.val (.ref o), .val (.ref b), .val (.ref b)] [(.int s2)])) (fun t k => st7 _ k) ?_
      refine og_aloadN (pc' := 39) X7 hx (hb hby d4_38) rfl rfl rfl ?_
      obtain ⟨T8, X8, e8, st8⟩ := getF X7 hx hZ hown (host := "") (Or.inl (hw _ (List.mem_of_getElem? (i := 18) rfl))) Via.refl e7 F2_o (g := (mkF m 39 #[.val (.ref o), .val (.ref b), .val (.ref b)] [(.ref o), (.int s2)])) rfl rfl (hb hby d4_39)
      refine own_Go.of (g' := (mkF m 42 #[.val (.ref o), .val (.ref b), .val (.ref b)] [(.int r2), (.int s2)])) (fun t k => st8 _ k) ?_
      by_cases hc42_3 : s2 = r2
      · have hv := hv.trans (if_pos hc42_3)
        refine og_icmpNo (pc' := 45) X8 hx (hb hby d4_42) (teq hc42_3).2 rfl ?_
        refine og_iconst (pc' := 46) (n := 1) X8 hx (hb hby d4_45) rfl rfl ?_
        refine og_goto (pc' := 50) X8 hx (hb hby d4_46) (by decide) (by decide) ?_
        obtain ⟨fs, hr, hrun, hended, hW, hsame⟩ := X8.leave (v := some (.int (1 : Int32))) (fun h => by rw [Bd.returns] at h; cases h) (BodyLoose.notSynchronized Bd)
        refine ⟨_, _, retN X8 hx (t := .boolean) Bd.returns (by simp) (hb hby d4_50) hr, hrun, hended, some (.int (1 : Int32)), _, rfl, ?_, ⟨_, rfl⟩, hW, hsame.mono (by decide) (by decide)⟩
        show QeqA Z o b r0 r1 r2 s0 s1 s2 h0 n0 _ T8.heap _
        rw [e8]
        exact ⟨(congrArg (fun z => some (Value.int z)) hv.symm), N0, rfl⟩
      · have hv := hv.trans (if_neg hc42_3)
        refine og_icmpYes (pc' := 49) X8 hx (hb hby d4_42) (feq hc42_3).2 (by decide) (by decide) ?_
        refine og_iconst (pc' := 50) (n := 0) X8 hx (hb hby d4_49) rfl rfl ?_
        obtain ⟨fs, hr, hrun, hended, hW, hsame⟩ := X8.leave (v := some (.int (0 : Int32))) (fun h => by rw [Bd.returns] at h; cases h) (BodyLoose.notSynchronized Bd)
        refine ⟨_, _, retN X8 hx (t := .boolean) Bd.returns (by simp) (hb hby d4_50) hr, hrun, hended, some (.int (0 : Int32)), _, rfl, ?_, ⟨_, rfl⟩, hW, hsame.mono (by decide) (by decide)⟩
        show QeqA Z o b r0 r1 r2 s0 s1 s2 h0 n0 _ T8.heap _
        rw [e8]
        exact ⟨(congrArg (fun z => some (Value.int z)) hv.symm), N0, rfl⟩
    · have hv := hv.trans (if_neg hc31_2)
      refine og_icmpYes (pc' := 49) X6 hx (hb hby d4_31) (feq hc31_2).2 (by decide) (by decide) ?_
      refine og_iconst (pc' := 50) (n := 0) X6 hx (hb hby d4_49) rfl rfl ?_
      obtain ⟨fs, hr, hrun, hended, hW, hsame⟩ := X6.leave (v := some (.int (0 : Int32))) (fun h => by rw [Bd.returns] at h; cases h) (BodyLoose.notSynchronized Bd)
      refine ⟨_, _, retN X6 hx (t := .boolean) Bd.returns (by simp) (hb hby d4_50) hr, hrun, hended, some (.int (0 : Int32)), _, rfl, ?_, ⟨_, rfl⟩, hW, hsame.mono (by decide) (by decide)⟩
      show QeqA Z o b r0 r1 r2 s0 s1 s2 h0 n0 _ T6.heap _
      rw [e6]
      exact ⟨(congrArg (fun z => some (Value.int z)) hv.symm), N0, rfl⟩
  · have hv := hv.trans (if_neg hc20_1)
    refine og_icmpYes (pc' := 49) X4 hx (hb hby d4_20) (feq hc20_1).2 (by decide) (by decide) ?_
    refine og_iconst (pc' := 50) (n := 0) X4 hx (hb hby d4_49) rfl rfl ?_
    obtain ⟨fs, hr, hrun, hended, hW, hsame⟩ := X4.leave (v := some (.int (0 : Int32))) (fun h => by rw [Bd.returns] at h; cases h) (BodyLoose.notSynchronized Bd)
    refine ⟨_, _, retN X4 hx (t := .boolean) Bd.returns (by simp) (hb hby d4_50) hr, hrun, hended, some (.int (0 : Int32)), _, rfl, ?_, ⟨_, rfl⟩, hW, hsame.mono (by decide) (by decide)⟩
    show QeqA Z o b r0 r1 r2 s0 s1 s2 h0 n0 _ T4.heap _
    rw [e4]
    exact ⟨(congrArg (fun z => some (Value.int z)) hv.symm), N0, rfl⟩

theorem pneqB : plainName "com/example/capwright/capwright/cap/CapFile$ExternalField" = true := by first | (simp [plainName, overriddenIn]; done) | decide +kernel
theorem efeqB (m : MethodId) (z0 : Addr) (z1 : Addr) : entryFrame m #[(.ref z0), (.ref z1)] 3 = mkF m 0 #[.val (.ref z0), .val (.ref z1), .unset] [] := by first | (simp [entryFrame, mkF, argsToLocals, Value.category]; done) | rfl
def QeqB (Z : State) (o : Addr) (b : Addr) (h0 : Heap) (n0 : Nat) (v : Option Value) (h : Heap) (L : List Loc) : Prop := v = some (.int (0 : Int32)) ∧ Fr n0 L ∧ h = h0
set_option maxRecDepth 65536 in
set_option maxHeartbeats 40000000 in
theorem rmeqB (l : Launch) (Z : State) (a0 : Array Value) (hw : ∀ d ∈ tables_1, d.before a0 Z = true) (ws : List Jvm.Cond) (o : Addr) (b : Addr) (h0 : Heap) (n0 : Nat) (Z0 : n0 ≤ h0.size) (E_b : Exa Z h0 b "com/example/capwright/capwright/cap/CapFile$ExternalMethod") :
    MetFree l (⟨"com/example/capwright/capwright/cap/CapFile$ExternalField", "equals", "(Ljava/lang/Object;)Z"⟩ : MethodName) (head1 (Jvm.Cond.code (⟨"com/example/capwright/capwright/cap/CapFile$ExternalField", "equals", "(Ljava/lang/Object;)Z"⟩ : MethodName) prog_20_method_2_code 3 (some .boolean) :: ws) ({ frames := 0, cells := 0, slots := 0, locals := 0 } : Room)) (fun a U => a = #[(.ref o), (.ref b)] ∧ Z.Warmed39 U.vm ∧ U.heap = h0) (fun _ _ _ _ _ => True) (fun _ U oc U' => ∃ v L, oc = .returned v ∧ QeqB Z o b h0 n0 v U'.heap L ∧ FrameEnd U oc U' L ({ frames := 0, cells := 0, slots := 0, locals := 0 } : Room).cells ({ frames := 0, cells := 0, slots := 0, locals := 0 } : Room).slots) := by
  refine MetFree.of_bodySF (plainFor_of_name pneqB) hisR ?_
  intro p e s m args below meth c s₁ Bd hml0 hP hK
  obtain ⟨rfl, hZ, hh⟩ := hP
  have hx := Bd.exec
  have hby := Bd.bytes
  have hml : c.maxLocals = 3 := hml0
  have hown : s.vm.findClass "com/example/capwright/capwright/cap/CapFile$ExternalField" = some m.cls := findClass_of_methodNamed Bd.named
  have hnm := (name_of_methodNamed Bd.named Bd.method).1
  have X0 : Stand p l e ({ frames := 0, cells := 0, slots := 0, locals := 0 } : Room) s m #[(.ref o), (.ref b)] below meth c s₁ [] 0 0 := Stand.of_body Bd
  have e0 : s₁.heap = h0 := by rw [← hh, Bd.state]; rfl
  have N0 := Fr.nil n0
  show own_Go p e below (fun s₂ oc => ∃ v L, oc = .returned v ∧ QeqB Z o b h0 n0 v s₂.heap L ∧ FrameEnd s oc s₂ L ({ frames := 0, cells := 0, slots := 0, locals := 0 } : Room).cells ({ frames := 0, cells := 0, slots := 0, locals := 0 } : Room).slots) s₁ (entryFrame m #[(.ref o), (.ref b)] 3)
  refine own_Go.of (g' := mkF m 0 #[.val (.ref o), .val (.ref b), .unset] []) (fun t k => castTop (efeqB m o b) k) ?_
  refine og_aloadN (pc' := 1) X0 hx (hb hby d4_0) rfl rfl rfl ?_
  obtain ⟨T1, X1, e1, st1⟩ := instNo X0 hx hZ hown (hw _ (List.mem_of_getElem? (i := 25) rfl)) e0 E_b (own_nsNo (hw _ (List.mem_of_getElem? (i := 40) rfl)) (hw _ (List.mem_of_getElem? (i := 1) rfl)) (NS.step (hw _ (List.mem_of_getElem? (i := 40) rfl)) (NS.step (hw _ (List.mem_of_getElem? (i := 41) rfl)) (own_nsRoot (hw _ (List.mem_of_getElem? (i := 42) rfl)) (hw _ (List.mem_of_getElem? (i := 1) rfl)) (by decide)) (by decide)) (by decide)) (by decide)) (g := (mkF m 1 #[.val (.ref o), .val (.ref b), .unset] [(.ref b)])) rfl rfl (hb hby d4_1)
  refine own_Go.of (g' := (mkF m 4 #[.val (.ref o), .val (.ref b), .unset] [(.int (0 : Int32))])) (fun t k => st1 _ k) ?_
  refine og_ifYes (pc' := 49) X1 hx (hb hby d4_4) ((if0 _ _).trans (teq (by decide)).1) (by decide) (by decide) ?_
  refine og_iconst (pc' := 50) (n := 0) X1 hx (hb hby d4_49) rfl rfl ?_
  obtain ⟨fs, hr, hrun, hended, hW, hsame⟩ := X1.leave (v := some (.int (0 : Int32))) (fun h => by rw [Bd.returns] at h; cases h) (BodyLoose.notSynchronized Bd)
  refine ⟨_, _, retN X1 hx (t := .boolean) Bd.returns (by simp) (hb hby d4_50) hr, hrun, hended, some (.int (0 : Int32)), _, rfl, ?_, ⟨_, rfl⟩, hW, hsame.mono (by decide) (by decide)⟩
  show QeqB Z o b h0 n0 _ T1.heap _
  rw [e1]
  exact ⟨rfl, N0, rfl⟩

theorem pneqD : plainName "com/example/capwright/capwright/cap/CapFile$ExternalField" = true := by first | (simp [plainName, overriddenIn]; done) | decide +kernel
theorem efeqD (m : MethodId) (z0 : Addr) (z1 : Addr) : entryFrame m #[(.ref z0), (.ref z1)] 3 = mkF m 0 #[.val (.ref z0), .val (.ref z1), .unset] [] := by first | (simp [entryFrame, mkF, argsToLocals, Value.category]; done) | rfl
def QeqD (Z : State) (o : Addr) (b : Addr) (h0 : Heap) (n0 : Nat) (v : Option Value) (h : Heap) (L : List Loc) : Prop := v = some (.int (0 : Int32)) ∧ Fr n0 L ∧ h = h0
set_option maxRecDepth 65536 in
set_option maxHeartbeats 40000000 in
theorem rmeqD (l : Launch) (Z : State) (a0 : Array Value) (hw : ∀ d ∈ tables_1, d.before a0 Z = true) (ws : List Jvm.Cond) (o : Addr) (b : Addr) (h0 : Heap) (n0 : Nat) (Z0 : n0 ≤ h0.size) (E_b : Exa Z h0 b "com/example/capwright/capwright/cap/CapFile$InternalField") :
    MetFree l (⟨"com/example/capwright/capwright/cap/CapFile$ExternalField", "equals", "(Ljava/lang/Object;)Z"⟩ : MethodName) (head1 (Jvm.Cond.code (⟨"com/example/capwright/capwright/cap/CapFile$ExternalField", "equals", "(Ljava/lang/Object;)Z"⟩ : MethodName) prog_20_method_2_code 3 (some .boolean) :: ws) ({ frames := 0, cells := 0, slots := 0, locals := 0 } : Room)) (fun a U => a = #[(.ref o), (.ref b)] ∧ Z.Warmed39 U.vm ∧ U.heap = h0) (fun _ _ _ _ _ => True) (fun _ U oc U' => ∃ v L, oc = .returned v ∧ QeqD Z o b h0 n0 v U'.heap L ∧ FrameEnd U oc U' L ({ frames := 0, cells := 0, slots := 0, locals := 0 } : Room).cells ({ frames := 0, cells := 0, slots := 0, locals := 0 } : Room).slots) := by
  refine MetFree.of_bodySF (plainFor_of_name pneqD) hisR ?_
  intro p e s m args below meth c s₁ Bd hml0 hP hK
  obtain ⟨rfl, hZ, hh⟩ := hP
  have hx := Bd.exec
  have hby := Bd.bytes
  have hml : c.maxLocals = 3 := hml0
  have hown : s.vm.findClass "com/example/capwright/capwright/cap/CapFile$ExternalField" = some m.cls := findClass_of_methodNamed Bd.named
  have hnm := (name_of_methodNamed Bd.named Bd.method).1
  have X0 : Stand p l e ({ frames := 0, cells := 0, slots := 0, locals := 0 } : Room) s m #[(.ref o), (.ref b)] below meth c s₁ [] 0 0 := Stand.of_body Bd
  have e0 : s₁.heap = h0 := by rw [← hh, Bd.state]; rfl
  have N0 := Fr.nil n0
  show own_Go p e below (fun s₂ oc => ∃ v L, oc = .returned v ∧ QeqD Z o b h0 n0 v s₂.heap L ∧ FrameEnd s oc s₂ L ({ frames := 0, cells := 0, slots := 0, locals := 0 } : Room).cells ({ frames := 0, cells := 0, slots := 0, locals := 0 } : Room).slots) s₁ (entryFrame m #[(.ref o), (.ref b)] 3)
  refine own_Go.of (g' := mkF m 0 #[.val (.ref o), .val (.ref b), .unset] []) (fun t k => castTop (efeqD m o b) k) ?_
  refine og_aloadN (pc' := 1) X0 hx (hb hby d4_0) rfl rfl rfl ?_
  obtain ⟨T1, X1, e1, st1⟩ := instNo X0 hx hZ hown (hw _ (List.mem_of_getElem? (i := 25) rfl)) e0 E_b (own_nsNo (hw _ (List.mem_of_getElem? (i := 52) rfl)) (hw _ (List.mem_of_getElem? (i := 1) rfl)) (NS.step (hw _ (List.mem_of_getElem? (i := 52) rfl)) (NS.step (hw _ (List.mem_of_getElem? (i := 41) rfl)) (own_nsRoot (hw _ (List.mem_of_getElem? (i := 42) rfl)) (hw _ (List.mem_of_getElem? (i := 1) rfl)) (by decide)) (by decide)) (by decide)) (by decide)) (g := (mkF m 1 #[.val (.ref o), .val (.ref b), .unset] [(.ref b)])) rfl rfl (hb hby d4_1)
  refine own_Go.of (g' := (mkF m 4 #[.val (.ref o), .val (.ref b), .unset] [(.int (0 : Int32))])) (fun t k => st1 _ k) ?_
  refine og_ifYes (pc' := 49) X1 hx (hb hby d4_4) ((if0 _ _).trans (teq (by decide)).1) (by decide) (by decide) ?_
  refine og_iconst (pc' := 50) (n := 0) X1 hx (hb hby d4_49) rfl rfl ?_
  obtain ⟨fs, hr, hrun, hended, hW, hsame⟩ := X1.leave (v := some (.int (0 : Int32))) (fun h => by rw [Bd.returns] at h; cases h) (BodyLoose.notSynchronized Bd)
  refine ⟨_, _, retN X1 hx (t := .boolean) Bd.returns (by simp) (hb hby d4_50) hr, hrun, hended, some (.int (0 : Int32)), _, rfl, ?_, ⟨_, rfl⟩, hW, hsame.mono (by decide) (by decide)⟩
  show QeqD Z o b h0 n0 _ T1.heap _
  rw [e1]
  exact ⟨rfl, N0, rfl⟩

theorem pneqC : plainName "com/example/capwright/capwright/cap/CapFile$ExternalField" = true := by first | (simp [plainName, overriddenIn]; done) | decide +kernel
theorem efeqC (m : MethodId) (z0 : Addr) : entryFrame m #[(.ref z0), .null] 3 = mkF m 0 #[.val (.ref z0), .val .null, .unset] [] := by first | (simp [entryFrame, mkF, argsToLocals, Value.category]; done) | rfl
def QeqC (Z : State) (o : Addr) (h0 : Heap) (n0 : Nat) (v : Option Value) (h : Heap) (L : List Loc) : Prop := v = some (.int (0 : Int32)) ∧ Fr n0 L ∧ h = h0
set_option maxRecDepth 65536 in
set_option maxHeartbeats 40000000 in
theorem rmeqC (l : Launch) (Z : State) (a0 : Array Value) (hw : ∀ d ∈ tables_1, d.before a0 Z = true) (ws : List Jvm.Cond) (o : Addr) (h0 : Heap) (n0 : Nat) (Z0 : n0 ≤ h0.size) :
    MetFree l (⟨"com/example/capwright/capwright/cap/CapFile$ExternalField", "equals", "(Ljava/lang/Object;)Z"⟩ : MethodName) (head1 (Jvm.Cond.code (⟨"com/example/capwright/capwright/cap/CapFile$ExternalField", "equals", "(Ljava/lang/Object;)Z"⟩ : MethodName) prog_20_method_2_code 3 (some .boolean) :: ws) ({ frames := 0, cells := 0, slots := 0, locals := 0 } : Room)) (fun a U => a = #[(.ref o), .null] ∧ Z.Warmed39 U.vm ∧ U.heap = h0) (fun _ _ _ _ _ => True) (fun _ U oc U' => ∃ v L, oc = .returned v ∧ QeqC Z o h0 n0 v U'.heap L ∧ FrameEnd U oc U' L ({ frames := 0, cells := 0, slots := 0, locals := 0 } : Room).cells ({ frames := 0, cells := 0, slots := 0, locals := 0 } : Room).slots) := by
  refine MetFree.of_bodySF (plainFor_of_name pneqC) hisR ?_
  intro p e s m args below meth c s₁ Bd hml0 hP hK
  obtain ⟨rfl, hZ, hh⟩ := hP
  have hx := Bd.exec
  have hby := Bd.bytes
  have hml : c.maxLocals = 3 := hml0
  have hown : s.vm.findClass "com/example/capwright/capwright/cap/CapFile$ExternalField" = some m.cls := findClass_of_methodNamed Bd.named
  have hnm := (name_of_methodNamed Bd.named Bd.method).1
  have X0 : Stand p l e ({ frames := 0, cells := 0, slots := 0, locals := 0 } : Room) s m #[(.ref o), .null] below meth c s₁ [] 0 0 := Stand.of_body Bd
  have e0 : s₁.heap = h0 := by rw [← hh, Bd.state]; rfl
  have N0 := Fr.nil n0
  show own_Go p e below (fun s₂ oc => ∃ v L, oc = .returned v ∧ QeqC Z o h0 n0 v s₂.heap L ∧ FrameEnd s oc s₂ L ({ frames := 0, cells := 0, slots := 0, locals := 0 } : Room).cells ({ frames := 0, cells := 0, slots := 0, locals := 0 } : Room).slots) s₁ (entryFrame m #[(.ref o), .null] 3)
  refine own_Go.of (g' := mkF m 0 #[.val (.ref o), .val .null, .unset] []) (fun t k => castTop (efeqC m o) k) ?_
  refine og_aloadN (pc' := 1) X0 hx (hb hby d4_0) rfl rfl rfl ?_
  refine own_Go.of (g' := (mkF m 4 #[.val (.ref o), .val .null, .unset] [(.int (0 : Int32))])) (fun t k => X0.instanceofNull hx (g := (mkF m 1 #[.val (.ref o), .val .null, .unset] [.null])) rfl rfl (hb hby d4_1) _ k) ?_
  refine og_ifYes (pc' := 49) X0 hx (hb hby d4_4) ((if0 _ _).trans (teq (by decide)).1) (by decide) (by decide) ?_
  refine og_iconst (pc' := 50) (n := 0) X0 hx (hb hby d4_49) rfl rfl ?_
  obtain ⟨fs, hr, hrun, hended, hW, hsame⟩ := X0.leave (v := some (.int (0 : Int32))) (fun h => by rw [Bd.returns] at h; cases h) (BodyLoose.notSynchronized Bd)
  refine ⟨_, _, retN X0 hx (t := .boolean) Bd.returns (by simp) (hb hby d4_50) hr, hrun, hended, some (.int (0 : Int32)), _, rfl, ?_, ⟨_, rfl⟩, hW, hsame.mono (by decide) (by decide)⟩
  show QeqC Z o h0 n0 _ s₁.heap _
  rw [e0]
  exact ⟨rfl, N0, rfl⟩

theorem own_eq_self (a b c : Int32) : own_eq a b c a b c = 1 := by simp [own_eq]
theorem own_eq_self0 (a b c : Int32) : ¬ own_eq a b c a b c = 0 := by rw [own_eq_self]; decide
theorem own_eq_comm (a b c x y z : Int32) : own_eq a b c x y z = own_eq x y z a b c := by simp only [own_eq, eq_comm]

theorem pn0 : plainName "com/example/capwright/capwright/cap/ExternalFieldEqualsPinLaw" = true := by first | (simp [plainName, overriddenIn]; done) | decide +kernel
theorem pd_1 : parseMethodDescriptor "(III)V" = some ⟨[.int, .int, .int], none⟩ := by decide +kernel
theorem pd_2 : parseMethodDescriptor "(Ljava/lang/Object;)Z" = some ⟨[(.object "java/lang/Object")], some .boolean⟩ := by decide +kernel
theorem pd_3 : parseMethodDescriptor "(I)V" = some ⟨[.int], none⟩ := by decide +kernel
theorem ef0 (m : MethodId) (z0 : Int32) (z1 : Int32) (z2 : Int32) (z3 : Int32) (z4 : Int32) : entryFrame m #[(.int z0), (.int z1), (.int z2), (.int z3), (.int z4)] maxLocals = mkF m 0 #[.val (.int z0), .val (.int z1), .val (.int z2), .val (.int z3), .val (.int z4), .unset, .unset, .unset, .unset, .unset, .unset, .unset, .unset, .unset] [] := by first | (simp [entryFrame, mkF, argsToLocals, Value.category, maxLocals]; done) | rfl
def Q0 (Z : State) (x0 : Int32) (x1 : Int32) (x2 : Int32) (x3 : Int32) (x4 : Int32) (h0 : Heap) (n0 : Nat) (v : Option Value) (h : Heap) (L : List Loc) : Prop := v = some (.int 1) ∧ Fr n0 L
set_option maxRecDepth 65536 in
set_option maxHeartbeats 40000000 in
theorem rm0 (l : Launch) (Z : State) (a0 : Array Value) (hw : ∀ d ∈ tables_1, d.before a0 Z = true) (ws : List Jvm.Cond) (x0 : Int32) (x1 : Int32) (x2 : Int32) (x3 : Int32) (x4 : Int32) (h0 : Heap) (n0 : Nat) (Z0 : n0 ≤ h0.size) :
    MetFree l x (head1 (Jvm.Cond.code x code maxLocals ret :: ws) room_1) (fun a U => a = #[(.int x0), (.int x1), (.int x2), (.int x3), (.int x4)] ∧ Z.Warmed39 U.vm ∧ U.heap = h0) (fun _ _ _ _ _ => True) (fun _ U oc U' => ∃ v L, oc = .returned v ∧ Q0 Z x0 x1 x2 x3 x4 h0 n0 v U'.heap L ∧ FrameEnd U oc U' L room_1.cells room_1.slots) := by
  refine MetFree.of_bodySF (plainFor_of_name pn0) hisR ?_
  intro p e s m args below meth c s₁ Bd hml0 hP hK
  obtain ⟨rfl, hZ, hh⟩ := hP
  have hx := Bd.exec
  have hby := Bd.bytes
  have hml : c.maxLocals = 14 := hml0
  have hown : s.vm.findClass "com/example/capwright/capwright/cap/ExternalFieldEqualsPinLaw" = some m.cls := findClass_of_methodNamed Bd.named
  have hnm := (name_of_methodNamed Bd.named Bd.method).1
  have X0 : Stand p l e room_1 s m #[(.int x0), (.int x1), (.int x2), (.int x3), (.int x4)] below meth c s₁ [] 0 0 := Stand.of_body Bd
  have e0 : s₁.heap = h0 := by rw [← hh, Bd.state]; rfl
  have N0 := Fr.nil n0
  show own_Go p e below (fun s₂ oc => ∃ v L, oc = .returned v ∧ Q0 Z x0 x1 x2 x3 x4 h0 n0 v s₂.heap L ∧ FrameEnd s oc s₂ L room_1.cells room_1.slots) s₁ (entryFrame m #[(.int x0), (.int x1), (.int x2), (.int x3), (.int x4)] maxLocals)
  refine own_Go.of (g' := mkF m 0 #[.val (.int x0), .val (.int x1), .val (.int x2), .val (.int x3), .val (.int x4), .unset, .unset, .unset, .unset, .unset, .unset, .unset, .unset, .unset] []) (fun t k => castTop (ef0 m x0 x1 x2 x3 x4) k) ?_
  obtain ⟨T1, h1, X1, e1, E1, A1, D1, -, st1⟩ := newO X0 hx hZ hown (hw _ (List.mem_of_getElem? (i := 0) rfl)) (hw _ (List.mem_of_getElem? (i := 1) rfl)) (hw _ (List.mem_of_getElem? (i := 2) rfl)) e0 (g := (mkF m 0 #[.val (.int x0), .val (.int x1), .val (.int x2), .val (.int x3), .val (.int x4), .unset, .unset, .unset, .unset, .unset, .unset, .unset, .unset, .unset] [])) rfl (hb hby at_0) (by decide) (by decide)
  obtain ⟨b1, g1⟩ : ∃ z, z = h0.size := ⟨_, rfl⟩
  rw [← g1] at A1 D1 st1
  have g_b1 : n0 ≤ b1 := Nat.le_trans Z0 (Nat.le_of_eq g1.symm)
  have sz_b1 : h0.size ≤ b1 := Nat.le_trans (Keep.refl h0 []).1 (Nat.le_of_eq g1.symm)
  have F1_packageToken : Fld Z h1 b1 "com/example/capwright/capwright/cap/CapFile$ExternalField" "packageToken" "I" (.int (0 : Int32)) := D1 (Or.inr (hw _ (List.mem_of_getElem? (i := 15) rfl))) (ty := .int) (by decide)
  have F1_classToken : Fld Z h1 b1 "com/example/capwright/capwright/cap/CapFile$ExternalField" "classToken" "I" (.int (0 : Int32)) := D1 (Or.inr (hw _ (List.mem_of_getElem? (i := 17) rfl))) (ty := .int) (by decide)
  have F1_token : Fld Z h1 b1 "com/example/capwright/capwright/cap/CapFile$ExternalField" "token" "I" (.int (0 : Int32)) := D1 (Or.inr (hw _ (List.mem_of_getElem? (i := 19) rfl))) (ty := .int) (by decide)
  have K1 : Keep h0 h1 [] := (Keep.refl h0 []).ext E1
  have Z1 : n0 ≤ h1.size := Nat.le_trans Z0 K1.1
  refine own_Go.of (g' := (mkF m 3 #[.val (.int x0), .val (.int x1), .val (.int x2), .val (.int x3), .val (.int x4), .unset, .unset, .unset, .unset, .unset, .unset, .unset, .unset, .unset] [(.ref b1)])) (fun t k => st1 _ k) ?_
  refine og_dup (pc' := 4) X1 hx (hb hby at_3) rfl rfl ?_
  refine og_iloadN (pc' := 5) X1 hx (hb hby at_4) rfl rfl ?_
  refine og_iloadN (pc' := 6) X1 hx (hb hby at_5) rfl rfl ?_
  refine og_iloadN (pc' := 7) X1 hx (hb hby at_6) rfl rfl ?_
  obtain ⟨_, _, ⟨T2, L2, k2, n2⟩, -, X2, ⟨Lc2, hQ2, l2, y2, z2⟩, st2⟩ := X1.specialBack hx (y := (⟨"com/example/capwright/capwright/cap/CapFile$ExternalField", "<init>", "(III)V"⟩ : MethodName)) rfl hown (mvT hZ (hw _ (List.mem_of_getElem? (i := 3) rfl))) (mvT hZ (hw _ (List.mem_of_getElem? (i := 4) rfl))) (mvT hZ (hw _ (List.mem_of_getElem? (i := 5) rfl))) (by decide) (backOf (W := 1) (rmEF l Z a0 hw [] b1 x0 x1 x2 (.int (0 : Int32)) (.int (0 : Int32)) (.int (0 : Int32)) h1 n0 Z1 A1 F1_packageToken F1_classToken F1_token g_b1) hZ (hw _ (List.mem_of_getElem? (i := 5) rfl)) (hw _ (List.mem_of_getElem? (i := 2) rfl)) (by decide) (by decide)) (g := (mkF m 7 #[.val (.int x0), .val (.int x1), .val (.int x2), .val (.int x3), .val (.int x4), .unset, .unset, .unset, .unset, .unset, .unset, .unset, .unset, .unset] [(.int x2), (.int x1), (.int x0), (.ref b1), (.ref b1)])) rfl (by rw [hml]; rfl) (Steps.refl _) (a := b1) (argsL := [(.int x0), (.int x1), (.int x2)]) (rest := [(.ref b1)]) (lenOf pd_1 rfl) rfl (by show 2 * 0 + _ ≤ _; exact Nat.le_of_eq rfl) (hb hby at_7) (fun _ _ => ⟨rfl, e1, (by decide : 1 + 0 ≤ _), (by decide : 3 + 0 ≤ _)⟩)
  dsimp only [Pt.U, Pt.locs, Pt.cells, Pt.slots] at X2 l2 y2 z2 st2 hQ2
  subst l2 y2 z2
  obtain ⟨rfl, N2q, K2q, c2_0, c2_1, c2_2, c2_3⟩ := hQ2
  have N2 := Fr.app N0 N2q
  have f2_0 := A1.keep K2q
  have K2 : Keep h0 T2.heap [] := K1.trans K2q (allS (Or.inr sz_b1) all0)
  have Z2 : n0 ≤ T2.heap.size := Nat.le_trans Z0 K2.1
  refine own_Go.of (g' := (mkF m 10 #[.val (.int x0), .val (.int x1), .val (.int x2), .val (.int x3), .val (.int x4), .unset, .unset, .unset, .unset, .unset, .unset, .unset, .unset, .unset] [(.ref b1)])) (fun t k => st2.trans k) ?_
  refine og_astore (pc' := 12) (L' := #[.val (.int x0), .val (.int x1), .val (.int x2), .val (.int x3), .val (.int x4), .val (.ref b1), .unset, .unset, .unset, .unset, .unset, .unset, .unset, .unset]) X2 hx (hb hby at_10) rfl rfl rfl ?_
  refine og_iloadN (pc' := 13) X2 hx (hb hby at_12) rfl rfl ?_
  refine og_iconst (pc' := 14) (n := 3) X2 hx (hb hby at_13) rfl rfl ?_
  refine og_iushr (pc' := 15) X2 hx (hb hby at_14) rfl ?_
  refine og_iconst (pc' := 16) (n := 3) X2 hx (hb hby at_15) rfl rfl ?_
  refine og_iand (pc' := 17) X2 hx (hb hby at_16) rfl ?_
  refine og_istore (pc' := 19) (L' := #[.val (.int x0), .val (.int x1), .val (.int x2), .val (.int x3), .val (.int x4), .val (.ref b1), .val (.int (((x3.toUInt32 >>> ((3 : Int32) &&& 31).toUInt32).toInt32) &&& (3 : Int32))), .unset, .unset, .unset, .unset, .unset, .unset, .unset]) X2 hx (hb hby at_17) rfl rfl ?_
  refine og_iconst (pc' := 20) (n := 1) X2 hx (hb hby at_19) rfl rfl ?_
  refine og_istore (pc' := 22) (L' := #[.val (.int x0), .val (.int x1), .val (.int x2), .val (.int x3), .val (.int x4), .val (.ref b1), .val (.int (((x3.toUInt32 >>> ((3 : Int32) &&& 31).toUInt32).toInt32) &&& (3 : Int32))), .unset, .unset, .val (.int (1 : Int32)), .unset, .unset, .unset, .unset]) X2 hx (hb hby at_20) rfl rfl ?_
  refine og_iload (pc' := 24) X2 hx (hb hby at_22) rfl rfl ?_
  by_cases hc24_1 : (((x3.toUInt32 >>> ((3 : Int32) &&& 31).toUInt32).toInt32) &&& (3 : Int32)) = (0 : Int32)
  · refine og_ifNo (pc' := 27) X2 hx (hb hby at_24) ((if0 _ _).trans (teq hc24_1).2) rfl ?_
    refine og_iloadN (pc' := 28) X2 hx (hb hby at_27) rfl rfl ?_
    refine og_iloadN (pc' := 29) X2 hx (hb hby at_28) rfl rfl ?_
    refine og_iconst (pc' := 30) (n := 1) X2 hx (hb hby at_29) rfl rfl ?_
    refine og_iand (pc' := 31) X2 hx (hb hby at_30) rfl ?_
    refine own_via (A := own_Go p e below (fun s₂ oc => ∃ v L, oc = .returned v ∧ Q0 Z x0 x1 x2 x3 x4 h0 n0 v s₂.heap L ∧ FrameEnd s oc s₂ L room_1.cells room_1.slots) T2 (mkF m 40 #[.val (.int x0), .val (.int x1), .val (.int x2), .val (.int x3), .val (.int x4), .val (.ref b1), .val (.int (((x3.toUInt32 >>> ((3 : Int32) &&& 31).toUInt32).toInt32) &&& (3 : Int32))), .unset, .unset, .val (.int (1 : Int32)), .unset, .unset, .unset, .unset] [(.int (if (x3 &&& (1 : Int32)) = (0 : Int32) then (0 : Int32) else x4)), (.int x0)])) (fun k => ?_) ?_
    · by_cases hc31_2 : (x3 &&& (1 : Int32)) = (0 : Int32)
      · refine og_ifYes (pc' := 39) X2 hx (hb hby at_31) ((if0 _ _).trans (teq hc31_2).1) (by decide) (by decide) ?_
        refine og_iconst (pc' := 40) (n := 0) X2 hx (hb hby at_39) rfl rfl ?_
        simp only [if_pos hc31_2] at k
        exact k
      · refine og_ifNo (pc' := 34) X2 hx (hb hby at_31) ((if0 _ _).trans (feq hc31_2).1) rfl ?_
        refine og_iload (pc' := 36) X2 hx (hb hby at_34) rfl rfl ?_
        refine og_goto (pc' := 40) X2 hx (hb hby at_36) (by decide) (by decide) ?_
        simp only [if_neg hc31_2] at k
        exact k
    refine og_ixor (pc' := 41) X2 hx (hb hby at_40) rfl ?_
    refine og_istore (pc' := 43) (L' := #[.val (.int x0), .val (.int x1), .val (.int x2), .val (.int x3), .val (.int x4), .val (.ref b1), .val (.int (((x3.toUInt32 >>> ((3 : Int32) &&& 31).toUInt32).toInt32) &&& (3 : Int32))), .unset, .unset, .val (.int (1 : Int32)), .val (.int (x0 ^^^ (if (x3 &&& (1 : Int32)) = (0 : Int32) then (0 : Int32) else x4))), .unset, .unset, .unset]) X2 hx (hb hby at_41) rfl rfl ?_
    refine og_iloadN (pc' := 44) X2 hx (hb hby at_43) rfl rfl ?_
    refine og_iloadN (pc' := 45) X2 hx (hb hby at_44) rfl rfl ?_
    refine og_iconst (pc' := 46) (n := 2) X2 hx (hb hby at_45) rfl rfl ?_
    refine og_iand (pc' := 47) X2 hx (hb hby at_46) rfl ?_
    refine own_via (A := own_Go p e below (fun s₂ oc => ∃ v L, oc = .returned v ∧ Q0 Z x0 x1 x2 x3 x4 h0 n0 v s₂.heap L ∧ FrameEnd s oc s₂ L room_1.cells room_1.slots) T2 (mkF m 56 #[.val (.int x0), .val (.int x1), .val (.int x2), .val (.int x3), .val (.int x4), .val (.ref b1), .val (.int (((x3.toUInt32 >>> ((3 : Int32) &&& 31).toUInt32).toInt32) &&& (3 : Int32))), .unset, .unset, .val (.int (1 : Int32)), .val (.int (x0 ^^^ (if (x3 &&& (1 : Int32)) = (0 : Int32) then (0 : Int32) else x4))), .unset, .unset, .unset] [(.int (if (x3 &&& (2 : Int32)) = (0 : Int32) then (0 : Int32) else x4)), (.int x1)])) (fun k => ?_) ?_
    · by_cases hc47_3 : (x3 &&& (2 : Int32)) = (0 : Int32)
      · refine og_ifYes (pc' := 55) X2 hx (hb hby at_47) ((if0 _ _).trans (teq hc47_3).1) (by decide) (by decide) ?_
        refine og_iconst (pc' := 56) (n := 0) X2 hx (hb hby at_55) rfl rfl ?_
        simp only [if_pos hc47_3] at k
        exact k
      · refine og_ifNo (pc' := 50) X2 hx (hb hby at_47) ((if0 _ _).trans (feq hc47_3).1) rfl ?_
        refine og_iload (pc' := 52) X2 hx (hb hby at_50) rfl rfl ?_
        refine og_goto (pc' := 56) X2 hx (hb hby at_52) (by decide) (by decide) ?_
        simp only [if_neg hc47_3] at k
        exact k
    refine og_ixor (pc' := 57) X2 hx (hb hby at_56) rfl ?_
    refine og_istore (pc' := 59) (L' := #[.val (.int x0), .val (.int x1), .val (.int x2), .val (.int x3), .val (.int x4), .val (.ref b1), .val (.int (((x3.toUInt32 >>> ((3 : Int32) &&& 31).toUInt32).toInt32) &&& (3 : Int32))), .unset, .unset, .val (.int (1 : Int32)), .val (.int (x0 ^^^ (if (x3 &&& (1 : Int32)) = (0 : Int32) then (0 : Int32) else x4))), .val (.int (x1 ^^^ (if (x3 &&& (2 : Int32)) = (0 : Int32) then (0 : Int32) else x4))), .unset, .unset]) X2 hx (hb hby at_57) rfl rfl ?_
    refine og_iloadN (pc' := 60) X2 hx (hb hby at_59) rfl rfl ?_
    refine og_iloadN (pc' := 61) X2 hx (hb hby at_60) rfl rfl ?_
    refine og_iconst (pc' := 62) (n := 4) X2 hx (hb hby at_61) rfl rfl ?_
    refine og_iand (pc' := 63) X2 hx (hb hby at_62) rfl ?_
    refine own_via (A := own_Go p e below (fun s₂ oc => ∃ v L, oc = .returned v ∧ Q0 Z x0 x1 x2 x3 x4 h0 n0 v s₂.heap L ∧ FrameEnd s oc s₂ L room_1.cells room_1.slots) T2 (mkF m 72 #[.val (.int x0), .val (.int x1), .val (.int x2), .val (.int x3), .val (.int x4), .val (.ref b1), .val (.int (((x3.toUInt32 >>> ((3 : Int32) &&& 31).toUInt32).toInt32) &&& (3 : Int32))), .unset, .unset, .val (.int (1 : Int32)), .val (.int (x0 ^^^ (if (x3 &&& (1 : Int32)) = (0 : Int32) then (0 : Int32) else x4))), .val (.int (x1 ^^^ (if (x3 &&& (2 : Int32)) = (0 : Int32) then (0 : Int32) else x4))), .unset, .unset] [(.int (if (x3 &&& (4 : Int32)) = (0 : Int32) then (0 : Int32) else x4)), (.int x2)])) (fun k => ?_) ?_
    · by_cases hc63_4 : (x3 &&& (4 : Int32)) = (0 : Int32)
      · refine og_ifYes (pc' := 71) X2 hx (hb hby at_63) ((if0 _ _).trans (teq hc63_4).1) (by decide) (by decide) ?_
        refine og_iconst (pc' := 72) (n := 0) X2 hx (hb hby at_71) rfl rfl ?_
        simp only [if_pos hc63_4] at k
        exact k
      · refine og_ifNo (pc' := 66) X2 hx (hb hby at_63) ((if0 _ _).trans (feq hc63_4).1) rfl ?_
        refine og_iload (pc' := 68) X2 hx (hb hby at_66) rfl rfl ?_
        refine og_goto (pc' := 72) X2 hx (hb hby at_68) (by decide) (by decide) ?_
        simp only [if_neg hc63_4] at k
        exact k
    refine og_ixor (pc' := 73) X2 hx (hb hby at_72) rfl ?_
    refine og_istore (pc' := 75) (L' := #[.val (.int x0), .val (.int x1), .val (.int x2), .val (.int x3), .val (.int x4), .val (.ref b1), .val (.int (((x3.toUInt32 >>> ((3 : Int32) &&& 31).toUInt32).toInt32) &&& (3 : Int32))), .unset, .unset, .val (.int (1 : Int32)), .val (.int (x0 ^^^ (if (x3 &&& (1 : Int32)) = (0 : Int32) then (0 : Int32) else x4))), .val (.int (x1 ^^^ (if (x3 &&& (2 : Int32)) = (0 : Int32) then (0 : Int32) else x4))), .val (.int (x2 ^^^ (if (x3 &&& (4 : Int32)) = (0 : Int32) then (0 : Int32) else x4))), .unset]) X2 hx (hb hby at_73) rfl rfl ?_
    obtain ⟨T3, h3, X3, e3, E3, A3, D3, -, st3⟩ := newO X2 hx hZ hown (hw _ (List.mem_of_getElem? (i := 0) rfl)) (hw _ (List.mem_of_getElem? (i := 1) rfl)) (hw _ (List.mem_of_getElem? (i := 2) rfl)) rfl (g := (mkF m 75 #[.val (.int x0), .val (.int x1), .val (.int x2), .val (.int x3), .val (.int x4), .val (.ref b1), .val (.int (((x3.toUInt32 >>> ((3 : Int32) &&& 31).toUInt32).toInt32) &&& (3 : Int32))), .unset, .unset, .val (.int (1 : Int32)), .val (.int (x0 ^^^ (if (x3 &&& (1 : Int32)) = (0 : Int32) then (0 : Int32) else x4))), .val (.int (x1 ^^^ (if (x3 &&& (2 : Int32)) = (0 : Int32) then (0 : Int32) else x4))), .val (.int (x2 ^^^ (if (x3 &&& (4 : Int32)) = (0 : Int32) then (0 : Int32) else x4))), .unset] [])) rfl (hb hby at_75) (by decide) (by decide)
    obtain ⟨b3, g3⟩ : ∃ z, z = T2.heap.size := ⟨_, rfl⟩
    rw [← g3] at A3 D3 st3
    have ne3_0 : b1 ≠ b3 := Nat.ne_of_lt (Nat.lt_of_lt_of_le c2_0.lt (Nat.le_of_eq g3.symm))
    have g_b3 : n0 ≤ b3 := Nat.le_trans Z2 (Nat.le_of_eq g3.symm)
    have sz_b3 : h0.size ≤ b3 := Nat.le_trans K2.1 (Nat.le_of_eq g3.symm)
    have f3_0 := c2_0.ext E3
    have f3_1 := c2_1.ext E3
    have f3_2 := c2_2.ext E3
    have f3_3 := c2_3.ext E3
    have F3_packageToken : Fld Z h3 b3 "com/example/capwright/capwright/cap/CapFile$ExternalField" "packageToken" "I" (.int (0 : Int32)) := D3 (Or.inr (hw _ (List.mem_of_getElem? (i := 15) rfl))) (ty := .int) (by decide)
    have F3_classToken : Fld Z h3 b3 "com/example/capwright/capwright/cap/CapFile$ExternalField" "classToken" "I" (.int (0 : Int32)) := D3 (Or.inr (hw _ (List.mem_of_getElem? (i := 17) rfl))) (ty := .int) (by decide)
    have F3_token : Fld Z h3 b3 "com/example/capwright/capwright/cap/CapFile$ExternalField" "token" "I" (.int (0 : Int32)) := D3 (Or.inr (hw _ (List.mem_of_getElem? (i := 19) rfl))) (ty := .int) (by decide)
    have K3 : Keep h0 h3 [] := K2.ext E3
    have Z3 : n0 ≤ h3.size := Nat.le_trans Z0 K3.1
    refine own_Go.of (g' := (mkF m 78 #[.val (.int x0), .val (.int x1), .val (.int x2), .val (.int x3), .val (.int x4), .val (.ref b1), .val (.int (((x3.toUInt32 >>> ((3 : Int32) &&& 31).toUInt32).toInt32) &&& (3 : Int32))), .unset, .unset, .val (.int (1 : Int32)), .val (.int (x0 ^^^ (if (x3 &&& (1 : Int32)) = (0 : Int32) then (0 : Int32) else x4))), .val (.int (x1 ^^^ (if (x3 &&& (2 : Int32)) = (0 : Int32) then (0 : Int32) else x4))), .val (.int (x2 ^^^ (if (x3 &&& (4 : Int32)) = (0 : Int32) then (0 : Int32) else x4))), .unset] [(.ref b3)])) (fun t k => st3 _ k) ?_
    refine og_dup (pc' := 79) X3 hx (hb hby at_78) rfl rfl ?_
    refine og_iload (pc' := 81) X3 hx (hb hby at_79) rfl rfl ?_
    refine og_iload (pc' := 83) X3 hx (hb hby at_81) rfl rfl ?_
    refine og_iload (pc' := 85) X3 hx (hb hby at_83) rfl rfl ?_
    obtain ⟨_, _, ⟨T4, L4, k4, n4⟩, -, X4, ⟨Lc4, hQ4, l4, y4, z4⟩, st4⟩ := X3.specialBack hx (y := (⟨"com/example/capwright/capwright/cap/CapFile$ExternalField", "<init>", "(III)V"⟩ : MethodName)) rfl hown (mvT hZ (hw _ (List.mem_of_getElem? (i := 3) rfl))) (mvT hZ (hw _ (List.mem_of_getElem? (i := 4) rfl))) (mvT hZ (hw _ (List.mem_of_getElem? (i := 5) rfl))) (by decide) (backOf (W := 1) (rmEF l Z a0 hw [] b3 (x0 ^^^ (if (x3 &&& (1 : Int32)) = (0 : Int32) then (0 : Int32) else x4)) (x1 ^^^ (if (x3 &&& (2 : Int32)) = (0 : Int32) then (0 : Int32) else x4)) (x2 ^^^ (if (x3 &&& (4 : Int32)) = (0 : Int32) then (0 : Int32) else x4)) (.int (0 : Int32)) (.int (0 : Int32)) (.int (0 : Int32)) h3 n0 Z3 A3 F3_packageToken F3_classToken F3_token g_b3) hZ (hw _ (List.mem_of_getElem? (i := 5) rfl)) (hw _ (List.mem_of_getElem? (i := 2) rfl)) (by decide) (by decide)) (g := (mkF m 85 #[.val (.int x0), .val (.int x1), .val (.int x2), .val (.int x3), .val (.int x4), .val (.ref b1), .val (.int (((x3.toUInt32 >>> ((3 : Int32) &&& 31).toUInt32).toInt32) &&& (3 : Int32))), .unset, .unset, .val (.int (1 : Int32)), .val (.int (x0 ^^^ (if (x3 &&& (1 : Int32)) = (0 : Int32) then (0 : Int32) else x4))), .val (.int (x1 ^^^ (if (x3 &&& (2 : Int32)) = (0 : Int32) then (0 : Int32) else x4))), .val (.int (x2 ^^^ (if (x3 &&& (4 : Int32)) = (0 : Int32) then (0 : Int32) else x4))), .unset] [(.int (x2 ^^^ (if (x3 &&& (4 : Int32)) = (0 : Int32) then (0 : Int32) else x4))), (.int (x1 ^^^ (if (x3 &&& (2 : Int32)) = (0 : Int32) then (0 : Int32) else x4))), (.int (x0 ^^^ (if (x3 &&& (1 : Int32)) = (0 : Int32) then (0 : Int32) else x4))), (.ref b3), (.ref b3)])) rfl (by rw [hml]; rfl) (Steps.refl _) (a := b3) (argsL := [(.int (x0 ^^^ (if (x3 &&& (1 : Int32)) = (0 : Int32) then (0 : Int32) else x4))), (.int (x1 ^^^ (if (x3 &&& (2 : Int32)) = (0 : Int32) then (0 : Int32) else x4))), (.int (x2 ^^^ (if (x3 &&& (4 : Int32)) = (0 : Int32) then (0 : Int32) else x4)))]) (rest := [(.ref b3)]) (lenOf pd_1 rfl) rfl (by show 2 * 0 + _ ≤ _; exact Nat.le_of_eq rfl) (hb hby at_85) (fun _ _ => ⟨rfl, e3, (by decide : 2 + 0 ≤ _), (by decide : 6 + 0 ≤ _)⟩)
    dsimp only [Pt.U, Pt.locs, Pt.cells, Pt.slots] at X4 l4 y4 z4 st4 hQ4
    subst l4 y4 z4
    obtain ⟨rfl, N4q, K4q, c4_0, c4_1, c4_2, c4_3⟩ := hQ4
    have N4 := Fr.app N2 N4q
    have f4_0 := f3_0.keep K4q
    have f4_1 := f3_1.keep K4q (ninS ne3_0 nin0)
    have f4_2 := f3_2.keep K4q (ninS ne3_0 nin0)
    have f4_3 := f3_3.keep K4q (ninS ne3_0 nin0)
    have f4_4 := A3.keep K4q
    have K4 : Keep h0 T4.heap [] := K3.trans K4q (allS (Or.inr sz_b3) all0)
    have Z4 : n0 ≤ T4.heap.size := Nat.le_trans Z0 K4.1
    refine own_Go.of (g' := (mkF m 88 #[.val (.int x0), .val (.int x1), .val (.int x2), .val (.int x3), .val (.int x4), .val (.ref b1), .val (.int (((x3.toUInt32 >>> ((3 : Int32) &&& 31).toUInt32).toInt32) &&& (3 : Int32))), .unset, .unset, .val (.int (1 : Int32)), .val (.int (x0 ^^^ (if (x3 &&& (1 : Int32)) = (0 : Int32) then (0 : Int32) else x4))), .val (.int (x1 ^^^ (if (x3 &&& (2 : Int32)) = (0 : Int32) then (0 : Int32) else x4))), .val (.int (x2 ^^^ (if (x3 &&& (4 : Int32)) = (0 : Int32) then (0 : Int32) else x4))), .unset] [(.ref b3)])) (fun t k => st4.trans k) ?_
    refine og_astore (pc' := 90) (L' := #[.val (.int x0), .val (.int x1), .val (.int x2), .val (.int x3), .val (.int x4), .val (.ref b1), .val (.int (((x3.toUInt32 >>> ((3 : Int32) &&& 31).toUInt32).toInt32) &&& (3 : Int32))), .unset, .unset, .val (.int (1 : Int32)), .val (.int (x0 ^^^ (if (x3 &&& (1 : Int32)) = (0 : Int32) then (0 : Int32) else x4))), .val (.int (x1 ^^^ (if (x3 &&& (2 : Int32)) = (0 : Int32) then (0 : Int32) else x4))), .val (.int (x2 ^^^ (if (x3 &&& (4 : Int32)) = (0 : Int32) then (0 : Int32) else x4))), .val (.ref b3)]) X4 hx (hb hby at_88) rfl rfl rfl ?_
    refine og_aload (pc' := 92) X4 hx (hb hby at_90) rfl rfl rfl ?_
    refine og_astore (pc' := 94) (L' := #[.val (.int x0), .val (.int x1), .val (.int x2), .val (.int x3), .val (.int x4), .val (.ref b1), .val (.int (((x3.toUInt32 >>> ((3 : Int32) &&& 31).toUInt32).toInt32) &&& (3 : Int32))), .val (.ref b3), .unset, .val (.int (1 : Int32)), .val (.int (x0 ^^^ (if (x3 &&& (1 : Int32)) = (0 : Int32) then (0 : Int32) else x4))), .val (.int (x1 ^^^ (if (x3 &&& (2 : Int32)) = (0 : Int32) then (0 : Int32) else x4))), .val (.int (x2 ^^^ (if (x3 &&& (4 : Int32)) = (0 : Int32) then (0 : Int32) else x4))), .val (.ref b3)]) X4 hx (hb hby at_92) rfl rfl rfl ?_
    refine og_iload (pc' := 96) X4 hx (hb hby at_94) rfl rfl ?_
    refine og_iloadN (pc' := 97) X4 hx (hb hby at_96) rfl rfl ?_
    refine own_via (A := own_Go p e below (fun s₂ oc => ∃ v L, oc = .returned v ∧ Q0 Z x0 x1 x2 x3 x4 h0 n0 v s₂.heap L ∧ FrameEnd s oc s₂ L room_1.cells room_1.slots) T4 (mkF m 117 #[.val (.int x0), .val (.int x1), .val (.int x2), .val (.int x3), .val (.int x4), .val (.ref b1), .val (.int (((x3.toUInt32 >>> ((3 : Int32) &&& 31).toUInt32).toInt32) &&& (3 : Int32))), .val (.ref b3), .unset, .val (.int (1 : Int32)), .val (.int (x0 ^^^ (if (x3 &&& (1 : Int32)) = (0 : Int32) then (0 : Int32) else x4))), .val (.int (x1 ^^^ (if (x3 &&& (2 : Int32)) = (0 : Int32) then (0 : Int32) else x4))), .val (.int (x2 ^^^ (if (x3 &&& (4 : Int32)) = (0 : Int32) then (0 : Int32) else x4))), .val (.ref b3)] [(.int (if (x0 ^^^ (if (x3 &&& (1 : Int32)) = (0 : Int32) then (0 : Int32) else x4)) = x0 then (if (x1 ^^^ (if (x3 &&& (2 : Int32)) = (0 : Int32) then (0 : Int32) else x4)) = x1 then (if (x2 ^^^ (if (x3 &&& (4 : Int32)) = (0 : Int32) then (0 : Int32) else x4)) = x2 then (1 : Int32) else (0 : Int32)) else (0 : Int32)) else (0 : Int32)))])) (fun k => ?_) ?_
    · by_cases hc97_5 : (x0 ^^^ (if (x3 &&& (1 : Int32)) = (0 : Int32) then (0 : Int32) else x4)) = x0
      · refine og_icmpNo (pc' := 100) X4 hx (hb hby at_97) (teq hc97_5).2 rfl ?_
        refine og_iload (pc' := 102) X4 hx (hb hby at_100) rfl rfl ?_
        refine og_iloadN (pc' := 103) X4 hx (hb hby at_102) rfl rfl ?_
        by_cases hc103_6 : (x1 ^^^ (if (x3 &&& (2 : Int32)) = (0 : Int32) then (0 : Int32) else x4)) = x1
        · refine og_icmpNo (pc' := 106) X4 hx (hb hby at_103) (teq hc103_6).2 rfl ?_
          refine og_iload (pc' := 108) X4 hx (hb hby at_106) rfl rfl ?_
          refine og_iloadN (pc' := 109) X4 hx (hb hby at_108) rfl rfl ?_
          by_cases hc109_7 : (x2 ^^^ (if (x3 &&& (4 : Int32)) = (0 : Int32) then (0 : Int32) else x4)) = x2
          · refine og_icmpNo (pc' := 112) X4 hx (hb hby at_109) (teq hc109_7).2 rfl ?_
            refine og_iconst (pc' := 113) (n := 1) X4 hx (hb hby at_112) rfl rfl ?_
            refine og_goto (pc' := 117) X4 hx (hb hby at_113) (by decide) (by decide) ?_
            simp only [if_pos hc97_5, if_pos hc103_6, if_pos hc109_7] at k
            exact k
          · refine og_icmpYes (pc' := 116) X4 hx (hb hby at_109) (feq hc109_7).2 (by decide) (by decide) ?_
            refine og_iconst (pc' := 117) (n := 0) X4 hx (hb hby at_116) rfl rfl ?_
            simp only [if_pos hc97_5, if_pos hc103_6, if_neg hc109_7] at k
            exact k
        · refine og_icmpYes (pc' := 116) X4 hx (hb hby at_103) (feq hc103_6).2 (by decide) (by decide) ?_
          refine og_iconst (pc' := 117) (n := 0) X4 hx (hb hby at_116) rfl rfl ?_
          simp only [if_pos hc97_5, if_neg hc103_6] at k
          exact k
      · refine og_icmpYes (pc' := 116) X4 hx (hb hby at_97) (feq hc97_5).2 (by decide) (by decide) ?_
        refine og_iconst (pc' := 117) (n := 0) X4 hx (hb hby at_116) rfl rfl ?_
        simp only [if_neg hc97_5] at k
        exact k
    refine og_istore (pc' := 119) (L' := #[.val (.int x0), .val (.int x1), .val (.int x2), .val (.int x3), .val (.int x4), .val (.ref b1), .val (.int (((x3.toUInt32 >>> ((3 : Int32) &&& 31).toUInt32).toInt32) &&& (3 : Int32))), .val (.ref b3), .val (.int (if (x0 ^^^ (if (x3 &&& (1 : Int32)) = (0 : Int32) then (0 : Int32) else x4)) = x0 then (if (x1 ^^^ (if (x3 &&& (2 : Int32)) = (0 : Int32) then (0 : Int32) else x4)) = x1 then (if (x2 ^^^ (if (x3 &&& (4 : Int32)) = (0 : Int32) then (0 : Int32) else x4)) = x2 then (1 : Int32) else (0 : Int32)) else (0 : Int32)) else (0 : Int32))), .val (.int (1 : Int32)), .val (.int (x0 ^^^ (if (x3 &&& (1 : Int32)) = (0 : Int32) then (0 : Int32) else x4))), .val (.int (x1 ^^^ (if (x3 &&& (2 : Int32)) = (0 : Int32) then (0 : Int32) else x4))), .val (.int (x2 ^^^ (if (x3 &&& (4 : Int32)) = (0 : Int32) then (0 : Int32) else x4))), .val (.ref b3)]) X4 hx (hb hby at_117) rfl rfl ?_
    refine og_aload (pc' := 121) X4 hx (hb hby at_119) rfl rfl rfl ?_
    refine og_aload (pc' := 123) X4 hx (hb hby at_121) rfl rfl rfl ?_
    obtain ⟨cq5, kq5, q5a, q5b, q5c⟩ := isOf hZ rfl c4_0
    obtain ⟨_, _, ⟨T5, L5, k5, n5⟩, -, X5, ⟨Lc5, hQ5, l5, y5, z5⟩, st5⟩ := X4.virtualBack hx (y := (⟨"com/example/capwright/capwright/cap/CapFile$ExternalField", "equals", "(Ljava/lang/Object;)Z"⟩ : MethodName)) (z := (⟨"com/example/capwright/capwright/cap/CapFile$ExternalField", "equals", "(Ljava/lang/Object;)Z"⟩ : MethodName)) hown (mvT hZ (hw _ (List.mem_of_getElem? (i := 20) rfl))) (mvT hZ (hw _ (List.mem_of_getElem? (i := 21) rfl))) (notFace_of_selects (args := #[]) (mvT hZ (hw _ (List.mem_of_getElem? (i := 23) rfl)))) (mvT hZ (hw _ (List.mem_of_getElem? (i := 23) rfl))) (mvT hZ (hw _ (List.mem_of_getElem? (i := 22) rfl))) (by decide) (backOf (W := 0) (rmeqA l Z a0 hw [] b3 b1 (x0 ^^^ (if (x3 &&& (1 : Int32)) = (0 : Int32) then (0 : Int32) else x4)) (x1 ^^^ (if (x3 &&& (2 : Int32)) = (0 : Int32) then (0 : Int32) else x4)) (x2 ^^^ (if (x3 &&& (4 : Int32)) = (0 : Int32) then (0 : Int32) else x4)) x0 x1 x2 T4.heap n0 Z4 c4_1 c4_2 c4_3 f4_1 f4_2 f4_3 f4_0) hZ (hw _ (List.mem_of_getElem? (i := 24) rfl)) (hw _ (List.mem_of_getElem? (i := 2) rfl)) (by decide) (by decide)) q5a q5c (g := (mkF m 123 #[.val (.int x0), .val (.int x1), .val (.int x2), .val (.int x3), .val (.int x4), .val (.ref b1), .val (.int (((x3.toUInt32 >>> ((3 : Int32) &&& 31).toUInt32).toInt32) &&& (3 : Int32))), .val (.ref b3), .val (.int (if (x0 ^^^ (if (x3 &&& (1 : Int32)) = (0 : Int32) then (0 : Int32) else x4)) = x0 then (if (x1 ^^^ (if (x3 &&& (2 : Int32)) = (0 : Int32) then (0 : Int32) else x4)) = x1 then (if (x2 ^^^ (if (x3 &&& (4 : Int32)) = (0 : Int32) then (0 : Int32) else x4)) = x2 then (1 : Int32) else (0 : Int32)) else (0 : Int32)) else (0 : Int32))), .val (.int (1 : Int32)), .val (.int (x0 ^^^ (if (x3 &&& (1 : Int32)) = (0 : Int32) then (0 : Int32) else x4))), .val (.int (x1 ^^^ (if (x3 &&& (2 : Int32)) = (0 : Int32) then (0 : Int32) else x4))), .val (.int (x2 ^^^ (if (x3 &&& (4 : Int32)) = (0 : Int32) then (0 : Int32) else x4))), .val (.ref b3)] [(.ref b1), (.ref b3)])) rfl (by rw [hml]; rfl) (Steps.refl _) (argsL := [(.ref b1)]) (rest := []) (lenOf pd_2 rfl) rfl (by show 2 * 0 + _ ≤ _; exact Nat.le_of_eq rfl) (hb hby at_123) (fun _ _ => ⟨rfl, rfl, (by decide : 2 + 0 ≤ _), (by decide : 6 + 0 ≤ _)⟩)
    dsimp only [Pt.U, Pt.locs, Pt.cells, Pt.slots] at X5 l5 y5 z5 st5 hQ5
    subst l5 y5 z5
    obtain ⟨rfl, N5q, e5⟩ := hQ5
    have N5 := Fr.app N4 N5q
    refine own_Go.of (g' := (mkF m 126 #[.val (.int x0), .val (.int x1), .val (.int x2), .val (.int x3), .val (.int x4), .val (.ref b1), .val (.int (((x3.toUInt32 >>> ((3 : Int32) &&& 31).toUInt32).toInt32) &&& (3 : Int32))), .val (.ref b3), .val (.int (if (x0 ^^^ (if (x3 &&& (1 : Int32)) = (0 : Int32) then (0 : Int32) else x4)) = x0 then (if (x1 ^^^ (if (x3 &&& (2 : Int32)) = (0 : Int32) then (0 : Int32) else x4)) = x1 then (if (x2 ^^^ (if (x3 &&& (4 : Int32)) = (0 : Int32) then (0 : Int32) else x4)) = x2 then (1 : Int32) else (0 : Int32)) else (0 : Int32)) else (0 : Int32))), .val (.int (1 : Int32)), .val (.int (x0 ^^^ (if (x3 &&& (1 : Int32)) = (0 : Int32) then (0 : Int32) else x4))), .val (.int (x1 ^^^ (if (x3 &&& (2 : Int32)) = (0 : Int32) then (0 : Int32) else x4))), .val (.int (x2 ^^^ (if (x3 &&& (4 : Int32)) = (0 : Int32) then (0 : Int32) else x4))), .val (.ref b3)] [(.int (own_eq (x0 ^^^ (if (x3 &&& (1 : Int32)) = (0 : Int32) then (0 : Int32) else x4)) (x1 ^^^ (if (x3 &&& (2 : Int32)) = (0 : Int32) then (0 : Int32) else x4)) (x2 ^^^ (if (x3 &&& (4 : Int32)) = (0 : Int32) then (0 : Int32) else x4)) x0 x1 x2))])) (fun t k => st5.trans k) ?_
    refine og_iload (pc' := 128) X5 hx (hb hby at_126) rfl rfl ?_
    refine og_icmpNo (pc' := 131) X5 hx (hb hby at_128) (teq (own_eq_comm _ _ _ _ _ _)).2 rfl ?_
    refine og_iconst (pc' := 132) (n := 1) X5 hx (hb hby at_131) rfl rfl ?_
    refine og_goto (pc' := 136) X5 hx (hb hby at_132) (by decide) (by decide) ?_
    refine og_istore (pc' := 138) (L' := #[.val (.int x0), .val (.int x1), .val (.int x2), .val (.int x3), .val (.int x4), .val (.ref b1), .val (.int (((x3.toUInt32 >>> ((3 : Int32) &&& 31).toUInt32).toInt32) &&& (3 : Int32))), .val (.ref b3), .val (.int (if (x0 ^^^ (if (x3 &&& (1 : Int32)) = (0 : Int32) then (0 : Int32) else x4)) = x0 then (if (x1 ^^^ (if (x3 &&& (2 : Int32)) = (0 : Int32) then (0 : Int32) else x4)) = x1 then (if (x2 ^^^ (if (x3 &&& (4 : Int32)) = (0 : Int32) then (0 : Int32) else x4)) = x2 then (1 : Int32) else (0 : Int32)) else (0 : Int32)) else (0 : Int32))), .val (.int (1 : Int32)), .val (.int (x0 ^^^ (if (x3 &&& (1 : Int32)) = (0 : Int32) then (0 : Int32) else x4))), .val (.int (x1 ^^^ (if (x3 &&& (2 : Int32)) = (0 : Int32) then (0 : Int32) else x4))), .val (.int (x2 ^^^ (if (x3 &&& (4 : Int32)) = (0 : Int32) then (0 : Int32) else x4))), .val (.ref b3)]) X5 hx (hb hby at_136) rfl rfl ?_
    refine og_goto (pc' := 193) X5 hx (hb hby at_138) (by decide) (by decide) ?_
    refine og_aload (pc' := 195) X5 hx (hb hby at_193) rfl rfl rfl ?_
    refine og_aload (pc' := 197) X5 hx (hb hby at_195) rfl rfl rfl ?_
    obtain ⟨cq6, kq6, q6a, q6b, q6c⟩ := isOf hZ e5 f4_0
    obtain ⟨_, _, ⟨T6, L6, k6, n6⟩, -, X6, ⟨Lc6, hQ6, l6, y6, z6⟩, st6⟩ := X5.virtualBack hx (y := (⟨"com/example/capwright/capwright/cap/CapFile$ExternalField", "equals", "(Ljava/lang/Object;)Z"⟩ : MethodName)) (z := (⟨"com/example/capwright/capwright/cap/CapFile$ExternalField", "equals", "(Ljava/lang/Object;)Z"⟩ : MethodName)) hown (mvT hZ (hw _ (List.mem_of_getElem? (i := 20) rfl))) (mvT hZ (hw _ (List.mem_of_getElem? (i := 21) rfl))) (notFace_of_selects (args := #[]) (mvT hZ (hw _ (List.mem_of_getElem? (i := 23) rfl)))) (mvT hZ (hw _ (List.mem_of_getElem? (i := 23) rfl))) (mvT hZ (hw _ (List.mem_of_getElem? (i := 22) rfl))) (by decide) (backOf (W := 0) (rmeqA l Z a0 hw [] b1 b3 x0 x1 x2 (x0 ^^^ (if (x3 &&& (1 : Int32)) = (0 : Int32) then (0 : Int32) else x4)) (x1 ^^^ (if (x3 &&& (2 : Int32)) = (0 : Int32) then (0 : Int32) else x4)) (x2 ^^^ (if (x3 &&& (4 : Int32)) = (0 : Int32) then (0 : Int32) else x4)) T4.heap n0 Z4 f4_1 f4_2 f4_3 c4_1 c4_2 c4_3 c4_0) hZ (hw _ (List.mem_of_getElem? (i := 24) rfl)) (hw _ (List.mem_of_getElem? (i := 2) rfl)) (by decide) (by decide)) q6a q6c (g := (mkF m 197 #[.val (.int x0), .val (.int x1), .val (.int x2), .val (.int x3), .val (.int x4), .val (.ref b1), .val (.int (((x3.toUInt32 >>> ((3 : Int32) &&& 31).toUInt32).toInt32) &&& (3 : Int32))), .val (.ref b3), .val (.int (if (x0 ^^^ (if (x3 &&& (1 : Int32)) = (0 : Int32) then (0 : Int32) else x4)) = x0 then (if (x1 ^^^ (if (x3 &&& (2 : Int32)) = (0 : Int32) then (0 : Int32) else x4)) = x1 then (if (x2 ^^^ (if (x3 &&& (4 : Int32)) = (0 : Int32) then (0 : Int32) else x4)) = x2 then (1 : Int32) else (0 : Int32)) else (0 : Int32)) else (0 : Int32))), .val (.int (1 : Int32)), .val (.int (x0 ^^^ (if (x3 &&& (1 : Int32)) = (0 : Int32) then (0 : Int32) else x4))), .val (.int (x1 ^^^ (if (x3 &&& (2 : Int32)) = (0 : Int32) then (0 : Int32) else x4))), .val (.int (x2 ^^^ (if (x3 &&& (4 : Int32)) = (0 : Int32) then (0 : Int32) else x4))), .val (.ref b3)] [(.ref b3), (.ref b1)])) rfl (by rw [hml]; rfl) (Steps.refl _) (argsL := [(.ref b3)]) (rest := []) (lenOf pd_2 rfl) rfl (by show 2 * 0 + _ ≤ _; exact Nat.le_of_eq rfl) (hb hby at_197) (fun _ _ => ⟨rfl, e5, (by decide : 2 + 0 ≤ _), (by decide : 6 + 0 ≤ _)⟩)
    dsimp only [Pt.U, Pt.locs, Pt.cells, Pt.slots] at X6 l6 y6 z6 st6 hQ6
    subst l6 y6 z6
    obtain ⟨rfl, N6q, e6⟩ := hQ6
    have N6 := Fr.app N5 N6q
    refine own_Go.of (g' := (mkF m 200 #[.val (.int x0), .val (.int x1), .val (.int x2), .val (.int x3), .val (.int x4), .val (.ref b1), .val (.int (((x3.toUInt32 >>> ((3 : Int32) &&& 31).toUInt32).toInt32) &&& (3 : Int32))), .val (.ref b3), .val (.int (if (x0 ^^^ (if (x3 &&& (1 : Int32)) = (0 : Int32) then (0 : Int32) else x4)) = x0 then (if (x1 ^^^ (if (x3 &&& (2 : Int32)) = (0 : Int32) then (0 : Int32) else x4)) = x1 then (if (x2 ^^^ (if (x3 &&& (4 : Int32)) = (0 : Int32) then (0 : Int32) else x4)) = x2 then (1 : Int32) else (0 : Int32)) else (0 : Int32)) else (0 : Int32))), .val (.int (1 : Int32)), .val (.int (x0 ^^^ (if (x3 &&& (1 : Int32)) = (0 : Int32) then (0 : Int32) else x4))), .val (.int (x1 ^^^ (if (x3 &&& (2 : Int32)) = (0 : Int32) then (0 : Int32) else x4))), .val (.int (x2 ^^^ (if (x3 &&& (4 : Int32)) = (0 : Int32) then (0 : Int32) else x4))), .val (.ref b3)] [(.int (own_eq x0 x1 x2 (x0 ^^^ (if (x3 &&& (1 : Int32)) = (0 : Int32) then (0 : Int32) else x4)) (x1 ^^^ (if (x3 &&& (2 : Int32)) = (0 : Int32) then (0 : Int32) else x4)) (x2 ^^^ (if (x3 &&& (4 : Int32)) = (0 : Int32) then (0 : Int32) else x4))))])) (fun t k => st6.trans k) ?_
    refine og_iload (pc' := 202) X6 hx (hb hby at_200) rfl rfl ?_
    refine og_icmpNo (pc' := 205) X6 hx (hb hby at_202) (teq rfl).2 rfl ?_
    refine og_iload (pc' := 207) X6 hx (hb hby at_205) rfl rfl ?_
    refine og_ifNo (pc' := 210) X6 hx (hb hby at_207) ((if0 _ _).trans (feq (by decide)).1) rfl ?_
    refine og_aload (pc' := 212) X6 hx (hb hby at_210) rfl rfl rfl ?_
    refine og_aload (pc' := 214) X6 hx (hb hby at_212) rfl rfl rfl ?_
    obtain ⟨cq7, kq7, q7a, q7b, q7c⟩ := isOf hZ e6 f4_0
    obtain ⟨_, _, ⟨T7, L7, k7, n7⟩, -, X7, ⟨Lc7, hQ7, l7, y7, z7⟩, st7⟩ := X6.virtualBack hx (y := (⟨"com/example/capwright/capwright/cap/CapFile$ExternalField", "equals", "(Ljava/lang/Object;)Z"⟩ : MethodName)) (z := (⟨"com/example/capwright/capwright/cap/CapFile$ExternalField", "equals", "(Ljava/lang/Object;)Z"⟩ : MethodName)) hown (mvT hZ (hw _ (List.mem_of_getElem? (i := 20) rfl))) (mvT hZ (hw _ (List.mem_of_getElem? (i := 21) rfl))) (notFace_of_selects (args := #[]) (mvT hZ (hw _ (List.mem_of_getElem? (i := 23) rfl)))) (mvT hZ (hw _ (List.mem_of_getElem? (i := 23) rfl))) (mvT hZ (hw _ (List.mem_of_getElem? (i := 22) rfl))) (by decide) (backOf (W := 0) (rmeqA l Z a0 hw [] b1 b1 x0 x1 x2 x0 x1 x2 T4.heap n0 Z4 f4_1 f4_2 f4_3 f4_1 f4_2 f4_3 f4_0) hZ (hw _ (List.mem_of_getElem? (i := 24) rfl)) (hw _ (List.mem_of_getElem? (i := 2) rfl)) (by decide) (by decide)) q7a q7c (g := (mkF m 214 #[.val (.int x0), .val (.int x1), .val (.int x2), .val (.int x3), .val (.int x4), .val (.ref b1), .val (.int (((x3.toUInt32 >>> ((3 : Int32) &&& 31).toUInt32).toInt32) &&& (3 : Int32))), .val (.ref b3), .val (.int (if (x0 ^^^ (if (x3 &&& (1 : Int32)) = (0 : Int32) then (0 : Int32) else x4)) = x0 then (if (x1 ^^^ (if (x3 &&& (2 : Int32)) = (0 : Int32) then (0 : Int32) else x4)) = x1 then (if (x2 ^^^ (if (x3 &&& (4 : Int32)) = (0 : Int32) then (0 : Int32) else x4)) = x2 then (1 : Int32) else (0 : Int32)) else (0 : Int32)) else (0 : Int32))), .val (.int (1 : Int32)), .val (.int (x0 ^^^ (if (x3 &&& (1 : Int32)) = (0 : Int32) then (0 : Int32) else x4))), .val (.int (x1 ^^^ (if (x3 &&& (2 : Int32)) = (0 : Int32) then (0 : Int32) else x4))), .val (.int (x2 ^^^ (if (x3 &&& (4 : Int32)) = (0 : Int32) then (0 : Int32) else x4))), .val (.ref b3)] [(.ref b1), (.ref b1)])) rfl (by rw [hml]; rfl) (Steps.refl _) (argsL := [(.ref b1)]) (rest := []) (lenOf pd_2 rfl) rfl (by show 2 * 0 + _ ≤ _; exact Nat.le_of_eq rfl) (hb hby at_214) (fun _ _ => ⟨rfl, e6, (by decide : 2 + 0 ≤ _), (by decide : 6 + 0 ≤ _)⟩)
    dsimp only [Pt.U, Pt.locs, Pt.cells, Pt.slots] at X7 l7 y7 z7 st7 hQ7
    subst l7 y7 z7
    obtain ⟨rfl, N7q, e7⟩ := hQ7
    have N7 := Fr.app N6 N7q
    refine own_Go.of (g' := (mkF m 217 #[.val (.int x0), .val (.int x1), .val (.int x2), .val (.int x3), .val (.int x4), .val (.ref b1), .val (.int (((x3.toUInt32 >>> ((3 : Int32) &&& 31).toUInt32).toInt32) &&& (3 : Int32))), .val (.ref b3), .val (.int (if (x0 ^^^ (if (x3 &&& (1 : Int32)) = (0 : Int32) then (0 : Int32) else x4)) = x0 then (if (x1 ^^^ (if (x3 &&& (2 : Int32)) = (0 : Int32) then (0 : Int32) else x4)) = x1 then (if (x2 ^^^ (if (x3 &&& (4 : Int32)) = (0 : Int32) then (0 : Int32) else x4)) = x2 then (1 : Int32) else (0 : Int32)) else (0 : Int32)) else (0 : Int32))), .val (.int (1 : Int32)), .val (.int (x0 ^^^ (if (x3 &&& (1 : Int32)) = (0 : Int32) then (0 : Int32) else x4))), .val (.int (x1 ^^^ (if (x3 &&& (2 : Int32)) = (0 : Int32) then (0 : Int32) else x4))), .val (.int (x2 ^^^ (if (x3 &&& (4 : Int32)) = (0 : Int32) then (0 : Int32) else x4))), .val (.ref b3)] [(.int (own_eq x0 x1 x2 x0 x1 x2))])) (fun t k => st7.trans k) ?_
    refine og_ifNo (pc' := 220) X7 hx (hb hby at_217) ((if0 _ _).trans (feq (own_eq_self0 _ _ _)).1) rfl ?_
    refine og_iconst (pc' := 221) (n := 1) X7 hx (hb hby at_220) rfl rfl ?_
    refine og_goto (pc' := 225) X7 hx (hb hby at_221) (by decide) (by decide) ?_
    obtain ⟨fs, hr, hrun, hended, hW, hsame⟩ := X7.leave (v := some (.int (1 : Int32))) (fun h => by rw [Bd.returns] at h; cases h) (BodyLoose.notSynchronized Bd)
    refine ⟨_, _, retN X7 hx (t := .boolean) Bd.returns (by simp) (hb hby at_225) hr, hrun, hended, some (.int (1 : Int32)), _, rfl, ?_, ⟨_, rfl⟩, hW, hsame.mono (by decide) (by decide)⟩
    show Q0 Z x0 x1 x2 x3 x4 h0 n0 _ T7.heap _
    rw [e7]
    exact ⟨rfl, N7⟩
  · refine og_ifYes (pc' := 141) X2 hx (hb hby at_24) ((if0 _ _).trans (feq hc24_1).2) (by decide) (by decide) ?_
    refine og_iload (pc' := 143) X2 hx (hb hby at_141) rfl rfl ?_
    refine og_iconst (pc' := 144) (n := 1) X2 hx (hb hby at_143) rfl rfl ?_
    by_cases hc144_8 : (((x3.toUInt32 >>> ((3 : Int32) &&& 31).toUInt32).toInt32) &&& (3 : Int32)) = (1 : Int32)
    · refine og_icmpNo (pc' := 147) X2 hx (hb hby at_144) (teq hc144_8).2 rfl ?_
      obtain ⟨T8, h8, X8, e8, E8, A8, D8, -, st8⟩ := newO X2 hx hZ hown (hw _ (List.mem_of_getElem? (i := 27) rfl)) (hw _ (List.mem_of_getElem? (i := 28) rfl)) (hw _ (List.mem_of_getElem? (i := 29) rfl)) rfl (g := (mkF m 147 #[.val (.int x0), .val (.int x1), .val (.int x2), .val (.int x3), .val (.int x4), .val (.ref b1), .val (.int (((x3.toUInt32 >>> ((3 : Int32) &&& 31).toUInt32).toInt32) &&& (3 : Int32))), .unset, .unset, .val (.int (1 : Int32)), .unset, .unset, .unset, .unset] [])) rfl (hb hby at_147) (by decide) (by decide)
      obtain ⟨b8, g8⟩ : ∃ z, z = T2.heap.size := ⟨_, rfl⟩
      rw [← g8] at A8 D8 st8
      have ne8_0 : b1 ≠ b8 := Nat.ne_of_lt (Nat.lt_of_lt_of_le c2_0.lt (Nat.le_of_eq g8.symm))
      have g_b8 : n0 ≤ b8 := Nat.le_trans Z2 (Nat.le_of_eq g8.symm)
      have sz_b8 : h0.size ≤ b8 := Nat.le_trans K2.1 (Nat.le_of_eq g8.symm)
      have f8_0 := c2_0.ext E8
      have f8_1 := c2_1.ext E8
      have f8_2 := c2_2.ext E8
      have f8_3 := c2_3.ext E8
      have F8_packageToken : Fld Z h8 b8 "com/example/capwright/capwright/cap/CapFile$ExternalMethod" "packageToken" "I" (.int (0 : Int32)) := D8 (Or.inr (hw _ (List.mem_of_getElem? (i := 35) rfl))) (ty := .int) (by decide)
      have F8_classToken : Fld Z h8 b8 "com/example/capwright/capwright/cap/CapFile$ExternalMethod" "classToken" "I" (.int (0 : Int32)) := D8 (Or.inr (hw _ (List.mem_of_getElem? (i := 37) rfl))) (ty := .int) (by decide)
      have F8_token : Fld Z h8 b8 "com/example/capwright/capwright/cap/CapFile$ExternalMethod" "token" "I" (.int (0 : Int32)) := D8 (Or.inr (hw _ (List.mem_of_getElem? (i := 39) rfl))) (ty := .int) (by decide)
      have K8 : Keep h0 h8 [] := K2.ext E8
      have Z8 : n0 ≤ h8.size := Nat.le_trans Z0 K8.1
      refine own_Go.of (g' := (mkF m 150 #[.val (.int x0), .val (.int x1), .val (.int x2), .val (.int x3), .val (.int x4), .val (.ref b1), .val (.int (((x3.toUInt32 >>> ((3 : Int32) &&& 31).toUInt32).toInt32) &&& (3 : Int32))), .unset, .unset, .val (.int (1 : Int32)), .unset, .unset, .unset, .unset] [(.ref b8)])) (fun t k => st8 _ k) ?_
      refine og_dup (pc' := 151) X8 hx (hb hby at_150) rfl rfl ?_
      refine og_iloadN (pc' := 152) X8 hx (hb hby at_151) rfl rfl ?_
      refine og_iloadN (pc' := 153) X8 hx (hb hby at_152) rfl rfl ?_
      refine og_iloadN (pc' := 154) X8 hx (hb hby at_153) rfl rfl ?_
      obtain ⟨_, _, ⟨T9, L9, k9, n9⟩, -, X9, ⟨Lc9, hQ9, l9, y9, z9⟩, st9⟩ := X8.specialBack hx (y := (⟨"com/example/capwright/capwright/cap/CapFile$ExternalMethod", "<init>", "(III)V"⟩ : MethodName)) rfl hown (mvT hZ (hw _ (List.mem_of_getElem? (i := 30) rfl))) (mvT hZ (hw _ (List.mem_of_getElem? (i := 31) rfl))) (mvT hZ (hw _ (List.mem_of_getElem? (i := 32) rfl))) (by decide) (backOf (W := 1) (rmEM l Z a0 hw [] b8 x0 x1 x2 (.int (0 : Int32)) (.int (0 : Int32)) (.int (0 : Int32)) h8 n0 Z8 A8 F8_packageToken F8_classToken F8_token g_b8) hZ (hw _ (List.mem_of_getElem? (i := 32) rfl)) (hw _ (List.mem_of_getElem? (i := 29) rfl)) (by decide) (by decide)) (g := (mkF m 154 #[.val (.int x0), .val (.int x1), .val (.int x2), .val (.int x3), .val (.int x4), .val (.ref b1), .val (.int (((x3.toUInt32 >>> ((3 : Int32) &&& 31).toUInt32).toInt32) &&& (3 : Int32))), .unset, .unset, .val (.int (1 : Int32)), .unset, .unset, .unset, .unset] [(.int x2), (.int x1), (.int x0), (.ref b8), (.ref b8)])) rfl (by rw [hml]; rfl) (Steps.refl _) (a := b8) (argsL := [(.int x0), (.int x1), (.int x2)]) (rest := [(.ref b8)]) (lenOf pd_1 rfl) rfl (by show 2 * 0 + _ ≤ _; exact Nat.le_of_eq rfl) (hb hby at_154) (fun _ _ => ⟨rfl, e8, (by decide : 2 + 0 ≤ _), (by decide : 6 + 0 ≤ _)⟩)
      dsimp only [Pt.U, Pt.locs, Pt.cells, Pt.slots] at X9 l9 y9 z9 st9 hQ9
      subst l9 y9 z9
      obtain ⟨rfl, N9q, K9q, c9_0, c9_1, c9_2, c9_3⟩ := hQ9
      have N9 := Fr.app N2 N9q
      have f9_0 := f8_0.keep K9q
      have f9_1 := f8_1.keep K9q (ninS ne8_0 nin0)
      have f9_2 := f8_2.keep K9q (ninS ne8_0 nin0)
      have f9_3 := f8_3.keep K9q (ninS ne8_0 nin0)
      have f9_4 := A8.keep K9q
      have K9 : Keep h0 T9.heap [] := K8.trans K9q (allS (Or.inr sz_b8) all0)
      have Z9 : n0 ≤ T9.heap.size := Nat.le_trans Z0 K9.1
      refine own_Go.of (g' := (mkF m 157 #[.val (.int x0), .val (.int x1), .val (.int x2), .val (.int x3), .val (.int x4), .val (.ref b1), .val (.int (((x3.toUInt32 >>> ((3 : Int32) &&& 31).toUInt32).toInt32) &&& (3 : Int32))), .unset, .unset, .val (.int (1 : Int32)), .unset, .unset, .unset, .unset] [(.ref b8)])) (fun t k => st9.trans k) ?_
      refine og_astore (pc' := 159) (L' := #[.val (.int x0), .val (.int x1), .val (.int x2), .val (.int x3), .val (.int x4), .val (.ref b1), .val (.int (((x3.toUInt32 >>> ((3 : Int32) &&& 31).toUInt32).toInt32) &&& (3 : Int32))), .val (.ref b8), .unset, .val (.int (1 : Int32)), .unset, .unset, .unset, .unset]) X9 hx (hb hby at_157) rfl rfl rfl ?_
      refine og_iconst (pc' := 160) (n := 0) X9 hx (hb hby at_159) rfl rfl ?_
      refine og_istore (pc' := 162) (L' := #[.val (.int x0), .val (.int x1), .val (.int x2), .val (.int x3), .val (.int x4), .val (.ref b1), .val (.int (((x3.toUInt32 >>> ((3 : Int32) &&& 31).toUInt32).toInt32) &&& (3 : Int32))), .val (.ref b8), .val (.int (0 : Int32)), .val (.int (1 : Int32)), .unset, .unset, .unset, .unset]) X9 hx (hb hby at_160) rfl rfl ?_
      refine og_goto (pc' := 193) X9 hx (hb hby at_162) (by decide) (by decide) ?_
      refine og_aload (pc' := 195) X9 hx (hb hby at_193) rfl rfl rfl ?_
      refine og_aload (pc' := 197) X9 hx (hb hby at_195) rfl rfl rfl ?_
      obtain ⟨cq10, kq10, q10a, q10b, q10c⟩ := isOf hZ rfl f9_0
      obtain ⟨_, _, ⟨T10, L10, k10, n10⟩, -, X10, ⟨Lc10, hQ10, l10, y10, z10⟩, st10⟩ := X9.virtualBack hx (y := (⟨"com/example/capwright/capwright/cap/CapFile$ExternalField", "equals", "(Ljava/lang/Object;)Z"⟩ : MethodName)) (z := (⟨"com/example/capwright/capwright/cap/CapFile$ExternalField", "equals", "(Ljava/lang/Object;)Z"⟩ : MethodName)) hown (mvT hZ (hw _ (List.mem_of_getElem? (i := 20) rfl))) (mvT hZ (hw _ (List.mem_of_getElem? (i := 21) rfl))) (notFace_of_selects (args := #[]) (mvT hZ (hw _ (List.mem_of_getElem? (i := 23) rfl)))) (mvT hZ (hw _ (List.mem_of_getElem? (i := 23) rfl))) (mvT hZ (hw _ (List.mem_of_getElem? (i := 22) rfl))) (by decide) (backOf (W := 0) (rmeqB l Z a0 hw [] b1 b8 T9.heap n0 Z9 c9_0) hZ (hw _ (List.mem_of_getElem? (i := 24) rfl)) (hw _ (List.mem_of_getElem? (i := 2) rfl)) (by decide) (by decide)) q10a q10c (g := (mkF m 197 #[.val (.int x0), .val (.int x1), .val (.int x2), .val (.int x3), .val (.int x4), .val (.ref b1), .val (.int (((x3.toUInt32 >>> ((3 : Int32) &&& 31).toUInt32).toInt32) &&& (3 : Int32))), .val (.ref b8), .val (.int (0 : Int32)), .val (.int (1 : Int32)), .unset, .unset, .unset, .unset] [(.ref b8), (.ref b1)])) rfl (by rw [hml]; rfl) (Steps.refl _) (argsL := [(.ref b8)]) (rest := []) (lenOf pd_2 rfl) rfl (by show 2 * 0 + _ ≤ _; exact Nat.le_of_eq rfl) (hb hby at_197) (fun _ _ => ⟨rfl, rfl, (by decide : 2 + 0 ≤ _), (by decide : 6 + 0 ≤ _)⟩)
      dsimp only [Pt.U, Pt.locs, Pt.cells, Pt.slots] at X10 l10 y10 z10 st10 hQ10
      subst l10 y10 z10
      obtain ⟨rfl, N10q, e10⟩ := hQ10
      have N10 := Fr.app N9 N10q
      refine own_Go.of (g' := (mkF m 200 #[.val (.int x0), .val (.int x1), .val (.int x2), .val (.int x3), .val (.int x4), .val (.ref b1), .val (.int (((x3.toUInt32 >>> ((3 : Int32) &&& 31).toUInt32).toInt32) &&& (3 : Int32))), .val (.ref b8), .val (.int (0 : Int32)), .val (.int (1 : Int32)), .unset, .unset, .unset, .unset] [(.int (0 : Int32))])) (fun t k => st10.trans k) ?_
      refine og_iload (pc' := 202) X10 hx (hb hby at_200) rfl rfl ?_
      refine og_icmpNo (pc' := 205) X10 hx (hb hby at_202) (teq (by decide)).2 rfl ?_
      refine og_iload (pc' := 207) X10 hx (hb hby at_205) rfl rfl ?_
      refine og_ifNo (pc' := 210) X10 hx (hb hby at_207) ((if0 _ _).trans (feq (by decide)).1) rfl ?_
      refine og_aload (pc' := 212) X10 hx (hb hby at_210) rfl rfl rfl ?_
      refine og_aload (pc' := 214) X10 hx (hb hby at_212) rfl rfl rfl ?_
      obtain ⟨cq11, kq11, q11a, q11b, q11c⟩ := isOf hZ e10 f9_0
      obtain ⟨_, _, ⟨T11, L11, k11, n11⟩, -, X11, ⟨Lc11, hQ11, l11, y11, z11⟩, st11⟩ := X10.virtualBack hx (y := (⟨"com/example/capwright/capwright/cap/CapFile$ExternalField", "equals", "(Ljava/lang/Object;)Z"⟩ : MethodName)) (z := (⟨"com/example/capwright/capwright/cap/CapFile$ExternalField", "equals", "(Ljava/lang/Object;)Z"⟩ : MethodName)) hown (mvT hZ (hw _ (List.mem_of_getElem? (i := 20) rfl))) (mvT hZ (hw _ (List.mem_of_getElem? (i := 21) rfl))) (notFace_of_selects (args := #[]) (mvT hZ (hw _ (List.mem_of_getElem? (i := 23) rfl)))) (mvT hZ (hw _ (List.mem_of_getElem? (i := 23) rfl))) (mvT hZ (hw _ (List.mem_of_getElem? (i := 22) rfl))) (by decide) (backOf (W := 0) (rmeqA l Z a0 hw [] b1 b1 x0 x1 x2 x0 x1 x2 T9.heap n0 Z9 f9_1 f9_2 f9_3 f9_1 f9_2 f9_3 f9_0) hZ (hw _ (List.mem_of_getElem? (i := 24) rfl)) (hw _ (List.mem_of_getElem? (i := 2) rfl)) (by decide) (by decide)) q11a q11c (g := (mkF m 214 #[.val (.int x0), .val (.int x1), .val (.int x2), .val (.int x3), .val (.int x4), .val (.ref b1), .val (.int (((x3.toUInt32 >>> ((3 : Int32) &&& 31).toUInt32).toInt32) &&& (3 : Int32))), .val (.ref b8), .val (.int (0 : Int32)), .val (.int (1 : Int32)), .unset, .unset, .unset, .unset] [(.ref b1), (.ref b1)])) rfl (by rw [hml]; rfl) (Steps.refl _) (argsL := [(.ref b1)]) (rest := []) (lenOf pd_2 rfl) rfl (by show 2 * 0 + _ ≤ _; exact Nat.le_of_eq rfl) (hb hby at_214) (fun _ _ => ⟨rfl, e10, (by decide : 2 + 0 ≤ _), (by decide : 6 + 0 ≤ _)⟩)
      dsimp only [Pt.U, Pt.locs, Pt.cells, Pt.slots] at X11 l11 y11 z11 st11 hQ11
      subst l11 y11 z11
      obtain ⟨rfl, N11q, e11⟩ := hQ11
      have N11 := Fr.app N10 N11q
      refine own_Go.of (g' := (mkF m 217 #[.val (.int x0), .val (.int x1), .val (.int x2), .val (.int x3), .val (.int x4), .val (.ref b1), .val (.int (((x3.toUInt32 >>> ((3 : Int32) &&& 31).toUInt32).toInt32) &&& (3 : Int32))), .val (.ref b8), .val (.int (0 : Int32)), .val (.int (1 : Int32)), .unset, .unset, .unset, .unset] [(.int (own_eq x0 x1 x2 x0 x1 x2))])) (fun t k => st11.trans k) ?_
      refine og_ifNo (pc' := 220) X11 hx (hb hby at_217) ((if0 _ _).trans (feq (own_eq_self0 _ _ _)).1) rfl ?_
      refine og_iconst (pc' := 221) (n := 1) X11 hx (hb hby at_220) rfl rfl ?_
      refine og_goto (pc' := 225) X11 hx (hb hby at_221) (by decide) (by decide) ?_
      obtain ⟨fs, hr, hrun, hended, hW, hsame⟩ := X11.leave (v := some (.int (1 : Int32))) (fun h => by rw [Bd.returns] at h; cases h) (BodyLoose.notSynchronized Bd)
      refine ⟨_, _, retN X11 hx (t := .boolean) Bd.returns (by simp) (hb hby at_225) hr, hrun, hended, some (.int (1 : Int32)), _, rfl, ?_, ⟨_, rfl⟩, hW, hsame.mono (by decide) (by decide)⟩
      show Q0 Z x0 x1 x2 x3 x4 h0 n0 _ T11.heap _
      rw [e11]
      exact ⟨rfl, N11⟩
    · refine og_icmpYes (pc' := 165) X2 hx (hb hby at_144) (feq hc144_8).2 (by decide) (by decide) ?_
      refine og_iload (pc' := 167) X2 hx (hb hby at_165) rfl rfl ?_
      refine og_iconst (pc' := 168) (n := 2) X2 hx (hb hby at_167) rfl rfl ?_
      by_cases hc168_9 : (((x3.toUInt32 >>> ((3 : Int32) &&& 31).toUInt32).toInt32) &&& (3 : Int32)) = (2 : Int32)
      · refine og_icmpNo (pc' := 171) X2 hx (hb hby at_168) (teq hc168_9).2 rfl ?_
        refine og_aconst_null (pc' := 172) X2 hx (hb hby at_171) rfl ?_
        refine og_astore (pc' := 174) (L' := #[.val (.int x0), .val (.int x1), .val (.int x2), .val (.int x3), .val (.int x4), .val (.ref b1), .val (.int (((x3.toUInt32 >>> ((3 : Int32) &&& 31).toUInt32).toInt32) &&& (3 : Int32))), .val .null, .unset, .val (.int (1 : Int32)), .unset, .unset, .unset, .unset]) X2 hx (hb hby at_172) rfl rfl rfl ?_
        refine og_iconst (pc' := 175) (n := 0) X2 hx (hb hby at_174) rfl rfl ?_
        refine og_istore (pc' := 177) (L' := #[.val (.int x0), .val (.int x1), .val (.int x2), .val (.int x3), .val (.int x4), .val (.ref b1), .val (.int (((x3.toUInt32 >>> ((3 : Int32) &&& 31).toUInt32).toInt32) &&& (3 : Int32))), .val .null, .val (.int (0 : Int32)), .val (.int (1 : Int32)), .unset, .unset, .unset, .unset]) X2 hx (hb hby at_175) rfl rfl ?_
        refine og_goto (pc' := 193) X2 hx (hb hby at_177) (by decide) (by decide) ?_
        refine og_aload (pc' := 195) X2 hx (hb hby at_193) rfl rfl rfl ?_
        refine og_aload (pc' := 197) X2 hx (hb hby at_195) rfl rfl rfl ?_
        obtain ⟨cq12, kq12, q12a, q12b, q12c⟩ := isOf hZ rfl c2_0
        obtain ⟨_, _, ⟨T12, L12, k12, n12⟩, -, X12, ⟨Lc12, hQ12, l12, y12, z12⟩, st12⟩ := X2.virtualBack hx (y := (⟨"com/example/capwright/capwright/cap/CapFile$ExternalField", "equals", "(Ljava/lang/Object;)Z"⟩ : MethodName)) (z := (⟨"com/example/capwright/capwright/cap/CapFile$ExternalField", "equals", "(Ljava/lang/Object;)Z"⟩ : MethodName)) hown (mvT hZ (hw _ (List.mem_of_getElem? (i := 20) rfl))) (mvT hZ (hw _ (List.mem_of_getElem? (i := 21) rfl))) (notFace_of_selects (args := #[]) (mvT hZ (hw _ (List.mem_of_getElem? (i := 23) rfl)))) (mvT hZ (hw _ (List.mem_of_getElem? (i := 23) rfl))) (mvT hZ (hw _ (List.mem_of_getElem? (i := 22) rfl))) (by decide) (backOf (W := 0) (rmeqC l Z a0 hw [] b1 T2.heap n0 Z2 ) hZ (hw _ (List.mem_of_getElem? (i := 24) rfl)) (hw _ (List.mem_of_getElem? (i := 2) rfl)) (by decide) (by decide)) q12a q12c (g := (mkF m 197 #[.val (.int x0), .val (.int x1), .val (.int x2), .val (.int x3), .val (.int x4), .val (.ref b1), .val (.int (((x3.toUInt32 >>> ((3 : Int32) &&& 31).toUInt32).toInt32) &&& (3 : Int32))), .val .null, .val (.int (0 : Int32)), .val (.int (1 : Int32)), .unset, .unset, .unset, .unset] [.null, (.ref b1)])) rfl (by rw [hml]; rfl) (Steps.refl _) (argsL := [.null]) (rest := []) (lenOf pd_2 rfl) rfl (by show 2 * 0 + _ ≤ _; exact Nat.le_of_eq rfl) (hb hby at_197) (fun _ _ => ⟨rfl, rfl, (by decide : 1 + 0 ≤ _), (by decide : 3 + 0 ≤ _)⟩)
        dsimp only [Pt.U, Pt.locs, Pt.cells, Pt.slots] at X12 l12 y12 z12 st12 hQ12
        subst l12 y12 z12
        obtain ⟨rfl, N12q, e12⟩ := hQ12
        have N12 := Fr.app N2 N12q
        refine own_Go.of (g' := (mkF m 200 #[.val (.int x0), .val (.int x1), .val (.int x2), .val (.int x3), .val (.int x4), .val (.ref b1), .val (.int (((x3.toUInt32 >>> ((3 : Int32) &&& 31).toUInt32).toInt32) &&& (3 : Int32))), .val .null, .val (.int (0 : Int32)), .val (.int (1 : Int32)), .unset, .unset, .unset, .unset] [(.int (0 : Int32))])) (fun t k => st12.trans k) ?_
        refine og_iload (pc' := 202) X12 hx (hb hby at_200) rfl rfl ?_
        refine og_icmpNo (pc' := 205) X12 hx (hb hby at_202) (teq (by decide)).2 rfl ?_
        refine og_iload (pc' := 207) X12 hx (hb hby at_205) rfl rfl ?_
        refine og_ifNo (pc' := 210) X12 hx (hb hby at_207) ((if0 _ _).trans (feq (by decide)).1) rfl ?_
        refine og_aload (pc' := 212) X12 hx (hb hby at_210) rfl rfl rfl ?_
        refine og_aload (pc' := 214) X12 hx (hb hby at_212) rfl rfl rfl ?_
        obtain ⟨cq13, kq13, q13a, q13b, q13c⟩ := isOf hZ e12 c2_0
        obtain ⟨_, _, ⟨T13, L13, k13, n13⟩, -, X13, ⟨Lc13, hQ13, l13, y13, z13⟩, st13⟩ := X12.virtualBack hx (y := (⟨"com/example/capwright/capwright/cap/CapFile$ExternalField", "equals", "(Ljava/lang/Object;)Z"⟩ : MethodName)) (z := (⟨"com/example/capwright/capwright/cap/CapFile$ExternalField", "equals", "(Ljava/lang/Object;)Z"⟩ : MethodName)) hown (mvT hZ (hw _ (List.mem_of_getElem? (i := 20) rfl))) (mvT hZ (hw _ (List.mem_of_getElem? (i := 21) rfl))) (notFace_of_selects (args := #[]) (mvT hZ (hw _ (List.mem_of_getElem? (i := 23) rfl)))) (mvT hZ (hw _ (List.mem_of_getElem? (i := 23) rfl))) (mvT hZ (hw _ (List.mem_of_getElem? (i := 22) rfl))) (by decide) (backOf (W := 0) (rmeqA l Z a0 hw [] b1 b1 x0 x1 x2 x0 x1 x2 T2.heap n0 Z2 c2_1 c2_2 c2_3 c2_1 c2_2 c2_3 c2_0) hZ (hw _ (List.mem_of_getElem? (i := 24) rfl)) (hw _ (List.mem_of_getElem? (i := 2) rfl)) (by decide) (by decide)) q13a q13c (g := (mkF m 214 #[.val (.int x0), .val (.int x1), .val (.int x2), .val (.int x3), .val (.int x4), .val (.ref b1), .val (.int (((x3.toUInt32 >>> ((3 : Int32) &&& 31).toUInt32).toInt32) &&& (3 : Int32))), .val .null, .val (.int (0 : Int32)), .val (.int (1 : Int32)), .unset, .unset, .unset, .unset] [(.ref b1), (.ref b1)])) rfl (by rw [hml]; rfl) (Steps.refl _) (argsL := [(.ref b1)]) (rest := []) (lenOf pd_2 rfl) rfl (by show 2 * 0 + _ ≤ _; exact Nat.le_of_eq rfl) (hb hby at_214) (fun _ _ => ⟨rfl, e12, (by decide : 1 + 0 ≤ _), (by decide : 3 + 0 ≤ _)⟩)
        dsimp only [Pt.U, Pt.locs, Pt.cells, Pt.slots] at X13 l13 y13 z13 st13 hQ13
        subst l13 y13 z13
        obtain ⟨rfl, N13q, e13⟩ := hQ13
        have N13 := Fr.app N12 N13q
        refine own_Go.of (g' := (mkF m 217 #[.val (.int x0), .val (.int x1), .val (.int x2), .val (.int x3), .val (.int x4), .val (.ref b1), .val (.int (((x3.toUInt32 >>> ((3 : Int32) &&& 31).toUInt32).toInt32) &&& (3 : Int32))), .val .null, .val (.int (0 : Int32)), .val (.int (1 : Int32)), .unset, .unset, .unset, .unset] [(.int (own_eq x0 x1 x2 x0 x1 x2))])) (fun t k => st13.trans k) ?_
        refine og_ifNo (pc' := 220) X13 hx (hb hby at_217) ((if0 _ _).trans (feq (own_eq_self0 _ _ _)).1) rfl ?_
        refine og_iconst (pc' := 221) (n := 1) X13 hx (hb hby at_220) rfl rfl ?_
        refine og_goto (pc' := 225) X13 hx (hb hby at_221) (by decide) (by decide) ?_
        obtain ⟨fs, hr, hrun, hended, hW, hsame⟩ := X13.leave (v := some (.int (1 : Int32))) (fun h => by rw [Bd.returns] at h; cases h) (BodyLoose.notSynchronized Bd)
        refine ⟨_, _, retN X13 hx (t := .boolean) Bd.returns (by simp) (hb hby at_225) hr, hrun, hended, some (.int (1 : Int32)), _, rfl, ?_, ⟨_, rfl⟩, hW, hsame.mono (by decide) (by decide)⟩
        show Q0 Z x0 x1 x2 x3 x4 h0 n0 _ T13.heap _
        rw [e13]
        exact ⟨rfl, N13⟩
      · refine og_icmpYes (pc' := 180) X2 hx (hb hby at_168) (feq hc168_9).2 (by decide) (by decide) ?_
        obtain ⟨T14, h14, X14, e14, E14, A14, D14, -, st14⟩ := newO X2 hx hZ hown (hw _ (List.mem_of_getElem? (i := 43) rfl)) (hw _ (List.mem_of_getElem? (i := 44) rfl)) (hw _ (List.mem_of_getElem? (i := 45) rfl)) rfl (g := (mkF m 180 #[.val (.int x0), .val (.int x1), .val (.int x2), .val (.int x3), .val (.int x4), .val (.ref b1), .val (.int (((x3.toUInt32 >>> ((3 : Int32) &&& 31).toUInt32).toInt32) &&& (3 : Int32))), .unset, .unset, .val (.int (1 : Int32)), .unset, .unset, .unset, .unset] [])) rfl (hb hby at_180) (by decide) (by decide)
        obtain ⟨b14, g14⟩ : ∃ z, z = T2.heap.size := ⟨_, rfl⟩
        rw [← g14] at A14 D14 st14
        have ne14_0 : b1 ≠ b14 := Nat.ne_of_lt (Nat.lt_of_lt_of_le c2_0.lt (Nat.le_of_eq g14.symm))
        have g_b14 : n0 ≤ b14 := Nat.le_trans Z2 (Nat.le_of_eq g14.symm)
        have sz_b14 : h0.size ≤ b14 := Nat.le_trans K2.1 (Nat.le_of_eq g14.symm)
        have f14_0 := c2_0.ext E14
        have f14_1 := c2_1.ext E14
        have f14_2 := c2_2.ext E14
        have f14_3 := c2_3.ext E14
        have F14_fieldIndex : Fld Z h14 b14 "com/example/capwright/capwright/cap/CapFile$InternalField" "fieldIndex" "I" (.int (0 : Int32)) := D14 (Or.inr (hw _ (List.mem_of_getElem? (i := 51) rfl))) (ty := .int) (by decide)
        have K14 : Keep h0 h14 [] := K2.ext E14
        have Z14 : n0 ≤ h14.size := Nat.le_trans Z0 K14.1
        refine own_Go.of (g' := (mkF m 183 #[.val (.int x0), .val (.int x1), .val (.int x2), .val (.int x3), .val (.int x4), .val (.ref b1), .val (.int (((x3.toUInt32 >>> ((3 : Int32) &&& 31).toUInt32).toInt32) &&& (3 : Int32))), .unset, .unset, .val (.int (1 : Int32)), .unset, .unset, .unset, .unset] [(.ref b14)])) (fun t k => st14 _ k) ?_
        refine og_dup (pc' := 184) X14 hx (hb hby at_183) rfl rfl ?_
        refine og_iloadN (pc' := 185) X14 hx (hb hby at_184) rfl rfl ?_
        obtain ⟨_, _, ⟨T15, L15, k15, n15⟩, -, X15, ⟨Lc15, hQ15, l15, y15, z15⟩, st15⟩ := X14.specialBack hx (y := (⟨"com/example/capwright/capwright/cap/CapFile$InternalField", "<init>", "(I)V"⟩ : MethodName)) rfl hown (mvT hZ (hw _ (List.mem_of_getElem? (i := 46) rfl))) (mvT hZ (hw _ (List.mem_of_getElem? (i := 47) rfl))) (mvT hZ (hw _ (List.mem_of_getElem? (i := 48) rfl))) (by decide) (backOf (W := 1) (rmIF l Z a0 hw [] b14 x0 (.int (0 : Int32)) h14 n0 Z14 A14 F14_fieldIndex g_b14) hZ (hw _ (List.mem_of_getElem? (i := 48) rfl)) (hw _ (List.mem_of_getElem? (i := 45) rfl)) (by decide) (by decide)) (g := (mkF m 185 #[.val (.int x0), .val (.int x1), .val (.int x2), .val (.int x3), .val (.int x4), .val (.ref b1), .val (.int (((x3.toUInt32 >>> ((3 : Int32) &&& 31).toUInt32).toInt32) &&& (3 : Int32))), .unset, .unset, .val (.int (1 : Int32)), .unset, .unset, .unset, .unset] [(.int x0), (.ref b14), (.ref b14)])) rfl (by rw [hml]; rfl) (Steps.refl _) (a := b14) (argsL := [(.int x0)]) (rest := [(.ref b14)]) (lenOf pd_3 rfl) rfl (by show 2 * 0 + _ ≤ _; exact Nat.le_of_eq rfl) (hb hby at_185) (fun _ _ => ⟨rfl, e14, (by decide : 2 + 0 ≤ _), (by decide : 4 + 0 ≤ _)⟩)
        dsimp only [Pt.U, Pt.locs, Pt.cells, Pt.slots] at X15 l15 y15 z15 st15 hQ15
        subst l15 y15 z15
        obtain ⟨rfl, N15q, K15q, c15_0, c15_1⟩ := hQ15
        have N15 := Fr.app N2 N15q
        have f15_0 := f14_0.keep K15q
        have f15_1 := f14_1.keep K15q (ninS ne14_0 nin0)
        have f15_2 := f14_2.keep K15q (ninS ne14_0 nin0)
        have f15_3 := f14_3.keep K15q (ninS ne14_0 nin0)
        have f15_4 := A14.keep K15q
        have K15 : Keep h0 T15.heap [] := K14.trans K15q (allS (Or.inr sz_b14) all0)
        have Z15 : n0 ≤ T15.heap.size := Nat.le_trans Z0 K15.1
        refine own_Go.of (g' := (mkF m 188 #[.val (.int x0), .val (.int x1), .val (.int x2), .val (.int x3), .val (.int x4), .val (.ref b1), .val (.int (((x3.toUInt32 >>> ((3 : Int32) &&& 31).toUInt32).toInt32) &&& (3 : Int32))), .unset, .unset, .val (.int (1 : Int32)), .unset, .unset, .unset, .unset] [(.ref b14)])) (fun t k => st15.trans k) ?_
        refine og_astore (pc' := 190) (L' := #[.val (.int x0), .val (.int x1), .val (.int x2), .val (.int x3), .val (.int x4), .val (.ref b1), .val (.int (((x3.toUInt32 >>> ((3 : Int32) &&& 31).toUInt32).toInt32) &&& (3 : Int32))), .val (.ref b14), .unset, .val (.int (1 : Int32)), .unset, .unset, .unset, .unset]) X15 hx (hb hby at_188) rfl rfl rfl ?_
        refine og_iconst (pc' := 191) (n := 0) X15 hx (hb hby at_190) rfl rfl ?_
        refine og_istore (pc' := 193) (L' := #[.val (.int x0), .val (.int x1), .val (.int x2), .val (.int x3), .val (.int x4), .val (.ref b1), .val (.int (((x3.toUInt32 >>> ((3 : Int32) &&& 31).toUInt32).toInt32) &&& (3 : Int32))), .val (.ref b14), .val (.int (0 : Int32)), .val (.int (1 : Int32)), .unset, .unset, .unset, .unset]) X15 hx (hb hby at_191) rfl rfl ?_
        refine og_aload (pc' := 195) X15 hx (hb hby at_193) rfl rfl rfl ?_
        refine og_aload (pc' := 197) X15 hx (hb hby at_195) rfl rfl rfl ?_
        obtain ⟨cq16, kq16, q16a, q16b, q16c⟩ := isOf hZ rfl f15_0
        obtain ⟨_, _, ⟨T16, L16, k16, n16⟩, -, X16, ⟨Lc16, hQ16, l16, y16, z16⟩, st16⟩ := X15.virtualBack hx (y := (⟨"com/example/capwright/capwright/cap/CapFile$ExternalField", "equals", "(Ljava/lang/Object;)Z"⟩ : MethodName)) (z := (⟨"com/example/capwright/capwright/cap/CapFile$ExternalField", "equals", "(Ljava/lang/Object;)Z"⟩ : MethodName)) hown (mvT hZ (hw _ (List.mem_of_getElem? (i := 20) rfl))) (mvT hZ (hw _ (List.mem_of_getElem? (i := 21) rfl))) (notFace_of_selects (args := #[]) (mvT hZ (hw _ (List.mem_of_getElem? (i := 23) rfl)))) (mvT hZ (hw _ (List.mem_of_getElem? (i := 23) rfl))) (mvT hZ (hw _ (List.mem_of_getElem? (i := 22) rfl))) (by decide) (backOf (W := 0) (rmeqD l Z a0 hw [] b1 b14 T15.heap n0 Z15 c15_0) hZ (hw _ (List.mem_of_getElem? (i := 24) rfl)) (hw _ (List.mem_of_getElem? (i := 2) rfl)) (by decide) (by decide)) q16a q16c (g := (mkF m 197 #[.val (.int x0), .val (.int x1), .val (.int x2), .val (.int x3), .val (.int x4), .val (.ref b1), .val (.int (((x3.toUInt32 >>> ((3 : Int32) &&& 31).toUInt32).toInt32) &&& (3 : Int32))), .val (.ref b14), .val (.int (0 : Int32)), .val (.int (1 : Int32)), .unset, .unset, .unset, .unset] [(.ref b14), (.ref b1)])) rfl (by rw [hml]; rfl) (Steps.refl _) (argsL := [(.ref b14)]) (rest := []) (lenOf pd_2 rfl) rfl (by show 2 * 0 + _ ≤ _; exact Nat.le_of_eq rfl) (hb hby at_197) (fun _ _ => ⟨rfl, rfl, (by decide : 2 + 0 ≤ _), (by decide : 4 + 0 ≤ _)⟩)
        dsimp only [Pt.U, Pt.locs, Pt.cells, Pt.slots] at X16 l16 y16 z16 st16 hQ16
        subst l16 y16 z16
        obtain ⟨rfl, N16q, e16⟩ := hQ16
        have N16 := Fr.app N15 N16q
        refine own_Go.of (g' := (mkF m 200 #[.val (.int x0), .val (.int x1), .val (.int x2), .val (.int x3), .val (.int x4), .val (.ref b1), .val (.int (((x3.toUInt32 >>> ((3 : Int32) &&& 31).toUInt32).toInt32) &&& (3 : Int32))), .val (.ref b14), .val (.int (0 : Int32)), .val (.int (1 : Int32)), .unset, .unset, .unset, .unset] [(.int (0 : Int32))])) (fun t k => st16.trans k) ?_
        refine og_iload (pc' := 202) X16 hx (hb hby at_200) rfl rfl ?_
        refine og_icmpNo (pc' := 205) X16 hx (hb hby at_202) (teq (by decide)).2 rfl ?_
        refine og_iload (pc' := 207) X16 hx (hb hby at_205) rfl rfl ?_
        refine og_ifNo (pc' := 210) X16 hx (hb hby at_207) ((if0 _ _).trans (feq (by decide)).1) rfl ?_
        refine og_aload (pc' := 212) X16 hx (hb hby at_210) rfl rfl rfl ?_
        refine og_aload (pc' := 214) X16 hx (hb hby at_212) rfl rfl rfl ?_
        obtain ⟨cq17, kq17, q17a, q17b, q17c⟩ := isOf hZ e16 f15_0
        obtain ⟨_, _, ⟨T17, L17, k17, n17⟩, -, X17, ⟨Lc17, hQ17, l17, y17, z17⟩, st17⟩ := X16.virtualBack hx (y := (⟨"com/example/capwright/capwright/cap/CapFile$ExternalField", "equals", "(Ljava/lang/Object;)Z"⟩ : MethodName)) (z := (⟨"com/example/capwright/capwright/cap/CapFile$ExternalField", "equals", "(Ljava/lang/Object;)Z"⟩ : MethodName)) hown (mvT hZ (hw _ (List.mem_of_getElem? (i := 20) rfl))) (mvT hZ (hw _ (List.mem_of_getElem? (i := 21) rfl))) (notFace_of_selects (args := #[]) (mvT hZ (hw _ (List.mem_of_getElem? (i := 23) rfl)))) (mvT hZ (hw _ (List.mem_of_getElem? (i := 23) rfl))) (mvT hZ (hw _ (List.mem_of_getElem? (i := 22) rfl))) (by decide) (backOf (W := 0) (rmeqA l Z a0 hw [] b1 b1 x0 x1 x2 x0 x1 x2 T15.heap n0 Z15 f15_1 f15_2 f15_3 f15_1 f15_2 f15_3 f15_0) hZ (hw _ (List.mem_of_getElem? (i := 24) rfl)) (hw _ (List.mem_of_getElem? (i := 2) rfl)) (by decide) (by decide)) q17a q17c (g := (mkF m 214 #[.val (.int x0), .val (.int x1), .val (.int x2), .val (.int x3), .val (.int x4), .val (.ref b1), .val (.int (((x3.toUInt32 >>> ((3 : Int32) &&& 31).toUInt32).toInt32) &&& (3 : Int32))), .val (.ref b14), .val (.int (0 : Int32)), .val (.int (1 : Int32)), .unset, .unset, .unset, .unset] [(.ref b1), (.ref b1)])) rfl (by rw [hml]; rfl) (Steps.refl _) (argsL := [(.ref b1)]) (rest := []) (lenOf pd_2 rfl) rfl (by show 2 * 0 + _ ≤ _; exact Nat.le_of_eq rfl) (hb hby at_214) (fun _ _ => ⟨rfl, e16, (by decide : 2 + 0 ≤ _), (by decide : 4 + 0 ≤ _)⟩)
        dsimp only [Pt.U, Pt.locs, Pt.cells, Pt.slots] at X17 l17 y17 z17 st17 hQ17
        subst l17 y17 z17
        obtain ⟨rfl, N17q, e17⟩ := hQ17
        have N17 := Fr.app N16 N17q
        refine own_Go.of (g' := (mkF m 217 #[.val (.int x0), .val (.int x1), .val (.int x2), .val (.int x3), .val (.int x4), .val (.ref b1), .val (.int (((x3.toUInt32 >>> ((3 : Int32) &&& 31).toUInt32).toInt32) &&& (3 : Int32))), .val (.ref b14), .val (.int (0 : Int32)), .val (.int (1 : Int32)), .unset, .unset, .unset, .unset] [(.int (own_eq x0 x1 x2 x0 x1 x2))])) (fun t k => st17.trans k) ?_
        refine og_ifNo (pc' := 220) X17 hx (hb hby at_217) ((if0 _ _).trans (feq (own_eq_self0 _ _ _)).1) rfl ?_
        refine og_iconst (pc' := 221) (n := 1) X17 hx (hb hby at_220) rfl rfl ?_
        refine og_goto (pc' := 225) X17 hx (hb hby at_221) (by decide) (by decide) ?_
        obtain ⟨fs, hr, hrun, hended, hW, hsame⟩ := X17.leave (v := some (.int (1 : Int32))) (fun h => by rw [Bd.returns] at h; cases h) (BodyLoose.notSynchronized Bd)
        refine ⟨_, _, retN X17 hx (t := .boolean) Bd.returns (by simp) (hb hby at_225) hr, hrun, hended, some (.int (1 : Int32)), _, rfl, ?_, ⟨_, rfl⟩, hW, hsame.mono (by decide) (by decide)⟩
        show Q0 Z x0 x1 x2 x3 x4 h0 n0 _ T17.heap _
        rw [e17]
        exact ⟨rfl, N17⟩

set_option maxRecDepth 65536 in
set_option maxHeartbeats 40000000 in
theorem comes_1 {Post : Tables → Env → Array Value → State → Outcome → State → Prop} (hpost : ∀ tb e args s v u, (limb_1_1.after args s (.returned v) u = true ∧ limb_1_2.after args s (.returned v) u = true ∧ True) → FrameEnd s (.returned v) u (Jvm.fieldLocs frame_1_writes args s ++ Jvm.arrayLocs frame_1_arrays args s ++ Jvm.staticLocs frame_1_statics s) 16 128 → Post tb e args s (.returned v) u) :
    ArmFor flags0 classFile x code maxLocals ret World_1 tables_1 room_1 Calls_1 rest_1 Pre_1 Post := by
  intro l hfl _ _ p e ha hc hk s m args below hf hA hF happ hP
  obtain ⟨hcalls, hrest, hpre⟩ := hP
  obtain ⟨-, -, -, hnamed, -, -, -, hat⟩ := (Spec.applies_iff hf).mp happ
  obtain ⟨hg, hn⟩ := and_e (Cond.before_iff.mp (show (Jvm.Cond.and given_1 narrow_1).before args s = true from hpre))
  obtain ⟨hcnt, hg0⟩ := and_e hg
  obtain ⟨a0, hg1⟩ := and_e hg0
  obtain ⟨a1, hg2⟩ := and_e hg1
  obtain ⟨a2, hg3⟩ := and_e hg2
  obtain ⟨a3, hg4⟩ := and_e hg3
  obtain ⟨w0, w1, w2, w3, w4, rfl⟩ : ∃ w0 w1 w2 w3 w4 : Value, args = #[w0, w1, w2, w3, w4] := by
    have hs : args.size = 5 := by simpa [Cond.value, given_1] using hcnt
    obtain ⟨L⟩ := args
    match L, hs with
    | [w0, w1, w2, w3, w4], _ => exact ⟨w0, w1, w2, w3, w4, rfl⟩
  have hw := fun d (hd : d ∈ tables_1) => atoms_spec (ws := Jvm.Cond.code x code maxLocals ret :: tables_1) hat d (List.mem_cons_of_mem _ hd)
  have hfit : Fit s := fun {y c} hc i hi => by
    obtain ⟨ha, rfl⟩ := Array.getElem?_eq_some_iff.mp hc
    have q := List.all_eq_true.mp ((Array.all_eq_true_iff_forall_mem.mp hF) _ (Array.getElem_mem ha)) i (List.mem_range.mpr hi)
    simpa [Array.getElem?_eq_getElem hi] using q
  obtain ⟨i0, ei0⟩ := is_v a0
  obtain rfl : w0 = (.int i0) := Option.some.inj ei0
  obtain ⟨i1, ei1⟩ := is_v a1
  obtain rfl : w1 = (.int i1) := Option.some.inj ei1
  obtain ⟨i2, ei2⟩ := is_v a2
  obtain rfl : w2 = (.int i2) := Option.some.inj ei2
  obtain ⟨i3, ei3⟩ := is_v a3
  obtain rfl : w3 = (.int i3) := Option.some.inj ei3
  obtain ⟨i4, ei4⟩ := is_v hg4
  obtain rfl : w4 = (.int i4) := Option.some.inj ei4
  obtain ⟨n, o, h1, h2, h3, _, L, rfl, ⟨rfl, N⟩, hq⟩ := rm0 l s _ hw tables_1 i0 i1 i2 i3 i4  s.heap s.heap.size (Nat.le_refl _)  p e ha hc hk s m _ below hf ((Spec.applies_iff_loose hf).mp happ).1 ⟨rfl, State.Warmed39.refl s, rfl⟩ trivial
  refine ⟨n, _, h1, h2, h3, hpost _ _ _ _ _ _ ⟨Cond.after_iff.mpr rfl, Cond.after_iff.mpr (eq_i res_at (Term.int_eval (1)) rfl), trivial⟩ ⟨hq.1, hq.2.1, (hq.2.2.sift fun y hy => Or.inr (N y hy)).mono (by decide) (by decide)⟩⟩
theorem main_1_1 : Claimed_1_1 := comes_1 fun _ _ _ _ _ _ h hF => ⟨h.1, hF⟩
theorem main_1_2 : Claimed_1_2 := comes_1 fun _ _ _ _ _ _ h hF => ⟨h.2.1, hF⟩

end Jvm.Pilot.@@N@@
namespace Jvm.Pilot.@@N@@
open Jvm Jvm.ClassFile Sem Op Lib Jvm.Free Jvm.Stand Jvm.Pilot.@@N@@.Jvm.D
/-! MADE BY PROGRAM (witnessworld.py) out of the Statement's table words and the real class files: 14 classes; the members and pool entries that the words name. The judged class is class 1, her method 1. -/
namespace start1
open Jvm.ClassFile
def u (s : String) : CpInfo := .utf8 (stringToUtf16 s)
/-- a pool by its gaps: so many unusable entries, then the entry; so many at the end -/
def gap : Nat → List CpInfo → List CpInfo
  | 0, r => r
  | n + 1, r => .unusable :: gap n r
def poolList (es : List (Nat × CpInfo)) (last : Nat) : List CpInfo := es.foldr (fun e r => gap e.1 (e.2 :: r)) (gap last [])
def pool (es : List (Nat × CpInfo)) (last : Nat) : Array CpInfo := ⟨poolList es last⟩
def fileOf (pool : Array CpInfo) (this : Nat) (attrs : Array Attribute := #[]) (ms : Array MethodInfo := #[]) (fl : Nat := 33) (sup : Nat := 0) (ifs : Array Nat := #[]) (fds : Array FieldInfo := #[]) : ClassFile where
  minorVersion := 0
  majorVersion := 65
  constantPool := pool
  accessFlags := fl
  thisClass := this
  superClass := sup
  interfaces := ifs
  fields := fds
  methods := ms
  attributes := attrs
def plain (name : String) (sup : Option ClassId) : Class where
  name := name
  kind := .ordinary
  loader := none
  accessFlags := 33
  super := sup
  interfaces := #[]
  cf := none
  fields := #[]
  methods := #[]
  instanceTypes := #[]
  staticTypes := #[]
  resolved := #[]
  callSites := []
  init := .initialized
  statics := none
  mirror := none

def pool0 : Array CpInfo := pool [(5, u "<init>"), (0, u "()V"), (1, .class_ 10), (1, u "java/lang/Object")] 113

def k0c0 : Code := { maxStack := 0, maxLocals := 1, code := object_method_1_code, exceptionTable := #[], attributes := #[] }
def k0m0 : Method := { name := "<init>", desc := "()V", sig := { parameters := [], returnType := none }, accessFlags := 1, code := some k0c0 }
/-- java/lang/Object -/
def k0 : Class := { plain "java/lang/Object" none with
  accessFlags := 33
  interfaces := #[]
  cf := some (fileOf pool0 8 #[] #[{ accessFlags := 1, nameIndex := 5, descriptorIndex := 6, attributes := #[] }] 33 0 #[] #[])
  fields := #[]
  methods := #[k0m0]
  instanceTypes := #[]
  staticTypes := #[]
  resolved := Array.replicate 124 none
  statics := none }

def pool1 : Array CpInfo := pool [(2, .class_ 4), (1, u "java/lang/Object"), (0, u "<init>"), (0, u "()V"), (0, .class_ 8), (0, u "com/example/capwright/capwright/cap/CapFile$ExternalField"), (0, .methodref 7 10), (0, .nameAndType 5 11), (0, u "(III)V"), (0, .methodref 7 13), (0, .nameAndType 14 15), (0, u "equals"), (0, u "(Ljava/lang/Object;)Z"), (0, .class_ 17), (0, u "com/example/capwright/capwright/cap/CapFile$ExternalMethod"), (0, .methodref 16 10), (0, .class_ 20), (0, u "com/example/capwright/capwright/cap/CapFile$InternalField"), (0, .methodref 19 22), (0, .nameAndType 5 23), (0, u "(I)V"), (0, .class_ 25), (0, u "com/example/capwright/capwright/cap/ExternalFieldEqualsPinLaw"), (2, u "law"), (0, u "(IIIII)Z")] 9

def k1m0 : Method := { name := "<init>", desc := "()V", sig := { parameters := [], returnType := none }, accessFlags := 1, code := none }
def k1c1 : Code := { maxStack := 5, maxLocals := 14, code := code, exceptionTable := #[], attributes := #[] }
def k1m1 : Method := { name := "law", desc := "(IIIII)Z", sig := { parameters := [.int, .int, .int, .int, .int], returnType := some .boolean }, accessFlags := 9, code := some k1c1 }
/-- com/example/capwright/capwright/cap/ExternalFieldEqualsPinLaw -/
def k1 : Class := { plain "com/example/capwright/capwright/cap/ExternalFieldEqualsPinLaw" (some 0) with
  accessFlags := 49
  interfaces := #[]
  cf := some (fileOf pool1 24 #[] #[{ accessFlags := 1, nameIndex := 5, descriptorIndex := 6, attributes := #[] }, { accessFlags := 9, nameIndex := 28, descriptorIndex := 29, attributes := #[] }] 49 2 #[] #[])
  fields := #[]
  methods := #[k1m0, k1m1]
  instanceTypes := #[]
  staticTypes := #[]
  resolved := Array.replicate 39 none
  statics := none }

def pool2 : Array CpInfo := pool [(1, .methodref 2 3), (0, .class_ 4), (0, .nameAndType 5 6), (0, u "java/lang/Object"), (0, u "<init>"), (0, u "()V"), (0, .class_ 8), (0, u "java/lang/Record")] 13

def k2c0 : Code := { maxStack := 1, maxLocals := 1, code := jdk_30_method_1_code, exceptionTable := #[], attributes := #[] }
def k2m0 : Method := { name := "<init>", desc := "()V", sig := { parameters := [], returnType := none }, accessFlags := 4, code := some k2c0 }
/-- java/lang/Record -/
def k2 : Class := { plain "java/lang/Record" (some 0) with
  accessFlags := 1057
  interfaces := #[]
  cf := some (fileOf pool2 7 #[] #[{ accessFlags := 4, nameIndex := 5, descriptorIndex := 6, attributes := #[] }] 1057 2 #[] #[])
  fields := #[]
  methods := #[k2m0]
  instanceTypes := #[]
  staticTypes := #[]
  resolved := Array.replicate 22 none
  statics := none }

def pool3 : Array CpInfo := pool [(1, .class_ 2), (0, u "com/example/capwright/capwright/cap/CapFile$StaticFieldRef"), (0, .class_ 4), (0, u "java/lang/Object"), (3, .class_ 9), (0, u "com/example/capwright/capwright/cap/CapFile")] 9

/-- com/example/capwright/capwright/cap/CapFile$StaticFieldRef -/
def k3 : Class := { plain "com/example/capwright/capwright/cap/CapFile$StaticFieldRef" (some 0) with
  accessFlags := 1537
  interfaces := #[]
  cf := some (fileOf pool3 1 #[.nestHost 8] #[] 1537 3 #[] #[])
  fields := #[]
  methods := #[]
  instanceTypes := #[]
  staticTypes := #[]
  resolved := Array.replicate 19 none
  statics := none }

def pool4 : Array CpInfo := pool [(1, .methodref 2 3), (0, .class_ 4), (0, .nameAndType 5 6), (0, u "java/lang/Record"), (0, u "<init>"), (0, u "()V"), (0, .fieldref 8 9), (0, .class_ 10), (0, .nameAndType 11 12), (0, u "com/example/capwright/capwright/cap/CapFile$ExternalField"), (0, u "packageToken"), (0, u "I"), (0, .fieldref 8 14), (0, .nameAndType 15 12), (0, u "classToken"), (0, .fieldref 8 17), (0, .nameAndType 18 12), (0, u "token"), (4, .class_ 24), (0, u "com/example/capwright/capwright/cap/CapFile$StaticFieldRef"), (0, u "(III)V"), (3, u "equals"), (0, u "(Ljava/lang/Object;)Z"), (7, .class_ 39), (0, u "com/example/capwright/capwright/cap/CapFile")] 22

def k4c0 : Code := { maxStack := 2, maxLocals := 4, code := prog_20_method_1_code, exceptionTable := #[], attributes := #[] }
def k4m0 : Method := { name := "<init>", desc := "(III)V", sig := { parameters := [.int, .int, .int], returnType := none }, accessFlags := 1, code := some k4c0 }
def k4c1 : Code := { maxStack := 2, maxLocals := 3, code := prog_20_method_2_code, exceptionTable := #[], attributes := #[] }
def k4m1 : Method := { name := "equals", desc := "(Ljava/lang/Object;)Z", sig := { parameters := [(.object "java/lang/Object")], returnType := some .boolean }, accessFlags := 1, code := some k4c1 }
/-- com/example/capwright/capwright/cap/CapFile$ExternalField -/
def k4 : Class := { plain "com/example/capwright/capwright/cap/CapFile$ExternalField" (some 2) with
  accessFlags := 49
  interfaces := #[3]
  cf := some (fileOf pool4 8 #[.nestHost 38] #[{ accessFlags := 1, nameIndex := 5, descriptorIndex := 25, attributes := #[] }, { accessFlags := 1, nameIndex := 29, descriptorIndex := 30, attributes := #[] }] 49 2 #[23] #[{ accessFlags := 18, nameIndex := 11, descriptorIndex := 12, attributes := #[] }, { accessFlags := 18, nameIndex := 15, descriptorIndex := 12, attributes := #[] }, { accessFlags := 18, nameIndex := 18, descriptorIndex := 12, attributes := #[] }])
  fields := #[{ name := "packageToken", type := .int, accessFlags := 18, slot := 0, constantValue := 0 }, { name := "classToken", type := .int, accessFlags := 18, slot := 1, constantValue := 0 }, { name := "token", type := .int, accessFlags := 18, slot := 2, constantValue := 0 }]
  methods := #[k4m0, k4m1]
  instanceTypes := #[.int, .int, .int]
  staticTypes := #[]
  resolved := Array.replicate 62 none
  statics := none }

def pool5 : Array CpInfo := pool [(1, .class_ 2), (0, u "com/example/capwright/capwright/cap/CapFile$StaticMethodRef"), (0, .class_ 4), (0, u "java/lang/Object"), (3, .class_ 9), (0, u "com/example/capwright/capwright/cap/CapFile")] 9

/-- com/example/capwright/capwright/cap/CapFile$StaticMethodRef -/
def k5 : Class := { plain "com/example/capwright/capwright/cap/CapFile$StaticMethodRef" (some 0) with
  accessFlags := 1537
  interfaces := #[]
  cf := some (fileOf pool5 1 #[.nestHost 8] #[] 1537 3 #[] #[])
  fields := #[]
  methods := #[]
  instanceTypes := #[]
  staticTypes := #[]
  resolved := Array.replicate 19 none
  statics := none }

def pool6 : Array CpInfo := pool [(1, .methodref 2 3), (0, .class_ 4), (0, .nameAndType 5 6), (0, u "java/lang/Record"), (0, u "<init>"), (0, u "()V"), (0, .fieldref 8 9), (0, .class_ 10), (0, .nameAndType 11 12), (0, u "com/example/capwright/capwright/cap/CapFile$ExternalMethod"), (0, u "packageToken"), (0, u "I"), (0, .fieldref 8 14), (0, .nameAndType 15 12), (0, u "classToken"), (0, .fieldref 8 17), (0, .nameAndType 18 12), (0, u "token"), (4, .class_ 24), (0, u "com/example/capwright/capwright/cap/CapFile$StaticMethodRef"), (0, u "(III)V"), (12, .class_ 39), (0, u "com/example/capwright/capwright/cap/CapFile")] 22

def k6c0 : Code := { maxStack := 2, maxLocals := 4, code := prog_21_method_1_code, exceptionTable := #[], attributes := #[] }
def k6m0 : Method := { name := "<init>", desc := "(III)V", sig := { parameters := [.int, .int, .int], returnType := none }, accessFlags := 1, code := some k6c0 }
/-- com/example/capwright/capwright/cap/CapFile$ExternalMethod -/
def k6 : Class := { plain "com/example/capwright/capwright/cap/CapFile$ExternalMethod" (some 2) with
  accessFlags := 49
  interfaces := #[5]
  cf := some (fileOf pool6 8 #[.nestHost 38] #[{ accessFlags := 1, nameIndex := 5, descriptorIndex := 25, attributes := #[] }] 49 2 #[23] #[{ accessFlags := 18, nameIndex := 11, descriptorIndex := 12, attributes := #[] }, { accessFlags := 18, nameIndex := 15, descriptorIndex := 12, attributes := #[] }, { accessFlags := 18, nameIndex := 18, descriptorIndex := 12, attributes := #[] }])
  fields := #[{ name := "packageToken", type := .int, accessFlags := 18, slot := 0, constantValue := 0 }, { name := "classToken", type := .int, accessFlags := 18, slot := 1, constantValue := 0 }, { name := "token", type := .int, accessFlags := 18, slot := 2, constantValue := 0 }]
  methods := #[k6m0]
  instanceTypes := #[.int, .int, .int]
  staticTypes := #[]
  resolved := Array.replicate 62 none
  statics := none }

def pool7 : Array CpInfo := pool [(1, .methodref 2 3), (0, .class_ 4), (0, .nameAndType 5 6), (0, u "java/lang/Record"), (0, u "<init>"), (0, u "()V"), (0, .fieldref 8 9), (0, .class_ 10), (0, .nameAndType 11 12), (0, u "com/example/capwright/capwright/cap/CapFile$InternalField"), (0, u "fieldIndex"), (0, u "I"), (4, .class_ 18), (0, u "com/example/capwright/capwright/cap/CapFile$StaticFieldRef"), (0, u "(I)V"), (12, .class_ 33), (0, u "com/example/capwright/capwright/cap/CapFile")] 19

def k7c0 : Code := { maxStack := 2, maxLocals := 2, code := prog_26_method_1_code, exceptionTable := #[], attributes := #[] }
def k7m0 : Method := { name := "<init>", desc := "(I)V", sig := { parameters := [.int], returnType := none }, accessFlags := 1, code := some k7c0 }
/-- com/example/capwright/capwright/cap/CapFile$InternalField -/
def k7 : Class := { plain "com/example/capwright/capwright/cap/CapFile$InternalField" (some 2) with
  accessFlags := 49
  interfaces := #[3]
  cf := some (fileOf pool7 8 #[.nestHost 32] #[{ accessFlags := 1, nameIndex := 5, descriptorIndex := 19, attributes := #[] }] 49 2 #[17] #[{ accessFlags := 18, nameIndex := 11, descriptorIndex := 12, attributes := #[] }])
  fields := #[{ name := "fieldIndex", type := .int, accessFlags := 18, slot := 0, constantValue := 0 }]
  methods := #[k7m0]
  instanceTypes := #[.int]
  staticTypes := #[]
  resolved := Array.replicate 53 none
  statics := none }

def pool8 : Array CpInfo := pool [(1, u "java/lang/Cloneable"), (0, .class_ 1), (0, u "java/lang/Object"), (0, .class_ 3)] 3

/-- java/lang/Cloneable -/
def k8 : Class := { plain "java/lang/Cloneable" (some 0) with
  accessFlags := 1537
  interfaces := #[]
  cf := some (fileOf pool8 2 #[] #[] 1537 4 #[] #[])
  fields := #[]
  methods := #[]
  instanceTypes := #[]
  staticTypes := #[]
  resolved := Array.replicate 8 none
  statics := none }

def pool9 : Array CpInfo := pool [(1, u "java/io/Serializable"), (0, .class_ 1), (0, u "java/lang/Object"), (0, .class_ 3)] 3

/-- java/io/Serializable -/
def k9 : Class := { plain "java/io/Serializable" (some 0) with
  accessFlags := 1537
  interfaces := #[]
  cf := some (fileOf pool9 2 #[] #[] 1537 4 #[] #[])
  fields := #[]
  methods := #[]
  instanceTypes := #[]
  staticTypes := #[]
  resolved := Array.replicate 8 none
  statics := none }

/-- the primitive byte -/
def k10 : Class := { plain "byte" none with kind := .primitive 'B', accessFlags := 0x411 }
/-- [B -/
def k11 : Class := { plain "[B" (some 0) with kind := .array 10 .byte, interfaces := #[8, 9], accessFlags := 1041 }

/-- the primitive int -/
def k12 : Class := { plain "int" none with kind := .primitive 'I', accessFlags := 0x411 }
/-- [I -/
def k13 : Class := { plain "[I" (some 0) with kind := .array 12 .int, interfaces := #[8, 9], accessFlags := 1041 }

def heap : Heap := #[]
def classes : Array Class := #[k0, k1, k2, k3, k4, k5, k6, k7, k8, k9, k10, k11, k12, k13]
def interned : List (Array UInt16 × Addr) := []
def slotsUsed : Nat := 0
def theMethod : MethodId := ⟨1, 1⟩
def args0 : Array Value := #[.int 5, .int 6, .int 7, .int 8, .int 3]
def aboutOver (below : List Frame) : State where
  vm := { classes := classes, interned := interned.toArray }
  heap := heap
  slotsUsed := slotsUsed
  threads := #[{ frames := .invoking theMethod args0 :: below }]
def below0 : List Frame := [.native { method := ⟨0, 0⟩, args := #[] }]
def about1 : State := aboutOver below0
def p0 : Program := .bare "" "" ""
def e0 : Env := launch0.env 0 0 0
theorem w_frames : about1.frames = Frame.invoking theMethod args0 :: below0 := rfl
set_option maxRecDepth 65536 in
theorem w_args : argsFit about1.vm theMethod args0 = true := by decide +kernel
set_option maxRecDepth 65536 in
theorem w_heap : heapFits about1 = true := by decide +kernel
set_option maxRecDepth 65536 in
theorem w_runnable : about1.curStatus? = some .runnable := by decide +kernel
set_option maxRecDepth 65536 in
theorem w_alone : about1.alone = true := by decide +kernel
set_option maxRecDepth 65536 in
theorem w_named : about1.methodNamed? x = some theMethod := by decide +kernel
set_option maxRecDepth 65536 in
theorem w_hears : about1.hears theMethod below0 = true := by decide +kernel
set_option maxRecDepth 65536 in
theorem w_ripe : about1.ripe theMethod args0 below0 = true := by decide +kernel
theorem w_running : about1.status = .running := rfl
set_option maxRecDepth 65536 in
theorem w_room : about1.hasRoom e0.platform room_1 = true :=
  launch0.hasRoom_least _ room_1 (by decide +kernel) (by decide +kernel) (by decide +kernel) (by decide +kernel) (by decide +kernel) (by decide +kernel)
theorem allAtoms_all (ts : List Jvm.Cond) (a : Array Jvm.Value) (st : Jvm.State) : (allAtoms ts).before a st = ts.all (fun c => c.before a st) := by
  induction ts with
  | nil => rfl
  | cons c t ih =>
    show (Jvm.Cond.and c (allAtoms t)).before a st = _
    rw [Jvm.Cond.before_and, ih, List.all_cons]
def words1 : List Jvm.Cond := Jvm.Cond.code x code maxLocals ret :: tables_1
/-- a 'code' word, met by the world's own term for the bytes: nothing is compared byte by byte -/
theorem code_word {y : MethodName} {bytes : ByteArray} {mx : Nat} {rt : Option FieldType} {a : Array Value} {s : State} {m : MethodId} {meth : Method} {c : Code} (h1 : s.methodNamed? y = some m) (h2 : s.vm.method? m = some meth) (h3 : meth.code = some c) (h4 : c.code = bytes)
    (h5 : (c.maxLocals == mx && c.exceptionTable.isEmpty && decide (c.maxStack ≤ mostOperands) && decide (meth.sig.returnType = rt) && !meth.locks && decide (parseMethodDescriptor y.desc = some meth.sig)) = true) : (Jvm.Cond.code y bytes mx rt).before a s = true := by
  simp only [Bool.and_eq_true, beq_iff_eq, Bool.not_eq_true', decide_eq_true_eq] at h5
  obtain ⟨⟨⟨⟨⟨g1, g2⟩, g3⟩, g4⟩, g5⟩, g6⟩ := h5
  simp [Cond.before, Cond.holds, Cond.value, h1, h2, h3, h4, g1, g2, g3, g4, g5, g6]
def isCode : Jvm.Cond → Bool
  | .code _ _ _ _ => true
  | _ => false
theorem all_split {L : List Jvm.Cond} {P : Jvm.Cond → Bool} (h1 : L.all (fun c => isCode c || P c) = true) (h2 : ∀ c ∈ L.filter isCode, P c = true) : L.all P = true := by
  refine List.all_eq_true.mpr fun c hc => ?_
  have h := List.all_eq_true.mp h1 c hc
  rcases Bool.eq_false_or_eq_true (isCode c) with hi | hi
  · exact h2 c (List.mem_filter.mpr ⟨hc, hi⟩)
  · simpa [hi] using h
set_option maxRecDepth 65536 in
theorem w_c0 : (Jvm.Cond.code x code maxLocals ret).before args0 about1 = true := code_word (m := ⟨1, 1⟩) (meth := k1m1) (c := k1c1) (by decide +kernel) rfl rfl rfl (by decide +kernel)
set_option maxRecDepth 65536 in
theorem w_c1 : (Jvm.Cond.code ({ cls := "com/example/capwright/capwright/cap/CapFile$ExternalField", name := "<init>", desc := "(III)V" } : Jvm.MethodName) prog_20_method_1_code (4 : Nat) (Option.none : Option Jvm.ClassFile.FieldType)).before args0 about1 = true := code_word (m := ⟨4, 0⟩) (meth := k4m0) (c := k4c0) (by decide +kernel) rfl rfl rfl (by decide +kernel)
set_option maxRecDepth 65536 in
theorem w_c2 : (Jvm.Cond.code ({ cls := "java/lang/Record", name := "<init>", desc := "()V" } : Jvm.MethodName) jdk_30_method_1_code (1 : Nat) (Option.none : Option Jvm.ClassFile.FieldType)).before args0 about1 = true := code_word (m := ⟨2, 0⟩) (meth := k2m0) (c := k2c0) (by decide +kernel) rfl rfl rfl (by decide +kernel)
set_option maxRecDepth 65536 in
theorem w_c3 : (Jvm.Cond.code ({ cls := "java/lang/Object", name := "<init>", desc := "()V" } : Jvm.MethodName) object_method_1_code (1 : Nat) (Option.none : Option Jvm.ClassFile.FieldType)).before args0 about1 = true := code_word (m := ⟨0, 0⟩) (meth := k0m0) (c := k0c0) (by decide +kernel) rfl rfl rfl (by decide +kernel)
set_option maxRecDepth 65536 in
theorem w_c4 : (Jvm.Cond.code ({ cls := "com/example/capwright/capwright/cap/CapFile$ExternalField", name := "equals", desc := "(Ljava/lang/Object;)Z" } : Jvm.MethodName) prog_20_method_2_code (3 : Nat) (Option.some Jvm.ClassFile.FieldType.boolean)).before args0 about1 = true := code_word (m := ⟨4, 1⟩) (meth := k4m1) (c := k4c1) (by decide +kernel) rfl rfl rfl (by decide +kernel)
set_option maxRecDepth 65536 in
theorem w_c5 : (Jvm.Cond.code ({ cls := "com/example/capwright/capwright/cap/CapFile$ExternalMethod", name := "<init>", desc := "(III)V" } : Jvm.MethodName) prog_21_method_1_code (4 : Nat) (Option.none : Option Jvm.ClassFile.FieldType)).before args0 about1 = true := code_word (m := ⟨6, 0⟩) (meth := k6m0) (c := k6c0) (by decide +kernel) rfl rfl rfl (by decide +kernel)
set_option maxRecDepth 65536 in
theorem w_c6 : (Jvm.Cond.code ({ cls := "com/example/capwright/capwright/cap/CapFile$InternalField", name := "<init>", desc := "(I)V" } : Jvm.MethodName) prog_26_method_1_code (2 : Nat) (Option.none : Option Jvm.ClassFile.FieldType)).before args0 about1 = true := code_word (m := ⟨7, 0⟩) (meth := k7m0) (c := k7c0) (by decide +kernel) rfl rfl rfl (by decide +kernel)
def codes1 : List Jvm.Cond := [Jvm.Cond.code x code maxLocals ret, Jvm.Cond.code ({ cls := "com/example/capwright/capwright/cap/CapFile$ExternalField", name := "<init>", desc := "(III)V" } : Jvm.MethodName) prog_20_method_1_code (4 : Nat) (Option.none : Option Jvm.ClassFile.FieldType), Jvm.Cond.code ({ cls := "java/lang/Record", name := "<init>", desc := "()V" } : Jvm.MethodName) jdk_30_method_1_code (1 : Nat) (Option.none : Option Jvm.ClassFile.FieldType), Jvm.Cond.code ({ cls := "java/lang/Object", name := "<init>", desc := "()V" } : Jvm.MethodName) object_method_1_code (1 : Nat) (Option.none : Option Jvm.ClassFile.FieldType), Jvm.Cond.code ({ cls := "com/example/capwright/capwright/cap/CapFile$ExternalField", name := "equals", desc := "(Ljava/lang/Object;)Z" } : Jvm.MethodName) prog_20_method_2_code (3 : Nat) (Option.some Jvm.ClassFile.FieldType.boolean), Jvm.Cond.code ({ cls := "com/example/capwright/capwright/cap/CapFile$ExternalMethod", name := "<init>", desc := "(III)V" } : Jvm.MethodName) prog_21_method_1_code (4 : Nat) (Option.none : Option Jvm.ClassFile.FieldType), Jvm.Cond.code ({ cls := "com/example/capwright/capwright/cap/CapFile$InternalField", name := "<init>", desc := "(I)V" } : Jvm.MethodName) prog_26_method_1_code (2 : Nat) (Option.none : Option Jvm.ClassFile.FieldType)]
set_option maxRecDepth 65536 in
theorem codes_eq : words1.filter isCode = codes1 := rfl
theorem w_codes : ∀ c ∈ words1.filter isCode, c.before args0 about1 = true := by
  rw [codes_eq]
  intro c hc
  simp only [codes1, List.mem_cons, List.not_mem_nil, or_false] at hc
  rcases hc with rfl | rfl | rfl | rfl | rfl | rfl | rfl
  · exact w_c0
  · exact w_c1
  · exact w_c2
  · exact w_c3
  · exact w_c4
  · exact w_c5
  · exact w_c6
set_option maxRecDepth 65536 in
theorem w_t1 : (words1.take 24).all (fun c => isCode c || c.before args0 about1) = true := by decide +kernel
set_option maxRecDepth 65536 in
theorem w_t2 : ((words1.drop 24).take 24).all (fun c => isCode c || c.before args0 about1) = true := by decide +kernel
set_option maxRecDepth 65536 in
theorem w_t3 : ((words1.drop 24).drop 24).all (fun c => isCode c || c.before args0 about1) = true := by decide +kernel
theorem w_tables : (allAtoms (Jvm.Cond.code x code maxLocals ret :: tables_1)).before args0 about1 = true := by
  rw [allAtoms_all]
  show words1.all (fun c => c.before args0 about1) = true
  refine all_split ?_ w_codes
  rw [← List.take_append_drop 24 words1, List.all_append, w_t1, ← List.take_append_drop 24 (words1.drop 24), List.all_append, w_t2, w_t3]
  rfl
set_option maxRecDepth 65536 in
theorem w_case : (Jvm.Cond.and given_1 narrow_1).before args0 about1 = true := by decide +kernel
theorem w_applies : (headSpec (Jvm.Cond.code x code maxLocals ret :: tables_1) room_1).applies x e0.platform about1 = true :=
  (Spec.applies_iff w_frames).mpr ⟨w_running, w_runnable, w_alone, w_named, w_hears, w_ripe, w_room, w_tables⟩
theorem atStart : AtStart classFile x code maxLocals ret World_1 tables_1 room_1 Calls_1 rest_1 Pre_1 launch0 p0 e0 about1 theMethod args0 below0 :=
  ⟨lists_1, trivial, launch0.admits_env _ _ _, launch0.least_env, fairChoices_fair.cas, fairChoices_fair.clock, w_frames, w_args, w_heap, w_applies, trivial, trivial, w_case⟩
end start1
theorem witness_1 : WitnessClaimed_1 := ⟨start1.p0, start1.e0, start1.about1, start1.theMethod, start1.args0, start1.below0, start1.atStart⟩
end Jvm.Pilot.@@N@@
