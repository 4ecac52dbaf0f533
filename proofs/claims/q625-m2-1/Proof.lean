import JvmDerived
import JvmDerived.Pilot.@@N@@Statement
import JvmDerived.Pilot.@@N@@Code
set_option linter.unusedVariables false
set_option linter.unusedSimpArgs false

namespace Jvm.RoadKit
open Sem ClassFile Op Lib Jvm.Stand Jvm.Free Jvm.LawKit
section New
variable {p : Program} {l : Launch} {e : Env} {R : Room} {s : State} {m : MethodId} {args : Array Value} {below : List Frame} {meth : Method} {c : Code} {T : State} {locs : List Loc} {cells slots : Nat}
theorem retI (X : Stand p l e R s m args below meth c T locs cells slots) (hx : p.tables.exec = Jvm.exec) {pc : Nat} {Ls : Array Slot} {z : Int32} {rest : List Value} (hret : meth.sig.returnType = some .int) (hd : decode c.code pc = .ok (.ireturn, 1)) {fs : List Frame}
    (hl : ∀ (f : JFrame) (acts : List Action), f.method = m → f.locked = none → f.entered = [] → (doReturn e (T.setTop f) acts (some (.int z))).1 = T.setFrames fs) : Steps p.tables e below (T.setTop (mkF m pc Ls (.int z :: rest))) (T.setFrames fs) := by
  have hm' : T.vm.method? m = some meth := X.method'
  have hn : narrow .int (.int z) = .int z := rfl
  show Steps p.tables e below (T.setTop { method := m, pc := pc, locals := Ls, stack := _ :: rest, locked := none }) _
  jvm_step X.here [X.here.top, hx, hd, hm', hret, hn]
  first | (intro acts; rw [hl _ acts rfl rfl rfl]) | rw [hl _ _ rfl rfl rfl]
  exact Steps.refl _
theorem retL (X : Stand p l e R s m args below meth c T locs cells slots) (hx : p.tables.exec = Jvm.exec) {pc : Nat} {Ls : Array Slot} {z : Int64} {rest : List Value} (hret : meth.sig.returnType = some .long) (hd : decode c.code pc = .ok (.lreturn, 1)) {fs : List Frame}
    (hl : ∀ (f : JFrame) (acts : List Action), f.method = m → f.locked = none → f.entered = [] → (doReturn e (T.setTop f) acts (some (.long z))).1 = T.setFrames fs) : Steps p.tables e below (T.setTop (mkF m pc Ls (.long z :: rest))) (T.setFrames fs) := by
  have hm' : T.vm.method? m = some meth := X.method'
  have hn : narrow .long (.long z) = .long z := rfl
  show Steps p.tables e below (T.setTop { method := m, pc := pc, locals := Ls, stack := _ :: rest, locked := none }) _
  jvm_step X.here [X.here.top, hx, hd, hm', hret, hn]
  first | (intro acts; rw [hl _ acts rfl rfl rfl]) | rw [hl _ _ rfl rfl rfl]
  exact Steps.refl _
end New
end Jvm.RoadKit
namespace Jvm.Pilot.@@N@@
open Jvm Jvm.ClassFile Sem Op Lib Jvm.Free Jvm.Stand Jvm.LawKit Jvm.RoadKit Bundle Jvm.Pilot.@@N@@.Jvm.D
/-- from here the run comes to an end of which W holds -/
def own_Go (p : Program) (e : Env) (below : List Frame) (W : State → Outcome → Prop) (T : State) (g : JFrame) : Prop :=
  ∃ s₂ o, Steps p.tables e below (T.setTop g) s₂ ∧ s₂.status = .running ∧ Ended s₂ below o ∧ W s₂ o
theorem own_Go.of {p : Program} {e : Env} {below : List Frame} {W : State → Outcome → Prop} {T T' : State} {g g' : JFrame} (f : ∀ t, Steps p.tables e below (T'.setTop g') t → Steps p.tables e below (T.setTop g) t) (k : own_Go p e below W T' g') : own_Go p e below W T g := by
  obtain ⟨s₂, o, h1, h2⟩ := k
  exact ⟨s₂, o, f _ h1, h2⟩
theorem own_hide {p : Program} {l : Launch} {e : Env} {R : Room} {s : State} {m : MethodId} {args : Array Value} {below : List Frame} {meth : Method} {c : Code} {T : State} {locs : List Loc} {cells slots : Nat} (X : Stand p l e R s m args below meth c T locs cells slots) {k : Nat} (N : Fr k locs) : ∃ L, Stand p l e R s m args below meth c T L cells slots ∧ Fr k L := ⟨_, X, N⟩
theorem own_via {G A : Prop} (h1 : A → G) (h2 : A) : G := h1 h2
section OwnSteps
variable {p : Program} {l : Launch} {e : Env} {R : Room} {s : State} {m : MethodId} {args : Array Value} {below : List Frame} {meth : Method} {c : Code} {T : State} {locs : List Loc} {cells slots : Nat} {W : State → Outcome → Prop} {pc pc' : Nat} {L : Array Slot} {S : List Value}
theorem og_iloadN (X : Stand p l e R s m args below meth c T locs cells slots) (hx : p.tables.exec = Jvm.exec) {k : Fin 4} {v : Int32} (hd : decode c.code pc = .ok (.iload_n k, 1)) (hl : L[k.val]? = some (.val (.int v))) (hp : pc + 1 = pc') (h : own_Go p e below W T (mkF m pc' L ((.int v) :: S))) : own_Go p e below W T (mkF m pc L S) := by
  subst hp; exact own_Go.of (fun t q => XS.iloadN X.here hx rfl hd hl q) h
theorem og_iload (X : Stand p l e R s m args below meth c T locs cells slots) (hx : p.tables.exec = Jvm.exec) {k : Nat} {v : Int32} (hd : decode c.code pc = .ok (.iload k, 2)) (hl : L[k]? = some (.val (.int v))) (hp : pc + 2 = pc') (h : own_Go p e below W T (mkF m pc' L ((.int v) :: S))) : own_Go p e below W T (mkF m pc L S) := by
  subst hp; exact own_Go.of (fun t q => XS.iload X.here hx rfl hd hl q) h
theorem og_istoreN (X : Stand p l e R s m args below meth c T locs cells slots) (hx : p.tables.exec = Jvm.exec) {k : Fin 4} {v : Int32} {L' : Array Slot} (hd : decode c.code pc = .ok (.istore_n k, 1)) (hl : storeLocals L k.val (.int v) = some L') (hp : pc + 1 = pc') (h : own_Go p e below W T (mkF m pc' L' S)) : own_Go p e below W T (mkF m pc L ((.int v) :: S)) := by
  subst hp; exact own_Go.of (fun t q => XS.istoreN X.here hx rfl hd rfl hl q) h
theorem og_istore (X : Stand p l e R s m args below meth c T locs cells slots) (hx : p.tables.exec = Jvm.exec) {k : Nat} {v : Int32} {L' : Array Slot} (hd : decode c.code pc = .ok (.istore k, 2)) (hl : storeLocals L k (.int v) = some L') (hp : pc + 2 = pc') (h : own_Go p e below W T (mkF m pc' L' S)) : own_Go p e below W T (mkF m pc L ((.int v) :: S)) := by
  subst hp; exact own_Go.of (fun t q => XS.istore X.here hx rfl hd rfl hl q) h
theorem og_lloadN (X : Stand p l e R s m args below meth c T locs cells slots) (hx : p.tables.exec = Jvm.exec) {k : Fin 4} {v : Int64} (hd : decode c.code pc = .ok (.lload_n k, 1)) (hl : L[k.val]? = some (.val (.long v))) (hp : pc + 1 = pc') (h : own_Go p e below W T (mkF m pc' L ((.long v) :: S))) : own_Go p e below W T (mkF m pc L S) := by
  subst hp; exact own_Go.of (fun t q => XS.lloadN X.here hx rfl hd hl q) h
theorem og_lload (X : Stand p l e R s m args below meth c T locs cells slots) (hx : p.tables.exec = Jvm.exec) {k : Nat} {v : Int64} (hd : decode c.code pc = .ok (.lload k, 2)) (hl : L[k]? = some (.val (.long v))) (hp : pc + 2 = pc') (h : own_Go p e below W T (mkF m pc' L ((.long v) :: S))) : own_Go p e below W T (mkF m pc L S) := by
  subst hp; exact own_Go.of (fun t q => XS.lload X.here hx rfl hd hl q) h
theorem og_lstoreN (X : Stand p l e R s m args below meth c T locs cells slots) (hx : p.tables.exec = Jvm.exec) {k : Fin 4} {v : Int64} {L' : Array Slot} (hd : decode c.code pc = .ok (.lstore_n k, 1)) (hl : storeLocals L k.val (.long v) = some L') (hp : pc + 1 = pc') (h : own_Go p e below W T (mkF m pc' L' S)) : own_Go p e below W T (mkF m pc L ((.long v) :: S)) := by
  subst hp; exact own_Go.of (fun t q => XS.lstoreN X.here hx rfl hd rfl hl q) h
theorem og_lstore (X : Stand p l e R s m args below meth c T locs cells slots) (hx : p.tables.exec = Jvm.exec) {k : Nat} {v : Int64} {L' : Array Slot} (hd : decode c.code pc = .ok (.lstore k, 2)) (hl : storeLocals L k (.long v) = some L') (hp : pc + 2 = pc') (h : own_Go p e below W T (mkF m pc' L' S)) : own_Go p e below W T (mkF m pc L ((.long v) :: S)) := by
  subst hp; exact own_Go.of (fun t q => XS.lstore X.here hx rfl hd rfl hl q) h
theorem og_aloadN (X : Stand p l e R s m args below meth c T locs cells slots) (hx : p.tables.exec = Jvm.exec) {k : Fin 4} {v : Value} (hd : decode c.code pc = .ok (.aload_n k, 1)) (hl : L[k.val]? = some (.val v)) (hv : v.isRef = true) (hp : pc + 1 = pc') (h : own_Go p e below W T (mkF m pc' L (v :: S))) : own_Go p e below W T (mkF m pc L S) := by
  subst hp; exact own_Go.of (fun t q => XS.aloadN X.here hx rfl hd hl hv q) h
theorem og_aload (X : Stand p l e R s m args below meth c T locs cells slots) (hx : p.tables.exec = Jvm.exec) {k : Nat} {v : Value} (hd : decode c.code pc = .ok (.aload k, 2)) (hl : L[k]? = some (.val v)) (hv : v.isRef = true) (hp : pc + 2 = pc') (h : own_Go p e below W T (mkF m pc' L (v :: S))) : own_Go p e below W T (mkF m pc L S) := by
  subst hp; exact own_Go.of (fun t q => XS.aload X.here hx rfl hd hl hv q) h
theorem og_astoreN (X : Stand p l e R s m args below meth c T locs cells slots) (hx : p.tables.exec = Jvm.exec) {k : Fin 4} {v : Value} {L' : Array Slot} (hd : decode c.code pc = .ok (.astore_n k, 1)) (hv : v.isRef = true) (hl : storeLocals L k.val v = some L') (hp : pc + 1 = pc') (h : own_Go p e below W T (mkF m pc' L' S)) : own_Go p e below W T (mkF m pc L (v :: S)) := by
  subst hp; exact own_Go.of (fun t q => XS.astoreN X.here hx rfl hd rfl hv hl q) h
theorem og_astore (X : Stand p l e R s m args below meth c T locs cells slots) (hx : p.tables.exec = Jvm.exec) {k : Nat} {v : Value} {L' : Array Slot} (hd : decode c.code pc = .ok (.astore k, 2)) (hv : v.isRef = true) (hl : storeLocals L k v = some L') (hp : pc + 2 = pc') (h : own_Go p e below W T (mkF m pc' L' S)) : own_Go p e below W T (mkF m pc L (v :: S)) := by
  subst hp; exact own_Go.of (fun t q => XS.astore X.here hx rfl hd rfl hv hl q) h
theorem og_iconst (X : Stand p l e R s m args below meth c T locs cells slots) (hx : p.tables.exec = Jvm.exec) {i : Int} {n : Int32} (hd : decode c.code pc = .ok (.iconst i, 1)) (hn : Int32.ofInt i = n) (hp : pc + 1 = pc') (h : own_Go p e below W T (mkF m pc' L (.int n :: S))) : own_Go p e below W T (mkF m pc L S) := by
  subst hp hn; exact own_Go.of (fun t q => XS.iconst X.here hx rfl hd q) h
theorem og_bipush (X : Stand p l e R s m args below meth c T locs cells slots) (hx : p.tables.exec = Jvm.exec) {i : Int} {n : Int32} (hd : decode c.code pc = .ok (.bipush i, 2)) (hn : (Int8.ofInt i).toInt32 = n) (hp : pc + 2 = pc') (h : own_Go p e below W T (mkF m pc' L (.int n :: S))) : own_Go p e below W T (mkF m pc L S) := by
  subst hp hn; exact own_Go.of (fun t q => XS.bipush X.here hx rfl hd q) h
theorem og_sipush (X : Stand p l e R s m args below meth c T locs cells slots) (hx : p.tables.exec = Jvm.exec) {i : Int} {n : Int32} (hd : decode c.code pc = .ok (.sipush i, 3)) (hn : (Int16.ofInt i).toInt32 = n) (hp : pc + 3 = pc') (h : own_Go p e below W T (mkF m pc' L (.int n :: S))) : own_Go p e below W T (mkF m pc L S) := by
  subst hp hn; exact own_Go.of (fun t q => XS.sipush X.here hx rfl hd q) h
theorem og_lconst0 (X : Stand p l e R s m args below meth c T locs cells slots) (hx : p.tables.exec = Jvm.exec) (hd : decode c.code pc = .ok (.lconst 0, 1)) (hp : pc + 1 = pc') (h : own_Go p e below W T (mkF m pc' L (.long (0 : Int64) :: S))) : own_Go p e below W T (mkF m pc L S) := by
  subst hp; exact own_Go.of (fun t q => XS.lconst X.here hx rfl hd q) h
theorem og_lconst1 (X : Stand p l e R s m args below meth c T locs cells slots) (hx : p.tables.exec = Jvm.exec) (hd : decode c.code pc = .ok (.lconst 1, 1)) (hp : pc + 1 = pc') (h : own_Go p e below W T (mkF m pc' L (.long (1 : Int64) :: S))) : own_Go p e below W T (mkF m pc L S) := by
  subst hp; exact own_Go.of (fun t q => XS.lconst X.here hx rfl hd q) h
theorem og_aconst_null (X : Stand p l e R s m args below meth c T locs cells slots) (hx : p.tables.exec = Jvm.exec)  (hd : decode c.code pc = .ok (.aconst_null, 1)) (hp : pc + 1 = pc') (h : own_Go p e below W T (mkF m pc' L (.null :: S))) : own_Go p e below W T (mkF m pc L S) := by
  subst hp; exact own_Go.of (fun t q => XS.aconstNull X.here hx rfl hd q) h
theorem og_iadd (X : Stand p l e R s m args below meth c T locs cells slots) (hx : p.tables.exec = Jvm.exec) {x y : Int32} (hd : decode c.code pc = .ok (.iadd, 1)) (hp : pc + 1 = pc') (h : own_Go p e below W T (mkF m pc' L (.int (x + y) :: S))) : own_Go p e below W T (mkF m pc L (.int y :: .int x :: S)) := by
  subst hp; exact own_Go.of (fun t q => XS.iadd X.here hx rfl hd rfl q) h
theorem og_ladd (X : Stand p l e R s m args below meth c T locs cells slots) (hx : p.tables.exec = Jvm.exec) {x y : Int64} (hd : decode c.code pc = .ok (.ladd, 1)) (hp : pc + 1 = pc') (h : own_Go p e below W T (mkF m pc' L (.long (x + y) :: S))) : own_Go p e below W T (mkF m pc L (.long y :: .long x :: S)) := by
  subst hp; exact own_Go.of (fun t q => XS.ladd X.here hx rfl hd rfl q) h
theorem og_isub (X : Stand p l e R s m args below meth c T locs cells slots) (hx : p.tables.exec = Jvm.exec) {x y : Int32} (hd : decode c.code pc = .ok (.isub, 1)) (hp : pc + 1 = pc') (h : own_Go p e below W T (mkF m pc' L (.int (x - y) :: S))) : own_Go p e below W T (mkF m pc L (.int y :: .int x :: S)) := by
  subst hp; exact own_Go.of (fun t q => XS.isub X.here hx rfl hd rfl q) h
theorem og_lsub (X : Stand p l e R s m args below meth c T locs cells slots) (hx : p.tables.exec = Jvm.exec) {x y : Int64} (hd : decode c.code pc = .ok (.lsub, 1)) (hp : pc + 1 = pc') (h : own_Go p e below W T (mkF m pc' L (.long (x - y) :: S))) : own_Go p e below W T (mkF m pc L (.long y :: .long x :: S)) := by
  subst hp; exact own_Go.of (fun t q => XS.lsub X.here hx rfl hd rfl q) h
theorem og_imul (X : Stand p l e R s m args below meth c T locs cells slots) (hx : p.tables.exec = Jvm.exec) {x y : Int32} (hd : decode c.code pc = .ok (.imul, 1)) (hp : pc + 1 = pc') (h : own_Go p e below W T (mkF m pc' L (.int (x * y) :: S))) : own_Go p e below W T (mkF m pc L (.int y :: .int x :: S)) := by
  subst hp; exact own_Go.of (fun t q => XS.imul X.here hx rfl hd rfl q) h
theorem og_lmul (X : Stand p l e R s m args below meth c T locs cells slots) (hx : p.tables.exec = Jvm.exec) {x y : Int64} (hd : decode c.code pc = .ok (.lmul, 1)) (hp : pc + 1 = pc') (h : own_Go p e below W T (mkF m pc' L (.long (x * y) :: S))) : own_Go p e below W T (mkF m pc L (.long y :: .long x :: S)) := by
  subst hp; exact own_Go.of (fun t q => XS.lmul X.here hx rfl hd rfl q) h
theorem og_iand (X : Stand p l e R s m args below meth c T locs cells slots) (hx : p.tables.exec = Jvm.exec) {x y : Int32} (hd : decode c.code pc = .ok (.iand, 1)) (hp : pc + 1 = pc') (h : own_Go p e below W T (mkF m pc' L (.int (x &&& y) :: S))) : own_Go p e below W T (mkF m pc L (.int y :: .int x :: S)) := by
  subst hp; exact own_Go.of (fun t q => XS.iand X.here hx rfl hd rfl q) h
theorem og_land (X : Stand p l e R s m args below meth c T locs cells slots) (hx : p.tables.exec = Jvm.exec) {x y : Int64} (hd : decode c.code pc = .ok (.land, 1)) (hp : pc + 1 = pc') (h : own_Go p e below W T (mkF m pc' L (.long (x &&& y) :: S))) : own_Go p e below W T (mkF m pc L (.long y :: .long x :: S)) := by
  subst hp; exact own_Go.of (fun t q => XS.land X.here hx rfl hd rfl q) h
theorem og_ior (X : Stand p l e R s m args below meth c T locs cells slots) (hx : p.tables.exec = Jvm.exec) {x y : Int32} (hd : decode c.code pc = .ok (.ior, 1)) (hp : pc + 1 = pc') (h : own_Go p e below W T (mkF m pc' L (.int (x ||| y) :: S))) : own_Go p e below W T (mkF m pc L (.int y :: .int x :: S)) := by
  subst hp; exact own_Go.of (fun t q => XS.ior X.here hx rfl hd rfl q) h
theorem og_lor (X : Stand p l e R s m args below meth c T locs cells slots) (hx : p.tables.exec = Jvm.exec) {x y : Int64} (hd : decode c.code pc = .ok (.lor, 1)) (hp : pc + 1 = pc') (h : own_Go p e below W T (mkF m pc' L (.long (x ||| y) :: S))) : own_Go p e below W T (mkF m pc L (.long y :: .long x :: S)) := by
  subst hp; exact own_Go.of (fun t q => XS.lor X.here hx rfl hd rfl q) h
theorem og_ixor (X : Stand p l e R s m args below meth c T locs cells slots) (hx : p.tables.exec = Jvm.exec) {x y : Int32} (hd : decode c.code pc = .ok (.ixor, 1)) (hp : pc + 1 = pc') (h : own_Go p e below W T (mkF m pc' L (.int (x ^^^ y) :: S))) : own_Go p e below W T (mkF m pc L (.int y :: .int x :: S)) := by
  subst hp; exact own_Go.of (fun t q => XS.ixor X.here hx rfl hd rfl q) h
theorem og_lxor (X : Stand p l e R s m args below meth c T locs cells slots) (hx : p.tables.exec = Jvm.exec) {x y : Int64} (hd : decode c.code pc = .ok (.lxor, 1)) (hp : pc + 1 = pc') (h : own_Go p e below W T (mkF m pc' L (.long (x ^^^ y) :: S))) : own_Go p e below W T (mkF m pc L (.long y :: .long x :: S)) := by
  subst hp; exact own_Go.of (fun t q => XS.lxor X.here hx rfl hd rfl q) h
theorem og_ineg (X : Stand p l e R s m args below meth c T locs cells slots) (hx : p.tables.exec = Jvm.exec) {x : Int32} (hd : decode c.code pc = .ok (.ineg, 1)) (hp : pc + 1 = pc') (h : own_Go p e below W T (mkF m pc' L (.int (-x) :: S))) : own_Go p e below W T (mkF m pc L (.int x :: S)) := by
  subst hp; exact own_Go.of (fun t q => XS.ineg X.here hx rfl hd rfl q) h
theorem og_lneg (X : Stand p l e R s m args below meth c T locs cells slots) (hx : p.tables.exec = Jvm.exec) {x : Int64} (hd : decode c.code pc = .ok (.lneg, 1)) (hp : pc + 1 = pc') (h : own_Go p e below W T (mkF m pc' L (.long (-x) :: S))) : own_Go p e below W T (mkF m pc L (.long x :: S)) := by
  subst hp; exact own_Go.of (fun t q => XS.lneg X.here hx rfl hd rfl q) h
theorem og_i2l (X : Stand p l e R s m args below meth c T locs cells slots) (hx : p.tables.exec = Jvm.exec) {x : Int32} (hd : decode c.code pc = .ok (.i2l, 1)) (hp : pc + 1 = pc') (h : own_Go p e below W T (mkF m pc' L (.long (x.toInt64) :: S))) : own_Go p e below W T (mkF m pc L (.int x :: S)) := by
  subst hp; exact own_Go.of (fun t q => XS.i2l X.here hx rfl hd rfl q) h
theorem og_l2i (X : Stand p l e R s m args below meth c T locs cells slots) (hx : p.tables.exec = Jvm.exec) {x : Int64} (hd : decode c.code pc = .ok (.l2i, 1)) (hp : pc + 1 = pc') (h : own_Go p e below W T (mkF m pc' L (.int (x.toInt32) :: S))) : own_Go p e below W T (mkF m pc L (.long x :: S)) := by
  subst hp; exact own_Go.of (fun t q => XS.l2i X.here hx rfl hd rfl q) h
theorem og_i2b (X : Stand p l e R s m args below meth c T locs cells slots) (hx : p.tables.exec = Jvm.exec) {x : Int32} (hd : decode c.code pc = .ok (.i2b, 1)) (hp : pc + 1 = pc') (h : own_Go p e below W T (mkF m pc' L (.int (x.toInt8.toInt32) :: S))) : own_Go p e below W T (mkF m pc L (.int x :: S)) := by
  subst hp; exact own_Go.of (fun t q => XS.i2b X.here hx rfl hd rfl q) h
theorem og_i2s (X : Stand p l e R s m args below meth c T locs cells slots) (hx : p.tables.exec = Jvm.exec) {x : Int32} (hd : decode c.code pc = .ok (.i2s, 1)) (hp : pc + 1 = pc') (h : own_Go p e below W T (mkF m pc' L (.int (x.toInt16.toInt32) :: S))) : own_Go p e below W T (mkF m pc L (.int x :: S)) := by
  subst hp; exact own_Go.of (fun t q => XS.i2s X.here hx rfl hd rfl q) h
theorem og_i2c (X : Stand p l e R s m args below meth c T locs cells slots) (hx : p.tables.exec = Jvm.exec) {x : Int32} (hd : decode c.code pc = .ok (.i2c, 1)) (hp : pc + 1 = pc') (h : own_Go p e below W T (mkF m pc' L (.int (x.toUInt32.toUInt16.toUInt32.toInt32) :: S))) : own_Go p e below W T (mkF m pc L (.int x :: S)) := by
  subst hp; exact own_Go.of (fun t q => XS.i2c X.here hx rfl hd rfl q) h
theorem og_ishl (X : Stand p l e R s m args below meth c T locs cells slots) (hx : p.tables.exec = Jvm.exec) {x : Int32} {y : Int32} (hd : decode c.code pc = .ok (.ishl, 1)) (hp : pc + 1 = pc') (h : own_Go p e below W T (mkF m pc' L (.int (x <<< (y &&& 31)) :: S))) : own_Go p e below W T (mkF m pc L (.int y :: .int x :: S)) := by
  subst hp; exact own_Go.of (fun t q => XS.ishl X.here hx rfl hd rfl q) h
theorem og_ishr (X : Stand p l e R s m args below meth c T locs cells slots) (hx : p.tables.exec = Jvm.exec) {x : Int32} {y : Int32} (hd : decode c.code pc = .ok (.ishr, 1)) (hp : pc + 1 = pc') (h : own_Go p e below W T (mkF m pc' L (.int (x >>> (y &&& 31)) :: S))) : own_Go p e below W T (mkF m pc L (.int y :: .int x :: S)) := by
  subst hp; exact own_Go.of (fun t q => XS.ishr X.here hx rfl hd rfl q) h
theorem og_iushr (X : Stand p l e R s m args below meth c T locs cells slots) (hx : p.tables.exec = Jvm.exec) {x : Int32} {y : Int32} (hd : decode c.code pc = .ok (.iushr, 1)) (hp : pc + 1 = pc') (h : own_Go p e below W T (mkF m pc' L (.int ((x.toUInt32 >>> (y &&& 31).toUInt32).toInt32) :: S))) : own_Go p e below W T (mkF m pc L (.int y :: .int x :: S)) := by
  subst hp; exact own_Go.of (fun t q => XS.iushr X.here hx rfl hd rfl q) h
theorem og_lshl (X : Stand p l e R s m args below meth c T locs cells slots) (hx : p.tables.exec = Jvm.exec) {x : Int64} {y : Int32} (hd : decode c.code pc = .ok (.lshl, 1)) (hp : pc + 1 = pc') (h : own_Go p e below W T (mkF m pc' L (.long (x <<< (y &&& 0x3f).toInt64) :: S))) : own_Go p e below W T (mkF m pc L (.int y :: .long x :: S)) := by
  subst hp; exact own_Go.of (fun t q => XS.lshl X.here hx rfl hd rfl q) h
theorem og_lshr (X : Stand p l e R s m args below meth c T locs cells slots) (hx : p.tables.exec = Jvm.exec) {x : Int64} {y : Int32} (hd : decode c.code pc = .ok (.lshr, 1)) (hp : pc + 1 = pc') (h : own_Go p e below W T (mkF m pc' L (.long (x >>> (y &&& 0x3f).toInt64) :: S))) : own_Go p e below W T (mkF m pc L (.int y :: .long x :: S)) := by
  subst hp; exact own_Go.of (fun t q => XS.lshr X.here hx rfl hd rfl q) h
theorem og_lushr (X : Stand p l e R s m args below meth c T locs cells slots) (hx : p.tables.exec = Jvm.exec) {x : Int64} {y : Int32} (hd : decode c.code pc = .ok (.lushr, 1)) (hp : pc + 1 = pc') (h : own_Go p e below W T (mkF m pc' L (.long ((x.toUInt64 >>> (y &&& 0x3f).toInt64.toUInt64).toInt64) :: S))) : own_Go p e below W T (mkF m pc L (.int y :: .long x :: S)) := by
  subst hp; exact own_Go.of (fun t q => XS.lushr X.here hx rfl hd rfl q) h
theorem og_lcmp (X : Stand p l e R s m args below meth c T locs cells slots) (hx : p.tables.exec = Jvm.exec) {x y : Int64} (hd : decode c.code pc = .ok (.lcmp, 1)) (hp : pc + 1 = pc') (h : own_Go p e below W T (mkF m pc' L (.int (lcmpW x y) :: S))) : own_Go p e below W T (mkF m pc L (.long y :: .long x :: S)) := by
  subst hp; exact own_Go.of (fun t q => XS.lcmp X.here hx rfl hd rfl q) h
theorem og_idiv (X : Stand p l e R s m args below meth c T locs cells slots) (hx : p.tables.exec = Jvm.exec) {x y : Int32} (hd : decode c.code pc = .ok (.idiv, 1)) (hy : y ≠ 0) (hp : pc + 1 = pc') (h : own_Go p e below W T (mkF m pc' L (.int (x / y) :: S))) : own_Go p e below W T (mkF m pc L (.int y :: .int x :: S)) := by
  subst hp; exact own_Go.of (fun t q => XS.idiv X.here hx rfl hd rfl hy q) h
theorem og_ldiv (X : Stand p l e R s m args below meth c T locs cells slots) (hx : p.tables.exec = Jvm.exec) {x y : Int64} (hd : decode c.code pc = .ok (.ldiv, 1)) (hy : y ≠ 0) (hp : pc + 1 = pc') (h : own_Go p e below W T (mkF m pc' L (.long (x / y) :: S))) : own_Go p e below W T (mkF m pc L (.long y :: .long x :: S)) := by
  subst hp; exact own_Go.of (fun t q => XS.ldiv X.here hx rfl hd rfl hy q) h
theorem og_irem (X : Stand p l e R s m args below meth c T locs cells slots) (hx : p.tables.exec = Jvm.exec) {x y : Int32} (hd : decode c.code pc = .ok (.irem, 1)) (hy : y ≠ 0) (hp : pc + 1 = pc') (h : own_Go p e below W T (mkF m pc' L (.int (x % y) :: S))) : own_Go p e below W T (mkF m pc L (.int y :: .int x :: S)) := by
  subst hp; exact own_Go.of (fun t q => iremM X hx rfl hd rfl hy q) h
theorem og_lrem (X : Stand p l e R s m args below meth c T locs cells slots) (hx : p.tables.exec = Jvm.exec) {x y : Int64} (hd : decode c.code pc = .ok (.lrem, 1)) (hy : y ≠ 0) (hp : pc + 1 = pc') (h : own_Go p e below W T (mkF m pc' L (.long (x - (x / y) * y) :: S))) : own_Go p e below W T (mkF m pc L (.long y :: .long x :: S)) := by
  subst hp; exact own_Go.of (fun t q => XS.lrem X.here hx rfl hd rfl hy q) h
theorem og_iinc (X : Stand p l e R s m args below meth c T locs cells slots) (hx : p.tables.exec = Jvm.exec) {k : Nat} {z : Int} {v : Int32} {L' : Array Slot} (hd : decode c.code pc = .ok (.iinc k z, 3)) (hl : L[k]? = some (.val (.int v))) (hs : storeLocals L k (.int (v + Int32.ofInt z)) = some L') (hp : pc + 3 = pc') (h : own_Go p e below W T (mkF m pc' L' S)) : own_Go p e below W T (mkF m pc L S) := by
  subst hp; exact own_Go.of (fun t q => XS.iinc X.here hx rfl hd hl hs q) h
theorem og_dup (X : Stand p l e R s m args below meth c T locs cells slots) (hx : p.tables.exec = Jvm.exec) {v : Value} (hd : decode c.code pc = .ok (.dup, 1)) (hc : v.category = 1) (hp : pc + 1 = pc') (h : own_Go p e below W T (mkF m pc' L (v :: v :: S))) : own_Go p e below W T (mkF m pc L (v :: S)) := by
  subst hp; exact own_Go.of (fun t q => XS.dup X.here hx rfl hd rfl hc q) h
theorem og_pop (X : Stand p l e R s m args below meth c T locs cells slots) (hx : p.tables.exec = Jvm.exec) {v : Value} (hd : decode c.code pc = .ok (.pop, 1)) (hc : v.category = 1) (hp : pc + 1 = pc') (h : own_Go p e below W T (mkF m pc' L S)) : own_Go p e below W T (mkF m pc L (v :: S)) := by
  subst hp; exact own_Go.of (fun t q => XS.pop X.here hx rfl hd rfl hc q) h
theorem og_dup_x1 (X : Stand p l e R s m args below meth c T locs cells slots) (hx : p.tables.exec = Jvm.exec) {v w : Value} (hd : decode c.code pc = .ok (.dup_x1, 1)) (hc : v.category = 1) (hc' : w.category = 1) (hp : pc + 1 = pc') (h : own_Go p e below W T (mkF m pc' L (v :: w :: v :: S))) : own_Go p e below W T (mkF m pc L (v :: w :: S)) := by
  subst hp; exact own_Go.of (fun t q => XS.dupX1 X.here hx rfl hd rfl hc hc' q) h
theorem og_goto (X : Stand p l e R s m args below meth c T locs cells slots) (hx : p.tables.exec = Jvm.exec) {o : Int} (hd : decode c.code pc = .ok (.goto o, 3)) (ho : 0 ≤ (pc : Int) + o) (hp : ((pc : Int) + o).toNat = pc') (h : own_Go p e below W T (mkF m pc' L S)) : own_Go p e below W T (mkF m pc L S) := by
  exact own_Go.of (fun t q => XS.goto X.here hx rfl rfl hd ho hp q) h
theorem og_ifYes (X : Stand p l e R s m args below meth c T locs cells slots) (hx : p.tables.exec = Jvm.exec) {cd : ClassFile.Cond} {x : Int32} {o : Int} (hd : decode c.code pc = .ok (.ifCond cd o, 3)) (hc : ifCond.holds cd x = true) (ho : 0 ≤ (pc : Int) + o) (hp : ((pc : Int) + o).toNat = pc') (h : own_Go p e below W T (mkF m pc' L S)) : own_Go p e below W T (mkF m pc L (.int x :: S)) := by
  exact own_Go.of (fun t q => XS.ifYes X.here hx rfl rfl hd rfl hc ho hp q) h
theorem og_ifNo (X : Stand p l e R s m args below meth c T locs cells slots) (hx : p.tables.exec = Jvm.exec) {cd : ClassFile.Cond} {x : Int32} {o : Int} (hd : decode c.code pc = .ok (.ifCond cd o, 3)) (hc : ifCond.holds cd x = false) (hp : pc + 3 = pc') (h : own_Go p e below W T (mkF m pc' L S)) : own_Go p e below W T (mkF m pc L (.int x :: S)) := by
  subst hp; exact own_Go.of (fun t q => XS.ifNo X.here hx rfl hd rfl hc q) h
theorem og_icmpYes (X : Stand p l e R s m args below meth c T locs cells slots) (hx : p.tables.exec = Jvm.exec) {cd : ClassFile.Cond} {x y : Int32} {o : Int} (hd : decode c.code pc = .ok (.if_icmp cd o, 3)) (hc : if_icmp.holds cd x y = true) (ho : 0 ≤ (pc : Int) + o) (hp : ((pc : Int) + o).toNat = pc') (h : own_Go p e below W T (mkF m pc' L S)) : own_Go p e below W T (mkF m pc L (.int y :: .int x :: S)) := by
  exact own_Go.of (fun t q => XS.icmpYes X.here hx rfl rfl hd rfl hc ho hp q) h
theorem og_icmpNo (X : Stand p l e R s m args below meth c T locs cells slots) (hx : p.tables.exec = Jvm.exec) {cd : ClassFile.Cond} {x y : Int32} {o : Int} (hd : decode c.code pc = .ok (.if_icmp cd o, 3)) (hc : if_icmp.holds cd x y = false) (hp : pc + 3 = pc') (h : own_Go p e below W T (mkF m pc' L S)) : own_Go p e below W T (mkF m pc L (.int y :: .int x :: S)) := by
  subst hp; exact own_Go.of (fun t q => XS.icmpNo X.here hx rfl hd rfl hc q) h
theorem og_ifnullYes (X : Stand p l e R s m args below meth c T locs cells slots) (hx : p.tables.exec = Jvm.exec) {o : Int} (hd : decode c.code pc = .ok (.ifnull o, 3)) (ho : 0 ≤ (pc : Int) + o) (hp : ((pc : Int) + o).toNat = pc') (h : own_Go p e below W T (mkF m pc' L S)) : own_Go p e below W T (mkF m pc L (.null :: S)) := by
  exact own_Go.of (fun t q => XS.ifnullYes X.here hx rfl rfl hd rfl ho hp q) h
theorem og_ifnullNo (X : Stand p l e R s m args below meth c T locs cells slots) (hx : p.tables.exec = Jvm.exec) {b : Addr} {o : Int} (hd : decode c.code pc = .ok (.ifnull o, 3)) (hp : pc + 3 = pc') (h : own_Go p e below W T (mkF m pc' L S)) : own_Go p e below W T (mkF m pc L (.ref b :: S)) := by
  subst hp; exact own_Go.of (fun t q => XS.ifnullNo X.here hx rfl hd rfl q) h
theorem og_ifnonnullYes (X : Stand p l e R s m args below meth c T locs cells slots) (hx : p.tables.exec = Jvm.exec) {b : Addr} {o : Int} (hd : decode c.code pc = .ok (.ifnonnull o, 3)) (ho : 0 ≤ (pc : Int) + o) (hp : ((pc : Int) + o).toNat = pc') (h : own_Go p e below W T (mkF m pc' L S)) : own_Go p e below W T (mkF m pc L (.ref b :: S)) := by
  exact own_Go.of (fun t q => XS.ifnonnullYes X.here hx rfl rfl hd rfl ho hp q) h
theorem og_ifnonnullNo (X : Stand p l e R s m args below meth c T locs cells slots) (hx : p.tables.exec = Jvm.exec) {o : Int} (hd : decode c.code pc = .ok (.ifnonnull o, 3)) (hp : pc + 3 = pc') (h : own_Go p e below W T (mkF m pc' L S)) : own_Go p e below W T (mkF m pc L (.null :: S)) := by
  subst hp; exact own_Go.of (fun t q => XS.ifnonnullNo X.here hx rfl hd rfl q) h
theorem og_ldc (X : Stand p l e R s m args below meth c T locs cells slots) (hx : p.tables.exec = Jvm.exec) {own : String} {index : Nat} {v : Int32} (hd : decode c.code pc = .ok (.ldc index, 2)) (hown : s.vm.findClass own = some m.cls) (w : (Jvm.Cond.constant own index v).before args s = true) (hp : pc + 2 = pc') (h : own_Go p e below W T (mkF m pc' L (.int v :: S))) : own_Go p e below W T (mkF m pc L S) := by
  subst hp; exact own_Go.of (fun t q => X.ldcInt hx hown w (g := mkF m pc L S) rfl hd _ q) h
theorem og_ldc2_w (X : Stand p l e R s m args below meth c T locs cells slots) (hx : p.tables.exec = Jvm.exec) {own : String} {index : Nat} {v : Int64} (hd : decode c.code pc = .ok (.ldc2_w index, 3)) (hown : s.vm.findClass own = some m.cls) (w : (Jvm.Cond.constantLong own index v).before args s = true) (hp : pc + 3 = pc') (h : own_Go p e below W T (mkF m pc' L (.long v :: S))) : own_Go p e below W T (mkF m pc L S) := by
  subst hp; exact own_Go.of (fun t q => X.ldc2Long hx hown w (g := mkF m pc L S) rfl hd _ q) h
end OwnSteps
def own_l1 : List Int32 := [(48 : Int32), (49 : Int32), (50 : Int32), (51 : Int32), (52 : Int32), (53 : Int32), (54 : Int32), (55 : Int32), (56 : Int32), (57 : Int32), (97 : Int32), (98 : Int32), (99 : Int32), (100 : Int32), (101 : Int32), (102 : Int32)]
theorem own_t1 : (∀ c ∈ ("0123456789abcdef" : String).toList, c.toNat < 256) ∧ ("0123456789abcdef" : String).toList.map (fun c => Value.int (Jvm.Lit.byteI c.toNat.toUInt16)) = own_l1.map Value.int := by
  have e : ("0123456789abcdef" : String).toList = ['0', '1', '2', '3', '4', '5', '6', '7', '8', '9', 'a', 'b', 'c', 'd', 'e', 'f'] := by decide
  exact ⟨by decide, by rw [e]; rfl⟩
def own_l2 : List Int32 := [(48 : Int32), (49 : Int32), (50 : Int32), (51 : Int32), (52 : Int32), (53 : Int32), (54 : Int32), (55 : Int32), (56 : Int32), (57 : Int32), (65 : Int32), (66 : Int32), (67 : Int32), (68 : Int32), (69 : Int32), (70 : Int32)]
theorem own_t2 : (∀ c ∈ ("0123456789ABCDEF" : String).toList, c.toNat < 256) ∧ ("0123456789ABCDEF" : String).toList.map (fun c => Value.int (Jvm.Lit.byteI c.toNat.toUInt16)) = own_l2.map Value.int := by
  have e : ("0123456789ABCDEF" : String).toList = ['0', '1', '2', '3', '4', '5', '6', '7', '8', '9', 'A', 'B', 'C', 'D', 'E', 'F'] := by decide
  exact ⟨by decide, by rw [e]; rfl⟩
def own_hex_24 (x0 : Int32)  : Int32 := (if x0 < (97 : Int32) then (0 : Int32) else (if (102 : Int32) < x0 then (0 : Int32) else (1 : Int32)))
def own_hex_12 (x0 : Int32)  : Int32 := (if x0 < (65 : Int32) then (own_hex_24 x0) else (if (70 : Int32) < x0 then (own_hex_24 x0) else (1 : Int32)))
def own_hex (x0 : Int32) : Int32 := (if x0 < (48 : Int32) then (own_hex_12 x0) else (if (57 : Int32) < x0 then (own_hex_12 x0) else (1 : Int32)))
theorem d1_0 : decode prog_41_method_8_code 0 = .ok (.iload_n 0, 1) := by decide +kernel
theorem d1_1 : decode prog_41_method_8_code 1 = .ok (.bipush 48, 2) := by decide +kernel
theorem d1_3 : decode prog_41_method_8_code 3 = .ok (.if_icmp .lt 9, 3) := by decide +kernel
theorem d1_6 : decode prog_41_method_8_code 6 = .ok (.iload_n 0, 1) := by decide +kernel
theorem d1_7 : decode prog_41_method_8_code 7 = .ok (.bipush 57, 2) := by decide +kernel
theorem d1_9 : decode prog_41_method_8_code 9 = .ok (.if_icmp .le 27, 3) := by decide +kernel
theorem d1_12 : decode prog_41_method_8_code 12 = .ok (.iload_n 0, 1) := by decide +kernel
theorem d1_13 : decode prog_41_method_8_code 13 = .ok (.bipush 65, 2) := by decide +kernel
theorem d1_15 : decode prog_41_method_8_code 15 = .ok (.if_icmp .lt 9, 3) := by decide +kernel
theorem d1_18 : decode prog_41_method_8_code 18 = .ok (.iload_n 0, 1) := by decide +kernel
theorem d1_19 : decode prog_41_method_8_code 19 = .ok (.bipush 70, 2) := by decide +kernel
theorem d1_21 : decode prog_41_method_8_code 21 = .ok (.if_icmp .le 15, 3) := by decide +kernel
theorem d1_24 : decode prog_41_method_8_code 24 = .ok (.iload_n 0, 1) := by decide +kernel
theorem d1_25 : decode prog_41_method_8_code 25 = .ok (.bipush 97, 2) := by decide +kernel
theorem d1_27 : decode prog_41_method_8_code 27 = .ok (.if_icmp .lt 13, 3) := by decide +kernel
theorem d1_30 : decode prog_41_method_8_code 30 = .ok (.iload_n 0, 1) := by decide +kernel
theorem d1_31 : decode prog_41_method_8_code 31 = .ok (.bipush 102, 2) := by decide +kernel
theorem d1_33 : decode prog_41_method_8_code 33 = .ok (.if_icmp .gt 7, 3) := by decide +kernel
theorem d1_36 : decode prog_41_method_8_code 36 = .ok (.iconst 1, 1) := by decide +kernel
theorem d1_37 : decode prog_41_method_8_code 37 = .ok (.goto 4, 3) := by decide +kernel
theorem d1_40 : decode prog_41_method_8_code 40 = .ok (.iconst 0, 1) := by decide +kernel
theorem d1_41 : decode prog_41_method_8_code 41 = .ok (.ireturn, 1) := by decide +kernel
theorem pnhex : plainName "com/example/annotated_resource_router/annotatedresourcerouter/uri/PercentEncoding" = true := by first | (simp [plainName, overriddenIn]; done) | decide +kernel
theorem efhex (m : MethodId) (z0 : Int32) : entryFrame m #[(.int z0)] 1 = mkF m 0 #[.val (.int z0)] [] := by first | (simp [entryFrame, mkF, argsToLocals, Value.category]; done) | rfl
def Qhex (Z : State) (x0 : Int32) (h0 : Heap) (n0 : Nat) (v : Option Value) (h : Heap) (L : List Loc) : Prop := v = some (.int (own_hex x0)) ∧ Fr n0 L ∧ h = h0
set_option maxRecDepth 65536 in
set_option maxHeartbeats 40000000 in
theorem rmhex (l : Launch) (Z : State) (a0 : Array Value) (hw : ∀ d ∈ tables_1, d.before a0 Z = true) (ws : List Jvm.Cond) (x0 : Int32) (h0 : Heap) (n0 : Nat) (Z0 : n0 ≤ h0.size) :
    MetFree l (⟨"com/example/annotated_resource_router/annotatedresourcerouter/uri/PercentEncoding", "isHexDigit", "(C)Z"⟩ : MethodName) (head1 (Jvm.Cond.code (⟨"com/example/annotated_resource_router/annotatedresourcerouter/uri/PercentEncoding", "isHexDigit", "(C)Z"⟩ : MethodName) prog_41_method_8_code 1 (some .boolean) :: ws) ({ frames := 0, cells := 0, slots := 0, locals := 0 } : Room)) (fun ag U => ag = #[(.int x0)] ∧ Z.Warmed39 U.vm ∧ U.heap = h0) (fun _ _ _ _ _ => True) (fun _ U oc U' => ∃ v L, oc = .returned v ∧ Qhex Z x0 h0 n0 v U'.heap L ∧ FrameEnd U oc U' L ({ frames := 0, cells := 0, slots := 0, locals := 0 } : Room).cells ({ frames := 0, cells := 0, slots := 0, locals := 0 } : Room).slots) := by
  refine MetFree.of_bodySF (plainFor_of_name pnhex) hisR ?_
  intro p e s m args below meth c s₁ Bd hml0 hP hK
  obtain ⟨rfl, hZ, hh⟩ := hP
  have hx := Bd.exec
  have hby := Bd.bytes
  have hml : c.maxLocals = 1 := hml0
  have hown : s.vm.findClass "com/example/annotated_resource_router/annotatedresourcerouter/uri/PercentEncoding" = some m.cls := findClass_of_methodNamed Bd.named
  have hnm := (name_of_methodNamed Bd.named Bd.method).1
  have X0 : Stand p l e ({ frames := 0, cells := 0, slots := 0, locals := 0 } : Room) s m #[(.int x0)] below meth c s₁ [] 0 0 := Stand.of_body Bd
  have e0 : s₁.heap = h0 := by rw [← hh, Bd.state]; rfl
  have N0 := Fr.nil n0
  show own_Go p e below (fun s₂ oc => ∃ v L, oc = .returned v ∧ Qhex Z x0 h0 n0 v s₂.heap L ∧ FrameEnd s oc s₂ L ({ frames := 0, cells := 0, slots := 0, locals := 0 } : Room).cells ({ frames := 0, cells := 0, slots := 0, locals := 0 } : Room).slots) s₁ (entryFrame m #[(.int x0)] 1)
  have B24 : ∀ (TB : State) (Lc : List Loc) (XB : Stand p l e ({ frames := 0, cells := 0, slots := 0, locals := 0 } : Room) s m #[(.int x0)] below meth c TB Lc 0 0) (eB : TB.heap = h0) (NB : Fr n0 Lc) , own_hex x0 = own_hex_24 x0 → own_Go p e below (fun s₂ oc => ∃ v L, oc = .returned v ∧ Qhex Z x0 h0 n0 v s₂.heap L ∧ FrameEnd s oc s₂ L ({ frames := 0, cells := 0, slots := 0, locals := 0 } : Room).cells ({ frames := 0, cells := 0, slots := 0, locals := 0 } : Room).slots) TB (mkF m 24 #[.val (.int x0)] []) := by
    intro TB Lc XB eB NB  hv
    refine og_iloadN (pc' := 25) XB hx (hb hby d1_24) rfl rfl ?_
    refine og_bipush (pc' := 27) (n := 97) XB hx (hb hby d1_25) rfl rfl ?_
    by_cases hc27_1 : x0 < (97 : Int32)
    · have hv := hv.trans (if_pos hc27_1)
      refine og_icmpYes (pc' := 40) XB hx (hb hby d1_27) (tlt hc27_1).1 (by decide) (by decide) ?_
      refine og_iconst (pc' := 41) (n := 0) XB hx (hb hby d1_40) rfl rfl ?_
      obtain ⟨fs, hr, hrun, hended, hW, hsame⟩ := XB.leave (v := some (.int (0 : Int32))) (fun h => by rw [Bd.returns] at h; cases h) (BodyLoose.notSynchronized Bd)
      refine ⟨_, _, retN XB hx (t := .boolean) Bd.returns (by simp) (hb hby d1_41) hr, hrun, hended, some (.int (0 : Int32)), _, rfl, ?_, ⟨_, rfl⟩, hW, hsame.mono (by decide) (by decide)⟩
      show Qhex Z x0 h0 n0 _ TB.heap _
      rw [eB]
      exact ⟨(congrArg (fun z => some (Value.int z)) hv.symm), NB, rfl⟩
    · have hv := hv.trans (if_neg hc27_1)
      refine og_icmpNo (pc' := 30) XB hx (hb hby d1_27) (flt hc27_1).1 rfl ?_
      refine og_iloadN (pc' := 31) XB hx (hb hby d1_30) rfl rfl ?_
      refine og_bipush (pc' := 33) (n := 102) XB hx (hb hby d1_31) rfl rfl ?_
      by_cases hc33_2 : (102 : Int32) < x0
      · have hv := hv.trans (if_pos hc33_2)
        refine og_icmpYes (pc' := 40) XB hx (hb hby d1_33) (tlt hc33_2).2.2.1 (by decide) (by decide) ?_
        refine og_iconst (pc' := 41) (n := 0) XB hx (hb hby d1_40) rfl rfl ?_
        obtain ⟨fs, hr, hrun, hended, hW, hsame⟩ := XB.leave (v := some (.int (0 : Int32))) (fun h => by rw [Bd.returns] at h; cases h) (BodyLoose.notSynchronized Bd)
        refine ⟨_, _, retN XB hx (t := .boolean) Bd.returns (by simp) (hb hby d1_41) hr, hrun, hended, some (.int (0 : Int32)), _, rfl, ?_, ⟨_, rfl⟩, hW, hsame.mono (by decide) (by decide)⟩
        show Qhex Z x0 h0 n0 _ TB.heap _
        rw [eB]
        exact ⟨(congrArg (fun z => some (Value.int z)) hv.symm), NB, rfl⟩
      · have hv := hv.trans (if_neg hc33_2)
        refine og_icmpNo (pc' := 36) XB hx (hb hby d1_33) (flt hc33_2).2.2.1 rfl ?_
        refine og_iconst (pc' := 37) (n := 1) XB hx (hb hby d1_36) rfl rfl ?_
        refine og_goto (pc' := 41) XB hx (hb hby d1_37) (by decide) (by decide) ?_
        obtain ⟨fs, hr, hrun, hended, hW, hsame⟩ := XB.leave (v := some (.int (1 : Int32))) (fun h => by rw [Bd.returns] at h; cases h) (BodyLoose.notSynchronized Bd)
        refine ⟨_, _, retN XB hx (t := .boolean) Bd.returns (by simp) (hb hby d1_41) hr, hrun, hended, some (.int (1 : Int32)), _, rfl, ?_, ⟨_, rfl⟩, hW, hsame.mono (by decide) (by decide)⟩
        show Qhex Z x0 h0 n0 _ TB.heap _
        rw [eB]
        exact ⟨(congrArg (fun z => some (Value.int z)) hv.symm), NB, rfl⟩
  have B12 : ∀ (TB : State) (Lc : List Loc) (XB : Stand p l e ({ frames := 0, cells := 0, slots := 0, locals := 0 } : Room) s m #[(.int x0)] below meth c TB Lc 0 0) (eB : TB.heap = h0) (NB : Fr n0 Lc) , own_hex x0 = own_hex_12 x0 → own_Go p e below (fun s₂ oc => ∃ v L, oc = .returned v ∧ Qhex Z x0 h0 n0 v s₂.heap L ∧ FrameEnd s oc s₂ L ({ frames := 0, cells := 0, slots := 0, locals := 0 } : Room).cells ({ frames := 0, cells := 0, slots := 0, locals := 0 } : Room).slots) TB (mkF m 12 #[.val (.int x0)] []) := by
    intro TB Lc XB eB NB  hv
    refine og_iloadN (pc' := 13) XB hx (hb hby d1_12) rfl rfl ?_
    refine og_bipush (pc' := 15) (n := 65) XB hx (hb hby d1_13) rfl rfl ?_
    by_cases hc15_3 : x0 < (65 : Int32)
    · have hv := hv.trans (if_pos hc15_3)
      refine og_icmpYes (pc' := 24) XB hx (hb hby d1_15) (tlt hc15_3).1 (by decide) (by decide) ?_
      exact B24 TB _ XB eB NB  hv
    · have hv := hv.trans (if_neg hc15_3)
      refine og_icmpNo (pc' := 18) XB hx (hb hby d1_15) (flt hc15_3).1 rfl ?_
      refine og_iloadN (pc' := 19) XB hx (hb hby d1_18) rfl rfl ?_
      refine og_bipush (pc' := 21) (n := 70) XB hx (hb hby d1_19) rfl rfl ?_
      by_cases hc21_4 : (70 : Int32) < x0
      · have hv := hv.trans (if_pos hc21_4)
        refine og_icmpNo (pc' := 24) XB hx (hb hby d1_21) (tlt hc21_4).2.2.2 rfl ?_
        exact B24 TB _ XB eB NB  hv
      · have hv := hv.trans (if_neg hc21_4)
        refine og_icmpYes (pc' := 36) XB hx (hb hby d1_21) (flt hc21_4).2.2.2 (by decide) (by decide) ?_
        refine og_iconst (pc' := 37) (n := 1) XB hx (hb hby d1_36) rfl rfl ?_
        refine og_goto (pc' := 41) XB hx (hb hby d1_37) (by decide) (by decide) ?_
        obtain ⟨fs, hr, hrun, hended, hW, hsame⟩ := XB.leave (v := some (.int (1 : Int32))) (fun h => by rw [Bd.returns] at h; cases h) (BodyLoose.notSynchronized Bd)
        refine ⟨_, _, retN XB hx (t := .boolean) Bd.returns (by simp) (hb hby d1_41) hr, hrun, hended, some (.int (1 : Int32)), _, rfl, ?_, ⟨_, rfl⟩, hW, hsame.mono (by decide) (by decide)⟩
        show Qhex Z x0 h0 n0 _ TB.heap _
        rw [eB]
        exact ⟨(congrArg (fun z => some (Value.int z)) hv.symm), NB, rfl⟩
  refine own_Go.of (g' := mkF m 0 #[.val (.int x0)] []) (fun t k => castTop (efhex m x0) k) ?_
  have hv : own_hex x0 = own_hex x0 := rfl
  refine og_iloadN (pc' := 1) X0 hx (hb hby d1_0) rfl rfl ?_
  refine og_bipush (pc' := 3) (n := 48) X0 hx (hb hby d1_1) rfl rfl ?_
  by_cases hc3_5 : x0 < (48 : Int32)
  · have hv := hv.trans (if_pos hc3_5)
    refine og_icmpYes (pc' := 12) X0 hx (hb hby d1_3) (tlt hc3_5).1 (by decide) (by decide) ?_
    exact B12 s₁ _ X0 e0 N0  hv
  · have hv := hv.trans (if_neg hc3_5)
    refine og_icmpNo (pc' := 6) X0 hx (hb hby d1_3) (flt hc3_5).1 rfl ?_
    refine og_iloadN (pc' := 7) X0 hx (hb hby d1_6) rfl rfl ?_
    refine og_bipush (pc' := 9) (n := 57) X0 hx (hb hby d1_7) rfl rfl ?_
    by_cases hc9_6 : (57 : Int32) < x0
    · have hv := hv.trans (if_pos hc9_6)
      refine og_icmpNo (pc' := 12) X0 hx (hb hby d1_9) (tlt hc9_6).2.2.2 rfl ?_
      exact B12 s₁ _ X0 e0 N0  hv
    · have hv := hv.trans (if_neg hc9_6)
      refine og_icmpYes (pc' := 36) X0 hx (hb hby d1_9) (flt hc9_6).2.2.2 (by decide) (by decide) ?_
      refine og_iconst (pc' := 37) (n := 1) X0 hx (hb hby d1_36) rfl rfl ?_
      refine og_goto (pc' := 41) X0 hx (hb hby d1_37) (by decide) (by decide) ?_
      obtain ⟨fs, hr, hrun, hended, hW, hsame⟩ := X0.leave (v := some (.int (1 : Int32))) (fun h => by rw [Bd.returns] at h; cases h) (BodyLoose.notSynchronized Bd)
      refine ⟨_, _, retN X0 hx (t := .boolean) Bd.returns (by simp) (hb hby d1_41) hr, hrun, hended, some (.int (1 : Int32)), _, rfl, ?_, ⟨_, rfl⟩, hW, hsame.mono (by decide) (by decide)⟩
      show Qhex Z x0 h0 n0 _ s₁.heap _
      rw [e0]
      exact ⟨(congrArg (fun z => some (Value.int z)) hv.symm), N0, rfl⟩

def own_ch (ev : Int32) : Int32 := ((((ev &&& (255 : Int32)).toUInt32.toUInt16.toUInt32.toInt32)).toUInt32.toUInt16.toUInt32.toInt32)
def own_ch2 (ev : Int32) : Int32 := ((own_ch ev).toUInt32.toUInt16.toUInt32.toInt32)
theorem own_ref {v : Value} (h : v.isRef = true) : v = .null ∨ ∃ r, v = .ref r := by
  cases v <;> simp [Value.isRef] at h ⊢
theorem own_isref {args : Array Value} {first s : State} {o : Option Outcome} {idx : List Nat} {a : Term} (h : (Jvm.Cond.isRef a).value args first o s idx = some true) : ∃ v, a.eval args first o idx s = some v ∧ v.isRef = true := by
  simp only [Cond.value] at h
  cases hv : a.eval args first o idx s with
  | none => rw [hv] at h; cases h
  | some v =>
    refine ⟨v, rfl, ?_⟩
    rw [hv] at h
    cases v <;> simp [Value.isRef] at h ⊢
theorem own_ne0 {args : Array Value} {first s : State} {o : Option Outcome} {idx : List Nat} {a : Term} {z : Int32} (h : (Jvm.Cond.not (Jvm.Cond.eq a (Term.int 0))).value args first o s idx = some true) (ha : a.eval args first o idx s = some (.int z)) : ¬ z = (0 : Int32) := by
  intro q
  have h2 := not_v h
  have hb : (Term.int 0).eval args first o idx s = some (.int 0) := Term.int_eval 0
  simp [Cond.value, ha, hb, q] at h2
theorem own_getD_map (zs : List Int32) (j : Nat) : (zs.map Value.int).getD j (.int (0 : Int32)) = .int (zs.getD j 0) := by
  induction zs generalizing j with
  | nil => rfl
  | cons a t ih => cases j with
    | zero => rfl
    | succ k => exact ih k

theorem d3_0 : decode jdk_42_method_154_code 0 = .ok (.getstatic 38, 3) := by decide +kernel
theorem d3_3 : decode jdk_42_method_154_code 3 = .ok (.ifCond .eq 14, 3) := by decide +kernel
theorem d3_6 : decode jdk_42_method_154_code 6 = .ok (.aload_n 0, 1) := by decide +kernel
theorem d3_7 : decode jdk_42_method_154_code 7 = .ok (.getfield 15, 3) := by decide +kernel
theorem d3_10 : decode jdk_42_method_154_code 10 = .ok (.ifCond .ne 7, 3) := by decide +kernel
theorem d3_13 : decode jdk_42_method_154_code 13 = .ok (.iconst 1, 1) := by decide +kernel
theorem d3_14 : decode jdk_42_method_154_code 14 = .ok (.goto 4, 3) := by decide +kernel
theorem d3_18 : decode jdk_42_method_154_code 18 = .ok (.ireturn, 1) := by decide +kernel
theorem pniL : plainName "java/lang/String" = true := by first | (simp [plainName, overriddenIn]; done) | decide +kernel
theorem efiL (m : MethodId) (z0 : Addr) : entryFrame m #[(.ref z0)] 1 = mkF m 0 #[.val (.ref z0)] [] := by first | (simp [entryFrame, mkF, argsToLocals, Value.category]; done) | rfl
def QiL (Z : State) (o : Addr) (cs : Int32) (h0 : Heap) (n0 : Nat) (v : Option Value) (h : Heap) (L : List Loc) : Prop := v = some (.int (1 : Int32)) ∧ Fr n0 L ∧ h = h0
set_option maxRecDepth 65536 in
set_option maxHeartbeats 40000000 in
theorem rmiL (l : Launch) (Z : State) (a0 : Array Value) (hw : ∀ d ∈ tables_1, d.before a0 Z = true) (ws : List Jvm.Cond) (o : Addr) (cs : Int32) (h0 : Heap) (n0 : Nat) (Z0 : n0 ≤ h0.size) (O_h : Old Z n0 h0) (S_c : Sta Z Z.heap "java/lang/String" "COMPACT_STRINGS" "Z" (.int cs)) (hcs : ¬ cs = (0 : Int32)) (F_o : Fld Z h0 o "java/lang/String" "coder" "B" (.int (0 : Int32))) :
    MetFree l (⟨"java/lang/String", "isLatin1", "()Z"⟩ : MethodName) (head1 (Jvm.Cond.code (⟨"java/lang/String", "isLatin1", "()Z"⟩ : MethodName) jdk_42_method_154_code 1 (some .boolean) :: ws) ({ frames := 0, cells := 0, slots := 0, locals := 0 } : Room)) (fun ag U => ag = #[(.ref o)] ∧ Z.Warmed39 U.vm ∧ U.heap = h0) (fun _ _ _ _ _ => True) (fun _ U oc U' => ∃ v L, oc = .returned v ∧ QiL Z o cs h0 n0 v U'.heap L ∧ FrameEnd U oc U' L ({ frames := 0, cells := 0, slots := 0, locals := 0 } : Room).cells ({ frames := 0, cells := 0, slots := 0, locals := 0 } : Room).slots) := by
  refine MetFree.of_bodySF (plainFor_of_name pniL) hisR ?_
  intro p e s m args below meth c s₁ Bd hml0 hP hK
  obtain ⟨rfl, hZ, hh⟩ := hP
  have hx := Bd.exec
  have hby := Bd.bytes
  have hml : c.maxLocals = 1 := hml0
  have hown : s.vm.findClass "java/lang/String" = some m.cls := findClass_of_methodNamed Bd.named
  have hnm := (name_of_methodNamed Bd.named Bd.method).1
  have X0 : Stand p l e ({ frames := 0, cells := 0, slots := 0, locals := 0 } : Room) s m #[(.ref o)] below meth c s₁ [] 0 0 := Stand.of_body Bd
  have e0 : s₁.heap = h0 := by rw [← hh, Bd.state]; rfl
  have N0 := Fr.nil n0
  show own_Go p e below (fun s₂ oc => ∃ v L, oc = .returned v ∧ QiL Z o cs h0 n0 v s₂.heap L ∧ FrameEnd s oc s₂ L ({ frames := 0, cells := 0, slots := 0, locals := 0 } : Room).cells ({ frames := 0, cells := 0, slots := 0, locals := 0 } : Room).slots) s₁ (entryFrame m #[(.ref o)] 1)
  refine own_Go.of (g' := mkF m 0 #[.val (.ref o)] []) (fun t k => castTop (efiL m o) k) ?_
  have S0q := S_c.ext O_h.2
  obtain ⟨T1, X1, e1, st1⟩ := getS2 X0 hx hZ hown (host := "") (Or.inl (hw _ (List.mem_of_getElem? (i := 22) rfl))) Via.refl e0 S0q (g := (mkF m 0 #[.val (.ref o)] [])) rfl (hb hby d3_0)
  refine own_Go.of (g' := (mkF m 3 #[.val (.ref o)] [(.int cs)])) (fun t k => st1 _ k) ?_
  refine og_ifNo (pc' := 6) X1 hx (hb hby d3_3) ((if0 _ _).trans (feq hcs).1) rfl ?_
  refine og_aloadN (pc' := 7) X1 hx (hb hby d3_6) rfl rfl rfl ?_
  obtain ⟨T2, X2, e2, st2⟩ := getF X1 hx hZ hown (host := "") (Or.inl (hw _ (List.mem_of_getElem? (i := 23) rfl))) Via.refl e1 F_o (g := (mkF m 7 #[.val (.ref o)] [(.ref o)])) rfl rfl (hb hby d3_7)
  refine own_Go.of (g' := (mkF m 10 #[.val (.ref o)] [(.int (0 : Int32))])) (fun t k => st2 _ k) ?_
  refine og_ifNo (pc' := 13) X2 hx (hb hby d3_10) ((if0 _ _).trans (teq (by decide)).2) rfl ?_
  refine og_iconst (pc' := 14) (n := 1) X2 hx (hb hby d3_13) rfl rfl ?_
  refine og_goto (pc' := 18) X2 hx (hb hby d3_14) (by decide) (by decide) ?_
  obtain ⟨fs, hr, hrun, hended, hW, hsame⟩ := X2.leave (v := some (.int (1 : Int32))) (fun h => by rw [Bd.returns] at h; cases h) (BodyLoose.notSynchronized Bd)
  refine ⟨_, _, retN X2 hx (t := .boolean) Bd.returns (by simp) (hb hby d3_18) hr, hrun, hended, some (.int (1 : Int32)), _, rfl, ?_, ⟨_, rfl⟩, hW, hsame.mono (by decide) (by decide)⟩
  show QiL Z o cs h0 n0 _ T2.heap _
  rw [e2]
  exact ⟨rfl, N0, rfl⟩

theorem d6_0 : decode jdk_41_method_11_code 0 = .ok (.iload_n 0, 1) := by decide +kernel
theorem d6_1 : decode jdk_41_method_11_code 1 = .ok (.ifCond .lt 8, 3) := by decide +kernel
theorem d6_4 : decode jdk_41_method_11_code 4 = .ok (.iload_n 0, 1) := by decide +kernel
theorem d6_5 : decode jdk_41_method_11_code 5 = .ok (.iload_n 1, 1) := by decide +kernel
theorem d6_6 : decode jdk_41_method_11_code 6 = .ok (.if_icmp .lt 10, 3) := by decide +kernel
theorem d6_16 : decode jdk_41_method_11_code 16 = .ok (.iload_n 0, 1) := by decide +kernel
theorem d6_17 : decode jdk_41_method_11_code 17 = .ok (.ireturn, 1) := by decide +kernel
theorem pnciR : plainName "jdk/internal/util/Preconditions" = true := by first | (simp [plainName, overriddenIn]; done) | decide +kernel
theorem efciR (m : MethodId) (z0 : Int32) (z1 : Int32) (z2 : Addr) : entryFrame m #[(.int z0), (.int z1), (.ref z2)] 3 = mkF m 0 #[.val (.int z0), .val (.int z1), .val (.ref z2)] [] := by first | (simp [entryFrame, mkF, argsToLocals, Value.category]; done) | rfl
def QciR (Z : State) (x0 : Int32) (x1 : Int32) (rf : Addr) (h0 : Heap) (n0 : Nat) (v : Option Value) (h : Heap) (L : List Loc) : Prop := v = some (.int x0) ∧ Fr n0 L ∧ h = h0
set_option maxRecDepth 65536 in
set_option maxHeartbeats 40000000 in
theorem rmciR (l : Launch) (Z : State) (a0 : Array Value) (hw : ∀ d ∈ tables_1, d.before a0 Z = true) (ws : List Jvm.Cond) (x0 : Int32) (x1 : Int32) (rf : Addr) (h0 : Heap) (n0 : Nat) (Z0 : n0 ≤ h0.size) (hi : ¬ x0 < (0 : Int32) ∧ x0 < x1) :
    MetFree l (⟨"jdk/internal/util/Preconditions", "checkIndex", "(IILjava/util/function/BiFunction;)I"⟩ : MethodName) (head1 (Jvm.Cond.code (⟨"jdk/internal/util/Preconditions", "checkIndex", "(IILjava/util/function/BiFunction;)I"⟩ : MethodName) jdk_41_method_11_code 3 (some .int) :: ws) ({ frames := 0, cells := 0, slots := 0, locals := 0 } : Room)) (fun ag U => ag = #[(.int x0), (.int x1), (.ref rf)] ∧ Z.Warmed39 U.vm ∧ U.heap = h0) (fun _ _ _ _ _ => True) (fun _ U oc U' => ∃ v L, oc = .returned v ∧ QciR Z x0 x1 rf h0 n0 v U'.heap L ∧ FrameEnd U oc U' L ({ frames := 0, cells := 0, slots := 0, locals := 0 } : Room).cells ({ frames := 0, cells := 0, slots := 0, locals := 0 } : Room).slots) := by
  refine MetFree.of_bodySF (plainFor_of_name pnciR) hisR ?_
  intro p e s m args below meth c s₁ Bd hml0 hP hK
  obtain ⟨rfl, hZ, hh⟩ := hP
  have hx := Bd.exec
  have hby := Bd.bytes
  have hml : c.maxLocals = 3 := hml0
  have hown : s.vm.findClass "jdk/internal/util/Preconditions" = some m.cls := findClass_of_methodNamed Bd.named
  have hnm := (name_of_methodNamed Bd.named Bd.method).1
  have X0 : Stand p l e ({ frames := 0, cells := 0, slots := 0, locals := 0 } : Room) s m #[(.int x0), (.int x1), (.ref rf)] below meth c s₁ [] 0 0 := Stand.of_body Bd
  have e0 : s₁.heap = h0 := by rw [← hh, Bd.state]; rfl
  have N0 := Fr.nil n0
  show own_Go p e below (fun s₂ oc => ∃ v L, oc = .returned v ∧ QciR Z x0 x1 rf h0 n0 v s₂.heap L ∧ FrameEnd s oc s₂ L ({ frames := 0, cells := 0, slots := 0, locals := 0 } : Room).cells ({ frames := 0, cells := 0, slots := 0, locals := 0 } : Room).slots) s₁ (entryFrame m #[(.int x0), (.int x1), (.ref rf)] 3)
  refine own_Go.of (g' := mkF m 0 #[.val (.int x0), .val (.int x1), .val (.ref rf)] []) (fun t k => castTop (efciR m x0 x1 rf) k) ?_
  refine og_iloadN (pc' := 1) X0 hx (hb hby d6_0) rfl rfl ?_
  refine og_ifNo (pc' := 4) X0 hx (hb hby d6_1) ((if0 _ _).trans (flt hi.1).1) rfl ?_
  refine og_iloadN (pc' := 5) X0 hx (hb hby d6_4) rfl rfl ?_
  refine og_iloadN (pc' := 6) X0 hx (hb hby d6_5) rfl rfl ?_
  refine og_icmpYes (pc' := 16) X0 hx (hb hby d6_6) (tlt hi.2).1 (by decide) (by decide) ?_
  refine og_iloadN (pc' := 17) X0 hx (hb hby d6_16) rfl rfl ?_
  obtain ⟨fs, hr, hrun, hended, hW, hsame⟩ := X0.leave (v := some (.int x0)) (fun h => by rw [Bd.returns] at h; cases h) (BodyLoose.notSynchronized Bd)
  refine ⟨_, _, retI X0 hx Bd.returns (hb hby d6_17) hr, hrun, hended, some (.int x0), _, rfl, ?_, ⟨_, rfl⟩, hW, hsame.mono (by decide) (by decide)⟩
  show QciR Z x0 x1 rf h0 n0 _ s₁.heap _
  rw [e0]
  exact ⟨rfl, N0, rfl⟩

theorem pnciN : plainName "jdk/internal/util/Preconditions" = true := by first | (simp [plainName, overriddenIn]; done) | decide +kernel
theorem efciN (m : MethodId) (z0 : Int32) (z1 : Int32) : entryFrame m #[(.int z0), (.int z1), .null] 3 = mkF m 0 #[.val (.int z0), .val (.int z1), .val .null] [] := by first | (simp [entryFrame, mkF, argsToLocals, Value.category]; done) | rfl
def QciN (Z : State) (x0 : Int32) (x1 : Int32) (h0 : Heap) (n0 : Nat) (v : Option Value) (h : Heap) (L : List Loc) : Prop := v = some (.int x0) ∧ Fr n0 L ∧ h = h0
set_option maxRecDepth 65536 in
set_option maxHeartbeats 40000000 in
theorem rmciN (l : Launch) (Z : State) (a0 : Array Value) (hw : ∀ d ∈ tables_1, d.before a0 Z = true) (ws : List Jvm.Cond) (x0 : Int32) (x1 : Int32) (h0 : Heap) (n0 : Nat) (Z0 : n0 ≤ h0.size) (hi : ¬ x0 < (0 : Int32) ∧ x0 < x1) :
    MetFree l (⟨"jdk/internal/util/Preconditions", "checkIndex", "(IILjava/util/function/BiFunction;)I"⟩ : MethodName) (head1 (Jvm.Cond.code (⟨"jdk/internal/util/Preconditions", "checkIndex", "(IILjava/util/function/BiFunction;)I"⟩ : MethodName) jdk_41_method_11_code 3 (some .int) :: ws) ({ frames := 0, cells := 0, slots := 0, locals := 0 } : Room)) (fun ag U => ag = #[(.int x0), (.int x1), .null] ∧ Z.Warmed39 U.vm ∧ U.heap = h0) (fun _ _ _ _ _ => True) (fun _ U oc U' => ∃ v L, oc = .returned v ∧ QciN Z x0 x1 h0 n0 v U'.heap L ∧ FrameEnd U oc U' L ({ frames := 0, cells := 0, slots := 0, locals := 0 } : Room).cells ({ frames := 0, cells := 0, slots := 0, locals := 0 } : Room).slots) := by
  refine MetFree.of_bodySF (plainFor_of_name pnciN) hisR ?_
  intro p e s m args below meth c s₁ Bd hml0 hP hK
  obtain ⟨rfl, hZ, hh⟩ := hP
  have hx := Bd.exec
  have hby := Bd.bytes
  have hml : c.maxLocals = 3 := hml0
  have hown : s.vm.findClass "jdk/internal/util/Preconditions" = some m.cls := findClass_of_methodNamed Bd.named
  have hnm := (name_of_methodNamed Bd.named Bd.method).1
  have X0 : Stand p l e ({ frames := 0, cells := 0, slots := 0, locals := 0 } : Room) s m #[(.int x0), (.int x1), .null] below meth c s₁ [] 0 0 := Stand.of_body Bd
  have e0 : s₁.heap = h0 := by rw [← hh, Bd.state]; rfl
  have N0 := Fr.nil n0
  show own_Go p e below (fun s₂ oc => ∃ v L, oc = .returned v ∧ QciN Z x0 x1 h0 n0 v s₂.heap L ∧ FrameEnd s oc s₂ L ({ frames := 0, cells := 0, slots := 0, locals := 0 } : Room).cells ({ frames := 0, cells := 0, slots := 0, locals := 0 } : Room).slots) s₁ (entryFrame m #[(.int x0), (.int x1), .null] 3)
  refine own_Go.of (g' := mkF m 0 #[.val (.int x0), .val (.int x1), .val .null] []) (fun t k => castTop (efciN m x0 x1) k) ?_
  refine og_iloadN (pc' := 1) X0 hx (hb hby d6_0) rfl rfl ?_
  refine og_ifNo (pc' := 4) X0 hx (hb hby d6_1) ((if0 _ _).trans (flt hi.1).1) rfl ?_
  refine og_iloadN (pc' := 5) X0 hx (hb hby d6_4) rfl rfl ?_
  refine og_iloadN (pc' := 6) X0 hx (hb hby d6_5) rfl rfl ?_
  refine og_icmpYes (pc' := 16) X0 hx (hb hby d6_6) (tlt hi.2).1 (by decide) (by decide) ?_
  refine og_iloadN (pc' := 17) X0 hx (hb hby d6_16) rfl rfl ?_
  obtain ⟨fs, hr, hrun, hended, hW, hsame⟩ := X0.leave (v := some (.int x0)) (fun h => by rw [Bd.returns] at h; cases h) (BodyLoose.notSynchronized Bd)
  refine ⟨_, _, retI X0 hx Bd.returns (hb hby d6_17) hr, hrun, hended, some (.int x0), _, rfl, ?_, ⟨_, rfl⟩, hW, hsame.mono (by decide) (by decide)⟩
  show QciN Z x0 x1 h0 n0 _ s₁.heap _
  rw [e0]
  exact ⟨rfl, N0, rfl⟩

theorem d5_0 : decode jdk_42_method_155_code 0 = .ok (.iload_n 0, 1) := by decide +kernel
theorem d5_1 : decode jdk_42_method_155_code 1 = .ok (.iload_n 1, 1) := by decide +kernel
theorem d5_2 : decode jdk_42_method_155_code 2 = .ok (.getstatic 1053, 3) := by decide +kernel
theorem d5_5 : decode jdk_42_method_155_code 5 = .ok (.invokestatic 1059, 3) := by decide +kernel
theorem d5_8 : decode jdk_42_method_155_code 8 = .ok (.pop, 1) := by decide +kernel
theorem d5_9 : decode jdk_42_method_155_code 9 = .ok (.return_, 1) := by decide +kernel
theorem pncii : plainName "java/lang/String" = true := by first | (simp [plainName, overriddenIn]; done) | decide +kernel
theorem pd_0 : parseMethodDescriptor "(IILjava/util/function/BiFunction;)I" = some ⟨[.int, .int, (.object "java/util/function/BiFunction")], some .int⟩ := by decide +kernel
theorem efcii (m : MethodId) (z0 : Int32) (z1 : Int32) : entryFrame m #[(.int z0), (.int z1)] 2 = mkF m 0 #[.val (.int z0), .val (.int z1)] [] := by first | (simp [entryFrame, mkF, argsToLocals, Value.category]; done) | rfl
def Qcii (Z : State) (x0 : Int32) (x1 : Int32) (fm : Value) (h0 : Heap) (n0 : Nat) (v : Option Value) (h : Heap) (L : List Loc) : Prop := v = none ∧ Fr n0 L ∧ h = h0
set_option maxRecDepth 65536 in
set_option maxHeartbeats 40000000 in
theorem rmcii (l : Launch) (Z : State) (a0 : Array Value) (hw : ∀ d ∈ tables_1, d.before a0 Z = true) (ws : List Jvm.Cond) (x0 : Int32) (x1 : Int32) (fm : Value) (h0 : Heap) (n0 : Nat) (Z0 : n0 ≤ h0.size) (O_h : Old Z n0 h0) (S_f : Sta Z Z.heap "jdk/internal/util/Preconditions" "SIOOBE_FORMATTER" "Ljava/util/function/BiFunction;" fm) (hfm : fm.isRef = true) (hi : ¬ x0 < (0 : Int32) ∧ x0 < x1) :
    MetFree l (⟨"java/lang/String", "checkIndex", "(II)V"⟩ : MethodName) (head1 (Jvm.Cond.code (⟨"java/lang/String", "checkIndex", "(II)V"⟩ : MethodName) jdk_42_method_155_code 2 none :: ws) ({ frames := 1, cells := 0, slots := 0, locals := 14 } : Room)) (fun ag U => ag = #[(.int x0), (.int x1)] ∧ Z.Warmed39 U.vm ∧ U.heap = h0) (fun _ _ _ _ _ => True) (fun _ U oc U' => ∃ v L, oc = .returned v ∧ Qcii Z x0 x1 fm h0 n0 v U'.heap L ∧ FrameEnd U oc U' L ({ frames := 1, cells := 0, slots := 0, locals := 14 } : Room).cells ({ frames := 1, cells := 0, slots := 0, locals := 14 } : Room).slots) := by
  refine MetFree.of_bodySF (plainFor_of_name pncii) hisR ?_
  intro p e s m args below meth c s₁ Bd hml0 hP hK
  obtain ⟨rfl, hZ, hh⟩ := hP
  have hx := Bd.exec
  have hby := Bd.bytes
  have hml : c.maxLocals = 2 := hml0
  have hown : s.vm.findClass "java/lang/String" = some m.cls := findClass_of_methodNamed Bd.named
  have hnm := (name_of_methodNamed Bd.named Bd.method).1
  have X0 : Stand p l e ({ frames := 1, cells := 0, slots := 0, locals := 14 } : Room) s m #[(.int x0), (.int x1)] below meth c s₁ [] 0 0 := Stand.of_body Bd
  have e0 : s₁.heap = h0 := by rw [← hh, Bd.state]; rfl
  have N0 := Fr.nil n0
  show own_Go p e below (fun s₂ oc => ∃ v L, oc = .returned v ∧ Qcii Z x0 x1 fm h0 n0 v s₂.heap L ∧ FrameEnd s oc s₂ L ({ frames := 1, cells := 0, slots := 0, locals := 14 } : Room).cells ({ frames := 1, cells := 0, slots := 0, locals := 14 } : Room).slots) s₁ (entryFrame m #[(.int x0), (.int x1)] 2)
  refine own_Go.of (g' := mkF m 0 #[.val (.int x0), .val (.int x1)] []) (fun t k => castTop (efcii m x0 x1) k) ?_
  refine og_iloadN (pc' := 1) X0 hx (hb hby d5_0) rfl rfl ?_
  refine og_iloadN (pc' := 2) X0 hx (hb hby d5_1) rfl rfl ?_
  rcases own_ref hfm with hq | ⟨fr, hq⟩
  · have S2q : Sta Z h0 "jdk/internal/util/Preconditions" "SIOOBE_FORMATTER" "Ljava/util/function/BiFunction;" .null := by rw [← hq]; exact S_f.ext O_h.2
    obtain ⟨T1, X1, e1, st1⟩ := getS2 X0 hx hZ hown (host := "") (Or.inl (hw _ (List.mem_of_getElem? (i := 32) rfl))) Via.refl e0 S2q (g := (mkF m 2 #[.val (.int x0), .val (.int x1)] [(.int x1), (.int x0)])) rfl (hb hby d5_2)
    refine own_Go.of (g' := (mkF m 5 #[.val (.int x0), .val (.int x1)] [.null, (.int x1), (.int x0)])) (fun t k => st1 _ k) ?_
    obtain ⟨_, _, ⟨T2, L2, k2, n2⟩, -, X2, ⟨Lc2, hQ2, l2, y2, z2⟩, st2⟩ := Jvm.LawKit.callS X1 hx (y := (⟨"jdk/internal/util/Preconditions", "checkIndex", "(IILjava/util/function/BiFunction;)I"⟩ : MethodName)) hown (mvT hZ (hw _ (List.mem_of_getElem? (i := 34) rfl))) (mvT hZ (hw _ (List.mem_of_getElem? (i := 35) rfl))) (mvT hZ (hw _ (List.mem_of_getElem? (i := 33) rfl))) (mvT hZ (hw _ (List.mem_of_getElem? (i := 36) rfl))) (by decide) (backOf (W := 0) (rmciN l Z a0 hw [] x0 x1 h0 n0 Z0 hi) hZ (hw _ (List.mem_of_getElem? (i := 36) rfl)) (hw _ (List.mem_of_getElem? (i := 33) rfl)) (by decide) (by decide)) (g := (mkF m 5 #[.val (.int x0), .val (.int x1)] [.null, (.int x1), (.int x0)])) rfl (by rw [hml]; rfl) (argsL := [(.int x0), (.int x1), .null]) (rest := []) (lenOf pd_0 rfl) rfl (by show 2 * 0 + _ ≤ _; exact Nat.le_of_eq rfl) (hb hby d5_5) (fun _ _ => ⟨rfl, e1, (by decide : 0 + 0 ≤ _), (by decide : 0 + 0 ≤ _)⟩)
    dsimp only [Pt.U, Pt.locs, Pt.cells, Pt.slots] at X2 l2 y2 z2 st2 hQ2
    subst l2 y2 z2
    obtain ⟨rfl, N2q, e2⟩ := hQ2
    have N2 := Fr.app N0 N2q
    obtain ⟨J2, X2, N2⟩ := own_hide X2 N2
    refine own_Go.of (g' := (mkF m 8 #[.val (.int x0), .val (.int x1)] [(.int x0)])) (fun t k => st2 _ k) ?_
    refine og_pop (pc' := 9) X2 hx (hb hby d5_8) rfl rfl ?_
    obtain ⟨fs, hr, hrun, hended, hW, hsame⟩ := X2.leave (v := none) (fun _ => rfl) (BodyLoose.notSynchronized Bd)
    refine ⟨_, _, X2.returnOut hx Bd.returns (hb hby d5_9) hr, hrun, hended, none, _, rfl, ?_, ⟨_, rfl⟩, hW, hsame.mono (by decide) (by decide)⟩
    show Qcii Z x0 x1 fm h0 n0 _ T2.heap _
    rw [e2]
    exact ⟨rfl, N2, rfl⟩
  · have S2q : Sta Z h0 "jdk/internal/util/Preconditions" "SIOOBE_FORMATTER" "Ljava/util/function/BiFunction;" (.ref fr) := by rw [← hq]; exact S_f.ext O_h.2
    obtain ⟨T3, X3, e3, st3⟩ := getS2 X0 hx hZ hown (host := "") (Or.inl (hw _ (List.mem_of_getElem? (i := 32) rfl))) Via.refl e0 S2q (g := (mkF m 2 #[.val (.int x0), .val (.int x1)] [(.int x1), (.int x0)])) rfl (hb hby d5_2)
    refine own_Go.of (g' := (mkF m 5 #[.val (.int x0), .val (.int x1)] [(.ref fr), (.int x1), (.int x0)])) (fun t k => st3 _ k) ?_
    obtain ⟨_, _, ⟨T4, L4, k4, n4⟩, -, X4, ⟨Lc4, hQ4, l4, y4, z4⟩, st4⟩ := Jvm.LawKit.callS X3 hx (y := (⟨"jdk/internal/util/Preconditions", "checkIndex", "(IILjava/util/function/BiFunction;)I"⟩ : MethodName)) hown (mvT hZ (hw _ (List.mem_of_getElem? (i := 34) rfl))) (mvT hZ (hw _ (List.mem_of_getElem? (i := 35) rfl))) (mvT hZ (hw _ (List.mem_of_getElem? (i := 33) rfl))) (mvT hZ (hw _ (List.mem_of_getElem? (i := 36) rfl))) (by decide) (backOf (W := 0) (rmciR l Z a0 hw [] x0 x1 fr h0 n0 Z0 hi) hZ (hw _ (List.mem_of_getElem? (i := 36) rfl)) (hw _ (List.mem_of_getElem? (i := 33) rfl)) (by decide) (by decide)) (g := (mkF m 5 #[.val (.int x0), .val (.int x1)] [(.ref fr), (.int x1), (.int x0)])) rfl (by rw [hml]; rfl) (argsL := [(.int x0), (.int x1), (.ref fr)]) (rest := []) (lenOf pd_0 rfl) rfl (by show 2 * 0 + _ ≤ _; exact Nat.le_of_eq rfl) (hb hby d5_5) (fun _ _ => ⟨rfl, e3, (by decide : 0 + 0 ≤ _), (by decide : 0 + 0 ≤ _)⟩)
    dsimp only [Pt.U, Pt.locs, Pt.cells, Pt.slots] at X4 l4 y4 z4 st4 hQ4
    subst l4 y4 z4
    obtain ⟨rfl, N4q, e4⟩ := hQ4
    have N4 := Fr.app N0 N4q
    obtain ⟨J4, X4, N4⟩ := own_hide X4 N4
    refine own_Go.of (g' := (mkF m 8 #[.val (.int x0), .val (.int x1)] [(.int x0)])) (fun t k => st4 _ k) ?_
    refine og_pop (pc' := 9) X4 hx (hb hby d5_8) rfl rfl ?_
    obtain ⟨fs, hr, hrun, hended, hW, hsame⟩ := X4.leave (v := none) (fun _ => rfl) (BodyLoose.notSynchronized Bd)
    refine ⟨_, _, X4.returnOut hx Bd.returns (hb hby d5_9) hr, hrun, hended, none, _, rfl, ?_, ⟨_, rfl⟩, hW, hsame.mono (by decide) (by decide)⟩
    show Qcii Z x0 x1 fm h0 n0 _ T4.heap _
    rw [e4]
    exact ⟨rfl, N4, rfl⟩

theorem d4_0 : decode jdk_43_method_2_code 0 = .ok (.iload_n 1, 1) := by decide +kernel
theorem d4_1 : decode jdk_43_method_2_code 1 = .ok (.aload_n 0, 1) := by decide +kernel
theorem d4_2 : decode jdk_43_method_2_code 2 = .ok (.arraylength, 1) := by decide +kernel
theorem d4_3 : decode jdk_43_method_2_code 3 = .ok (.invokestatic 9, 3) := by decide +kernel
theorem d4_6 : decode jdk_43_method_2_code 6 = .ok (.aload_n 0, 1) := by decide +kernel
theorem d4_7 : decode jdk_43_method_2_code 7 = .ok (.iload_n 1, 1) := by decide +kernel
theorem d4_8 : decode jdk_43_method_2_code 8 = .ok (.baload, 1) := by decide +kernel
theorem d4_9 : decode jdk_43_method_2_code 9 = .ok (.sipush 255, 3) := by decide +kernel
theorem d4_12 : decode jdk_43_method_2_code 12 = .ok (.iand, 1) := by decide +kernel
theorem d4_13 : decode jdk_43_method_2_code 13 = .ok (.i2c, 1) := by decide +kernel
theorem d4_14 : decode jdk_43_method_2_code 14 = .ok (.ireturn, 1) := by decide +kernel
theorem pnlch : plainName "java/lang/StringLatin1" = true := by first | (simp [plainName, overriddenIn]; done) | decide +kernel
theorem pd_1 : parseMethodDescriptor "(II)V" = some ⟨[.int, .int], none⟩ := by decide +kernel
theorem eflch (m : MethodId) (z0 : Addr) (z1 : Int32) : entryFrame m #[(.ref z0), (.int z1)] 2 = mkF m 0 #[.val (.ref z0), .val (.int z1)] [] := by first | (simp [entryFrame, mkF, argsToLocals, Value.category]; done) | rfl
def Qlch (Z : State) (b : Addr) (x1 : Int32) (kk : ClassId) (fm : Value) (vs : List Value) (ev : Int32) (h0 : Heap) (n0 : Nat) (v : Option Value) (h : Heap) (L : List Loc) : Prop := v = some (.int (own_ch ev)) ∧ Fr n0 L ∧ h = h0
set_option maxRecDepth 65536 in
set_option maxHeartbeats 40000000 in
theorem rmlch (l : Launch) (Z : State) (a0 : Array Value) (hw : ∀ d ∈ tables_1, d.before a0 Z = true) (ws : List Jvm.Cond) (b : Addr) (x1 : Int32) (kk : ClassId) (fm : Value) (vs : List Value) (ev : Int32) (h0 : Heap) (n0 : Nat) (Z0 : n0 ≤ h0.size) (O_h : Old Z n0 h0) (S_f : Sta Z Z.heap "jdk/internal/util/Preconditions" "SIOOBE_FORMATTER" "Ljava/util/function/BiFunction;" fm) (hfm : fm.isRef = true) (V_b : Arv Z h0 b kk .byte (16 : Int32) vs (.int (0 : Int32))) (hj : ¬ x1 < (0 : Int32) ∧ x1 < (16 : Int32)) (hat : vs.getD x1.toNatClampNeg (.int (0 : Int32)) = .int ev) :
    MetFree l (⟨"java/lang/StringLatin1", "charAt", "([BI)C"⟩ : MethodName) (head1 (Jvm.Cond.code (⟨"java/lang/StringLatin1", "charAt", "([BI)C"⟩ : MethodName) jdk_43_method_2_code 2 (some .char) :: ws) ({ frames := 2, cells := 0, slots := 0, locals := 27 } : Room)) (fun ag U => ag = #[(.ref b), (.int x1)] ∧ Z.Warmed39 U.vm ∧ U.heap = h0) (fun _ _ _ _ _ => True) (fun _ U oc U' => ∃ v L, oc = .returned v ∧ Qlch Z b x1 kk fm vs ev h0 n0 v U'.heap L ∧ FrameEnd U oc U' L ({ frames := 2, cells := 0, slots := 0, locals := 27 } : Room).cells ({ frames := 2, cells := 0, slots := 0, locals := 27 } : Room).slots) := by
  refine MetFree.of_bodySF (plainFor_of_name pnlch) hisR ?_
  intro p e s m args below meth c s₁ Bd hml0 hP hK
  obtain ⟨rfl, hZ, hh⟩ := hP
  have hx := Bd.exec
  have hby := Bd.bytes
  have hml : c.maxLocals = 2 := hml0
  have hown : s.vm.findClass "java/lang/StringLatin1" = some m.cls := findClass_of_methodNamed Bd.named
  have hnm := (name_of_methodNamed Bd.named Bd.method).1
  have X0 : Stand p l e ({ frames := 2, cells := 0, slots := 0, locals := 27 } : Room) s m #[(.ref b), (.int x1)] below meth c s₁ [] 0 0 := Stand.of_body Bd
  have e0 : s₁.heap = h0 := by rw [← hh, Bd.state]; rfl
  have N0 := Fr.nil n0
  show own_Go p e below (fun s₂ oc => ∃ v L, oc = .returned v ∧ Qlch Z b x1 kk fm vs ev h0 n0 v s₂.heap L ∧ FrameEnd s oc s₂ L ({ frames := 2, cells := 0, slots := 0, locals := 27 } : Room).cells ({ frames := 2, cells := 0, slots := 0, locals := 27 } : Room).slots) s₁ (entryFrame m #[(.ref b), (.int x1)] 2)
  refine own_Go.of (g' := mkF m 0 #[.val (.ref b), .val (.int x1)] []) (fun t k => castTop (eflch m b x1) k) ?_
  refine og_iloadN (pc' := 1) X0 hx (hb hby d4_0) rfl rfl ?_
  refine og_aloadN (pc' := 2) X0 hx (hb hby d4_1) rfl rfl rfl ?_
  obtain ⟨cl1, Ar1, q1, S1, M1, H1, G1⟩ := id V_b
  refine own_Go.of (g' := (mkF m 3 #[.val (.ref b), .val (.int x1)] [(.int (16 : Int32)), (.int x1)])) (fun t k => X0.arraylength hx (by rw [e0]; exact Ar1.1) (State.isArrayOf_alike hZ.alike Ar1.2.1) (g := (mkF m 2 #[.val (.ref b), .val (.int x1)] [(.ref b), (.int x1)])) rfl rfl (hb hby d4_2) _ (by rw [len_of S1 M1]; exact k)) ?_
  obtain ⟨_, _, ⟨T2, L2, k2, n2⟩, -, X2, ⟨Lc2, hQ2, l2, y2, z2⟩, st2⟩ := Jvm.LawKit.callS X0 hx (y := (⟨"java/lang/String", "checkIndex", "(II)V"⟩ : MethodName)) hown (mvT hZ (hw _ (List.mem_of_getElem? (i := 29) rfl))) (mvT hZ (hw _ (List.mem_of_getElem? (i := 30) rfl))) (mvT hZ (hw _ (List.mem_of_getElem? (i := 5) rfl))) (mvT hZ (hw _ (List.mem_of_getElem? (i := 31) rfl))) (by decide) (backOf (W := 0) (rmcii l Z a0 hw [] x1 (16 : Int32) fm h0 n0 Z0 O_h S_f hfm hj) hZ (hw _ (List.mem_of_getElem? (i := 31) rfl)) (hw _ (List.mem_of_getElem? (i := 5) rfl)) (by decide) (by decide)) (g := (mkF m 3 #[.val (.ref b), .val (.int x1)] [(.int (16 : Int32)), (.int x1)])) rfl (by rw [hml]; rfl) (argsL := [(.int x1), (.int (16 : Int32))]) (rest := []) (lenOf pd_1 rfl) rfl (by show 2 * 0 + _ ≤ _; exact Nat.le_of_eq rfl) (hb hby d4_3) (fun _ _ => ⟨rfl, e0, (by decide : 0 + 0 ≤ _), (by decide : 0 + 0 ≤ _)⟩)
  dsimp only [Pt.U, Pt.locs, Pt.cells, Pt.slots] at X2 l2 y2 z2 st2 hQ2
  subst l2 y2 z2
  obtain ⟨rfl, N2q, e2⟩ := hQ2
  have N2 := Fr.app N0 N2q
  obtain ⟨J2, X2, N2⟩ := own_hide X2 N2
  refine own_Go.of (g' := (mkF m 6 #[.val (.ref b), .val (.int x1)] [])) (fun t k => st2 _ k) ?_
  refine og_aloadN (pc' := 7) X2 hx (hb hby d4_6) rfl rfl rfl ?_
  refine og_iloadN (pc' := 8) X2 hx (hb hby d4_7) rfl rfl ?_
  obtain ⟨cl3, Ar3, q3, S3, M3, H3, G3⟩ := id V_b
  have hin3 : ¬ (x1 < 0 ∨ cl3.slots.size ≤ (x1).toNatClampNeg) := inb_of S3 hj
  have hat3 : cl3.slots[(x1).toNatClampNeg]? = some (.int ev) := Has.at H3 hin3 hat
  refine own_Go.of (g' := (mkF m 9 #[.val (.ref b), .val (.int x1)] [(.int ev)])) (fun t k => X2.baloadBytes hx (j := x1) (v := (.int ev)) (by rw [e2]; exact Ar3.1) (State.isArrayOf_alike hZ.alike Ar3.2.1) Ar3.2.2 hin3 hat3 (g := (mkF m 8 #[.val (.ref b), .val (.int x1)] [(.int x1), (.ref b)])) rfl rfl (hb hby d4_8) _ k) ?_
  refine og_sipush (pc' := 12) (n := 255) X2 hx (hb hby d4_9) rfl rfl ?_
  refine og_iand (pc' := 13) X2 hx (hb hby d4_12) rfl ?_
  refine og_i2c (pc' := 14) X2 hx (hb hby d4_13) rfl ?_
  obtain ⟨fs, hr, hrun, hended, hW, hsame⟩ := X2.leave (v := some (.int (((ev &&& (255 : Int32)).toUInt32.toUInt16.toUInt32.toInt32).toUInt32.toUInt16.toUInt32.toInt32))) (fun h => by rw [Bd.returns] at h; cases h) (BodyLoose.notSynchronized Bd)
  refine ⟨_, _, retN X2 hx (t := .char) Bd.returns (by simp) (hb hby d4_14) hr, hrun, hended, some (.int (((ev &&& (255 : Int32)).toUInt32.toUInt16.toUInt32.toInt32).toUInt32.toUInt16.toUInt32.toInt32)), _, rfl, ?_, ⟨_, rfl⟩, hW, hsame.mono (by decide) (by decide)⟩
  show Qlch Z b x1 kk fm vs ev h0 n0 _ T2.heap _
  rw [e2]
  exact ⟨rfl, N2, rfl⟩

theorem d2_0 : decode jdk_42_method_56_code 0 = .ok (.aload_n 0, 1) := by decide +kernel
theorem d2_1 : decode jdk_42_method_56_code 1 = .ok (.invokevirtual 492, 3) := by decide +kernel
theorem d2_4 : decode jdk_42_method_56_code 4 = .ok (.ifCond .eq 12, 3) := by decide +kernel
theorem d2_7 : decode jdk_42_method_56_code 7 = .ok (.aload_n 0, 1) := by decide +kernel
theorem d2_8 : decode jdk_42_method_56_code 8 = .ok (.getfield 9, 3) := by decide +kernel
theorem d2_11 : decode jdk_42_method_56_code 11 = .ok (.iload_n 1, 1) := by decide +kernel
theorem d2_12 : decode jdk_42_method_56_code 12 = .ok (.invokestatic 495, 3) := by decide +kernel
theorem d2_15 : decode jdk_42_method_56_code 15 = .ok (.ireturn, 1) := by decide +kernel
theorem pnsch : plainName "java/lang/String" = true := by first | (simp [plainName, overriddenIn]; done) | decide +kernel
theorem pd_2 : parseMethodDescriptor "()Z" = some ⟨[], some .boolean⟩ := by decide +kernel
theorem pd_3 : parseMethodDescriptor "([BI)C" = some ⟨[(.array .byte), .int], some .char⟩ := by decide +kernel
theorem efsch (m : MethodId) (z0 : Addr) (z1 : Int32) : entryFrame m #[(.ref z0), (.int z1)] 2 = mkF m 0 #[.val (.ref z0), .val (.int z1)] [] := by first | (simp [entryFrame, mkF, argsToLocals, Value.category]; done) | rfl
def Qsch (Z : State) (o : Addr) (x1 : Int32) (b : Addr) (kk : ClassId) (cs : Int32) (fm : Value) (vs : List Value) (ev : Int32) (h0 : Heap) (n0 : Nat) (v : Option Value) (h : Heap) (L : List Loc) : Prop := v = some (.int (own_ch2 ev)) ∧ Fr n0 L ∧ h = h0
set_option maxRecDepth 65536 in
set_option maxHeartbeats 40000000 in
theorem rmsch (l : Launch) (Z : State) (a0 : Array Value) (hw : ∀ d ∈ tables_1, d.before a0 Z = true) (ws : List Jvm.Cond) (o : Addr) (x1 : Int32) (b : Addr) (kk : ClassId) (cs : Int32) (fm : Value) (vs : List Value) (ev : Int32) (h0 : Heap) (n0 : Nat) (Z0 : n0 ≤ h0.size) (E_o : Exa Z h0 o "java/lang/String") (F0_o : Fld Z h0 o "java/lang/String" "coder" "B" (.int (0 : Int32))) (F1_o : Fld Z h0 o "java/lang/String" "value" "[B" (.ref b)) (O_h : Old Z n0 h0) (S_c : Sta Z Z.heap "java/lang/String" "COMPACT_STRINGS" "Z" (.int cs)) (hcs : ¬ cs = (0 : Int32)) (S_f : Sta Z Z.heap "jdk/internal/util/Preconditions" "SIOOBE_FORMATTER" "Ljava/util/function/BiFunction;" fm) (hfm : fm.isRef = true) (V_b : Arv Z h0 b kk .byte (16 : Int32) vs (.int (0 : Int32))) (hj : ¬ x1 < (0 : Int32) ∧ x1 < (16 : Int32)) (hat : vs.getD x1.toNatClampNeg (.int (0 : Int32)) = .int ev) :
    MetFree l (⟨"java/lang/String", "charAt", "(I)C"⟩ : MethodName) (head1 (Jvm.Cond.code (⟨"java/lang/String", "charAt", "(I)C"⟩ : MethodName) jdk_42_method_56_code 2 (some .char) :: ws) ({ frames := 3, cells := 0, slots := 0, locals := 40 } : Room)) (fun ag U => ag = #[(.ref o), (.int x1)] ∧ Z.Warmed39 U.vm ∧ U.heap = h0) (fun _ _ _ _ _ => True) (fun _ U oc U' => ∃ v L, oc = .returned v ∧ Qsch Z o x1 b kk cs fm vs ev h0 n0 v U'.heap L ∧ FrameEnd U oc U' L ({ frames := 3, cells := 0, slots := 0, locals := 40 } : Room).cells ({ frames := 3, cells := 0, slots := 0, locals := 40 } : Room).slots) := by
  refine MetFree.of_bodySF (plainFor_of_name pnsch) hisR ?_
  intro p e s m args below meth c s₁ Bd hml0 hP hK
  obtain ⟨rfl, hZ, hh⟩ := hP
  have hx := Bd.exec
  have hby := Bd.bytes
  have hml : c.maxLocals = 2 := hml0
  have hown : s.vm.findClass "java/lang/String" = some m.cls := findClass_of_methodNamed Bd.named
  have hnm := (name_of_methodNamed Bd.named Bd.method).1
  have X0 : Stand p l e ({ frames := 3, cells := 0, slots := 0, locals := 40 } : Room) s m #[(.ref o), (.int x1)] below meth c s₁ [] 0 0 := Stand.of_body Bd
  have e0 : s₁.heap = h0 := by rw [← hh, Bd.state]; rfl
  have N0 := Fr.nil n0
  show own_Go p e below (fun s₂ oc => ∃ v L, oc = .returned v ∧ Qsch Z o x1 b kk cs fm vs ev h0 n0 v s₂.heap L ∧ FrameEnd s oc s₂ L ({ frames := 3, cells := 0, slots := 0, locals := 40 } : Room).cells ({ frames := 3, cells := 0, slots := 0, locals := 40 } : Room).slots) s₁ (entryFrame m #[(.ref o), (.int x1)] 2)
  refine own_Go.of (g' := mkF m 0 #[.val (.ref o), .val (.int x1)] []) (fun t k => castTop (efsch m o x1) k) ?_
  refine og_aloadN (pc' := 1) X0 hx (hb hby d2_0) rfl rfl rfl ?_
  obtain ⟨cq1, kq1, q1a, q1b, q1c⟩ := isOf hZ e0 E_o
  obtain ⟨_, _, ⟨T1, L1, k1, n1⟩, -, X1, ⟨Lc1, hQ1, l1, y1, z1⟩, st1⟩ := X0.virtualBack hx (y := (⟨"java/lang/String", "isLatin1", "()Z"⟩ : MethodName)) (z := (⟨"java/lang/String", "isLatin1", "()Z"⟩ : MethodName)) hown (mvT hZ (hw _ (List.mem_of_getElem? (i := 17) rfl))) (mvT hZ (hw _ (List.mem_of_getElem? (i := 18) rfl))) (notFace_of_selects (args := #[]) (mvT hZ (hw _ (List.mem_of_getElem? (i := 20) rfl)))) (mvT hZ (hw _ (List.mem_of_getElem? (i := 20) rfl))) (mvT hZ (hw _ (List.mem_of_getElem? (i := 19) rfl))) (by decide) (backOf (W := 0) (rmiL l Z a0 hw [] o cs h0 n0 Z0 O_h S_c hcs F0_o) hZ (hw _ (List.mem_of_getElem? (i := 21) rfl)) (hw _ (List.mem_of_getElem? (i := 5) rfl)) (by decide) (by decide)) q1a q1c (g := (mkF m 1 #[.val (.ref o), .val (.int x1)] [(.ref o)])) rfl (by rw [hml]; rfl) (Steps.refl _) (argsL := []) (rest := []) (lenOf pd_2 rfl) rfl (by show 2 * 0 + _ ≤ _; exact Nat.le_of_eq rfl) (hb hby d2_1) (fun _ _ => ⟨rfl, e0, (by decide : 0 + 0 ≤ _), (by decide : 0 + 0 ≤ _)⟩)
  dsimp only [Pt.U, Pt.locs, Pt.cells, Pt.slots] at X1 l1 y1 z1 st1 hQ1
  subst l1 y1 z1
  obtain ⟨rfl, N1q, e1⟩ := hQ1
  have N1 := Fr.app N0 N1q
  obtain ⟨J1, X1, N1⟩ := own_hide X1 N1
  refine own_Go.of (g' := (mkF m 4 #[.val (.ref o), .val (.int x1)] [(.int (1 : Int32))])) (fun t k => st1.trans k) ?_
  refine og_ifNo (pc' := 7) X1 hx (hb hby d2_4) ((if0 _ _).trans (feq (by decide)).1) rfl ?_
  refine og_aloadN (pc' := 8) X1 hx (hb hby d2_7) rfl rfl rfl ?_
  obtain ⟨T2, X2, e2, st2⟩ := getF X1 hx hZ hown (host := "") (Or.inl (hw _ (List.mem_of_getElem? (i := 24) rfl))) Via.refl e1 F1_o (g := (mkF m 8 #[.val (.ref o), .val (.int x1)] [(.ref o)])) rfl rfl (hb hby d2_8)
  refine own_Go.of (g' := (mkF m 11 #[.val (.ref o), .val (.int x1)] [(.ref b)])) (fun t k => st2 _ k) ?_
  refine og_iloadN (pc' := 12) X2 hx (hb hby d2_11) rfl rfl ?_
  obtain ⟨_, _, ⟨T3, L3, k3, n3⟩, -, X3, ⟨Lc3, hQ3, l3, y3, z3⟩, st3⟩ := Jvm.LawKit.callS X2 hx (y := (⟨"java/lang/StringLatin1", "charAt", "([BI)C"⟩ : MethodName)) hown (mvT hZ (hw _ (List.mem_of_getElem? (i := 25) rfl))) (mvT hZ (hw _ (List.mem_of_getElem? (i := 26) rfl))) (mvT hZ (hw _ (List.mem_of_getElem? (i := 27) rfl))) (mvT hZ (hw _ (List.mem_of_getElem? (i := 28) rfl))) (by decide) (backOf (W := 0) (rmlch l Z a0 hw [] b x1 kk fm vs ev h0 n0 Z0 O_h S_f hfm V_b hj hat) hZ (hw _ (List.mem_of_getElem? (i := 28) rfl)) (hw _ (List.mem_of_getElem? (i := 27) rfl)) (by decide) (by decide)) (g := (mkF m 12 #[.val (.ref o), .val (.int x1)] [(.int x1), (.ref b)])) rfl (by rw [hml]; rfl) (argsL := [(.ref b), (.int x1)]) (rest := []) (lenOf pd_3 rfl) rfl (by show 2 * 0 + _ ≤ _; exact Nat.le_of_eq rfl) (hb hby d2_12) (fun _ _ => ⟨rfl, e2, (by decide : 0 + 0 ≤ _), (by decide : 0 + 0 ≤ _)⟩)
  dsimp only [Pt.U, Pt.locs, Pt.cells, Pt.slots] at X3 l3 y3 z3 st3 hQ3
  subst l3 y3 z3
  obtain ⟨rfl, N3q, e3⟩ := hQ3
  have N3 := Fr.app N1 N3q
  obtain ⟨J3, X3, N3⟩ := own_hide X3 N3
  refine own_Go.of (g' := (mkF m 15 #[.val (.ref o), .val (.int x1)] [(.int (own_ch ev))])) (fun t k => st3 _ k) ?_
  obtain ⟨fs, hr, hrun, hended, hW, hsame⟩ := X3.leave (v := some (.int ((own_ch ev).toUInt32.toUInt16.toUInt32.toInt32))) (fun h => by rw [Bd.returns] at h; cases h) (BodyLoose.notSynchronized Bd)
  refine ⟨_, _, retN X3 hx (t := .char) Bd.returns (by simp) (hb hby d2_15) hr, hrun, hended, some (.int ((own_ch ev).toUInt32.toUInt16.toUInt32.toInt32)), _, rfl, ?_, ⟨_, rfl⟩, hW, hsame.mono (by decide) (by decide)⟩
  show Qsch Z o x1 b kk cs fm vs ev h0 n0 _ T3.heap _
  rw [e3]
  exact ⟨rfl, N3, rfl⟩

def own_E (ch : Int32) : Int32 := (if (if (ch - (48 : Int32)) < (0 : Int32) then (0 : Int32) else (if (ch - (48 : Int32)) < (10 : Int32) then (1 : Int32) else (0 : Int32))) = (0 : Int32) then (if (if ((ch ||| (32 : Int32)) - (97 : Int32)) < (0 : Int32) then (0 : Int32) else (if ((ch ||| (32 : Int32)) - (97 : Int32)) < (6 : Int32) then (1 : Int32) else (0 : Int32))) = (0 : Int32) then (0 : Int32) else (1 : Int32)) else (1 : Int32))
theorem own_chr {x c : Int32} (h : (x.toUInt32.toUInt16.toUInt32.toInt32) = c) : 0 ≤ c.toInt ∧ c.toInt < 65536 := by
  have q := c_i2c x
  rw [h] at q
  omega
theorem own_k {x c : Int32} (h : (x &&& (15 : Int32)) = c) : 0 ≤ c.toInt ∧ c.toInt < 16 := by
  have q := c_mask x (15 : Int32) 4 (by decide) (by decide)
  have e : ((2 ^ 4 : Nat) : Int) = 16 := by decide
  rw [e, h] at q
  omega
theorem own_hj {c : Int32} (h : 0 ≤ c.toInt ∧ c.toInt < 16) : ¬ c < (0 : Int32) ∧ c < (16 : Int32) := by
  have e0 : (0 : Int32).toInt = 0 := by decide
  have e1 : (16 : Int32).toInt = 16 := by decide
  rw [Int32.lt_iff_toInt_lt, Int32.lt_iff_toInt_lt, e0, e1]
  omega
theorem own_ofn : ∀ n, n < 128 → (Int32.ofNat n).toInt = (n : Int) := by decide +kernel
theorem own_nat {x : Int32} (B : Nat) (h0 : 0 ≤ x.toInt) (h1 : x.toInt < (B : Int)) (hB : B ≤ 128) : ∃ n, n < B ∧ x = Int32.ofNat n := by
  refine ⟨x.toInt.toNat, by omega, ?_⟩
  rw [← Int32.toInt_inj, own_ofn _ (by omega)]
  omega
theorem own_d1 : ∀ n, n < 16 → own_hex (own_ch2 (own_l1.getD (Int32.ofNat n).toNatClampNeg 0)) = 1 := by decide +kernel
theorem own_d2 : ∀ n, n < 16 → own_hex (own_ch2 (own_l2.getD (Int32.ofNat n).toNatClampNeg 0)) = 1 := by decide +kernel
theorem own_dig1 {k c : Int32} (r : 0 ≤ k.toInt ∧ k.toInt < 16) (h : (own_ch2 (own_l1.getD (k).toNatClampNeg 0)) = c) : own_hex c = 1 := by
  obtain ⟨n, hn, rfl⟩ := own_nat 16 r.1 r.2 (by decide)
  rw [← h]; exact own_d1 n hn
theorem own_dig2 {k c : Int32} (r : 0 ≤ k.toInt ∧ k.toInt < 16) (h : (own_ch2 (own_l2.getD (k).toNatClampNeg 0)) = c) : own_hex c = 1 := by
  obtain ⟨n, hn, rfl⟩ := own_nat 16 r.1 r.2 (by decide)
  rw [← h]; exact own_d2 n hn
theorem own_one {c : Int32} (h : own_hex c = 1) : ¬ own_hex c = (0 : Int32) := by rw [h]; decide
theorem own_low : ∀ n, n < 128 → own_hex (Int32.ofNat n) = own_E (Int32.ofNat n) := by decide +kernel
theorem own_or32 {c : Int32} (h0 : 128 ≤ c.toInt) (h1 : c.toInt < 65536) : 128 ≤ (c ||| (32 : Int32)).toInt ∧ (c ||| (32 : Int32)).toInt < 65536 := by
  have e1 : c.toInt = c.toBitVec.toInt := rfl
  have e2 : (c ||| (32 : Int32)).toInt = (c.toBitVec ||| 32#32).toInt := rfl
  rw [e1, BitVec.toInt_eq_toNat_cond] at h0 h1
  have l := c.toBitVec.isLt
  have n1 : 128 ≤ c.toBitVec.toNat ∧ c.toBitVec.toNat < 2 ^ 16 := by split at h0 <;> omega
  have q1 : c.toBitVec.toNat ≤ c.toBitVec.toNat ||| 32 := Nat.left_le_or
  have q2 : c.toBitVec.toNat ||| 32 < 2 ^ 16 := Nat.or_lt_two_pow n1.2 (by decide)
  have q3 : (c.toBitVec ||| 32#32).toNat = c.toBitVec.toNat ||| 32 := by rw [BitVec.toNat_or]; rfl
  rw [e2, BitVec.toInt_eq_toNat_cond, q3]
  split <;> omega
theorem own_hexE {ch : Int32} (h : 0 ≤ ch.toInt ∧ ch.toInt < 65536) : own_hex ch = own_E ch := by
  by_cases q : ch.toInt < 128
  · obtain ⟨n, hn, rfl⟩ := own_nat 128 h.1 q (by decide)
    exact own_low n hn
  · have r := own_or32 (c := ch) (by omega) h.2
    have s1 := c_isub ch (48 : Int32)
    have s2 := c_isub (ch ||| (32 : Int32)) (97 : Int32)
    have k48 : (48 : Int32).toInt = 48 := by decide
    have k57 : (57 : Int32).toInt = 57 := by decide
    have k65 : (65 : Int32).toInt = 65 := by decide
    have k70 : (70 : Int32).toInt = 70 := by decide
    have k97 : (97 : Int32).toInt = 97 := by decide
    have k102 : (102 : Int32).toInt = 102 := by decide
    have k10 : (10 : Int32).toInt = 10 := by decide
    have k6 : (6 : Int32).toInt = 6 := by decide
    have k0 : (0 : Int32).toInt = 0 := by decide
    rw [k48] at s1
    rw [k97] at s2
    have r1 := rng32 (ch - (48 : Int32))
    have r2 := rng32 ((ch ||| (32 : Int32)) - (97 : Int32))
    have a1 : ¬ ch < (48 : Int32) := by rw [Int32.lt_iff_toInt_lt, k48]; omega
    have a2 : (57 : Int32) < ch := by rw [Int32.lt_iff_toInt_lt, k57]; omega
    have a3 : ¬ ch < (65 : Int32) := by rw [Int32.lt_iff_toInt_lt, k65]; omega
    have a4 : (70 : Int32) < ch := by rw [Int32.lt_iff_toInt_lt, k70]; omega
    have a5 : ¬ ch < (97 : Int32) := by rw [Int32.lt_iff_toInt_lt, k97]; omega
    have a6 : (102 : Int32) < ch := by rw [Int32.lt_iff_toInt_lt, k102]; omega
    have b1 : ¬ (ch - (48 : Int32)) < (0 : Int32) := by rw [Int32.lt_iff_toInt_lt, k0]; omega
    have b2 : ¬ (ch - (48 : Int32)) < (10 : Int32) := by rw [Int32.lt_iff_toInt_lt, k10]; omega
    have b3 : ¬ ((ch ||| (32 : Int32)) - (97 : Int32)) < (0 : Int32) := by rw [Int32.lt_iff_toInt_lt, k0]; omega
    have b4 : ¬ ((ch ||| (32 : Int32)) - (97 : Int32)) < (6 : Int32) := by rw [Int32.lt_iff_toInt_lt, k6]; omega
    simp only [own_hex, own_hex_24, own_hex_12, own_E, a1, a2, a3, a4, a5, a6, b1, b2, b3, b4, eq_self, ↓reduceIte]

theorem pn0 : plainName "com/example/annotated_resource_router/annotatedresourcerouter/uri/PercentEncodingIsHexDigitPinLaw" = true := by first | (simp [plainName, overriddenIn]; done) | decide +kernel
theorem pd_4 : parseMethodDescriptor "(C)Z" = some ⟨[.char], some .boolean⟩ := by decide +kernel
theorem pd_5 : parseMethodDescriptor "(I)C" = some ⟨[.int], some .char⟩ := by decide +kernel
theorem ef0 (m : MethodId) (z0 : Int32) (z1 : Int32) : entryFrame m #[(.int z0), (.int z1)] maxLocals = mkF m 0 #[.val (.int z0), .val (.int z1), .unset, .unset, .unset, .unset, .unset, .unset, .unset, .unset, .unset] [] := by first | (simp [entryFrame, mkF, argsToLocals, Value.category, maxLocals]; done) | rfl
def Q0 (Z : State) (x0 : Int32) (x1 : Int32) (cs : Int32) (fm : Value) (h0 : Heap) (n0 : Nat) (v : Option Value) (h : Heap) (L : List Loc) : Prop := v = some (.int 1) ∧ Fr n0 L
set_option maxRecDepth 65536 in
set_option maxHeartbeats 40000000 in
theorem rm0 (l : Launch) (Z : State) (a0 : Array Value) (hw : ∀ d ∈ tables_1, d.before a0 Z = true) (ws : List Jvm.Cond) (x0 : Int32) (x1 : Int32) (cs : Int32) (fm : Value) (h0 : Heap) (n0 : Nat) (Z0 : n0 ≤ h0.size) (hn0 : n0 = h0.size) (hc13 : Jvm.Lit.constHeld Z "com/example/annotated_resource_router/annotatedresourcerouter/uri/PercentEncodingIsHexDigitPinLaw" 13) (hc21 : Jvm.Lit.constHeld Z "com/example/annotated_resource_router/annotatedresourcerouter/uri/PercentEncodingIsHexDigitPinLaw" 21) (hcw : Jvm.Lit.compactW.before a0 Z = true) (O_h : Old Z n0 h0) (S_c : Sta Z Z.heap "java/lang/String" "COMPACT_STRINGS" "Z" (.int cs)) (hcs : ¬ cs = (0 : Int32)) (S_f : Sta Z Z.heap "jdk/internal/util/Preconditions" "SIOOBE_FORMATTER" "Ljava/util/function/BiFunction;" fm) (hfm : fm.isRef = true) :
    MetFree l x (head1 (Jvm.Cond.code x code maxLocals ret :: ws) room_1) (fun ag U => ag = #[(.int x0), (.int x1)] ∧ U = Z ∧ U.heap = h0) (fun _ _ _ _ _ => True) (fun _ U oc U' => ∃ v L, oc = .returned v ∧ Q0 Z x0 x1 cs fm h0 n0 v U'.heap L ∧ ReturnedEndW U oc U' L room_1.cells room_1.slots) := by
  refine MetFree.of_bodySF (plainFor_of_name pn0) hisR ?_
  intro p e s m args below meth c s₁ Bd hml0 hP hK
  obtain ⟨rfl, hUZ, hh⟩ := hP
  have hZ : Z.Warmed39 s.vm := by rw [hUZ]; exact State.Warmed39.refl Z
  have hx := Bd.exec
  have hby := Bd.bytes
  have hml : c.maxLocals = 11 := hml0
  have hown : s.vm.findClass "com/example/annotated_resource_router/annotatedresourcerouter/uri/PercentEncodingIsHexDigitPinLaw" = some m.cls := findClass_of_methodNamed Bd.named
  have hnm := (name_of_methodNamed Bd.named Bd.method).1
  have X0 : Stand p l e room_1 s m #[(.int x0), (.int x1)] below meth c s₁ [] 0 0 := Stand.of_body Bd
  have e0 : s₁.heap = h0 := by rw [← hh, Bd.state]; rfl
  have N0 := Fr.nil n0
  have X0 : Stand p l e room_1 (s.setVm s.vm) m #[(.int x0), (.int x1)] below meth c s₁ [] 0 0 := X0
  have hS0 : s.Since s.vm 0 := (State.WarmedH.refl s).since 0
  have hk0 : 0 ≤ h0.size := Nat.zero_le _
  have I0 : IB Z s.vm [] := by rw [hUZ]; exact IB.start
  have hkp : ∀ (b : Addr) (cl : Cell), Z.heap[b]? = some cl → s.heap[b]? = some cl := by rw [hUZ]; exact fun _ _ q => q
  show own_Go p e below (fun s₂ oc => ∃ v L, oc = .returned v ∧ Q0 Z x0 x1 cs fm h0 n0 v s₂.heap L ∧ ReturnedEndW s oc s₂ L room_1.cells room_1.slots) s₁ (entryFrame m #[(.int x0), (.int x1)] maxLocals)
  refine own_Go.of (g' := mkF m 0 #[.val (.int x0), .val (.int x1), .unset, .unset, .unset, .unset, .unset, .unset, .unset, .unset, .unset] []) (fun t k => castTop (ef0 m x0 x1) k) ?_
  refine og_iloadN (pc' := 1) X0 hx (hb hby at_0) rfl rfl ?_
  refine og_i2c (pc' := 2) X0 hx (hb hby at_1) rfl ?_
  generalize hch : (x0.toUInt32.toUInt16.toUInt32.toInt32) = ch
  have rch := own_chr hch
  refine og_istoreN (pc' := 3) (L' := #[.val (.int x0), .val (.int x1), .val (.int ch), .unset, .unset, .unset, .unset, .unset, .unset, .unset, .unset]) X0 hx (hb hby at_2) rfl rfl ?_
  refine og_iloadN (pc' := 4) X0 hx (hb hby at_3) rfl rfl ?_
  refine og_bipush (pc' := 6) (n := 48) X0 hx (hb hby at_4) rfl rfl ?_
  refine og_isub (pc' := 7) X0 hx (hb hby at_6) rfl ?_
  refine og_istoreN (pc' := 8) (L' := #[.val (.int x0), .val (.int x1), .val (.int ch), .val (.int (ch - (48 : Int32))), .unset, .unset, .unset, .unset, .unset, .unset, .unset]) X0 hx (hb hby at_7) rfl rfl ?_
  refine own_via (A := own_Go p e below (fun s₂ oc => ∃ v L, oc = .returned v ∧ Q0 Z x0 x1 cs fm h0 n0 v s₂.heap L ∧ ReturnedEndW s oc s₂ L room_1.cells room_1.slots) s₁ (mkF m 23 #[.val (.int x0), .val (.int x1), .val (.int ch), .val (.int (ch - (48 : Int32))), .unset, .unset, .unset, .unset, .unset, .unset, .unset] [(.int (if (ch - (48 : Int32)) < (0 : Int32) then (0 : Int32) else (if (ch - (48 : Int32)) < (10 : Int32) then (1 : Int32) else (0 : Int32))))])) (fun k => ?_) ?_
  · refine og_iloadN (pc' := 9) X0 hx (hb hby at_8) rfl rfl ?_
    by_cases hc9_1 : (ch - (48 : Int32)) < (0 : Int32)
    · refine og_ifYes (pc' := 22) X0 hx (hb hby at_9) ((if0 _ _).trans (tlt hc9_1).1) (by decide) (by decide) ?_
      refine og_iconst (pc' := 23) (n := 0) X0 hx (hb hby at_22) rfl rfl ?_
      simp only [if_pos hc9_1] at k
      exact k
    · refine og_ifNo (pc' := 12) X0 hx (hb hby at_9) ((if0 _ _).trans (flt hc9_1).1) rfl ?_
      refine og_iloadN (pc' := 13) X0 hx (hb hby at_12) rfl rfl ?_
      refine og_bipush (pc' := 15) (n := 10) X0 hx (hb hby at_13) rfl rfl ?_
      by_cases hc15_2 : (ch - (48 : Int32)) < (10 : Int32)
      · refine og_icmpNo (pc' := 18) X0 hx (hb hby at_15) (tlt hc15_2).2.1 rfl ?_
        refine og_iconst (pc' := 19) (n := 1) X0 hx (hb hby at_18) rfl rfl ?_
        refine og_goto (pc' := 23) X0 hx (hb hby at_19) (by decide) (by decide) ?_
        simp only [if_neg hc9_1, if_pos hc15_2] at k
        exact k
      · refine og_icmpYes (pc' := 22) X0 hx (hb hby at_15) (flt hc15_2).2.1 (by decide) (by decide) ?_
        refine og_iconst (pc' := 23) (n := 0) X0 hx (hb hby at_22) rfl rfl ?_
        simp only [if_neg hc9_1, if_neg hc15_2] at k
        exact k
  refine og_istore (pc' := 25) (L' := #[.val (.int x0), .val (.int x1), .val (.int ch), .val (.int (ch - (48 : Int32))), .val (.int (if (ch - (48 : Int32)) < (0 : Int32) then (0 : Int32) else (if (ch - (48 : Int32)) < (10 : Int32) then (1 : Int32) else (0 : Int32)))), .unset, .unset, .unset, .unset, .unset, .unset]) X0 hx (hb hby at_23) rfl rfl ?_
  refine og_iloadN (pc' := 26) X0 hx (hb hby at_25) rfl rfl ?_
  refine og_bipush (pc' := 28) (n := 32) X0 hx (hb hby at_26) rfl rfl ?_
  refine og_ior (pc' := 29) X0 hx (hb hby at_28) rfl ?_
  refine og_bipush (pc' := 31) (n := 97) X0 hx (hb hby at_29) rfl rfl ?_
  refine og_isub (pc' := 32) X0 hx (hb hby at_31) rfl ?_
  refine og_istore (pc' := 34) (L' := #[.val (.int x0), .val (.int x1), .val (.int ch), .val (.int (ch - (48 : Int32))), .val (.int (if (ch - (48 : Int32)) < (0 : Int32) then (0 : Int32) else (if (ch - (48 : Int32)) < (10 : Int32) then (1 : Int32) else (0 : Int32)))), .val (.int ((ch ||| (32 : Int32)) - (97 : Int32))), .unset, .unset, .unset, .unset, .unset]) X0 hx (hb hby at_32) rfl rfl ?_
  refine own_via (A := own_Go p e below (fun s₂ oc => ∃ v L, oc = .returned v ∧ Q0 Z x0 x1 cs fm h0 n0 v s₂.heap L ∧ ReturnedEndW s oc s₂ L room_1.cells room_1.slots) s₁ (mkF m 51 #[.val (.int x0), .val (.int x1), .val (.int ch), .val (.int (ch - (48 : Int32))), .val (.int (if (ch - (48 : Int32)) < (0 : Int32) then (0 : Int32) else (if (ch - (48 : Int32)) < (10 : Int32) then (1 : Int32) else (0 : Int32)))), .val (.int ((ch ||| (32 : Int32)) - (97 : Int32))), .unset, .unset, .unset, .unset, .unset] [(.int (if ((ch ||| (32 : Int32)) - (97 : Int32)) < (0 : Int32) then (0 : Int32) else (if ((ch ||| (32 : Int32)) - (97 : Int32)) < (6 : Int32) then (1 : Int32) else (0 : Int32))))])) (fun k => ?_) ?_
  · refine og_iload (pc' := 36) X0 hx (hb hby at_34) rfl rfl ?_
    by_cases hc36_3 : ((ch ||| (32 : Int32)) - (97 : Int32)) < (0 : Int32)
    · refine og_ifYes (pc' := 50) X0 hx (hb hby at_36) ((if0 _ _).trans (tlt hc36_3).1) (by decide) (by decide) ?_
      refine og_iconst (pc' := 51) (n := 0) X0 hx (hb hby at_50) rfl rfl ?_
      simp only [if_pos hc36_3] at k
      exact k
    · refine og_ifNo (pc' := 39) X0 hx (hb hby at_36) ((if0 _ _).trans (flt hc36_3).1) rfl ?_
      refine og_iload (pc' := 41) X0 hx (hb hby at_39) rfl rfl ?_
      refine og_bipush (pc' := 43) (n := 6) X0 hx (hb hby at_41) rfl rfl ?_
      by_cases hc43_4 : ((ch ||| (32 : Int32)) - (97 : Int32)) < (6 : Int32)
      · refine og_icmpNo (pc' := 46) X0 hx (hb hby at_43) (tlt hc43_4).2.1 rfl ?_
        refine og_iconst (pc' := 47) (n := 1) X0 hx (hb hby at_46) rfl rfl ?_
        refine og_goto (pc' := 51) X0 hx (hb hby at_47) (by decide) (by decide) ?_
        simp only [if_neg hc36_3, if_pos hc43_4] at k
        exact k
      · refine og_icmpYes (pc' := 50) X0 hx (hb hby at_43) (flt hc43_4).2.1 (by decide) (by decide) ?_
        refine og_iconst (pc' := 51) (n := 0) X0 hx (hb hby at_50) rfl rfl ?_
        simp only [if_neg hc36_3, if_neg hc43_4] at k
        exact k
  refine og_istore (pc' := 53) (L' := #[.val (.int x0), .val (.int x1), .val (.int ch), .val (.int (ch - (48 : Int32))), .val (.int (if (ch - (48 : Int32)) < (0 : Int32) then (0 : Int32) else (if (ch - (48 : Int32)) < (10 : Int32) then (1 : Int32) else (0 : Int32)))), .val (.int ((ch ||| (32 : Int32)) - (97 : Int32))), .val (.int (if ((ch ||| (32 : Int32)) - (97 : Int32)) < (0 : Int32) then (0 : Int32) else (if ((ch ||| (32 : Int32)) - (97 : Int32)) < (6 : Int32) then (1 : Int32) else (0 : Int32)))), .unset, .unset, .unset, .unset]) X0 hx (hb hby at_51) rfl rfl ?_
  refine own_via (A := own_Go p e below (fun s₂ oc => ∃ v L, oc = .returned v ∧ Q0 Z x0 x1 cs fm h0 n0 v s₂.heap L ∧ ReturnedEndW s oc s₂ L room_1.cells room_1.slots) s₁ (mkF m 68 #[.val (.int x0), .val (.int x1), .val (.int ch), .val (.int (ch - (48 : Int32))), .val (.int (if (ch - (48 : Int32)) < (0 : Int32) then (0 : Int32) else (if (ch - (48 : Int32)) < (10 : Int32) then (1 : Int32) else (0 : Int32)))), .val (.int ((ch ||| (32 : Int32)) - (97 : Int32))), .val (.int (if ((ch ||| (32 : Int32)) - (97 : Int32)) < (0 : Int32) then (0 : Int32) else (if ((ch ||| (32 : Int32)) - (97 : Int32)) < (6 : Int32) then (1 : Int32) else (0 : Int32)))), .unset, .unset, .unset, .unset] [(.int (if (if (ch - (48 : Int32)) < (0 : Int32) then (0 : Int32) else (if (ch - (48 : Int32)) < (10 : Int32) then (1 : Int32) else (0 : Int32))) = (0 : Int32) then (if (if ((ch ||| (32 : Int32)) - (97 : Int32)) < (0 : Int32) then (0 : Int32) else (if ((ch ||| (32 : Int32)) - (97 : Int32)) < (6 : Int32) then (1 : Int32) else (0 : Int32))) = (0 : Int32) then (0 : Int32) else (1 : Int32)) else (1 : Int32)))])) (fun k => ?_) ?_
  · refine og_iload (pc' := 55) X0 hx (hb hby at_53) rfl rfl ?_
    by_cases hc55_5 : (if (ch - (48 : Int32)) < (0 : Int32) then (0 : Int32) else (if (ch - (48 : Int32)) < (10 : Int32) then (1 : Int32) else (0 : Int32))) = (0 : Int32)
    · refine og_ifNo (pc' := 58) X0 hx (hb hby at_55) ((if0 _ _).trans (teq hc55_5).2) rfl ?_
      refine og_iload (pc' := 60) X0 hx (hb hby at_58) rfl rfl ?_
      by_cases hc60_6 : (if ((ch ||| (32 : Int32)) - (97 : Int32)) < (0 : Int32) then (0 : Int32) else (if ((ch ||| (32 : Int32)) - (97 : Int32)) < (6 : Int32) then (1 : Int32) else (0 : Int32))) = (0 : Int32)
      · refine og_ifYes (pc' := 67) X0 hx (hb hby at_60) ((if0 _ _).trans (teq hc60_6).1) (by decide) (by decide) ?_
        refine og_iconst (pc' := 68) (n := 0) X0 hx (hb hby at_67) rfl rfl ?_
        simp only [if_pos hc55_5, if_pos hc60_6] at k
        exact k
      · refine og_ifNo (pc' := 63) X0 hx (hb hby at_60) ((if0 _ _).trans (feq hc60_6).1) rfl ?_
        refine og_iconst (pc' := 64) (n := 1) X0 hx (hb hby at_63) rfl rfl ?_
        refine og_goto (pc' := 68) X0 hx (hb hby at_64) (by decide) (by decide) ?_
        simp only [if_pos hc55_5, if_neg hc60_6] at k
        exact k
    · refine og_ifYes (pc' := 63) X0 hx (hb hby at_55) ((if0 _ _).trans (feq hc55_5).2) (by decide) (by decide) ?_
      refine og_iconst (pc' := 64) (n := 1) X0 hx (hb hby at_63) rfl rfl ?_
      refine og_goto (pc' := 68) X0 hx (hb hby at_64) (by decide) (by decide) ?_
      simp only [if_neg hc55_5] at k
      exact k
  refine og_istore (pc' := 70) (L' := #[.val (.int x0), .val (.int x1), .val (.int ch), .val (.int (ch - (48 : Int32))), .val (.int (if (ch - (48 : Int32)) < (0 : Int32) then (0 : Int32) else (if (ch - (48 : Int32)) < (10 : Int32) then (1 : Int32) else (0 : Int32)))), .val (.int ((ch ||| (32 : Int32)) - (97 : Int32))), .val (.int (if ((ch ||| (32 : Int32)) - (97 : Int32)) < (0 : Int32) then (0 : Int32) else (if ((ch ||| (32 : Int32)) - (97 : Int32)) < (6 : Int32) then (1 : Int32) else (0 : Int32)))), .val (.int (if (if (ch - (48 : Int32)) < (0 : Int32) then (0 : Int32) else (if (ch - (48 : Int32)) < (10 : Int32) then (1 : Int32) else (0 : Int32))) = (0 : Int32) then (if (if ((ch ||| (32 : Int32)) - (97 : Int32)) < (0 : Int32) then (0 : Int32) else (if ((ch ||| (32 : Int32)) - (97 : Int32)) < (6 : Int32) then (1 : Int32) else (0 : Int32))) = (0 : Int32) then (0 : Int32) else (1 : Int32)) else (1 : Int32))), .unset, .unset, .unset]) X0 hx (hb hby at_68) rfl rfl ?_
  refine og_iloadN (pc' := 71) X0 hx (hb hby at_70) rfl rfl ?_
  obtain ⟨_, _, ⟨T1, L1, k1, n1⟩, -, X1, ⟨Lc1, hQ1, l1, y1, z1⟩, st1⟩ := Jvm.LawKit.callS X0 hx (y := (⟨"com/example/annotated_resource_router/annotatedresourcerouter/uri/PercentEncoding", "isHexDigit", "(C)Z"⟩ : MethodName)) hown (mvT hZ (hw _ (List.mem_of_getElem? (i := 0) rfl))) (mvT hZ (hw _ (List.mem_of_getElem? (i := 1) rfl))) (mvT hZ (hw _ (List.mem_of_getElem? (i := 2) rfl))) (mvT hZ (hw _ (List.mem_of_getElem? (i := 3) rfl))) (by decide) (backOf (W := 0) (rmhex l Z a0 hw [] ch h0 n0 Z0 ) hZ (hw _ (List.mem_of_getElem? (i := 3) rfl)) (hw _ (List.mem_of_getElem? (i := 2) rfl)) (by decide) (by decide)) (g := (mkF m 71 #[.val (.int x0), .val (.int x1), .val (.int ch), .val (.int (ch - (48 : Int32))), .val (.int (if (ch - (48 : Int32)) < (0 : Int32) then (0 : Int32) else (if (ch - (48 : Int32)) < (10 : Int32) then (1 : Int32) else (0 : Int32)))), .val (.int ((ch ||| (32 : Int32)) - (97 : Int32))), .val (.int (if ((ch ||| (32 : Int32)) - (97 : Int32)) < (0 : Int32) then (0 : Int32) else (if ((ch ||| (32 : Int32)) - (97 : Int32)) < (6 : Int32) then (1 : Int32) else (0 : Int32)))), .val (.int (if (if (ch - (48 : Int32)) < (0 : Int32) then (0 : Int32) else (if (ch - (48 : Int32)) < (10 : Int32) then (1 : Int32) else (0 : Int32))) = (0 : Int32) then (if (if ((ch ||| (32 : Int32)) - (97 : Int32)) < (0 : Int32) then (0 : Int32) else (if ((ch ||| (32 : Int32)) - (97 : Int32)) < (6 : Int32) then (1 : Int32) else (0 : Int32))) = (0 : Int32) then (0 : Int32) else (1 : Int32)) else (1 : Int32))), .unset, .unset, .unset] [(.int ch)])) rfl (by rw [hml]; rfl) (argsL := [(.int ch)]) (rest := []) (lenOf pd_4 rfl) rfl (by show 2 * 0 + _ ≤ _; exact Nat.le_of_eq rfl) (hb hby at_71) (fun _ _ => ⟨rfl, e0, (by decide : 0 + 0 ≤ _), (by decide : 0 + 0 ≤ _)⟩)
  dsimp only [Pt.U, Pt.locs, Pt.cells, Pt.slots] at X1 l1 y1 z1 st1 hQ1
  subst l1 y1 z1
  obtain ⟨rfl, N1q, e1⟩ := hQ1
  have N1 := Fr.app N0 N1q
  obtain ⟨J1, X1, N1⟩ := own_hide X1 N1
  refine own_Go.of (g' := (mkF m 74 #[.val (.int x0), .val (.int x1), .val (.int ch), .val (.int (ch - (48 : Int32))), .val (.int (if (ch - (48 : Int32)) < (0 : Int32) then (0 : Int32) else (if (ch - (48 : Int32)) < (10 : Int32) then (1 : Int32) else (0 : Int32)))), .val (.int ((ch ||| (32 : Int32)) - (97 : Int32))), .val (.int (if ((ch ||| (32 : Int32)) - (97 : Int32)) < (0 : Int32) then (0 : Int32) else (if ((ch ||| (32 : Int32)) - (97 : Int32)) < (6 : Int32) then (1 : Int32) else (0 : Int32)))), .val (.int (if (if (ch - (48 : Int32)) < (0 : Int32) then (0 : Int32) else (if (ch - (48 : Int32)) < (10 : Int32) then (1 : Int32) else (0 : Int32))) = (0 : Int32) then (if (if ((ch ||| (32 : Int32)) - (97 : Int32)) < (0 : Int32) then (0 : Int32) else (if ((ch ||| (32 : Int32)) - (97 : Int32)) < (6 : Int32) then (1 : Int32) else (0 : Int32))) = (0 : Int32) then (0 : Int32) else (1 : Int32)) else (1 : Int32))), .unset, .unset, .unset] [(.int (own_hex ch))])) (fun t k => st1 _ k) ?_
  refine og_iload (pc' := 76) X1 hx (hb hby at_74) rfl rfl ?_
  refine og_icmpYes (pc' := 81) X1 hx (hb hby at_76) (teq (own_hexE rch)).1 (by decide) (by decide) ?_
  refine og_iloadN (pc' := 82) X1 hx (hb hby at_81) rfl rfl ?_
  refine og_bipush (pc' := 84) (n := 15) X1 hx (hb hby at_82) rfl rfl ?_
  refine og_iand (pc' := 85) X1 hx (hb hby at_84) rfl ?_
  generalize hkx : (x1 &&& (15 : Int32)) = kx
  have rk := own_k hkx
  refine og_istore (pc' := 87) (L' := #[.val (.int x0), .val (.int x1), .val (.int ch), .val (.int (ch - (48 : Int32))), .val (.int (if (ch - (48 : Int32)) < (0 : Int32) then (0 : Int32) else (if (ch - (48 : Int32)) < (10 : Int32) then (1 : Int32) else (0 : Int32)))), .val (.int ((ch ||| (32 : Int32)) - (97 : Int32))), .val (.int (if ((ch ||| (32 : Int32)) - (97 : Int32)) < (0 : Int32) then (0 : Int32) else (if ((ch ||| (32 : Int32)) - (97 : Int32)) < (6 : Int32) then (1 : Int32) else (0 : Int32)))), .val (.int (if (if (ch - (48 : Int32)) < (0 : Int32) then (0 : Int32) else (if (ch - (48 : Int32)) < (10 : Int32) then (1 : Int32) else (0 : Int32))) = (0 : Int32) then (if (if ((ch ||| (32 : Int32)) - (97 : Int32)) < (0 : Int32) then (0 : Int32) else (if ((ch ||| (32 : Int32)) - (97 : Int32)) < (6 : Int32) then (1 : Int32) else (0 : Int32))) = (0 : Int32) then (0 : Int32) else (1 : Int32)) else (1 : Int32))), .val (.int kx), .unset, .unset]) X1 hx (hb hby at_85) rfl rfl ?_
  have wS2 : ∀ a ∈ Bundle.stringAtoms, a.before a0 Z = true := by
    intro d hd
    simp only [Bundle.stringAtoms, Bundle.sN, List.mem_cons, List.not_mem_nil, or_false] at hd
    rcases hd with rfl | rfl | rfl | rfl | rfl | rfl | rfl
    · exact (hw _ (List.mem_of_getElem? (i := 5) rfl))
    · exact (hw _ (List.mem_of_getElem? (i := 6) rfl))
    · exact (hw _ (List.mem_of_getElem? (i := 7) rfl))
    · exact (hw _ (List.mem_of_getElem? (i := 8) rfl))
    · exact (hw _ (List.mem_of_getElem? (i := 9) rfl))
    · exact (hw _ (List.mem_of_getElem? (i := 10) rfl))
    · exact (hw _ (List.mem_of_getElem? (i := 11) rfl))
  obtain ⟨b2, T2, h2, k2, d2, c2, X2, e2, E2, hS2, hk2, hZ, hown, A2, C2, V2, R2, l2, m2, I2, st2⟩ := ldcSV X1 hx hZ hown (hw _ (List.mem_of_getElem? (i := 4) rfl)) wS2 e1 hS0 hk0 (by rw [hh, ← hn0]; exact N1) hkp I0 (by decide) hc13 hcw (vs := (own_l1.map Value.int)) (z := (16 : Int32)) own_t1 (by decide) (by decide) (g := (mkF m 87 #[.val (.int x0), .val (.int x1), .val (.int ch), .val (.int (ch - (48 : Int32))), .val (.int (if (ch - (48 : Int32)) < (0 : Int32) then (0 : Int32) else (if (ch - (48 : Int32)) < (10 : Int32) then (1 : Int32) else (0 : Int32)))), .val (.int ((ch ||| (32 : Int32)) - (97 : Int32))), .val (.int (if ((ch ||| (32 : Int32)) - (97 : Int32)) < (0 : Int32) then (0 : Int32) else (if ((ch ||| (32 : Int32)) - (97 : Int32)) < (6 : Int32) then (1 : Int32) else (0 : Int32)))), .val (.int (if (if (ch - (48 : Int32)) < (0 : Int32) then (0 : Int32) else (if (ch - (48 : Int32)) < (10 : Int32) then (1 : Int32) else (0 : Int32))) = (0 : Int32) then (if (if ((ch ||| (32 : Int32)) - (97 : Int32)) < (0 : Int32) then (0 : Int32) else (if ((ch ||| (32 : Int32)) - (97 : Int32)) < (6 : Int32) then (1 : Int32) else (0 : Int32))) = (0 : Int32) then (0 : Int32) else (1 : Int32)) else (1 : Int32))), .val (.int kx), .unset, .unset] [])) rfl (hb hby at_87) (n := 64) (by decide) (by decide) (by decide) (by decide)
  have f2_4 := O_h.ext E2
  have K2 : Keep h0 h2 [] := (Keep.refl h0 []).ext E2
  have hq2 : _ ≤ h2.size := Nat.le_trans hk0 E2.1
  have Z2 : n0 ≤ h2.size := Nat.le_trans Z0 K2.1
  refine own_Go.of (g' := (mkF m 89 #[.val (.int x0), .val (.int x1), .val (.int ch), .val (.int (ch - (48 : Int32))), .val (.int (if (ch - (48 : Int32)) < (0 : Int32) then (0 : Int32) else (if (ch - (48 : Int32)) < (10 : Int32) then (1 : Int32) else (0 : Int32)))), .val (.int ((ch ||| (32 : Int32)) - (97 : Int32))), .val (.int (if ((ch ||| (32 : Int32)) - (97 : Int32)) < (0 : Int32) then (0 : Int32) else (if ((ch ||| (32 : Int32)) - (97 : Int32)) < (6 : Int32) then (1 : Int32) else (0 : Int32)))), .val (.int (if (if (ch - (48 : Int32)) < (0 : Int32) then (0 : Int32) else (if (ch - (48 : Int32)) < (10 : Int32) then (1 : Int32) else (0 : Int32))) = (0 : Int32) then (if (if ((ch ||| (32 : Int32)) - (97 : Int32)) < (0 : Int32) then (0 : Int32) else (if ((ch ||| (32 : Int32)) - (97 : Int32)) < (6 : Int32) then (1 : Int32) else (0 : Int32))) = (0 : Int32) then (0 : Int32) else (1 : Int32)) else (1 : Int32))), .val (.int kx), .unset, .unset] [(.ref b2)])) (fun t k => st2 _ k) ?_
  refine og_iload (pc' := 91) X2 hx (hb hby at_89) rfl rfl ?_
  obtain ⟨cq3, kq3, q3a, q3b, q3c⟩ := isOf hZ e2 A2
  obtain ⟨_, _, ⟨T3, L3, k3, n3⟩, -, X3, ⟨Lc3, hQ3, l3, y3, z3⟩, st3⟩ := X2.virtualBack hx (y := (⟨"java/lang/String", "charAt", "(I)C"⟩ : MethodName)) (z := (⟨"java/lang/String", "charAt", "(I)C"⟩ : MethodName)) hown (mvT hZ (hw _ (List.mem_of_getElem? (i := 12) rfl))) (mvT hZ (hw _ (List.mem_of_getElem? (i := 13) rfl))) (notFace_of_selects (args := #[]) (mvT hZ (hw _ (List.mem_of_getElem? (i := 15) rfl)))) (mvT hZ (hw _ (List.mem_of_getElem? (i := 15) rfl))) (mvT hZ (hw _ (List.mem_of_getElem? (i := 14) rfl))) (by decide) (backOf (W := 0) (rmsch l Z a0 hw [] b2 kx d2 c2 cs fm (own_l1.map Value.int) (own_l1.getD (kx).toNatClampNeg 0) h2 n0 Z2 A2 C2 V2 f2_4 S_c hcs S_f hfm R2 (own_hj rk) (own_getD_map own_l1 _)) hZ (hw _ (List.mem_of_getElem? (i := 16) rfl)) (hw _ (List.mem_of_getElem? (i := 5) rfl)) (by decide) (by decide)) q3a q3c (g := (mkF m 91 #[.val (.int x0), .val (.int x1), .val (.int ch), .val (.int (ch - (48 : Int32))), .val (.int (if (ch - (48 : Int32)) < (0 : Int32) then (0 : Int32) else (if (ch - (48 : Int32)) < (10 : Int32) then (1 : Int32) else (0 : Int32)))), .val (.int ((ch ||| (32 : Int32)) - (97 : Int32))), .val (.int (if ((ch ||| (32 : Int32)) - (97 : Int32)) < (0 : Int32) then (0 : Int32) else (if ((ch ||| (32 : Int32)) - (97 : Int32)) < (6 : Int32) then (1 : Int32) else (0 : Int32)))), .val (.int (if (if (ch - (48 : Int32)) < (0 : Int32) then (0 : Int32) else (if (ch - (48 : Int32)) < (10 : Int32) then (1 : Int32) else (0 : Int32))) = (0 : Int32) then (if (if ((ch ||| (32 : Int32)) - (97 : Int32)) < (0 : Int32) then (0 : Int32) else (if ((ch ||| (32 : Int32)) - (97 : Int32)) < (6 : Int32) then (1 : Int32) else (0 : Int32))) = (0 : Int32) then (0 : Int32) else (1 : Int32)) else (1 : Int32))), .val (.int kx), .unset, .unset] [(.int kx), (.ref b2)])) rfl (by rw [hml]; rfl) (Steps.refl _) (argsL := [(.int kx)]) (rest := []) (lenOf pd_5 rfl) rfl (by show 2 * 0 + _ ≤ _; exact Nat.le_of_eq rfl) (hb hby at_91) (fun _ _ => ⟨rfl, e2, (by decide : 2 + 0 ≤ _), (by decide : 68 + 0 ≤ _)⟩)
  dsimp only [Pt.U, Pt.locs, Pt.cells, Pt.slots] at X3 l3 y3 z3 st3 hQ3
  subst l3 y3 z3
  obtain ⟨rfl, N3q, e3⟩ := hQ3
  have N3 := Fr.app N1 N3q
  obtain ⟨J3, X3, N3⟩ := own_hide X3 N3
  refine own_Go.of (g' := (mkF m 94 #[.val (.int x0), .val (.int x1), .val (.int ch), .val (.int (ch - (48 : Int32))), .val (.int (if (ch - (48 : Int32)) < (0 : Int32) then (0 : Int32) else (if (ch - (48 : Int32)) < (10 : Int32) then (1 : Int32) else (0 : Int32)))), .val (.int ((ch ||| (32 : Int32)) - (97 : Int32))), .val (.int (if ((ch ||| (32 : Int32)) - (97 : Int32)) < (0 : Int32) then (0 : Int32) else (if ((ch ||| (32 : Int32)) - (97 : Int32)) < (6 : Int32) then (1 : Int32) else (0 : Int32)))), .val (.int (if (if (ch - (48 : Int32)) < (0 : Int32) then (0 : Int32) else (if (ch - (48 : Int32)) < (10 : Int32) then (1 : Int32) else (0 : Int32))) = (0 : Int32) then (if (if ((ch ||| (32 : Int32)) - (97 : Int32)) < (0 : Int32) then (0 : Int32) else (if ((ch ||| (32 : Int32)) - (97 : Int32)) < (6 : Int32) then (1 : Int32) else (0 : Int32))) = (0 : Int32) then (0 : Int32) else (1 : Int32)) else (1 : Int32))), .val (.int kx), .unset, .unset] [(.int (own_ch2 (own_l1.getD (kx).toNatClampNeg 0)))])) (fun t k => st3.trans k) ?_
  generalize hch1 : (own_ch2 (own_l1.getD (kx).toNatClampNeg 0)) = ch1
  have hch1 := own_dig1 rk hch1
  refine og_istore (pc' := 96) (L' := #[.val (.int x0), .val (.int x1), .val (.int ch), .val (.int (ch - (48 : Int32))), .val (.int (if (ch - (48 : Int32)) < (0 : Int32) then (0 : Int32) else (if (ch - (48 : Int32)) < (10 : Int32) then (1 : Int32) else (0 : Int32)))), .val (.int ((ch ||| (32 : Int32)) - (97 : Int32))), .val (.int (if ((ch ||| (32 : Int32)) - (97 : Int32)) < (0 : Int32) then (0 : Int32) else (if ((ch ||| (32 : Int32)) - (97 : Int32)) < (6 : Int32) then (1 : Int32) else (0 : Int32)))), .val (.int (if (if (ch - (48 : Int32)) < (0 : Int32) then (0 : Int32) else (if (ch - (48 : Int32)) < (10 : Int32) then (1 : Int32) else (0 : Int32))) = (0 : Int32) then (if (if ((ch ||| (32 : Int32)) - (97 : Int32)) < (0 : Int32) then (0 : Int32) else (if ((ch ||| (32 : Int32)) - (97 : Int32)) < (6 : Int32) then (1 : Int32) else (0 : Int32))) = (0 : Int32) then (0 : Int32) else (1 : Int32)) else (1 : Int32))), .val (.int kx), .val (.int ch1), .unset]) X3 hx (hb hby at_94) rfl rfl ?_
  have wS4 : ∀ a ∈ Bundle.stringAtoms, a.before a0 Z = true := by
    intro d hd
    simp only [Bundle.stringAtoms, Bundle.sN, List.mem_cons, List.not_mem_nil, or_false] at hd
    rcases hd with rfl | rfl | rfl | rfl | rfl | rfl | rfl
    · exact (hw _ (List.mem_of_getElem? (i := 5) rfl))
    · exact (hw _ (List.mem_of_getElem? (i := 6) rfl))
    · exact (hw _ (List.mem_of_getElem? (i := 7) rfl))
    · exact (hw _ (List.mem_of_getElem? (i := 8) rfl))
    · exact (hw _ (List.mem_of_getElem? (i := 9) rfl))
    · exact (hw _ (List.mem_of_getElem? (i := 10) rfl))
    · exact (hw _ (List.mem_of_getElem? (i := 11) rfl))
  obtain ⟨b4, T4, h4, k4, d4, c4, X4, e4, E4, hS4, hk4, hZ, hown, A4, C4, V4, R4, l4, m4, I4, st4⟩ := ldcSV X3 hx hZ hown (hw _ (List.mem_of_getElem? (i := 37) rfl)) wS4 e3 hS2 hk2 (by rw [hh, ← hn0]; exact N3) hkp I2 (by decide) hc21 hcw (vs := (own_l2.map Value.int)) (z := (16 : Int32)) own_t2 (by decide) (by decide) (g := (mkF m 96 #[.val (.int x0), .val (.int x1), .val (.int ch), .val (.int (ch - (48 : Int32))), .val (.int (if (ch - (48 : Int32)) < (0 : Int32) then (0 : Int32) else (if (ch - (48 : Int32)) < (10 : Int32) then (1 : Int32) else (0 : Int32)))), .val (.int ((ch ||| (32 : Int32)) - (97 : Int32))), .val (.int (if ((ch ||| (32 : Int32)) - (97 : Int32)) < (0 : Int32) then (0 : Int32) else (if ((ch ||| (32 : Int32)) - (97 : Int32)) < (6 : Int32) then (1 : Int32) else (0 : Int32)))), .val (.int (if (if (ch - (48 : Int32)) < (0 : Int32) then (0 : Int32) else (if (ch - (48 : Int32)) < (10 : Int32) then (1 : Int32) else (0 : Int32))) = (0 : Int32) then (if (if ((ch ||| (32 : Int32)) - (97 : Int32)) < (0 : Int32) then (0 : Int32) else (if ((ch ||| (32 : Int32)) - (97 : Int32)) < (6 : Int32) then (1 : Int32) else (0 : Int32))) = (0 : Int32) then (0 : Int32) else (1 : Int32)) else (1 : Int32))), .val (.int kx), .val (.int ch1), .unset] [])) rfl (hb hby at_96) (n := 64) (by decide) (by decide) (by decide) (by decide)
  have f4_4 := f2_4.ext E4
  have f4_9 := A2.ext E4
  have f4_10 := C2.ext E4
  have f4_11 := V2.ext E4
  have f4_12 := R2.ext E4
  have K4 : Keep h0 h4 [] := K2.ext E4
  have hq4 : _ ≤ h4.size := Nat.le_trans hk2 E4.1
  have Z4 : n0 ≤ h4.size := Nat.le_trans Z0 K4.1
  refine own_Go.of (g' := (mkF m 98 #[.val (.int x0), .val (.int x1), .val (.int ch), .val (.int (ch - (48 : Int32))), .val (.int (if (ch - (48 : Int32)) < (0 : Int32) then (0 : Int32) else (if (ch - (48 : Int32)) < (10 : Int32) then (1 : Int32) else (0 : Int32)))), .val (.int ((ch ||| (32 : Int32)) - (97 : Int32))), .val (.int (if ((ch ||| (32 : Int32)) - (97 : Int32)) < (0 : Int32) then (0 : Int32) else (if ((ch ||| (32 : Int32)) - (97 : Int32)) < (6 : Int32) then (1 : Int32) else (0 : Int32)))), .val (.int (if (if (ch - (48 : Int32)) < (0 : Int32) then (0 : Int32) else (if (ch - (48 : Int32)) < (10 : Int32) then (1 : Int32) else (0 : Int32))) = (0 : Int32) then (if (if ((ch ||| (32 : Int32)) - (97 : Int32)) < (0 : Int32) then (0 : Int32) else (if ((ch ||| (32 : Int32)) - (97 : Int32)) < (6 : Int32) then (1 : Int32) else (0 : Int32))) = (0 : Int32) then (0 : Int32) else (1 : Int32)) else (1 : Int32))), .val (.int kx), .val (.int ch1), .unset] [(.ref b4)])) (fun t k => st4 _ k) ?_
  refine og_iload (pc' := 100) X4 hx (hb hby at_98) rfl rfl ?_
  obtain ⟨cq5, kq5, q5a, q5b, q5c⟩ := isOf hZ e4 A4
  obtain ⟨_, _, ⟨T5, L5, k5, n5⟩, -, X5, ⟨Lc5, hQ5, l5, y5, z5⟩, st5⟩ := X4.virtualBack hx (y := (⟨"java/lang/String", "charAt", "(I)C"⟩ : MethodName)) (z := (⟨"java/lang/String", "charAt", "(I)C"⟩ : MethodName)) hown (mvT hZ (hw _ (List.mem_of_getElem? (i := 12) rfl))) (mvT hZ (hw _ (List.mem_of_getElem? (i := 13) rfl))) (notFace_of_selects (args := #[]) (mvT hZ (hw _ (List.mem_of_getElem? (i := 15) rfl)))) (mvT hZ (hw _ (List.mem_of_getElem? (i := 15) rfl))) (mvT hZ (hw _ (List.mem_of_getElem? (i := 14) rfl))) (by decide) (backOf (W := 0) (rmsch l Z a0 hw [] b4 kx d4 c4 cs fm (own_l2.map Value.int) (own_l2.getD (kx).toNatClampNeg 0) h4 n0 Z4 A4 C4 V4 f4_4 S_c hcs S_f hfm R4 (own_hj rk) (own_getD_map own_l2 _)) hZ (hw _ (List.mem_of_getElem? (i := 16) rfl)) (hw _ (List.mem_of_getElem? (i := 5) rfl)) (by decide) (by decide)) q5a q5c (g := (mkF m 100 #[.val (.int x0), .val (.int x1), .val (.int ch), .val (.int (ch - (48 : Int32))), .val (.int (if (ch - (48 : Int32)) < (0 : Int32) then (0 : Int32) else (if (ch - (48 : Int32)) < (10 : Int32) then (1 : Int32) else (0 : Int32)))), .val (.int ((ch ||| (32 : Int32)) - (97 : Int32))), .val (.int (if ((ch ||| (32 : Int32)) - (97 : Int32)) < (0 : Int32) then (0 : Int32) else (if ((ch ||| (32 : Int32)) - (97 : Int32)) < (6 : Int32) then (1 : Int32) else (0 : Int32)))), .val (.int (if (if (ch - (48 : Int32)) < (0 : Int32) then (0 : Int32) else (if (ch - (48 : Int32)) < (10 : Int32) then (1 : Int32) else (0 : Int32))) = (0 : Int32) then (if (if ((ch ||| (32 : Int32)) - (97 : Int32)) < (0 : Int32) then (0 : Int32) else (if ((ch ||| (32 : Int32)) - (97 : Int32)) < (6 : Int32) then (1 : Int32) else (0 : Int32))) = (0 : Int32) then (0 : Int32) else (1 : Int32)) else (1 : Int32))), .val (.int kx), .val (.int ch1), .unset] [(.int kx), (.ref b4)])) rfl (by rw [hml]; rfl) (Steps.refl _) (argsL := [(.int kx)]) (rest := []) (lenOf pd_5 rfl) rfl (by show 2 * 0 + _ ≤ _; exact Nat.le_of_eq rfl) (hb hby at_100) (fun _ _ => ⟨rfl, e4, (by decide : 4 + 0 ≤ _), (by decide : 136 + 0 ≤ _)⟩)
  dsimp only [Pt.U, Pt.locs, Pt.cells, Pt.slots] at X5 l5 y5 z5 st5 hQ5
  subst l5 y5 z5
  obtain ⟨rfl, N5q, e5⟩ := hQ5
  have N5 := Fr.app N3 N5q
  obtain ⟨J5, X5, N5⟩ := own_hide X5 N5
  refine own_Go.of (g' := (mkF m 103 #[.val (.int x0), .val (.int x1), .val (.int ch), .val (.int (ch - (48 : Int32))), .val (.int (if (ch - (48 : Int32)) < (0 : Int32) then (0 : Int32) else (if (ch - (48 : Int32)) < (10 : Int32) then (1 : Int32) else (0 : Int32)))), .val (.int ((ch ||| (32 : Int32)) - (97 : Int32))), .val (.int (if ((ch ||| (32 : Int32)) - (97 : Int32)) < (0 : Int32) then (0 : Int32) else (if ((ch ||| (32 : Int32)) - (97 : Int32)) < (6 : Int32) then (1 : Int32) else (0 : Int32)))), .val (.int (if (if (ch - (48 : Int32)) < (0 : Int32) then (0 : Int32) else (if (ch - (48 : Int32)) < (10 : Int32) then (1 : Int32) else (0 : Int32))) = (0 : Int32) then (if (if ((ch ||| (32 : Int32)) - (97 : Int32)) < (0 : Int32) then (0 : Int32) else (if ((ch ||| (32 : Int32)) - (97 : Int32)) < (6 : Int32) then (1 : Int32) else (0 : Int32))) = (0 : Int32) then (0 : Int32) else (1 : Int32)) else (1 : Int32))), .val (.int kx), .val (.int ch1), .unset] [(.int (own_ch2 (own_l2.getD (kx).toNatClampNeg 0)))])) (fun t k => st5.trans k) ?_
  generalize hch2 : (own_ch2 (own_l2.getD (kx).toNatClampNeg 0)) = ch2
  have hch2 := own_dig2 rk hch2
  refine og_istore (pc' := 105) (L' := #[.val (.int x0), .val (.int x1), .val (.int ch), .val (.int (ch - (48 : Int32))), .val (.int (if (ch - (48 : Int32)) < (0 : Int32) then (0 : Int32) else (if (ch - (48 : Int32)) < (10 : Int32) then (1 : Int32) else (0 : Int32)))), .val (.int ((ch ||| (32 : Int32)) - (97 : Int32))), .val (.int (if ((ch ||| (32 : Int32)) - (97 : Int32)) < (0 : Int32) then (0 : Int32) else (if ((ch ||| (32 : Int32)) - (97 : Int32)) < (6 : Int32) then (1 : Int32) else (0 : Int32)))), .val (.int (if (if (ch - (48 : Int32)) < (0 : Int32) then (0 : Int32) else (if (ch - (48 : Int32)) < (10 : Int32) then (1 : Int32) else (0 : Int32))) = (0 : Int32) then (if (if ((ch ||| (32 : Int32)) - (97 : Int32)) < (0 : Int32) then (0 : Int32) else (if ((ch ||| (32 : Int32)) - (97 : Int32)) < (6 : Int32) then (1 : Int32) else (0 : Int32))) = (0 : Int32) then (0 : Int32) else (1 : Int32)) else (1 : Int32))), .val (.int kx), .val (.int ch1), .val (.int ch2)]) X5 hx (hb hby at_103) rfl rfl ?_
  refine og_iload (pc' := 107) X5 hx (hb hby at_105) rfl rfl ?_
  obtain ⟨_, _, ⟨T6, L6, k6, n6⟩, -, X6, ⟨Lc6, hQ6, l6, y6, z6⟩, st6⟩ := Jvm.LawKit.callS X5 hx (y := (⟨"com/example/annotated_resource_router/annotatedresourcerouter/uri/PercentEncoding", "isHexDigit", "(C)Z"⟩ : MethodName)) hown (mvT hZ (hw _ (List.mem_of_getElem? (i := 0) rfl))) (mvT hZ (hw _ (List.mem_of_getElem? (i := 1) rfl))) (mvT hZ (hw _ (List.mem_of_getElem? (i := 2) rfl))) (mvT hZ (hw _ (List.mem_of_getElem? (i := 3) rfl))) (by decide) (backOf (W := 0) (rmhex l Z a0 hw [] ch1 h4 n0 Z4 ) hZ (hw _ (List.mem_of_getElem? (i := 3) rfl)) (hw _ (List.mem_of_getElem? (i := 2) rfl)) (by decide) (by decide)) (g := (mkF m 107 #[.val (.int x0), .val (.int x1), .val (.int ch), .val (.int (ch - (48 : Int32))), .val (.int (if (ch - (48 : Int32)) < (0 : Int32) then (0 : Int32) else (if (ch - (48 : Int32)) < (10 : Int32) then (1 : Int32) else (0 : Int32)))), .val (.int ((ch ||| (32 : Int32)) - (97 : Int32))), .val (.int (if ((ch ||| (32 : Int32)) - (97 : Int32)) < (0 : Int32) then (0 : Int32) else (if ((ch ||| (32 : Int32)) - (97 : Int32)) < (6 : Int32) then (1 : Int32) else (0 : Int32)))), .val (.int (if (if (ch - (48 : Int32)) < (0 : Int32) then (0 : Int32) else (if (ch - (48 : Int32)) < (10 : Int32) then (1 : Int32) else (0 : Int32))) = (0 : Int32) then (if (if ((ch ||| (32 : Int32)) - (97 : Int32)) < (0 : Int32) then (0 : Int32) else (if ((ch ||| (32 : Int32)) - (97 : Int32)) < (6 : Int32) then (1 : Int32) else (0 : Int32))) = (0 : Int32) then (0 : Int32) else (1 : Int32)) else (1 : Int32))), .val (.int kx), .val (.int ch1), .val (.int ch2)] [(.int ch1)])) rfl (by rw [hml]; rfl) (argsL := [(.int ch1)]) (rest := []) (lenOf pd_4 rfl) rfl (by show 2 * 0 + _ ≤ _; exact Nat.le_of_eq rfl) (hb hby at_107) (fun _ _ => ⟨rfl, e5, (by decide : 4 + 0 ≤ _), (by decide : 136 + 0 ≤ _)⟩)
  dsimp only [Pt.U, Pt.locs, Pt.cells, Pt.slots] at X6 l6 y6 z6 st6 hQ6
  subst l6 y6 z6
  obtain ⟨rfl, N6q, e6⟩ := hQ6
  have N6 := Fr.app N5 N6q
  obtain ⟨J6, X6, N6⟩ := own_hide X6 N6
  refine own_Go.of (g' := (mkF m 110 #[.val (.int x0), .val (.int x1), .val (.int ch), .val (.int (ch - (48 : Int32))), .val (.int (if (ch - (48 : Int32)) < (0 : Int32) then (0 : Int32) else (if (ch - (48 : Int32)) < (10 : Int32) then (1 : Int32) else (0 : Int32)))), .val (.int ((ch ||| (32 : Int32)) - (97 : Int32))), .val (.int (if ((ch ||| (32 : Int32)) - (97 : Int32)) < (0 : Int32) then (0 : Int32) else (if ((ch ||| (32 : Int32)) - (97 : Int32)) < (6 : Int32) then (1 : Int32) else (0 : Int32)))), .val (.int (if (if (ch - (48 : Int32)) < (0 : Int32) then (0 : Int32) else (if (ch - (48 : Int32)) < (10 : Int32) then (1 : Int32) else (0 : Int32))) = (0 : Int32) then (if (if ((ch ||| (32 : Int32)) - (97 : Int32)) < (0 : Int32) then (0 : Int32) else (if ((ch ||| (32 : Int32)) - (97 : Int32)) < (6 : Int32) then (1 : Int32) else (0 : Int32))) = (0 : Int32) then (0 : Int32) else (1 : Int32)) else (1 : Int32))), .val (.int kx), .val (.int ch1), .val (.int ch2)] [(.int (own_hex ch1))])) (fun t k => st6 _ k) ?_
  refine og_ifNo (pc' := 113) X6 hx (hb hby at_110) ((if0 _ _).trans (feq (own_one hch1)).1) rfl ?_
  refine og_iload (pc' := 115) X6 hx (hb hby at_113) rfl rfl ?_
  obtain ⟨_, _, ⟨T7, L7, k7, n7⟩, -, X7, ⟨Lc7, hQ7, l7, y7, z7⟩, st7⟩ := Jvm.LawKit.callS X6 hx (y := (⟨"com/example/annotated_resource_router/annotatedresourcerouter/uri/PercentEncoding", "isHexDigit", "(C)Z"⟩ : MethodName)) hown (mvT hZ (hw _ (List.mem_of_getElem? (i := 0) rfl))) (mvT hZ (hw _ (List.mem_of_getElem? (i := 1) rfl))) (mvT hZ (hw _ (List.mem_of_getElem? (i := 2) rfl))) (mvT hZ (hw _ (List.mem_of_getElem? (i := 3) rfl))) (by decide) (backOf (W := 0) (rmhex l Z a0 hw [] ch2 h4 n0 Z4 ) hZ (hw _ (List.mem_of_getElem? (i := 3) rfl)) (hw _ (List.mem_of_getElem? (i := 2) rfl)) (by decide) (by decide)) (g := (mkF m 115 #[.val (.int x0), .val (.int x1), .val (.int ch), .val (.int (ch - (48 : Int32))), .val (.int (if (ch - (48 : Int32)) < (0 : Int32) then (0 : Int32) else (if (ch - (48 : Int32)) < (10 : Int32) then (1 : Int32) else (0 : Int32)))), .val (.int ((ch ||| (32 : Int32)) - (97 : Int32))), .val (.int (if ((ch ||| (32 : Int32)) - (97 : Int32)) < (0 : Int32) then (0 : Int32) else (if ((ch ||| (32 : Int32)) - (97 : Int32)) < (6 : Int32) then (1 : Int32) else (0 : Int32)))), .val (.int (if (if (ch - (48 : Int32)) < (0 : Int32) then (0 : Int32) else (if (ch - (48 : Int32)) < (10 : Int32) then (1 : Int32) else (0 : Int32))) = (0 : Int32) then (if (if ((ch ||| (32 : Int32)) - (97 : Int32)) < (0 : Int32) then (0 : Int32) else (if ((ch ||| (32 : Int32)) - (97 : Int32)) < (6 : Int32) then (1 : Int32) else (0 : Int32))) = (0 : Int32) then (0 : Int32) else (1 : Int32)) else (1 : Int32))), .val (.int kx), .val (.int ch1), .val (.int ch2)] [(.int ch2)])) rfl (by rw [hml]; rfl) (argsL := [(.int ch2)]) (rest := []) (lenOf pd_4 rfl) rfl (by show 2 * 0 + _ ≤ _; exact Nat.le_of_eq rfl) (hb hby at_115) (fun _ _ => ⟨rfl, e6, (by decide : 4 + 0 ≤ _), (by decide : 136 + 0 ≤ _)⟩)
  dsimp only [Pt.U, Pt.locs, Pt.cells, Pt.slots] at X7 l7 y7 z7 st7 hQ7
  subst l7 y7 z7
  obtain ⟨rfl, N7q, e7⟩ := hQ7
  have N7 := Fr.app N6 N7q
  obtain ⟨J7, X7, N7⟩ := own_hide X7 N7
  refine own_Go.of (g' := (mkF m 118 #[.val (.int x0), .val (.int x1), .val (.int ch), .val (.int (ch - (48 : Int32))), .val (.int (if (ch - (48 : Int32)) < (0 : Int32) then (0 : Int32) else (if (ch - (48 : Int32)) < (10 : Int32) then (1 : Int32) else (0 : Int32)))), .val (.int ((ch ||| (32 : Int32)) - (97 : Int32))), .val (.int (if ((ch ||| (32 : Int32)) - (97 : Int32)) < (0 : Int32) then (0 : Int32) else (if ((ch ||| (32 : Int32)) - (97 : Int32)) < (6 : Int32) then (1 : Int32) else (0 : Int32)))), .val (.int (if (if (ch - (48 : Int32)) < (0 : Int32) then (0 : Int32) else (if (ch - (48 : Int32)) < (10 : Int32) then (1 : Int32) else (0 : Int32))) = (0 : Int32) then (if (if ((ch ||| (32 : Int32)) - (97 : Int32)) < (0 : Int32) then (0 : Int32) else (if ((ch ||| (32 : Int32)) - (97 : Int32)) < (6 : Int32) then (1 : Int32) else (0 : Int32))) = (0 : Int32) then (0 : Int32) else (1 : Int32)) else (1 : Int32))), .val (.int kx), .val (.int ch1), .val (.int ch2)] [(.int (own_hex ch2))])) (fun t k => st7 _ k) ?_
  refine og_ifNo (pc' := 121) X7 hx (hb hby at_118) ((if0 _ _).trans (feq (own_one hch2)).1) rfl ?_
  refine og_iconst (pc' := 122) (n := 1) X7 hx (hb hby at_121) rfl rfl ?_
  refine og_goto (pc' := 126) X7 hx (hb hby at_122) (by decide) (by decide) ?_
  obtain ⟨fs, hr, hrun, hended, hEnd⟩ := Stand.leaveW X7 hS4 (by rw [e7]; exact hk4) (v := some (.int (1 : Int32))) (fun h => by rw [Bd.returns] at h; cases h) (BodyLoose.notSynchronized Bd)
  refine ⟨_, _, retN X7 hx (t := .boolean) Bd.returns (by simp) (hb hby at_126) hr, hrun, hended, some (.int (1 : Int32)), _, rfl, ?_, hEnd.1, hEnd.2.1, hEnd.2.2.1, hEnd.2.2.2.mono (by decide) (by decide)⟩
  show Q0 Z x0 x1 cs fm h0 n0 _ T7.heap _
  rw [e7]
  exact ⟨rfl, N7⟩

set_option maxRecDepth 65536 in
set_option maxHeartbeats 40000000 in
theorem comes_1 {Post : Tables → Env → Array Value → State → Outcome → State → Prop} (hpost : ∀ tb e args s v u, (limb_1_1.after args s (.returned v) u = true ∧ limb_1_2.after args s (.returned v) u = true ∧ True) → ReturnedEndW s (.returned v) u (Jvm.fieldLocs frame_1_writes args s ++ Jvm.arrayLocs frame_1_arrays args s ++ Jvm.staticLocs frame_1_statics s) 8 2112 → Post tb e args s (.returned v) u) :
    ArmFor flags0 classFile x code maxLocals ret World_1 tables_1 room_1 Calls_1 rest_1 Pre_1 Post := by
  intro l hfl _ _ p e ha hc hk s m args below hf hA hF happ hP
  obtain ⟨hcalls, hrest, hpre⟩ := hP
  obtain ⟨-, -, -, hnamed, -, -, -, hat⟩ := (Spec.applies_iff hf).mp happ
  obtain ⟨hg, hn⟩ := and_e (Cond.before_iff.mp (show (Jvm.Cond.and given_1 narrow_1).before args s = true from hpre))
  obtain ⟨hcnt, hg0⟩ := and_e hg
  obtain ⟨a0, hg1⟩ := and_e hg0
  obtain ⟨w0, w1, rfl⟩ : ∃ w0 w1 : Value, args = #[w0, w1] := by
    have hs : args.size = 2 := by simpa [Cond.value, given_1] using hcnt
    obtain ⟨L⟩ := args
    match L, hs with
    | [w0, w1], _ => exact ⟨w0, w1, rfl⟩
  have hw := fun d (hd : d ∈ tables_1) => atoms_spec (ws := Jvm.Cond.code x code maxLocals ret :: tables_1) hat d (List.mem_cons_of_mem _ hd)
  have hfit : Fit s := fun {y c} hc i hi => by
    obtain ⟨ha, rfl⟩ := Array.getElem?_eq_some_iff.mp hc
    have q := List.all_eq_true.mp ((Array.all_eq_true_iff_forall_mem.mp hF) _ (Array.getElem_mem ha)) i (List.mem_range.mpr hi)
    simpa [Array.getElem?_eq_getElem hi] using q
  obtain ⟨i0, ei0⟩ := is_v a0
  obtain rfl : w0 = (.int i0) := Option.some.inj ei0
  obtain ⟨i1, ei1⟩ := is_v hg1
  obtain rfl : w1 = (.int i1) := Option.some.inj ei1
  obtain ⟨hsets, hown0⟩ := atoms_of _ (rest_1_c_eq ▸ (show rest_1_c.before _ s = true from hrest))
  have t0 := hsets _ (List.mem_of_getElem? (i := 0) rfl)
  have t1 := hsets _ (List.mem_of_getElem? (i := 1) rfl)
  have t2 := hsets _ (List.mem_of_getElem? (i := 2) rfl)
  have t7 := hsets _ (List.mem_of_getElem? (i := 7) rfl)
  have t8 := hsets _ (List.mem_of_getElem? (i := 8) rfl)
  obtain ⟨cs, ecs⟩ := is_v (Cond.before_iff.mp t1)
  have S_c := Sta.start ecs (Or.inl t0)
  have hcs := own_ne0 (Cond.before_iff.mp t2) ecs
  obtain ⟨fm, efm, hfm⟩ := own_isref (Cond.before_iff.mp t8)
  have S_f := Sta.start efm (Or.inl t7)
  have hc13 : Jvm.Lit.constHeld s "com/example/annotated_resource_router/annotatedresourcerouter/uri/PercentEncodingIsHexDigitPinLaw" 13 := hcalls.1 ("com/example/annotated_resource_router/annotatedresourcerouter/uri/PercentEncodingIsHexDigitPinLaw", 13) (List.mem_of_getElem? (i := 0) rfl)
  have hc21 : Jvm.Lit.constHeld s "com/example/annotated_resource_router/annotatedresourcerouter/uri/PercentEncodingIsHexDigitPinLaw" 21 := hcalls.1 ("com/example/annotated_resource_router/annotatedresourcerouter/uri/PercentEncodingIsHexDigitPinLaw", 21) (List.mem_of_getElem? (i := 1) rfl)
  obtain ⟨n, o, h1, h2, h3, _, L, rfl, ⟨rfl, N⟩, hq⟩ := rm0 l s _ hw tables_1 i0 i1 cs fm s.heap s.heap.size (Nat.le_refl _) rfl hc13 hc21 t2 (Old.start s) S_c hcs S_f hfm p e ha hc hk s m _ below hf ((Spec.applies_iff_loose hf).mp happ).1 ⟨rfl, rfl, rfl⟩ trivial
  refine ⟨n, _, h1, h2, h3, hpost _ _ _ _ _ _ ⟨Cond.after_iff.mpr rfl, Cond.after_iff.mpr (eq_i res_at (Term.int_eval (1)) rfl), trivial⟩ ⟨hq.1, hq.2.1, hq.2.2.1, (hq.2.2.2.sift fun y hy => Or.inr (N y hy)).mono (by decide) (by decide)⟩⟩
theorem main_1_1 : Claimed_1_1 := comes_1 fun _ _ _ _ _ _ h hF => ⟨h.1, hF⟩
theorem main_1_2 : Claimed_1_2 := comes_1 fun _ _ _ _ _ _ h hF => ⟨h.2.1, hF⟩

end Jvm.Pilot.@@N@@
namespace Jvm.Pilot.@@N@@
open Jvm Jvm.ClassFile Sem Op Lib Jvm.Free Jvm.Stand Jvm.Pilot.@@N@@.Jvm.D
/-! MADE BY PROGRAM (witnessworld.py) out of the Statement's table words and the real class files: 17 classes; the members and pool entries that the words name. The judged class is class 1, her method 1. -/
namespace start1
open Jvm.ClassFile
def u (s : String) : CpInfo := .utf8 (stringToUtf16 s)
/-- a pool by its gaps: so many unusable entries, then the entry; so many at the end -/
def gap : Nat → List CpInfo → List CpInfo
  | 0, r => r
  | n + 1, r => .unusable :: gap n r
def poolList (es : List (Nat × CpInfo)) (last : Nat) : List CpInfo := es.foldr (fun e r => gap e.1 (e.2 :: r)) (gap last [])
def pool (es : List (Nat × CpInfo)) (last : Nat) : Array CpInfo := ⟨poolList es last⟩
def fileOf (pool : Array CpInfo) (this : Nat) (attrs : Array Attribute := #[]) (ms : Array MethodInfo := #[]) (fl : Nat := 33) (sup : Nat := 0) (ifs : Array Nat := #[]) (fds : Array FieldInfo := #[]) : ClassFile where
  minorVersion := 0
  majorVersion := 65
  constantPool := pool
  accessFlags := fl
  thisClass := this
  superClass := sup
  interfaces := ifs
  fields := fds
  methods := ms
  attributes := attrs
def plain (name : String) (sup : Option ClassId) : Class where
  name := name
  kind := .ordinary
  loader := none
  accessFlags := 33
  super := sup
  interfaces := #[]
  cf := none
  fields := #[]
  methods := #[]
  instanceTypes := #[]
  staticTypes := #[]
  resolved := #[]
  callSites := []
  init := .initialized
  statics := none
  mirror := none

def pool0 : Array CpInfo := pool [(5, u "<init>"), (0, u "()V"), (1, .class_ 10), (1, u "java/lang/Object")] 113

def k0m0 : Method := { name := "<init>", desc := "()V", sig := { parameters := [], returnType := none }, accessFlags := 1, code := none }
/-- java/lang/Object -/
def k0 : Class := { plain "java/lang/Object" none with
  accessFlags := 33
  interfaces := #[]
  cf := some (fileOf pool0 8 #[] #[{ accessFlags := 1, nameIndex := 5, descriptorIndex := 6, attributes := #[] }] 33 0 #[] #[])
  fields := #[]
  methods := #[k0m0]
  instanceTypes := #[]
  staticTypes := #[]
  resolved := Array.replicate 124 none
  statics := none }

def pool1 : Array CpInfo := pool [(2, .class_ 4), (1, u "java/lang/Object"), (0, u "<init>"), (0, u "()V"), (0, .methodref 8 9), (0, .class_ 10), (0, .nameAndType 11 12), (0, u "com/example/annotated_resource_router/annotatedresourcerouter/uri/PercentEncoding"), (0, u "isHexDigit"), (0, u "(C)Z"), (0, .string 14), (0, u "0123456789abcdef"), (0, .methodref 16 17), (0, .class_ 18), (0, .nameAndType 19 20), (0, u "java/lang/String"), (0, u "charAt"), (0, u "(I)C"), (0, .string 22), (0, u "0123456789ABCDEF"), (0, .class_ 24), (0, u "com/example/annotated_resource_router/annotatedresourcerouter/uri/PercentEncodingIsHexDigitPinLaw"), (2, u "law"), (0, u "(II)Z")] 3

def k1m0 : Method := { name := "<init>", desc := "()V", sig := { parameters := [], returnType := none }, accessFlags := 2, code := none }
def k1c1 : Code := { maxStack := 2, maxLocals := 11, code := code, exceptionTable := #[], attributes := #[] }
def k1m1 : Method := { name := "law", desc := "(II)Z", sig := { parameters := [.int, .int], returnType := some .boolean }, accessFlags := 9, code := some k1c1 }
/-- com/example/annotated_resource_router/annotatedresourcerouter/uri/PercentEncodingIsHexDigitPinLaw -/
def k1 : Class := { plain "com/example/annotated_resource_router/annotatedresourcerouter/uri/PercentEncodingIsHexDigitPinLaw" (some 0) with
  accessFlags := 49
  interfaces := #[]
  cf := some (fileOf pool1 23 #[] #[{ accessFlags := 2, nameIndex := 5, descriptorIndex := 6, attributes := #[] }, { accessFlags := 9, nameIndex := 27, descriptorIndex := 28, attributes := #[] }] 49 2 #[] #[])
  fields := #[]
  methods := #[k1m0, k1m1]
  instanceTypes := #[]
  staticTypes := #[]
  resolved := Array.replicate 32 none
  statics := none }

def pool2 : Array CpInfo := pool [(2, .class_ 4), (1, u "java/lang/Object"), (0, u "<init>"), (0, u "()V"), (22, .class_ 31), (1, u "com/example/annotated_resource_router/annotatedresourcerouter/uri/PercentEncoding"), (19, .class_ 53), (1, u "com/example/annotated_resource_router/annotatedresourcerouter/uri/PercentEncoding$Component"), (72, u "isHexDigit"), (0, u "(C)Z"), (2, u "HEX_DIGITS"), (0, u "[C")] 34

def k2m0 : Method := { name := "<init>", desc := "()V", sig := { parameters := [], returnType := none }, accessFlags := 2, code := none }
def k2c1 : Code := { maxStack := 2, maxLocals := 1, code := prog_41_method_8_code, exceptionTable := #[], attributes := #[] }
def k2m1 : Method := { name := "isHexDigit", desc := "(C)Z", sig := { parameters := [.char], returnType := some .boolean }, accessFlags := 8, code := some k2c1 }
/-- com/example/annotated_resource_router/annotatedresourcerouter/uri/PercentEncoding -/
def k2 : Class := { plain "com/example/annotated_resource_router/annotatedresourcerouter/uri/PercentEncoding" (some 0) with
  accessFlags := 33
  interfaces := #[]
  cf := some (fileOf pool2 29 #[.nestMembers #[51]] #[{ accessFlags := 2, nameIndex := 5, descriptorIndex := 6, attributes := #[] }, { accessFlags := 8, nameIndex := 126, descriptorIndex := 127, attributes := #[] }] 33 2 #[] #[{ accessFlags := 26, nameIndex := 130, descriptorIndex := 131, attributes := #[] }])
  fields := #[{ name := "HEX_DIGITS", type := (.array .char), accessFlags := 26, slot := 0, constantValue := 0 }]
  methods := #[k2m0, k2m1]
  instanceTypes := #[]
  staticTypes := #[(.array .char)]
  resolved := Array.replicate 166 none
  statics := none }

def pool3 : Array CpInfo := pool [(1, .class_ 2), (0, u "java/io/Serializable"), (0, .class_ 4), (0, u "java/lang/Object")] 2

/-- java/io/Serializable -/
def k3 : Class := { plain "java/io/Serializable" (some 0) with
  accessFlags := 1537
  interfaces := #[]
  cf := some (fileOf pool3 1 #[] #[] 1537 3 #[] #[])
  fields := #[]
  methods := #[]
  instanceTypes := #[]
  staticTypes := #[]
  resolved := Array.replicate 7 none
  statics := none }

def pool4 : Array CpInfo := pool [(1, .class_ 2), (0, u "java/lang/Comparable"), (0, .class_ 4), (0, u "java/lang/Object")] 7

/-- java/lang/Comparable -/
def k4 : Class := { plain "java/lang/Comparable" (some 0) with
  accessFlags := 1537
  interfaces := #[]
  cf := some (fileOf pool4 1 #[] #[] 1537 3 #[] #[])
  fields := #[]
  methods := #[]
  instanceTypes := #[]
  staticTypes := #[]
  resolved := Array.replicate 12 none
  statics := none }

def pool5 : Array CpInfo := pool [(2, .class_ 4), (1, u "java/lang/CharSequence"), (42, .class_ 48), (0, u "java/lang/CharSequence$1CodePointIterator"), (10, .class_ 60), (0, u "java/lang/CharSequence$1CharIterator"), (5, .class_ 67), (0, u "java/lang/Object")] 63

/-- java/lang/CharSequence -/
def k5 : Class := { plain "java/lang/CharSequence" (some 0) with
  accessFlags := 1537
  interfaces := #[]
  cf := some (fileOf pool5 2 #[.nestMembers #[47, 59]] #[] 1537 66 #[] #[])
  fields := #[]
  methods := #[]
  instanceTypes := #[]
  staticTypes := #[]
  resolved := Array.replicate 131 none
  statics := none }

def pool6 : Array CpInfo := pool [(1, .class_ 2), (0, u "java/lang/constant/Constable"), (0, .class_ 4), (0, u "java/lang/Object")] 6

/-- java/lang/constant/Constable -/
def k6 : Class := { plain "java/lang/constant/Constable" (some 0) with
  accessFlags := 1537
  interfaces := #[]
  cf := some (fileOf pool6 1 #[] #[] 1537 3 #[] #[])
  fields := #[]
  methods := #[]
  instanceTypes := #[]
  staticTypes := #[]
  resolved := Array.replicate 11 none
  statics := none }

def pool7 : Array CpInfo := pool [(1, .class_ 2), (0, u "java/lang/constant/ConstantDesc"), (0, .class_ 4), (0, u "java/lang/Object")] 32

/-- java/lang/constant/ConstantDesc -/
def k7 : Class := { plain "java/lang/constant/ConstantDesc" (some 0) with
  accessFlags := 1537
  interfaces := #[]
  cf := some (fileOf pool7 1 #[] #[] 1537 3 #[] #[])
  fields := #[]
  methods := #[]
  instanceTypes := #[]
  staticTypes := #[]
  resolved := Array.replicate 37 none
  statics := none }

def pool8 : Array CpInfo := pool [(2, .class_ 4), (1, u "java/lang/Object"), (0, u "<init>"), (0, u "()V"), (2, .fieldref 10 11), (0, .class_ 12), (0, .nameAndType 13 14), (0, u "java/lang/String"), (0, u "value"), (0, u "[B"), (0, .fieldref 10 16), (0, .nameAndType 17 18), (0, u "coder"), (0, u "B"), (2, u "hash"), (0, u "I"), (2, u "hashIsZero"), (0, u "Z"), (11, .fieldref 10 39), (0, .nameAndType 40 26), (0, u "COMPACT_STRINGS"), (66, .class_ 109), (1, u "java/lang/StringLatin1"), (32, u "()Z"), (220, u "([BI)C"), (27, u "(II)V"), (35, u "(I)C"), (64, .methodref 10 493), (0, .nameAndType 494 142), (0, u "isLatin1"), (0, .methodref 107 496), (0, .nameAndType 497 363), (0, u "charAt"), (3, u "checkIndex"), (73, .class_ 576), (0, u "java/lang/CharSequence"), (22, u "CASE_INSENSITIVE_ORDER"), (0, u "Ljava/util/Comparator;"), (452, .fieldref 1054 1055), (0, .class_ 1056), (0, .nameAndType 1057 1058), (0, u "jdk/internal/util/Preconditions"), (0, u "SIOOBE_FORMATTER"), (0, u "Ljava/util/function/BiFunction;"), (0, .methodref 1054 1060), (0, .nameAndType 501 1061), (0, u "(IILjava/util/function/BiFunction;)I"), (39, u "serialPersistentFields"), (0, u "[Ljava/io/ObjectStreamField;"), (0, .class_ 1104), (0, u "java/lang/String$CaseInsensitiveComparator"), (1, .class_ 1107), (0, u "java/io/Serializable"), (0, .class_ 1109), (0, u "java/lang/Comparable"), (0, .class_ 1111), (0, u "java/lang/constant/Constable"), (0, .class_ 1113), (0, u "java/lang/constant/ConstantDesc"), (2, u "serialVersionUID"), (0, u "J"), (3, u "REPL"), (0, u "C"), (2, u "LATIN1"), (1, u "UTF16")] 323

def k8m0 : Method := { name := "<init>", desc := "()V", sig := { parameters := [], returnType := none }, accessFlags := 1, code := none }
def k8c1 : Code := { maxStack := 2, maxLocals := 2, code := jdk_42_method_56_code, exceptionTable := #[], attributes := #[] }
def k8m1 : Method := { name := "charAt", desc := "(I)C", sig := { parameters := [.int], returnType := some .char }, accessFlags := 1, code := some k8c1 }
def k8c2 : Code := { maxStack := 1, maxLocals := 1, code := jdk_42_method_154_code, exceptionTable := #[], attributes := #[] }
def k8m2 : Method := { name := "isLatin1", desc := "()Z", sig := { parameters := [], returnType := some .boolean }, accessFlags := 0, code := some k8c2 }
def k8c3 : Code := { maxStack := 3, maxLocals := 2, code := jdk_42_method_155_code, exceptionTable := #[], attributes := #[] }
def k8m3 : Method := { name := "checkIndex", desc := "(II)V", sig := { parameters := [.int, .int], returnType := none }, accessFlags := 8, code := some k8c3 }
/-- java/lang/String -/
def k8 : Class := { plain "java/lang/String" (some 0) with
  accessFlags := 49
  interfaces := #[3, 4, 5, 6, 7]
  cf := some (fileOf pool8 10 #[.nestMembers #[1103]] #[{ accessFlags := 1, nameIndex := 5, descriptorIndex := 6, attributes := #[] }, { accessFlags := 1, nameIndex := 497, descriptorIndex := 427, attributes := #[] }, { accessFlags := 0, nameIndex := 494, descriptorIndex := 142, attributes := #[] }, { accessFlags := 8, nameIndex := 501, descriptorIndex := 391, attributes := #[] }] 49 2 #[1106, 1108, 575, 1110, 1112] #[{ accessFlags := 18, nameIndex := 13, descriptorIndex := 14, attributes := #[] }, { accessFlags := 18, nameIndex := 17, descriptorIndex := 18, attributes := #[] }, { accessFlags := 2, nameIndex := 21, descriptorIndex := 22, attributes := #[] }, { accessFlags := 2, nameIndex := 25, descriptorIndex := 26, attributes := #[] }, { accessFlags := 26, nameIndex := 1116, descriptorIndex := 1117, attributes := #[] }, { accessFlags := 24, nameIndex := 40, descriptorIndex := 26, attributes := #[] }, { accessFlags := 26, nameIndex := 1101, descriptorIndex := 1102, attributes := #[] }, { accessFlags := 26, nameIndex := 1121, descriptorIndex := 1122, attributes := #[] }, { accessFlags := 25, nameIndex := 599, descriptorIndex := 600, attributes := #[] }, { accessFlags := 24, nameIndex := 1125, descriptorIndex := 18, attributes := #[] }, { accessFlags := 24, nameIndex := 1127, descriptorIndex := 18, attributes := #[] }])
  fields := #[{ name := "value", type := (.array .byte), accessFlags := 18, slot := 0, constantValue := 0 }, { name := "coder", type := .byte, accessFlags := 18, slot := 1, constantValue := 0 }, { name := "hash", type := .int, accessFlags := 2, slot := 2, constantValue := 0 }, { name := "hashIsZero", type := .boolean, accessFlags := 2, slot := 3, constantValue := 0 }, { name := "serialVersionUID", type := .long, accessFlags := 26, slot := 0, constantValue := 0 }, { name := "COMPACT_STRINGS", type := .boolean, accessFlags := 24, slot := 1, constantValue := 0 }, { name := "serialPersistentFields", type := (.array (.object "java/io/ObjectStreamField")), accessFlags := 26, slot := 2, constantValue := 0 }, { name := "REPL", type := .char, accessFlags := 26, slot := 3, constantValue := 0 }, { name := "CASE_INSENSITIVE_ORDER", type := (.object "java/util/Comparator"), accessFlags := 25, slot := 4, constantValue := 0 }, { name := "LATIN1", type := .byte, accessFlags := 24, slot := 5, constantValue := 0 }, { name := "UTF16", type := .byte, accessFlags := 24, slot := 6, constantValue := 0 }]
  methods := #[k8m0, k8m1, k8m2, k8m3]
  instanceTypes := #[(.array .byte), .byte, .int, .boolean]
  staticTypes := #[.long, .boolean, (.array (.object "java/io/ObjectStreamField")), .char, (.object "java/util/Comparator"), .byte, .byte]
  resolved := Array.replicate 1451 none
  statics := some 0 }

def pool9 : Array CpInfo := pool [(1, .class_ 2), (0, u "java/lang/String"), (1, .class_ 6), (1, u "java/lang/Object"), (0, u "<init>"), (0, u "()V"), (0, .methodref 1 10), (0, .nameAndType 11 12), (0, u "checkIndex"), (0, u "(II)V"), (1, .class_ 16), (1, u "java/lang/StringLatin1"), (36, u "([BI)C"), (67, u "$assertionsDisabled"), (0, u "Z"), (98, .class_ 223), (1, u "java/lang/StringLatin1$LinesSpliterator"), (28, u "charAt"), (137, .class_ 391), (0, u "java/lang/StringLatin1$CharsSpliterator")] 3

def k9m0 : Method := { name := "<init>", desc := "()V", sig := { parameters := [], returnType := none }, accessFlags := 0, code := none }
def k9c1 : Code := { maxStack := 2, maxLocals := 2, code := jdk_43_method_2_code, exceptionTable := #[], attributes := #[] }
def k9m1 : Method := { name := "charAt", desc := "([BI)C", sig := { parameters := [(.array .byte), .int], returnType := some .char }, accessFlags := 9, code := some k9c1 }
/-- java/lang/StringLatin1 -/
def k9 : Class := { plain "java/lang/StringLatin1" (some 0) with
  accessFlags := 48
  interfaces := #[]
  cf := some (fileOf pool9 14 #[.nestMembers #[390, 221]] #[{ accessFlags := 0, nameIndex := 7, descriptorIndex := 8, attributes := #[] }, { accessFlags := 9, nameIndex := 252, descriptorIndex := 53, attributes := #[] }] 48 4 #[] #[{ accessFlags := 4120, nameIndex := 121, descriptorIndex := 122, attributes := #[] }])
  fields := #[{ name := "$assertionsDisabled", type := .boolean, accessFlags := 4120, slot := 0, constantValue := 0 }]
  methods := #[k9m0, k9m1]
  instanceTypes := #[]
  staticTypes := #[.boolean]
  resolved := Array.replicate 395 none
  statics := none }

def pool10 : Array CpInfo := pool [(2, .class_ 4), (1, u "java/lang/Object"), (0, u "<init>"), (0, u "()V"), (17, .class_ 26), (1, u "jdk/internal/util/Preconditions"), (6, u "checkIndex"), (21, .class_ 56), (0, u "jdk/internal/util/Preconditions$4"), (57, .class_ 115), (0, u "jdk/internal/util/Preconditions$1"), (7, u "SIOOBE_FORMATTER"), (0, u "Ljava/util/function/BiFunction;"), (0, .class_ 126), (0, u "jdk/internal/util/Preconditions$2"), (3, u "AIOOBE_FORMATTER"), (0, .class_ 132), (0, u "jdk/internal/util/Preconditions$3"), (3, u "IOOBE_FORMATTER"), (41, u "(IILjava/util/function/BiFunction;)I")] 15

def k10m0 : Method := { name := "<init>", desc := "()V", sig := { parameters := [], returnType := none }, accessFlags := 1, code := none }
def k10c1 : Code := { maxStack := 3, maxLocals := 3, code := jdk_41_method_11_code, exceptionTable := #[], attributes := #[] }
def k10m1 : Method := { name := "checkIndex", desc := "(IILjava/util/function/BiFunction;)I", sig := { parameters := [.int, .int, (.object "java/util/function/BiFunction")], returnType := some .int }, accessFlags := 9, code := some k10c1 }
/-- jdk/internal/util/Preconditions -/
def k10 : Class := { plain "jdk/internal/util/Preconditions" (some 0) with
  accessFlags := 33
  interfaces := #[]
  cf := some (fileOf pool10 24 #[.nestMembers #[55, 131, 125, 114]] #[{ accessFlags := 1, nameIndex := 5, descriptorIndex := 6, attributes := #[] }, { accessFlags := 9, nameIndex := 33, descriptorIndex := 178, attributes := #[] }] 33 2 #[] #[{ accessFlags := 25, nameIndex := 123, descriptorIndex := 124, attributes := #[] }, { accessFlags := 25, nameIndex := 130, descriptorIndex := 124, attributes := #[] }, { accessFlags := 25, nameIndex := 136, descriptorIndex := 124, attributes := #[] }])
  fields := #[{ name := "SIOOBE_FORMATTER", type := (.object "java/util/function/BiFunction"), accessFlags := 25, slot := 0, constantValue := 0 }, { name := "AIOOBE_FORMATTER", type := (.object "java/util/function/BiFunction"), accessFlags := 25, slot := 1, constantValue := 0 }, { name := "IOOBE_FORMATTER", type := (.object "java/util/function/BiFunction"), accessFlags := 25, slot := 2, constantValue := 0 }]
  methods := #[k10m0, k10m1]
  instanceTypes := #[]
  staticTypes := #[(.object "java/util/function/BiFunction"), (.object "java/util/function/BiFunction"), (.object "java/util/function/BiFunction")]
  resolved := Array.replicate 194 none
  statics := some 1 }

def pool11 : Array CpInfo := pool [(9, u "<init>"), (6, .class_ 18), (1, u "java/lang/Object"), (0, u "()V"), (1, .class_ 23), (1, u "jdk/internal/util/ArraysSupport"), (0, u "LOG2_ARRAY_LONG_INDEX_SCALE"), (0, u "I"), (2, u "U"), (0, u "Ljdk/internal/misc/Unsafe;"), (8, u "BIG_ENDIAN"), (0, u "Z"), (8, u "LOG2_BYTE_BIT_SIZE"), (4, u "LOG2_ARRAY_INT_INDEX_SCALE"), (54, u "JLA"), (0, u "Ljdk/internal/access/JavaLangAccess;"), (11, u "LOG2_ARRAY_BOOLEAN_INDEX_SCALE"), (9, u "LOG2_ARRAY_BYTE_INDEX_SCALE"), (5, u "LOG2_ARRAY_CHAR_INDEX_SCALE"), (5, u "LOG2_ARRAY_SHORT_INDEX_SCALE"), (18, u "LOG2_ARRAY_FLOAT_INDEX_SCALE"), (24, u "LOG2_ARRAY_DOUBLE_INDEX_SCALE"), (89, u "T_BOOLEAN"), (2, u "T_CHAR"), (1, u "T_FLOAT"), (1, u "T_DOUBLE"), (1, u "T_BYTE"), (1, u "T_SHORT"), (1, u "T_INT"), (1, u "T_LONG"), (1, u "SOFT_MAX_ARRAY_LENGTH")] 83

def k11m0 : Method := { name := "<init>", desc := "()V", sig := { parameters := [], returnType := none }, accessFlags := 2, code := none }
/-- jdk/internal/util/ArraysSupport -/
def k11 : Class := { plain "jdk/internal/util/ArraysSupport" (some 0) with
  accessFlags := 33
  interfaces := #[]
  cf := some (fileOf pool11 21 #[] #[{ accessFlags := 2, nameIndex := 9, descriptorIndex := 19, attributes := #[] }] 33 16 #[] #[{ accessFlags := 24, nameIndex := 28, descriptorIndex := 29, attributes := #[] }, { accessFlags := 26, nameIndex := 38, descriptorIndex := 39, attributes := #[] }, { accessFlags := 25, nameIndex := 121, descriptorIndex := 25, attributes := #[] }, { accessFlags := 25, nameIndex := 131, descriptorIndex := 25, attributes := #[] }, { accessFlags := 25, nameIndex := 137, descriptorIndex := 25, attributes := #[] }, { accessFlags := 25, nameIndex := 143, descriptorIndex := 25, attributes := #[] }, { accessFlags := 25, nameIndex := 53, descriptorIndex := 25, attributes := #[] }, { accessFlags := 25, nameIndex := 24, descriptorIndex := 25, attributes := #[] }, { accessFlags := 25, nameIndex := 162, descriptorIndex := 25, attributes := #[] }, { accessFlags := 25, nameIndex := 187, descriptorIndex := 25, attributes := #[] }, { accessFlags := 26, nameIndex := 48, descriptorIndex := 25, attributes := #[] }, { accessFlags := 25, nameIndex := 277, descriptorIndex := 25, attributes := #[] }, { accessFlags := 25, nameIndex := 280, descriptorIndex := 25, attributes := #[] }, { accessFlags := 25, nameIndex := 282, descriptorIndex := 25, attributes := #[] }, { accessFlags := 25, nameIndex := 284, descriptorIndex := 25, attributes := #[] }, { accessFlags := 25, nameIndex := 286, descriptorIndex := 25, attributes := #[] }, { accessFlags := 25, nameIndex := 288, descriptorIndex := 25, attributes := #[] }, { accessFlags := 25, nameIndex := 290, descriptorIndex := 25, attributes := #[] }, { accessFlags := 25, nameIndex := 292, descriptorIndex := 25, attributes := #[] }, { accessFlags := 26, nameIndex := 108, descriptorIndex := 109, attributes := #[] }, { accessFlags := 25, nameIndex := 294, descriptorIndex := 25, attributes := #[] }])
  fields := #[{ name := "U", type := (.object "jdk/internal/misc/Unsafe"), accessFlags := 24, slot := 0, constantValue := 0 }, { name := "BIG_ENDIAN", type := .boolean, accessFlags := 26, slot := 1, constantValue := 0 }, { name := "LOG2_ARRAY_BOOLEAN_INDEX_SCALE", type := .int, accessFlags := 25, slot := 2, constantValue := 0 }, { name := "LOG2_ARRAY_BYTE_INDEX_SCALE", type := .int, accessFlags := 25, slot := 3, constantValue := 0 }, { name := "LOG2_ARRAY_CHAR_INDEX_SCALE", type := .int, accessFlags := 25, slot := 4, constantValue := 0 }, { name := "LOG2_ARRAY_SHORT_INDEX_SCALE", type := .int, accessFlags := 25, slot := 5, constantValue := 0 }, { name := "LOG2_ARRAY_INT_INDEX_SCALE", type := .int, accessFlags := 25, slot := 6, constantValue := 0 }, { name := "LOG2_ARRAY_LONG_INDEX_SCALE", type := .int, accessFlags := 25, slot := 7, constantValue := 0 }, { name := "LOG2_ARRAY_FLOAT_INDEX_SCALE", type := .int, accessFlags := 25, slot := 8, constantValue := 0 }, { name := "LOG2_ARRAY_DOUBLE_INDEX_SCALE", type := .int, accessFlags := 25, slot := 9, constantValue := 0 }, { name := "LOG2_BYTE_BIT_SIZE", type := .int, accessFlags := 26, slot := 10, constantValue := 0 }, { name := "T_BOOLEAN", type := .int, accessFlags := 25, slot := 11, constantValue := 0 }, { name := "T_CHAR", type := .int, accessFlags := 25, slot := 12, constantValue := 0 }, { name := "T_FLOAT", type := .int, accessFlags := 25, slot := 13, constantValue := 0 }, { name := "T_DOUBLE", type := .int, accessFlags := 25, slot := 14, constantValue := 0 }, { name := "T_BYTE", type := .int, accessFlags := 25, slot := 15, constantValue := 0 }, { name := "T_SHORT", type := .int, accessFlags := 25, slot := 16, constantValue := 0 }, { name := "T_INT", type := .int, accessFlags := 25, slot := 17, constantValue := 0 }, { name := "T_LONG", type := .int, accessFlags := 25, slot := 18, constantValue := 0 }, { name := "JLA", type := (.object "jdk/internal/access/JavaLangAccess"), accessFlags := 26, slot := 19, constantValue := 0 }, { name := "SOFT_MAX_ARRAY_LENGTH", type := .int, accessFlags := 25, slot := 20, constantValue := 0 }]
  methods := #[k11m0]
  instanceTypes := #[]
  staticTypes := #[(.object "jdk/internal/misc/Unsafe"), .boolean, .int, .int, .int, .int, .int, .int, .int, .int, .int, .int, .int, .int, .int, .int, .int, .int, .int, (.object "jdk/internal/access/JavaLangAccess"), .int]
  resolved := Array.replicate 378 none
  statics := none }

def pool12 : Array CpInfo := pool [(1, u "java/lang/Cloneable"), (0, .class_ 1), (0, u "java/lang/Object"), (0, .class_ 3)] 3

/-- java/lang/Cloneable -/
def k12 : Class := { plain "java/lang/Cloneable" (some 0) with
  accessFlags := 1537
  interfaces := #[]
  cf := some (fileOf pool12 2 #[] #[] 1537 4 #[] #[])
  fields := #[]
  methods := #[]
  instanceTypes := #[]
  staticTypes := #[]
  resolved := Array.replicate 8 none
  statics := none }

/-- the primitive byte -/
def k13 : Class := { plain "byte" none with kind := .primitive 'B', accessFlags := 0x411 }
/-- [B -/
def k14 : Class := { plain "[B" (some 0) with kind := .array 13 .byte, interfaces := #[12, 3], accessFlags := 1041 }

/-- the primitive int -/
def k15 : Class := { plain "int" none with kind := .primitive 'I', accessFlags := 0x411 }
/-- [I -/
def k16 : Class := { plain "[I" (some 0) with kind := .array 15 .int, interfaces := #[12, 3], accessFlags := 1041 }

def heap : Heap := #[{ cls := 8, slots := #[.long 0, .int 1, .null, .int 0, .null, .int 0, .int 0], vm := .statics 8 },
  { cls := 10, slots := #[.null, .null, .null], vm := .statics 10 }]
def classes : Array Class := #[k0, k1, k2, k3, k4, k5, k6, k7, k8, k9, k10, k11, k12, k13, k14, k15, k16]
def interned : List (Array UInt16 × Addr) := []
def slotsUsed : Nat := 10
def theMethod : MethodId := ⟨1, 1⟩
def args0 : Array Value := #[.int 5, .int 6]
def aboutOver (below : List Frame) : State where
  vm := { classes := classes, interned := interned.toArray }
  heap := heap
  slotsUsed := slotsUsed
  threads := #[{ frames := .invoking theMethod args0 :: below }]
def below0 : List Frame := [.native { method := ⟨0, 0⟩, args := #[] }]
def about1 : State := aboutOver below0
def p0 : Program := .bare "" "" ""
def e0 : Env := launch0.env 0 0 0
theorem w_frames : about1.frames = Frame.invoking theMethod args0 :: below0 := rfl
set_option maxRecDepth 65536 in
theorem w_args : argsFit about1.vm theMethod args0 = true := by decide +kernel
set_option maxRecDepth 65536 in
theorem w_heap : heapFits about1 = true := by decide +kernel
set_option maxRecDepth 65536 in
theorem w_runnable : about1.curStatus? = some .runnable := by decide +kernel
set_option maxRecDepth 65536 in
theorem w_alone : about1.alone = true := by decide +kernel
set_option maxRecDepth 65536 in
theorem w_named : about1.methodNamed? x = some theMethod := by decide +kernel
set_option maxRecDepth 65536 in
theorem w_hears : about1.hears theMethod below0 = true := by decide +kernel
set_option maxRecDepth 65536 in
theorem w_ripe : about1.ripe theMethod args0 below0 = true := by decide +kernel
theorem w_running : about1.status = .running := rfl
set_option maxRecDepth 65536 in
theorem w_room : about1.hasRoom e0.platform room_1 = true :=
  launch0.hasRoom_least _ room_1 (by decide +kernel) (by decide +kernel) (by decide +kernel) (by decide +kernel) (by decide +kernel) (by decide +kernel)
theorem allAtoms_all (ts : List Jvm.Cond) (a : Array Jvm.Value) (st : Jvm.State) : (allAtoms ts).before a st = ts.all (fun c => c.before a st) := by
  induction ts with
  | nil => rfl
  | cons c t ih =>
    show (Jvm.Cond.and c (allAtoms t)).before a st = _
    rw [Jvm.Cond.before_and, ih, List.all_cons]
def words1 : List Jvm.Cond := Jvm.Cond.code x code maxLocals ret :: tables_1
/-- a 'code' word, met by the world's own term for the bytes: nothing is compared byte by byte -/
theorem code_word {y : MethodName} {bytes : ByteArray} {mx : Nat} {rt : Option FieldType} {a : Array Value} {s : State} {m : MethodId} {meth : Method} {c : Code} (h1 : s.methodNamed? y = some m) (h2 : s.vm.method? m = some meth) (h3 : meth.code = some c) (h4 : c.code = bytes)
    (h5 : (c.maxLocals == mx && c.exceptionTable.isEmpty && decide (c.maxStack ≤ mostOperands) && decide (meth.sig.returnType = rt) && !meth.locks && decide (parseMethodDescriptor y.desc = some meth.sig)) = true) : (Jvm.Cond.code y bytes mx rt).before a s = true := by
  simp only [Bool.and_eq_true, beq_iff_eq, Bool.not_eq_true', decide_eq_true_eq] at h5
  obtain ⟨⟨⟨⟨⟨g1, g2⟩, g3⟩, g4⟩, g5⟩, g6⟩ := h5
  simp [Cond.before, Cond.holds, Cond.value, h1, h2, h3, h4, g1, g2, g3, g4, g5, g6]
def isCode : Jvm.Cond → Bool
  | .code _ _ _ _ => true
  | _ => false
theorem all_split {L : List Jvm.Cond} {P : Jvm.Cond → Bool} (h1 : L.all (fun c => isCode c || P c) = true) (h2 : ∀ c ∈ L.filter isCode, P c = true) : L.all P = true := by
  refine List.all_eq_true.mpr fun c hc => ?_
  have h := List.all_eq_true.mp h1 c hc
  rcases Bool.eq_false_or_eq_true (isCode c) with hi | hi
  · exact h2 c (List.mem_filter.mpr ⟨hc, hi⟩)
  · simpa [hi] using h
set_option maxRecDepth 65536 in
theorem w_c0 : (Jvm.Cond.code x code maxLocals ret).before args0 about1 = true := code_word (m := ⟨1, 1⟩) (meth := k1m1) (c := k1c1) (by decide +kernel) rfl rfl rfl (by decide +kernel)
set_option maxRecDepth 65536 in
theorem w_c1 : (Jvm.Cond.code ({ cls := "com/example/annotated_resource_router/annotatedresourcerouter/uri/PercentEncoding", name := "isHexDigit", desc := "(C)Z" } : Jvm.MethodName) prog_41_method_8_code (1 : Nat) (Option.some Jvm.ClassFile.FieldType.boolean)).before args0 about1 = true := code_word (m := ⟨2, 1⟩) (meth := k2m1) (c := k2c1) (by decide +kernel) rfl rfl rfl (by decide +kernel)
set_option maxRecDepth 65536 in
theorem w_c2 : (Jvm.Cond.code ({ cls := "java/lang/String", name := "charAt", desc := "(I)C" } : Jvm.MethodName) jdk_42_method_56_code (2 : Nat) (Option.some Jvm.ClassFile.FieldType.char)).before args0 about1 = true := code_word (m := ⟨8, 1⟩) (meth := k8m1) (c := k8c1) (by decide +kernel) rfl rfl rfl (by decide +kernel)
set_option maxRecDepth 65536 in
theorem w_c3 : (Jvm.Cond.code ({ cls := "java/lang/String", name := "isLatin1", desc := "()Z" } : Jvm.MethodName) jdk_42_method_154_code (1 : Nat) (Option.some Jvm.ClassFile.FieldType.boolean)).before args0 about1 = true := code_word (m := ⟨8, 2⟩) (meth := k8m2) (c := k8c2) (by decide +kernel) rfl rfl rfl (by decide +kernel)
set_option maxRecDepth 65536 in
theorem w_c4 : (Jvm.Cond.code ({ cls := "java/lang/StringLatin1", name := "charAt", desc := "([BI)C" } : Jvm.MethodName) jdk_43_method_2_code (2 : Nat) (Option.some Jvm.ClassFile.FieldType.char)).before args0 about1 = true := code_word (m := ⟨9, 1⟩) (meth := k9m1) (c := k9c1) (by decide +kernel) rfl rfl rfl (by decide +kernel)
set_option maxRecDepth 65536 in
theorem w_c5 : (Jvm.Cond.code ({ cls := "java/lang/String", name := "checkIndex", desc := "(II)V" } : Jvm.MethodName) jdk_42_method_155_code (2 : Nat) (Option.none : Option Jvm.ClassFile.FieldType)).before args0 about1 = true := code_word (m := ⟨8, 3⟩) (meth := k8m3) (c := k8c3) (by decide +kernel) rfl rfl rfl (by decide +kernel)
set_option maxRecDepth 65536 in
theorem w_c6 : (Jvm.Cond.code ({ cls := "jdk/internal/util/Preconditions", name := "checkIndex", desc := "(IILjava/util/function/BiFunction;)I" } : Jvm.MethodName) jdk_41_method_11_code (3 : Nat) (Option.some Jvm.ClassFile.FieldType.int)).before args0 about1 = true := code_word (m := ⟨10, 1⟩) (meth := k10m1) (c := k10c1) (by decide +kernel) rfl rfl rfl (by decide +kernel)
def codes1 : List Jvm.Cond := [Jvm.Cond.code x code maxLocals ret, Jvm.Cond.code ({ cls := "com/example/annotated_resource_router/annotatedresourcerouter/uri/PercentEncoding", name := "isHexDigit", desc := "(C)Z" } : Jvm.MethodName) prog_41_method_8_code (1 : Nat) (Option.some Jvm.ClassFile.FieldType.boolean), Jvm.Cond.code ({ cls := "java/lang/String", name := "charAt", desc := "(I)C" } : Jvm.MethodName) jdk_42_method_56_code (2 : Nat) (Option.some Jvm.ClassFile.FieldType.char), Jvm.Cond.code ({ cls := "java/lang/String", name := "isLatin1", desc := "()Z" } : Jvm.MethodName) jdk_42_method_154_code (1 : Nat) (Option.some Jvm.ClassFile.FieldType.boolean), Jvm.Cond.code ({ cls := "java/lang/StringLatin1", name := "charAt", desc := "([BI)C" } : Jvm.MethodName) jdk_43_method_2_code (2 : Nat) (Option.some Jvm.ClassFile.FieldType.char), Jvm.Cond.code ({ cls := "java/lang/String", name := "checkIndex", desc := "(II)V" } : Jvm.MethodName) jdk_42_method_155_code (2 : Nat) (Option.none : Option Jvm.ClassFile.FieldType), Jvm.Cond.code ({ cls := "jdk/internal/util/Preconditions", name := "checkIndex", desc := "(IILjava/util/function/BiFunction;)I" } : Jvm.MethodName) jdk_41_method_11_code (3 : Nat) (Option.some Jvm.ClassFile.FieldType.int)]
set_option maxRecDepth 65536 in
theorem codes_eq : words1.filter isCode = codes1 := rfl
theorem w_codes : ∀ c ∈ words1.filter isCode, c.before args0 about1 = true := by
  rw [codes_eq]
  intro c hc
  simp only [codes1, List.mem_cons, List.not_mem_nil, or_false] at hc
  rcases hc with rfl | rfl | rfl | rfl | rfl | rfl | rfl
  · exact w_c0
  · exact w_c1
  · exact w_c2
  · exact w_c3
  · exact w_c4
  · exact w_c5
  · exact w_c6
set_option maxRecDepth 65536 in
theorem w_t1 : (words1.take 24).all (fun c => isCode c || c.before args0 about1) = true := by decide +kernel
set_option maxRecDepth 65536 in
theorem w_t2 : (words1.drop 24).all (fun c => isCode c || c.before args0 about1) = true := by decide +kernel
theorem w_tables : (allAtoms (Jvm.Cond.code x code maxLocals ret :: tables_1)).before args0 about1 = true := by
  rw [allAtoms_all]
  show words1.all (fun c => c.before args0 about1) = true
  refine all_split ?_ w_codes
  rw [← List.take_append_drop 24 words1, List.all_append, w_t1, w_t2]
  rfl
set_option maxRecDepth 65536 in
theorem w_rest : rest_1_c.before args0 about1 = true := by decide +kernel
set_option maxRecDepth 65536 in
theorem w_case : (Jvm.Cond.and given_1 narrow_1).before args0 about1 = true := by decide +kernel
set_option maxRecDepth 65536 in
theorem w_consts : constsHeld consts_1 about1 := Jvm.Lit.constsHeldB_iff.mp (by decide +kernel)
theorem w_applies : (headSpec (Jvm.Cond.code x code maxLocals ret :: tables_1) room_1).applies x e0.platform about1 = true :=
  (Spec.applies_iff w_frames).mpr ⟨w_running, w_runnable, w_alone, w_named, w_hears, w_ripe, w_room, w_tables⟩
theorem atStart : AtStart classFile x code maxLocals ret World_1 tables_1 room_1 Calls_1 rest_1 Pre_1 launch0 p0 e0 about1 theMethod args0 below0 :=
  ⟨lists_1, trivial, launch0.admits_env _ _ _, launch0.least_env, fairChoices_fair.cas, fairChoices_fair.clock, w_frames, w_args, w_heap, w_applies, ⟨w_consts, trivial⟩, w_rest, w_case⟩
end start1
theorem witness_1 : WitnessClaimed_1 := ⟨start1.p0, start1.e0, start1.about1, start1.theMethod, start1.args0, start1.below0, start1.atStart⟩
end Jvm.Pilot.@@N@@
