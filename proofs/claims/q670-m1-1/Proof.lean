import JvmDerived
import JvmDerived.Pilot.@@N@@Statement
import JvmDerived.Pilot.@@N@@Code
set_option linter.unusedVariables false
set_option linter.unusedSimpArgs false

namespace Jvm.RoadKit
open Sem ClassFile Op Lib Jvm.Stand Jvm.Free Jvm.LawKit
section New
variable {p : Program} {l : Launch} {e : Env} {R : Room} {s : State} {m : MethodId} {args : Array Value} {below : List Frame} {meth : Method} {c : Code} {T : State} {locs : List Loc} {cells slots : Nat}
theorem retI (X : Stand p l e R s m args below meth c T locs cells slots) (hx : p.tables.exec = Jvm.exec) {pc : Nat} {Ls : Array Slot} {z : Int32} {rest : List Value} (hret : meth.sig.returnType = some .int) (hd : decode c.code pc = .ok (.ireturn, 1)) {fs : List Frame}
    (hl : ∀ (f : JFrame) (acts : List Action), f.method = m → f.locked = none → f.entered = [] → (doReturn e (T.setTop f) acts (some (.int z))).1 = T.setFrames fs) : Steps p.tables e below (T.setTop (mkF m pc Ls (.int z :: rest))) (T.setFrames fs) := by
  have hm' : T.vm.method? m = some meth := X.method'
  have hn : narrow .int (.int z) = .int z := rfl
  show Steps p.tables e below (T.setTop { method := m, pc := pc, locals := Ls, stack := _ :: rest, locked := none }) _
  jvm_step X.here [X.here.top, hx, hd, hm', hret, hn]
  first | (intro acts; rw [hl _ acts rfl rfl rfl]) | rw [hl _ _ rfl rfl rfl]
  exact Steps.refl _
theorem retL (X : Stand p l e R s m args below meth c T locs cells slots) (hx : p.tables.exec = Jvm.exec) {pc : Nat} {Ls : Array Slot} {z : Int64} {rest : List Value} (hret : meth.sig.returnType = some .long) (hd : decode c.code pc = .ok (.lreturn, 1)) {fs : List Frame}
    (hl : ∀ (f : JFrame) (acts : List Action), f.method = m → f.locked = none → f.entered = [] → (doReturn e (T.setTop f) acts (some (.long z))).1 = T.setFrames fs) : Steps p.tables e below (T.setTop (mkF m pc Ls (.long z :: rest))) (T.setFrames fs) := by
  have hm' : T.vm.method? m = some meth := X.method'
  have hn : narrow .long (.long z) = .long z := rfl
  show Steps p.tables e below (T.setTop { method := m, pc := pc, locals := Ls, stack := _ :: rest, locked := none }) _
  jvm_step X.here [X.here.top, hx, hd, hm', hret, hn]
  first | (intro acts; rw [hl _ acts rfl rfl rfl]) | rw [hl _ _ rfl rfl rfl]
  exact Steps.refl _
end New
end Jvm.RoadKit
namespace Jvm.Pilot.@@N@@
open Jvm Jvm.ClassFile Sem Op Lib Jvm.Free Jvm.Stand Jvm.LawKit Jvm.RoadKit Bundle Jvm.Pilot.@@N@@.Jvm.D
/-- from here the run comes to an end of which W holds -/
def own_Go (p : Program) (e : Env) (below : List Frame) (W : State → Outcome → Prop) (T : State) (g : JFrame) : Prop :=
  ∃ s₂ o, Steps p.tables e below (T.setTop g) s₂ ∧ s₂.status = .running ∧ Ended s₂ below o ∧ W s₂ o
theorem own_Go.of {p : Program} {e : Env} {below : List Frame} {W : State → Outcome → Prop} {T T' : State} {g g' : JFrame} (f : ∀ t, Steps p.tables e below (T'.setTop g') t → Steps p.tables e below (T.setTop g) t) (k : own_Go p e below W T' g') : own_Go p e below W T g := by
  obtain ⟨s₂, o, h1, h2⟩ := k
  exact ⟨s₂, o, f _ h1, h2⟩
theorem own_hide {p : Program} {l : Launch} {e : Env} {R : Room} {s : State} {m : MethodId} {args : Array Value} {below : List Frame} {meth : Method} {c : Code} {T : State} {locs : List Loc} {cells slots : Nat} (X : Stand p l e R s m args below meth c T locs cells slots) {k : Nat} (N : Fr k locs) : ∃ L, Stand p l e R s m args below meth c T L cells slots ∧ Fr k L := ⟨_, X, N⟩
theorem own_via {G A : Prop} (h1 : A → G) (h2 : A) : G := h1 h2
section OwnSteps
variable {p : Program} {l : Launch} {e : Env} {R : Room} {s : State} {m : MethodId} {args : Array Value} {below : List Frame} {meth : Method} {c : Code} {T : State} {locs : List Loc} {cells slots : Nat} {W : State → Outcome → Prop} {pc pc' : Nat} {L : Array Slot} {S : List Value}
theorem og_iloadN (X : Stand p l e R s m args below meth c T locs cells slots) (hx : p.tables.exec = Jvm.exec) {k : Fin 4} {v : Int32} (hd : decode c.code pc = .ok (.iload_n k, 1)) (hl : L[k.val]? = some (.val (.int v))) (hp : pc + 1 = pc') (h : own_Go p e below W T (mkF m pc' L ((.int v) :: S))) : own_Go p e below W T (mkF m pc L S) := by
  subst hp; exact own_Go.of (fun t q => XS.iloadN X.here hx rfl hd hl q) h
theorem og_iload (X : Stand p l e R s m args below meth c T locs cells slots) (hx : p.tables.exec = Jvm.exec) {k : Nat} {v : Int32} (hd : decode c.code pc = .ok (.iload k, 2)) (hl : L[k]? = some (.val (.int v))) (hp : pc + 2 = pc') (h : own_Go p e below W T (mkF m pc' L ((.int v) :: S))) : own_Go p e below W T (mkF m pc L S) := by
  subst hp; exact own_Go.of (fun t q => XS.iload X.here hx rfl hd hl q) h
theorem og_istoreN (X : Stand p l e R s m args below meth c T locs cells slots) (hx : p.tables.exec = Jvm.exec) {k : Fin 4} {v : Int32} {L' : Array Slot} (hd : decode c.code pc = .ok (.istore_n k, 1)) (hl : storeLocals L k.val (.int v) = some L') (hp : pc + 1 = pc') (h : own_Go p e below W T (mkF m pc' L' S)) : own_Go p e below W T (mkF m pc L ((.int v) :: S)) := by
  subst hp; exact own_Go.of (fun t q => XS.istoreN X.here hx rfl hd rfl hl q) h
theorem og_istore (X : Stand p l e R s m args below meth c T locs cells slots) (hx : p.tables.exec = Jvm.exec) {k : Nat} {v : Int32} {L' : Array Slot} (hd : decode c.code pc = .ok (.istore k, 2)) (hl : storeLocals L k (.int v) = some L') (hp : pc + 2 = pc') (h : own_Go p e below W T (mkF m pc' L' S)) : own_Go p e below W T (mkF m pc L ((.int v) :: S)) := by
  subst hp; exact own_Go.of (fun t q => XS.istore X.here hx rfl hd rfl hl q) h
theorem og_lloadN (X : Stand p l e R s m args below meth c T locs cells slots) (hx : p.tables.exec = Jvm.exec) {k : Fin 4} {v : Int64} (hd : decode c.code pc = .ok (.lload_n k, 1)) (hl : L[k.val]? = some (.val (.long v))) (hp : pc + 1 = pc') (h : own_Go p e below W T (mkF m pc' L ((.long v) :: S))) : own_Go p e below W T (mkF m pc L S) := by
  subst hp; exact own_Go.of (fun t q => XS.lloadN X.here hx rfl hd hl q) h
theorem og_lload (X : Stand p l e R s m args below meth c T locs cells slots) (hx : p.tables.exec = Jvm.exec) {k : Nat} {v : Int64} (hd : decode c.code pc = .ok (.lload k, 2)) (hl : L[k]? = some (.val (.long v))) (hp : pc + 2 = pc') (h : own_Go p e below W T (mkF m pc' L ((.long v) :: S))) : own_Go p e below W T (mkF m pc L S) := by
  subst hp; exact own_Go.of (fun t q => XS.lload X.here hx rfl hd hl q) h
theorem og_lstoreN (X : Stand p l e R s m args below meth c T locs cells slots) (hx : p.tables.exec = Jvm.exec) {k : Fin 4} {v : Int64} {L' : Array Slot} (hd : decode c.code pc = .ok (.lstore_n k, 1)) (hl : storeLocals L k.val (.long v) = some L') (hp : pc + 1 = pc') (h : own_Go p e below W T (mkF m pc' L' S)) : own_Go p e below W T (mkF m pc L ((.long v) :: S)) := by
  subst hp; exact own_Go.of (fun t q => XS.lstoreN X.here hx rfl hd rfl hl q) h
theorem og_lstore (X : Stand p l e R s m args below meth c T locs cells slots) (hx : p.tables.exec = Jvm.exec) {k : Nat} {v : Int64} {L' : Array Slot} (hd : decode c.code pc = .ok (.lstore k, 2)) (hl : storeLocals L k (.long v) = some L') (hp : pc + 2 = pc') (h : own_Go p e below W T (mkF m pc' L' S)) : own_Go p e below W T (mkF m pc L ((.long v) :: S)) := by
  subst hp; exact own_Go.of (fun t q => XS.lstore X.here hx rfl hd rfl hl q) h
theorem og_aloadN (X : Stand p l e R s m args below meth c T locs cells slots) (hx : p.tables.exec = Jvm.exec) {k : Fin 4} {v : Value} (hd : decode c.code pc = .ok (.aload_n k, 1)) (hl : L[k.val]? = some (.val v)) (hv : v.isRef = true) (hp : pc + 1 = pc') (h : own_Go p e below W T (mkF m pc' L (v :: S))) : own_Go p e below W T (mkF m pc L S) := by
  subst hp; exact own_Go.of (fun t q => XS.aloadN X.here hx rfl hd hl hv q) h
theorem og_aload (X : Stand p l e R s m args below meth c T locs cells slots) (hx : p.tables.exec = Jvm.exec) {k : Nat} {v : Value} (hd : decode c.code pc = .ok (.aload k, 2)) (hl : L[k]? = some (.val v)) (hv : v.isRef = true) (hp : pc + 2 = pc') (h : own_Go p e below W T (mkF m pc' L (v :: S))) : own_Go p e below W T (mkF m pc L S) := by
  subst hp; exact own_Go.of (fun t q => XS.aload X.here hx rfl hd hl hv q) h
theorem og_astoreN (X : Stand p l e R s m args below meth c T locs cells slots) (hx : p.tables.exec = Jvm.exec) {k : Fin 4} {v : Value} {L' : Array Slot} (hd : decode c.code pc = .ok (.astore_n k, 1)) (hv : v.isRef = true) (hl : storeLocals L k.val v = some L') (hp : pc + 1 = pc') (h : own_Go p e below W T (mkF m pc' L' S)) : own_Go p e below W T (mkF m pc L (v :: S)) := by
  subst hp; exact own_Go.of (fun t q => XS.astoreN X.here hx rfl hd rfl hv hl q) h
theorem og_astore (X : Stand p l e R s m args below meth c T locs cells slots) (hx : p.tables.exec = Jvm.exec) {k : Nat} {v : Value} {L' : Array Slot} (hd : decode c.code pc = .ok (.astore k, 2)) (hv : v.isRef = true) (hl : storeLocals L k v = some L') (hp : pc + 2 = pc') (h : own_Go p e below W T (mkF m pc' L' S)) : own_Go p e below W T (mkF m pc L (v :: S)) := by
  subst hp; exact own_Go.of (fun t q => XS.astore X.here hx rfl hd rfl hv hl q) h
theorem og_iconst (X : Stand p l e R s m args below meth c T locs cells slots) (hx : p.tables.exec = Jvm.exec) {i : Int} {n : Int32} (hd : decode c.code pc = .ok (.iconst i, 1)) (hn : Int32.ofInt i = n) (hp : pc + 1 = pc') (h : own_Go p e below W T (mkF m pc' L (.int n :: S))) : own_Go p e below W T (mkF m pc L S) := by
  subst hp hn; exact own_Go.of (fun t q => XS.iconst X.here hx rfl hd q) h
theorem og_bipush (X : Stand p l e R s m args below meth c T locs cells slots) (hx : p.tables.exec = Jvm.exec) {i : Int} {n : Int32} (hd : decode c.code pc = .ok (.bipush i, 2)) (hn : (Int8.ofInt i).toInt32 = n) (hp : pc + 2 = pc') (h : own_Go p e below W T (mkF m pc' L (.int n :: S))) : own_Go p e below W T (mkF m pc L S) := by
  subst hp hn; exact own_Go.of (fun t q => XS.bipush X.here hx rfl hd q) h
theorem og_sipush (X : Stand p l e R s m args below meth c T locs cells slots) (hx : p.tables.exec = Jvm.exec) {i : Int} {n : Int32} (hd : decode c.code pc = .ok (.sipush i, 3)) (hn : (Int16.ofInt i).toInt32 = n) (hp : pc + 3 = pc') (h : own_Go p e below W T (mkF m pc' L (.int n :: S))) : own_Go p e below W T (mkF m pc L S) := by
  subst hp hn; exact own_Go.of (fun t q => XS.sipush X.here hx rfl hd q) h
theorem og_lconst0 (X : Stand p l e R s m args below meth c T locs cells slots) (hx : p.tables.exec = Jvm.exec) (hd : decode c.code pc = .ok (.lconst 0, 1)) (hp : pc + 1 = pc') (h : own_Go p e below W T (mkF m pc' L (.long (0 : Int64) :: S))) : own_Go p e below W T (mkF m pc L S) := by
  subst hp; exact own_Go.of (fun t q => XS.lconst X.here hx rfl hd q) h
theorem og_lconst1 (X : Stand p l e R s m args below meth c T locs cells slots) (hx : p.tables.exec = Jvm.exec) (hd : decode c.code pc = .ok (.lconst 1, 1)) (hp : pc + 1 = pc') (h : own_Go p e below W T (mkF m pc' L (.long (1 : Int64) :: S))) : own_Go p e below W T (mkF m pc L S) := by
  subst hp; exact own_Go.of (fun t q => XS.lconst X.here hx rfl hd q) h
theorem og_aconst_null (X : Stand p l e R s m args below meth c T locs cells slots) (hx : p.tables.exec = Jvm.exec)  (hd : decode c.code pc = .ok (.aconst_null, 1)) (hp : pc + 1 = pc') (h : own_Go p e below W T (mkF m pc' L (.null :: S))) : own_Go p e below W T (mkF m pc L S) := by
  subst hp; exact own_Go.of (fun t q => XS.aconstNull X.here hx rfl hd q) h
theorem og_iadd (X : Stand p l e R s m args below meth c T locs cells slots) (hx : p.tables.exec = Jvm.exec) {x y : Int32} (hd : decode c.code pc = .ok (.iadd, 1)) (hp : pc + 1 = pc') (h : own_Go p e below W T (mkF m pc' L (.int (x + y) :: S))) : own_Go p e below W T (mkF m pc L (.int y :: .int x :: S)) := by
  subst hp; exact own_Go.of (fun t q => XS.iadd X.here hx rfl hd rfl q) h
theorem og_ladd (X : Stand p l e R s m args below meth c T locs cells slots) (hx : p.tables.exec = Jvm.exec) {x y : Int64} (hd : decode c.code pc = .ok (.ladd, 1)) (hp : pc + 1 = pc') (h : own_Go p e below W T (mkF m pc' L (.long (x + y) :: S))) : own_Go p e below W T (mkF m pc L (.long y :: .long x :: S)) := by
  subst hp; exact own_Go.of (fun t q => XS.ladd X.here hx rfl hd rfl q) h
theorem og_isub (X : Stand p l e R s m args below meth c T locs cells slots) (hx : p.tables.exec = Jvm.exec) {x y : Int32} (hd : decode c.code pc = .ok (.isub, 1)) (hp : pc + 1 = pc') (h : own_Go p e below W T (mkF m pc' L (.int (x - y) :: S))) : own_Go p e below W T (mkF m pc L (.int y :: .int x :: S)) := by
  subst hp; exact own_Go.of (fun t q => XS.isub X.here hx rfl hd rfl q) h
theorem og_lsub (X : Stand p l e R s m args below meth c T locs cells slots) (hx : p.tables.exec = Jvm.exec) {x y : Int64} (hd : decode c.code pc = .ok (.lsub, 1)) (hp : pc + 1 = pc') (h : own_Go p e below W T (mkF m pc' L (.long (x - y) :: S))) : own_Go p e below W T (mkF m pc L (.long y :: .long x :: S)) := by
  subst hp; exact own_Go.of (fun t q => XS.lsub X.here hx rfl hd rfl q) h
theorem og_imul (X : Stand p l e R s m args below meth c T locs cells slots) (hx : p.tables.exec = Jvm.exec) {x y : Int32} (hd : decode c.code pc = .ok (.imul, 1)) (hp : pc + 1 = pc') (h : own_Go p e below W T (mkF m pc' L (.int (x * y) :: S))) : own_Go p e below W T (mkF m pc L (.int y :: .int x :: S)) := by
  subst hp; exact own_Go.of (fun t q => XS.imul X.here hx rfl hd rfl q) h
theorem og_lmul (X : Stand p l e R s m args below meth c T locs cells slots) (hx : p.tables.exec = Jvm.exec) {x y : Int64} (hd : decode c.code pc = .ok (.lmul, 1)) (hp : pc + 1 = pc') (h : own_Go p e below W T (mkF m pc' L (.long (x * y) :: S))) : own_Go p e below W T (mkF m pc L (.long y :: .long x :: S)) := by
  subst hp; exact own_Go.of (fun t q => XS.lmul X.here hx rfl hd rfl q) h
theorem og_iand (X : Stand p l e R s m args below meth c T locs cells slots) (hx : p.tables.exec = Jvm.exec) {x y : Int32} (hd : decode c.code pc = .ok (.iand, 1)) (hp : pc + 1 = pc') (h : own_Go p e below W T (mkF m pc' L (.int (x &&& y) :: S))) : own_Go p e below W T (mkF m pc L (.int y :: .int x :: S)) := by
  subst hp; exact own_Go.of (fun t q => XS.iand X.here hx rfl hd rfl q) h
theorem og_land (X : Stand p l e R s m args below meth c T locs cells slots) (hx : p.tables.exec = Jvm.exec) {x y : Int64} (hd : decode c.code pc = .ok (.land, 1)) (hp : pc + 1 = pc') (h : own_Go p e below W T (mkF m pc' L (.long (x &&& y) :: S))) : own_Go p e below W T (mkF m pc L (.long y :: .long x :: S)) := by
  subst hp; exact own_Go.of (fun t q => XS.land X.here hx rfl hd rfl q) h
theorem og_ior (X : Stand p l e R s m args below meth c T locs cells slots) (hx : p.tables.exec = Jvm.exec) {x y : Int32} (hd : decode c.code pc = .ok (.ior, 1)) (hp : pc + 1 = pc') (h : own_Go p e below W T (mkF m pc' L (.int (x ||| y) :: S))) : own_Go p e below W T (mkF m pc L (.int y :: .int x :: S)) := by
  subst hp; exact own_Go.of (fun t q => XS.ior X.here hx rfl hd rfl q) h
theorem og_lor (X : Stand p l e R s m args below meth c T locs cells slots) (hx : p.tables.exec = Jvm.exec) {x y : Int64} (hd : decode c.code pc = .ok (.lor, 1)) (hp : pc + 1 = pc') (h : own_Go p e below W T (mkF m pc' L (.long (x ||| y) :: S))) : own_Go p e below W T (mkF m pc L (.long y :: .long x :: S)) := by
  subst hp; exact own_Go.of (fun t q => XS.lor X.here hx rfl hd rfl q) h
theorem og_ixor (X : Stand p l e R s m args below meth c T locs cells slots) (hx : p.tables.exec = Jvm.exec) {x y : Int32} (hd : decode c.code pc = .ok (.ixor, 1)) (hp : pc + 1 = pc') (h : own_Go p e below W T (mkF m pc' L (.int (x ^^^ y) :: S))) : own_Go p e below W T (mkF m pc L (.int y :: .int x :: S)) := by
  subst hp; exact own_Go.of (fun t q => XS.ixor X.here hx rfl hd rfl q) h
theorem og_lxor (X : Stand p l e R s m args below meth c T locs cells slots) (hx : p.tables.exec = Jvm.exec) {x y : Int64} (hd : decode c.code pc = .ok (.lxor, 1)) (hp : pc + 1 = pc') (h : own_Go p e below W T (mkF m pc' L (.long (x ^^^ y) :: S))) : own_Go p e below W T (mkF m pc L (.long y :: .long x :: S)) := by
  subst hp; exact own_Go.of (fun t q => XS.lxor X.here hx rfl hd rfl q) h
theorem og_ineg (X : Stand p l e R s m args below meth c T locs cells slots) (hx : p.tables.exec = Jvm.exec) {x : Int32} (hd : decode c.code pc = .ok (.ineg, 1)) (hp : pc + 1 = pc') (h : own_Go p e below W T (mkF m pc' L (.int (-x) :: S))) : own_Go p e below W T (mkF m pc L (.int x :: S)) := by
  subst hp; exact own_Go.of (fun t q => XS.ineg X.here hx rfl hd rfl q) h
theorem og_lneg (X : Stand p l e R s m args below meth c T locs cells slots) (hx : p.tables.exec = Jvm.exec) {x : Int64} (hd : decode c.code pc = .ok (.lneg, 1)) (hp : pc + 1 = pc') (h : own_Go p e below W T (mkF m pc' L (.long (-x) :: S))) : own_Go p e below W T (mkF m pc L (.long x :: S)) := by
  subst hp; exact own_Go.of (fun t q => XS.lneg X.here hx rfl hd rfl q) h
theorem og_i2l (X : Stand p l e R s m args below meth c T locs cells slots) (hx : p.tables.exec = Jvm.exec) {x : Int32} (hd : decode c.code pc = .ok (.i2l, 1)) (hp : pc + 1 = pc') (h : own_Go p e below W T (mkF m pc' L (.long (x.toInt64) :: S))) : own_Go p e below W T (mkF m pc L (.int x :: S)) := by
  subst hp; exact own_Go.of (fun t q => XS.i2l X.here hx rfl hd rfl q) h
theorem og_l2i (X : Stand p l e R s m args below meth c T locs cells slots) (hx : p.tables.exec = Jvm.exec) {x : Int64} (hd : decode c.code pc = .ok (.l2i, 1)) (hp : pc + 1 = pc') (h : own_Go p e below W T (mkF m pc' L (.int (x.toInt32) :: S))) : own_Go p e below W T (mkF m pc L (.long x :: S)) := by
  subst hp; exact own_Go.of (fun t q => XS.l2i X.here hx rfl hd rfl q) h
theorem og_i2b (X : Stand p l e R s m args below meth c T locs cells slots) (hx : p.tables.exec = Jvm.exec) {x : Int32} (hd : decode c.code pc = .ok (.i2b, 1)) (hp : pc + 1 = pc') (h : own_Go p e below W T (mkF m pc' L (.int (x.toInt8.toInt32) :: S))) : own_Go p e below W T (mkF m pc L (.int x :: S)) := by
  subst hp; exact own_Go.of (fun t q => XS.i2b X.here hx rfl hd rfl q) h
theorem og_i2s (X : Stand p l e R s m args below meth c T locs cells slots) (hx : p.tables.exec = Jvm.exec) {x : Int32} (hd : decode c.code pc = .ok (.i2s, 1)) (hp : pc + 1 = pc') (h : own_Go p e below W T (mkF m pc' L (.int (x.toInt16.toInt32) :: S))) : own_Go p e below W T (mkF m pc L (.int x :: S)) := by
  subst hp; exact own_Go.of (fun t q => XS.i2s X.here hx rfl hd rfl q) h
theorem og_i2c (X : Stand p l e R s m args below meth c T locs cells slots) (hx : p.tables.exec = Jvm.exec) {x : Int32} (hd : decode c.code pc = .ok (.i2c, 1)) (hp : pc + 1 = pc') (h : own_Go p e below W T (mkF m pc' L (.int (x.toUInt32.toUInt16.toUInt32.toInt32) :: S))) : own_Go p e below W T (mkF m pc L (.int x :: S)) := by
  subst hp; exact own_Go.of (fun t q => XS.i2c X.here hx rfl hd rfl q) h
theorem og_ishl (X : Stand p l e R s m args below meth c T locs cells slots) (hx : p.tables.exec = Jvm.exec) {x : Int32} {y : Int32} (hd : decode c.code pc = .ok (.ishl, 1)) (hp : pc + 1 = pc') (h : own_Go p e below W T (mkF m pc' L (.int (x <<< (y &&& 31)) :: S))) : own_Go p e below W T (mkF m pc L (.int y :: .int x :: S)) := by
  subst hp; exact own_Go.of (fun t q => XS.ishl X.here hx rfl hd rfl q) h
theorem og_ishr (X : Stand p l e R s m args below meth c T locs cells slots) (hx : p.tables.exec = Jvm.exec) {x : Int32} {y : Int32} (hd : decode c.code pc = .ok (.ishr, 1)) (hp : pc + 1 = pc') (h : own_Go p e below W T (mkF m pc' L (.int (x >>> (y &&& 31)) :: S))) : own_Go p e below W T (mkF m pc L (.int y :: .int x :: S)) := by
  subst hp; exact own_Go.of (fun t q => XS.ishr X.here hx rfl hd rfl q) h
theorem og_iushr (X : Stand p l e R s m args below meth c T locs cells slots) (hx : p.tables.exec = Jvm.exec) {x : Int32} {y : Int32} (hd : decode c.code pc = .ok (.iushr, 1)) (hp : pc + 1 = pc') (h : own_Go p e below W T (mkF m pc' L (.int ((x.toUInt32 >>> (y &&& 31).toUInt32).toInt32) :: S))) : own_Go p e below W T (mkF m pc L (.int y :: .int x :: S)) := by
  subst hp; exact own_Go.of (fun t q => XS.iushr X.here hx rfl hd rfl q) h
theorem og_lshl (X : Stand p l e R s m args below meth c T locs cells slots) (hx : p.tables.exec = Jvm.exec) {x : Int64} {y : Int32} (hd : decode c.code pc = .ok (.lshl, 1)) (hp : pc + 1 = pc') (h : own_Go p e below W T (mkF m pc' L (.long (x <<< (y &&& 0x3f).toInt64) :: S))) : own_Go p e below W T (mkF m pc L (.int y :: .long x :: S)) := by
  subst hp; exact own_Go.of (fun t q => XS.lshl X.here hx rfl hd rfl q) h
theorem og_lshr (X : Stand p l e R s m args below meth c T locs cells slots) (hx : p.tables.exec = Jvm.exec) {x : Int64} {y : Int32} (hd : decode c.code pc = .ok (.lshr, 1)) (hp : pc + 1 = pc') (h : own_Go p e below W T (mkF m pc' L (.long (x >>> (y &&& 0x3f).toInt64) :: S))) : own_Go p e below W T (mkF m pc L (.int y :: .long x :: S)) := by
  subst hp; exact own_Go.of (fun t q => XS.lshr X.here hx rfl hd rfl q) h
theorem og_lushr (X : Stand p l e R s m args below meth c T locs cells slots) (hx : p.tables.exec = Jvm.exec) {x : Int64} {y : Int32} (hd : decode c.code pc = .ok (.lushr, 1)) (hp : pc + 1 = pc') (h : own_Go p e below W T (mkF m pc' L (.long ((x.toUInt64 >>> (y &&& 0x3f).toInt64.toUInt64).toInt64) :: S))) : own_Go p e below W T (mkF m pc L (.int y :: .long x :: S)) := by
  subst hp; exact own_Go.of (fun t q => XS.lushr X.here hx rfl hd rfl q) h
theorem og_lcmp (X : Stand p l e R s m args below meth c T locs cells slots) (hx : p.tables.exec = Jvm.exec) {x y : Int64} (hd : decode c.code pc = .ok (.lcmp, 1)) (hp : pc + 1 = pc') (h : own_Go p e below W T (mkF m pc' L (.int (lcmpW x y) :: S))) : own_Go p e below W T (mkF m pc L (.long y :: .long x :: S)) := by
  subst hp; exact own_Go.of (fun t q => XS.lcmp X.here hx rfl hd rfl q) h
theorem og_idiv (X : Stand p l e R s m args below meth c T locs cells slots) (hx : p.tables.exec = Jvm.exec) {x y : Int32} (hd : decode c.code pc = .ok (.idiv, 1)) (hy : y ≠ 0) (hp : pc + 1 = pc') (h : own_Go p e below W T (mkF m pc' L (.int (x / y) :: S))) : own_Go p e below W T (mkF m pc L (.int y :: .int x :: S)) := by
  subst hp; exact own_Go.of (fun t q => XS.idiv X.here hx rfl hd rfl hy q) h
theorem og_ldiv (X : Stand p l e R s m args below meth c T locs cells slots) (hx : p.tables.exec = Jvm.exec) {x y : Int64} (hd : decode c.code pc = .ok (.ldiv, 1)) (hy : y ≠ 0) (hp : pc + 1 = pc') (h : own_Go p e below W T (mkF m pc' L (.long (x / y) :: S))) : own_Go p e below W T (mkF m pc L (.long y :: .long x :: S)) := by
  subst hp; exact own_Go.of (fun t q => XS.ldiv X.here hx rfl hd rfl hy q) h
theorem og_irem (X : Stand p l e R s m args below meth c T locs cells slots) (hx : p.tables.exec = Jvm.exec) {x y : Int32} (hd : decode c.code pc = .ok (.irem, 1)) (hy : y ≠ 0) (hp : pc + 1 = pc') (h : own_Go p e below W T (mkF m pc' L (.int (x % y) :: S))) : own_Go p e below W T (mkF m pc L (.int y :: .int x :: S)) := by
  subst hp; exact own_Go.of (fun t q => iremM X hx rfl hd rfl hy q) h
theorem og_lrem (X : Stand p l e R s m args below meth c T locs cells slots) (hx : p.tables.exec = Jvm.exec) {x y : Int64} (hd : decode c.code pc = .ok (.lrem, 1)) (hy : y ≠ 0) (hp : pc + 1 = pc') (h : own_Go p e below W T (mkF m pc' L (.long (x - (x / y) * y) :: S))) : own_Go p e below W T (mkF m pc L (.long y :: .long x :: S)) := by
  subst hp; exact own_Go.of (fun t q => XS.lrem X.here hx rfl hd rfl hy q) h
theorem og_iinc (X : Stand p l e R s m args below meth c T locs cells slots) (hx : p.tables.exec = Jvm.exec) {k : Nat} {z : Int} {v : Int32} {L' : Array Slot} (hd : decode c.code pc = .ok (.iinc k z, 3)) (hl : L[k]? = some (.val (.int v))) (hs : storeLocals L k (.int (v + Int32.ofInt z)) = some L') (hp : pc + 3 = pc') (h : own_Go p e below W T (mkF m pc' L' S)) : own_Go p e below W T (mkF m pc L S) := by
  subst hp; exact own_Go.of (fun t q => XS.iinc X.here hx rfl hd hl hs q) h
theorem og_dup (X : Stand p l e R s m args below meth c T locs cells slots) (hx : p.tables.exec = Jvm.exec) {v : Value} (hd : decode c.code pc = .ok (.dup, 1)) (hc : v.category = 1) (hp : pc + 1 = pc') (h : own_Go p e below W T (mkF m pc' L (v :: v :: S))) : own_Go p e below W T (mkF m pc L (v :: S)) := by
  subst hp; exact own_Go.of (fun t q => XS.dup X.here hx rfl hd rfl hc q) h
theorem og_pop (X : Stand p l e R s m args below meth c T locs cells slots) (hx : p.tables.exec = Jvm.exec) {v : Value} (hd : decode c.code pc = .ok (.pop, 1)) (hc : v.category = 1) (hp : pc + 1 = pc') (h : own_Go p e below W T (mkF m pc' L S)) : own_Go p e below W T (mkF m pc L (v :: S)) := by
  subst hp; exact own_Go.of (fun t q => XS.pop X.here hx rfl hd rfl hc q) h
theorem og_dup_x1 (X : Stand p l e R s m args below meth c T locs cells slots) (hx : p.tables.exec = Jvm.exec) {v w : Value} (hd : decode c.code pc = .ok (.dup_x1, 1)) (hc : v.category = 1) (hc' : w.category = 1) (hp : pc + 1 = pc') (h : own_Go p e below W T (mkF m pc' L (v :: w :: v :: S))) : own_Go p e below W T (mkF m pc L (v :: w :: S)) := by
  subst hp; exact own_Go.of (fun t q => XS.dupX1 X.here hx rfl hd rfl hc hc' q) h
theorem og_goto (X : Stand p l e R s m args below meth c T locs cells slots) (hx : p.tables.exec = Jvm.exec) {o : Int} (hd : decode c.code pc = .ok (.goto o, 3)) (ho : 0 ≤ (pc : Int) + o) (hp : ((pc : Int) + o).toNat = pc') (h : own_Go p e below W T (mkF m pc' L S)) : own_Go p e below W T (mkF m pc L S) := by
  exact own_Go.of (fun t q => XS.goto X.here hx rfl rfl hd ho hp q) h
theorem og_ifYes (X : Stand p l e R s m args below meth c T locs cells slots) (hx : p.tables.exec = Jvm.exec) {cd : ClassFile.Cond} {x : Int32} {o : Int} (hd : decode c.code pc = .ok (.ifCond cd o, 3)) (hc : ifCond.holds cd x = true) (ho : 0 ≤ (pc : Int) + o) (hp : ((pc : Int) + o).toNat = pc') (h : own_Go p e below W T (mkF m pc' L S)) : own_Go p e below W T (mkF m pc L (.int x :: S)) := by
  exact own_Go.of (fun t q => XS.ifYes X.here hx rfl rfl hd rfl hc ho hp q) h
theorem og_ifNo (X : Stand p l e R s m args below meth c T locs cells slots) (hx : p.tables.exec = Jvm.exec) {cd : ClassFile.Cond} {x : Int32} {o : Int} (hd : decode c.code pc = .ok (.ifCond cd o, 3)) (hc : ifCond.holds cd x = false) (hp : pc + 3 = pc') (h : own_Go p e below W T (mkF m pc' L S)) : own_Go p e below W T (mkF m pc L (.int x :: S)) := by
  subst hp; exact own_Go.of (fun t q => XS.ifNo X.here hx rfl hd rfl hc q) h
theorem og_icmpYes (X : Stand p l e R s m args below meth c T locs cells slots) (hx : p.tables.exec = Jvm.exec) {cd : ClassFile.Cond} {x y : Int32} {o : Int} (hd : decode c.code pc = .ok (.if_icmp cd o, 3)) (hc : if_icmp.holds cd x y = true) (ho : 0 ≤ (pc : Int) + o) (hp : ((pc : Int) + o).toNat = pc') (h : own_Go p e below W T (mkF m pc' L S)) : own_Go p e below W T (mkF m pc L (.int y :: .int x :: S)) := by
  exact own_Go.of (fun t q => XS.icmpYes X.here hx rfl rfl hd rfl hc ho hp q) h
theorem og_icmpNo (X : Stand p l e R s m args below meth c T locs cells slots) (hx : p.tables.exec = Jvm.exec) {cd : ClassFile.Cond} {x y : Int32} {o : Int} (hd : decode c.code pc = .ok (.if_icmp cd o, 3)) (hc : if_icmp.holds cd x y = false) (hp : pc + 3 = pc') (h : own_Go p e below W T (mkF m pc' L S)) : own_Go p e below W T (mkF m pc L (.int y :: .int x :: S)) := by
  subst hp; exact own_Go.of (fun t q => XS.icmpNo X.here hx rfl hd rfl hc q) h
theorem og_ifnullYes (X : Stand p l e R s m args below meth c T locs cells slots) (hx : p.tables.exec = Jvm.exec) {o : Int} (hd : decode c.code pc = .ok (.ifnull o, 3)) (ho : 0 ≤ (pc : Int) + o) (hp : ((pc : Int) + o).toNat = pc') (h : own_Go p e below W T (mkF m pc' L S)) : own_Go p e below W T (mkF m pc L (.null :: S)) := by
  exact own_Go.of (fun t q => XS.ifnullYes X.here hx rfl rfl hd rfl ho hp q) h
theorem og_ifnullNo (X : Stand p l e R s m args below meth c T locs cells slots) (hx : p.tables.exec = Jvm.exec) {b : Addr} {o : Int} (hd : decode c.code pc = .ok (.ifnull o, 3)) (hp : pc + 3 = pc') (h : own_Go p e below W T (mkF m pc' L S)) : own_Go p e below W T (mkF m pc L (.ref b :: S)) := by
  subst hp; exact own_Go.of (fun t q => XS.ifnullNo X.here hx rfl hd rfl q) h
theorem og_ifnonnullYes (X : Stand p l e R s m args below meth c T locs cells slots) (hx : p.tables.exec = Jvm.exec) {b : Addr} {o : Int} (hd : decode c.code pc = .ok (.ifnonnull o, 3)) (ho : 0 ≤ (pc : Int) + o) (hp : ((pc : Int) + o).toNat = pc') (h : own_Go p e below W T (mkF m pc' L S)) : own_Go p e below W T (mkF m pc L (.ref b :: S)) := by
  exact own_Go.of (fun t q => XS.ifnonnullYes X.here hx rfl rfl hd rfl ho hp q) h
theorem og_ifnonnullNo (X : Stand p l e R s m args below meth c T locs cells slots) (hx : p.tables.exec = Jvm.exec) {o : Int} (hd : decode c.code pc = .ok (.ifnonnull o, 3)) (hp : pc + 3 = pc') (h : own_Go p e below W T (mkF m pc' L S)) : own_Go p e below W T (mkF m pc L (.null :: S)) := by
  subst hp; exact own_Go.of (fun t q => XS.ifnonnullNo X.here hx rfl hd rfl q) h
theorem og_ldc (X : Stand p l e R s m args below meth c T locs cells slots) (hx : p.tables.exec = Jvm.exec) {own : String} {index : Nat} {v : Int32} (hd : decode c.code pc = .ok (.ldc index, 2)) (hown : s.vm.findClass own = some m.cls) (w : (Jvm.Cond.constant own index v).before args s = true) (hp : pc + 2 = pc') (h : own_Go p e below W T (mkF m pc' L (.int v :: S))) : own_Go p e below W T (mkF m pc L S) := by
  subst hp; exact own_Go.of (fun t q => X.ldcInt hx hown w (g := mkF m pc L S) rfl hd _ q) h
theorem og_ldc2_w (X : Stand p l e R s m args below meth c T locs cells slots) (hx : p.tables.exec = Jvm.exec) {own : String} {index : Nat} {v : Int64} (hd : decode c.code pc = .ok (.ldc2_w index, 3)) (hown : s.vm.findClass own = some m.cls) (w : (Jvm.Cond.constantLong own index v).before args s = true) (hp : pc + 3 = pc') (h : own_Go p e below W T (mkF m pc' L (.long v :: S))) : own_Go p e below W T (mkF m pc L S) := by
  subst hp; exact own_Go.of (fun t q => X.ldc2Long hx hown w (g := mkF m pc L S) rfl hd _ q) h
end OwnSteps
def own_ix (bt : Int64) : Int32 := (((bt.toUInt64 >>> ((6 : Int32) &&& 0x3f).toInt64.toUInt64).toInt64).toInt32)
def own_of (bt : Int64) : Int32 := ((bt &&& (63 : Int64)).toInt32)
def own_sel (j : Int32) (w0 w1 w2 : Int64) : Int64 := if j = (0 : Int32) then w0 else if j = (1 : Int32) then w1 else w2
def own_up (j i : Int32) (w x : Int64) : Int64 := if j = i then x else w
def own_ok (bt : Int64) (ln : Int32) : Prop := 0 ≤ bt.toInt ∧ 0 ≤ ln.toInt ∧ ln.toInt ≤ 64 ∧ bt.toInt + ln.toInt ≤ 192
def own_mk (ln : Int32) : Int64 := if ln = (64 : Int32) then (-1 : Int64) else (((1 : Int64) <<< (ln &&& 0x3f).toInt64) - (1 : Int64))
def own_X1 (bt : Int64) (ln : Int32) (x w : Int64) : Int64 := ((w &&& (((own_mk ln) <<< ((own_of bt) &&& 0x3f).toInt64) ^^^ (-1 : Int64))) ||| (x <<< ((own_of bt) &&& 0x3f).toInt64))
def own_X2 (bt : Int64) (ln : Int32) (x w : Int64) : Int64 := ((w &&& ((((1 : Int64) <<< ((((own_of bt) + ln) - (64 : Int32)) &&& 0x3f).toInt64) - (1 : Int64)) ^^^ (-1 : Int64))) ||| ((x.toUInt64 >>> (((64 : Int32) - (own_of bt)) &&& 0x3f).toInt64.toUInt64).toInt64))
def own_A (i : Int32) (bt : Int64) (ln : Int32) (x w0 w1 w2 w : Int64) : Int64 := (own_up (own_ix bt) i w (own_X1 bt ln x (own_sel (own_ix bt) w0 w1 w2)))
def own_B (i : Int32) (bt : Int64) (ln : Int32) (x w0 w1 w2 w : Int64) : Int64 := (own_up ((own_ix bt) + (1 : Int32)) i (own_A i bt ln x w0 w1 w2 w) (own_X2 bt ln x (own_sel ((own_ix bt) + (1 : Int32)) (own_A (0 : Int32) bt ln x w0 w1 w2 w0) (own_A (1 : Int32) bt ln x w0 w1 w2 w1) (own_A (2 : Int32) bt ln x w0 w1 w2 w2))))
def own_pw0 (bt : Int64) (ln : Int32) (x w0 w1 w2 : Int64) : Int64 := if ln = (0 : Int32) then w0 else if (64 : Int32) < ((own_of bt) + ln) then own_B (0 : Int32) bt ln x w0 w1 w2 w0 else own_A (0 : Int32) bt ln x w0 w1 w2 w0
def own_pw1 (bt : Int64) (ln : Int32) (x w0 w1 w2 : Int64) : Int64 := if ln = (0 : Int32) then w1 else if (64 : Int32) < ((own_of bt) + ln) then own_B (1 : Int32) bt ln x w0 w1 w2 w1 else own_A (1 : Int32) bt ln x w0 w1 w2 w1
def own_pw2 (bt : Int64) (ln : Int32) (x w0 w1 w2 : Int64) : Int64 := if ln = (0 : Int32) then w2 else if (64 : Int32) < ((own_of bt) + ln) then own_B (2 : Int32) bt ln x w0 w1 w2 w2 else own_A (2 : Int32) bt ln x w0 w1 w2 w2
theorem own_full (w x : Int64) : ((w &&& (0 : Int64)) ||| (x <<< ((0 : Int32) &&& 0x3f).toInt64)) = x := by
  have e : (((0 : Int32) &&& 0x3f).toInt64) = (0 : Int64) := by decide
  rw [e]; simp
theorem own_ix_val {bt : Int64} (h0 : 0 ≤ bt.toInt) (h1 : bt.toInt ≤ 192) : (own_ix bt).toInt = bt.toInt / 64 := by
  have q := c_lushr bt (6 : Int32) 6 (by decide) (by decide)
  unfold own_ix
  have q2 := c_l2i ((bt.toUInt64 >>> ((6 : Int32) &&& 0x3f).toInt64.toUInt64).toInt64)
  have q3 := rng32 (((bt.toUInt64 >>> ((6 : Int32) &&& 0x3f).toInt64.toUInt64).toInt64).toInt32)
  have e : ((2 ^ 6 : Nat) : Int) = 64 := by decide
  rw [e] at q
  omega
theorem own_of_val (bt : Int64) : (own_of bt).toInt = bt.toInt % 64 := by
  have q := c_maskL bt (63 : Int64) 6 (by decide) (by decide)
  unfold own_of
  have q2 := c_l2i (bt &&& (63 : Int64))
  have q3 := rng32 ((bt &&& (63 : Int64)).toInt32)
  have e : ((2 ^ 6 : Nat) : Int) = 64 := by decide
  rw [e] at q
  omega
theorem own_i0 : (0 : Int32).toInt = 0 := by decide
theorem own_i1 : (1 : Int32).toInt = 1 := by decide
theorem own_i3 : (3 : Int32).toInt = 3 := by decide
theorem own_i64 : (64 : Int32).toInt = 64 := by decide
theorem own_in0 {bt : Int64} {ln : Int32} (h : own_ok bt ln) (hz : ¬ ln = (0 : Int32)) : ¬ (own_ix bt) < 0 ∧ (own_ix bt) < (3 : Int32) := by
  obtain ⟨h0, h1, h2, h3⟩ := h
  rw [← Int32.toInt_inj, own_i0] at hz
  have q := own_ix_val h0 (by omega)
  rw [Int32.lt_iff_toInt_lt, Int32.lt_iff_toInt_lt, own_i0, own_i3]
  omega
theorem own_in1 {bt : Int64} {ln : Int32} (h : own_ok bt ln) (hc : (64 : Int32) < ((own_of bt) + ln)) : ¬ ((own_ix bt) + (1 : Int32)) < 0 ∧ ((own_ix bt) + (1 : Int32)) < (3 : Int32) := by
  obtain ⟨h0, h1, h2, h3⟩ := h
  have q := own_ix_val h0 (by omega)
  have q1 := own_of_val bt
  have q2 := c_iadd (own_of bt) ln
  have q3 := c_iadd (own_ix bt) (1 : Int32)
  have r2 := rng32 ((own_of bt) + ln)
  have r3 := rng32 ((own_ix bt) + (1 : Int32))
  rw [own_i1] at q3
  rw [Int32.lt_iff_toInt_lt, own_i64] at hc
  rw [Int32.lt_iff_toInt_lt, Int32.lt_iff_toInt_lt, own_i0, own_i3]
  omega
theorem own_j3 {j : Int32} (h : ¬ j < 0 ∧ j < (3 : Int32)) : j = (0 : Int32) ∨ j = (1 : Int32) ∨ j = (2 : Int32) := by
  rw [Int32.lt_iff_toInt_lt, Int32.lt_iff_toInt_lt, own_i0, own_i3] at h
  simp only [← Int32.toInt_inj]
  have e2 : (2 : Int32).toInt = 2 := by decide
  rw [own_i0, own_i1, e2]
  omega
theorem own_getD3 {j : Int32} {w0 w1 w2 : Int64} (h : ¬ j < 0 ∧ j < (3 : Int32)) : ([(.long w0), (.long w1), (.long w2)] : List Value).getD j.toNatClampNeg (.long (0 : Int64)) = .long (own_sel j w0 w1 w2) := by
  rcases own_j3 h with rfl | rfl | rfl <;> rfl
theorem own_set3 {j : Int32} {w0 w1 w2 x : Int64} (h : ¬ j < 0 ∧ j < (3 : Int32)) : ([(.long w0), (.long w1), (.long w2)] : List Value).set j.toNatClampNeg (.long x) = [(.long (own_up j (0 : Int32) w0 x)), (.long (own_up j (1 : Int32) w1 x)), (.long (own_up j (2 : Int32) w2 x))] := by
  rcases own_j3 h with rfl | rfl | rfl <;> rfl
theorem own_lt3 {j : Int32} (h : ¬ j < 0 ∧ j < (3 : Int32)) : j.toNatClampNeg < 3 := by
  rcases own_j3 h with rfl | rfl | rfl <;> decide

def own_wf (x0 : Int64) : Int32 := ((((x0 + (64 : Int64)) - (1 : Int64)) / (64 : Int64)).toInt32)
theorem d3_0 : decode prog_1_method_5_code 0 = .ok (.lload_n 0, 1) := by decide +kernel
theorem d3_1 : decode prog_1_method_5_code 1 = .ok (.ldc2_w 40, 3) := by decide +kernel
theorem d3_4 : decode prog_1_method_5_code 4 = .ok (.ladd, 1) := by decide +kernel
theorem d3_5 : decode prog_1_method_5_code 5 = .ok (.lconst 1, 1) := by decide +kernel
theorem d3_6 : decode prog_1_method_5_code 6 = .ok (.lsub, 1) := by decide +kernel
theorem d3_7 : decode prog_1_method_5_code 7 = .ok (.ldc2_w 40, 3) := by decide +kernel
theorem d3_10 : decode prog_1_method_5_code 10 = .ok (.ldiv, 1) := by decide +kernel
theorem d3_11 : decode prog_1_method_5_code 11 = .ok (.l2i, 1) := by decide +kernel
theorem d3_12 : decode prog_1_method_5_code 12 = .ok (.ireturn, 1) := by decide +kernel
theorem pnwf : plainName "com/example/paranhos/paranhos/BitArray" = true := by first | (simp [plainName, overriddenIn]; done) | decide +kernel
theorem efwf (m : MethodId) (z0 : Int64) : entryFrame m #[(.long z0)] 2 = mkF m 0 #[.val (.long z0), .second] [] := by first | (simp [entryFrame, mkF, argsToLocals, Value.category]; done) | rfl
def Qwf (Z : State) (x0 : Int64) (h0 : Heap) (n0 : Nat) (v : Option Value) (h : Heap) (L : List Loc) : Prop := v = some (.int (own_wf x0)) ∧ Fr n0 L ∧ h = h0
set_option maxRecDepth 65536 in
set_option maxHeartbeats 40000000 in
theorem rmwf (l : Launch) (Z : State) (a0 : Array Value) (hw : ∀ d ∈ tables_1, d.before a0 Z = true) (ws : List Jvm.Cond) (x0 : Int64) (h0 : Heap) (n0 : Nat) (Z0 : n0 ≤ h0.size) :
    MetFree l (⟨"com/example/paranhos/paranhos/BitArray", "wordsFor", "(J)I"⟩ : MethodName) (head1 (Jvm.Cond.code (⟨"com/example/paranhos/paranhos/BitArray", "wordsFor", "(J)I"⟩ : MethodName) prog_1_method_5_code 2 (some .int) :: ws) ({ frames := 0, cells := 0, slots := 0, locals := 0 } : Room)) (fun a U => a = #[(.long x0)] ∧ Z.Warmed39 U.vm ∧ U.heap = h0) (fun _ _ _ _ _ => True) (fun _ U oc U' => ∃ v L, oc = .returned v ∧ Qwf Z x0 h0 n0 v U'.heap L ∧ FrameEnd U oc U' L ({ frames := 0, cells := 0, slots := 0, locals := 0 } : Room).cells ({ frames := 0, cells := 0, slots := 0, locals := 0 } : Room).slots) := by
  refine MetFree.of_bodySF (plainFor_of_name pnwf) hisR ?_
  intro p e s m args below meth c s₁ Bd hml0 hP hK
  obtain ⟨rfl, hZ, hh⟩ := hP
  have hx := Bd.exec
  have hby := Bd.bytes
  have hml : c.maxLocals = 2 := hml0
  have hown : s.vm.findClass "com/example/paranhos/paranhos/BitArray" = some m.cls := findClass_of_methodNamed Bd.named
  have hnm := (name_of_methodNamed Bd.named Bd.method).1
  have X0 : Stand p l e ({ frames := 0, cells := 0, slots := 0, locals := 0 } : Room) s m #[(.long x0)] below meth c s₁ [] 0 0 := Stand.of_body Bd
  have e0 : s₁.heap = h0 := by rw [← hh, Bd.state]; rfl
  have N0 := Fr.nil n0
  show own_Go p e below (fun s₂ oc => ∃ v L, oc = .returned v ∧ Qwf Z x0 h0 n0 v s₂.heap L ∧ FrameEnd s oc s₂ L ({ frames := 0, cells := 0, slots := 0, locals := 0 } : Room).cells ({ frames := 0, cells := 0, slots := 0, locals := 0 } : Room).slots) s₁ (entryFrame m #[(.long x0)] 2)
  refine own_Go.of (g' := mkF m 0 #[.val (.long x0), .second] []) (fun t k => castTop (efwf m x0) k) ?_
  have hv : own_wf x0 = own_wf x0 := rfl
  refine og_lloadN (pc' := 1) X0 hx (hb hby d3_0) rfl rfl ?_
  refine og_ldc2_w (pc' := 4) X0 hx (hb hby d3_1) hown (mvT hZ (hw _ (List.mem_of_getElem? (i := 17) rfl))) rfl ?_
  refine og_ladd (pc' := 5) X0 hx (hb hby d3_4) rfl ?_
  refine og_lconst1 (pc' := 6) X0 hx (hb hby d3_5) rfl ?_
  refine og_lsub (pc' := 7) X0 hx (hb hby d3_6) rfl ?_
  refine og_ldc2_w (pc' := 10) X0 hx (hb hby d3_7) hown (mvT hZ (hw _ (List.mem_of_getElem? (i := 17) rfl))) rfl ?_
  refine og_ldiv (pc' := 11) X0 hx (hb hby d3_10) (by decide) rfl ?_
  refine og_l2i (pc' := 12) X0 hx (hb hby d3_11) rfl ?_
  obtain ⟨fs, hr, hrun, hended, hW, hsame⟩ := X0.leave (v := some (.int ((((x0 + (64 : Int64)) - (1 : Int64)) / (64 : Int64)).toInt32))) (fun h => by rw [Bd.returns] at h; cases h) (BodyLoose.notSynchronized Bd)
  refine ⟨_, _, retI X0 hx Bd.returns (hb hby d3_12) hr, hrun, hended, some (.int ((((x0 + (64 : Int64)) - (1 : Int64)) / (64 : Int64)).toInt32)), _, rfl, ?_, ⟨_, rfl⟩, hW, hsame.mono (by decide) (by decide)⟩
  show Qwf Z x0 h0 n0 _ s₁.heap _
  rw [e0]
  exact ⟨(congrArg (fun z => some (Value.int z)) hv.symm), N0, rfl⟩

theorem d4_0 : decode prog_1_method_2_code 0 = .ok (.aload_n 0, 1) := by decide +kernel
theorem d4_1 : decode prog_1_method_2_code 1 = .ok (.invokespecial 15, 3) := by decide +kernel
theorem d4_4 : decode prog_1_method_2_code 4 = .ok (.aload_n 0, 1) := by decide +kernel
theorem d4_5 : decode prog_1_method_2_code 5 = .ok (.aload_n 1, 1) := by decide +kernel
theorem d4_6 : decode prog_1_method_2_code 6 = .ok (.putfield 20, 3) := by decide +kernel
theorem d4_9 : decode prog_1_method_2_code 9 = .ok (.aload_n 0, 1) := by decide +kernel
theorem d4_10 : decode prog_1_method_2_code 10 = .ok (.lload_n 2, 1) := by decide +kernel
theorem d4_11 : decode prog_1_method_2_code 11 = .ok (.putfield 24, 3) := by decide +kernel
theorem d4_14 : decode prog_1_method_2_code 14 = .ok (.return_, 1) := by decide +kernel
theorem pni2 : plainName "com/example/paranhos/paranhos/BitArray" = true := by first | (simp [plainName, overriddenIn]; done) | decide +kernel
theorem efi2 (m : MethodId) (z0 : Addr) (z1 : Addr) (z2 : Int64) : entryFrame m #[(.ref z0), (.ref z1), (.long z2)] 4 = mkF m 0 #[.val (.ref z0), .val (.ref z1), .val (.long z2), .second] [] := by first | (simp [entryFrame, mkF, argsToLocals, Value.category]; done) | rfl
def Qi2 (Z : State) (o : Addr) (b : Addr) (q : Int64) (u0 : Value) (u1 : Value) (h0 : Heap) (n0 : Nat) (v : Option Value) (h : Heap) (L : List Loc) : Prop := v = none ∧ Fr n0 L ∧ Keep h0 h [o] ∧ Exa Z h o "com/example/paranhos/paranhos/BitArray" ∧ Fld Z h o "com/example/paranhos/paranhos/BitArray" "words" "[J" (.ref b)
set_option maxRecDepth 65536 in
set_option maxHeartbeats 40000000 in
theorem rmi2 (l : Launch) (Z : State) (a0 : Array Value) (hw : ∀ d ∈ tables_1, d.before a0 Z = true) (ws : List Jvm.Cond) (o : Addr) (b : Addr) (q : Int64) (u0 : Value) (u1 : Value) (h0 : Heap) (n0 : Nat) (Z0 : n0 ≤ h0.size) (E_o : Exa Z h0 o "com/example/paranhos/paranhos/BitArray") (F0_o : Fld Z h0 o "com/example/paranhos/paranhos/BitArray" "words" "[J" u0) (F1_o : Fld Z h0 o "com/example/paranhos/paranhos/BitArray" "length" "J" u1) (g_o : n0 ≤ o) :
    MetFree l (⟨"com/example/paranhos/paranhos/BitArray", "<init>", "([JJ)V"⟩ : MethodName) (head1 (Jvm.Cond.code (⟨"com/example/paranhos/paranhos/BitArray", "<init>", "([JJ)V"⟩ : MethodName) prog_1_method_2_code 4 none :: ws) ({ frames := 1, cells := 0, slots := 0, locals := 12 } : Room)) (fun a U => a = #[(.ref o), (.ref b), (.long q)] ∧ Z.Warmed39 U.vm ∧ U.heap = h0) (fun _ _ _ _ _ => True) (fun _ U oc U' => ∃ v L, oc = .returned v ∧ Qi2 Z o b q u0 u1 h0 n0 v U'.heap L ∧ FrameEnd U oc U' L ({ frames := 1, cells := 0, slots := 0, locals := 12 } : Room).cells ({ frames := 1, cells := 0, slots := 0, locals := 12 } : Room).slots) := by
  refine MetFree.of_bodySF (plainFor_of_name pni2) hisR ?_
  intro p e s m args below meth c s₁ Bd hml0 hP hK
  obtain ⟨rfl, hZ, hh⟩ := hP
  have hx := Bd.exec
  have hby := Bd.bytes
  have hml : c.maxLocals = 4 := hml0
  have hown : s.vm.findClass "com/example/paranhos/paranhos/BitArray" = some m.cls := findClass_of_methodNamed Bd.named
  have hnm := (name_of_methodNamed Bd.named Bd.method).1
  have X0 : Stand p l e ({ frames := 1, cells := 0, slots := 0, locals := 12 } : Room) s m #[(.ref o), (.ref b), (.long q)] below meth c s₁ [] 0 0 := Stand.of_body Bd
  have e0 : s₁.heap = h0 := by rw [← hh, Bd.state]; rfl
  have N0 := Fr.nil n0
  show own_Go p e below (fun s₂ oc => ∃ v L, oc = .returned v ∧ Qi2 Z o b q u0 u1 h0 n0 v s₂.heap L ∧ FrameEnd s oc s₂ L ({ frames := 1, cells := 0, slots := 0, locals := 12 } : Room).cells ({ frames := 1, cells := 0, slots := 0, locals := 12 } : Room).slots) s₁ (entryFrame m #[(.ref o), (.ref b), (.long q)] 4)
  refine own_Go.of (g' := mkF m 0 #[.val (.ref o), .val (.ref b), .val (.long q), .second] []) (fun t k => castTop (efi2 m o b q) k) ?_
  refine og_aloadN (pc' := 1) X0 hx (hb hby d4_0) rfl rfl rfl ?_
  obtain ⟨T1, X1, e1, st1⟩ := initO X0 hx hZ hown (hw _ (List.mem_of_getElem? (i := 22) rfl)) (hw _ (List.mem_of_getElem? (i := 23) rfl)) (hw _ (List.mem_of_getElem? (i := 24) rfl)) e0 (g := (mkF m 1 #[.val (.ref o), .val (.ref b), .val (.long q), .second] [(.ref o)])) rfl (by rw [hml]; rfl) rfl (hb hby d4_1) (by decide) (W := 0) (by show 2 * 0 + _ ≤ _; exact Nat.le_of_eq rfl) (by decide)
  refine own_Go.of (g' := (mkF m 4 #[.val (.ref o), .val (.ref b), .val (.long q), .second] [])) (fun t k => st1 _ k) ?_
  refine og_aloadN (pc' := 5) X1 hx (hb hby d4_4) rfl rfl rfl ?_
  refine og_aloadN (pc' := 6) X1 hx (hb hby d4_5) rfl rfl rfl ?_
  obtain ⟨T2, h2, X2, e2, W2, st2⟩ := putF X1 hx hZ hown (host := "") (Or.inl (hw _ (List.mem_of_getElem? (i := 25) rfl))) Via.refl e1 F0_o E_o (Or.inr ⟨(hw _ (List.mem_of_getElem? (i := 26) rfl)), rfl, hnm⟩) (hw _ (List.mem_of_getElem? (i := 8) rfl)) (ty := (.array .long)) (by decide) rfl rfl (g := (mkF m 6 #[.val (.ref o), .val (.ref b), .val (.long q), .second] [(.ref b), (.ref o)])) rfl rfl (hb hby d4_6)
  have w2 : Fld Z h2 o "com/example/paranhos/paranhos/BitArray" "words" "[J" (.ref b) := F0_o.same W2
  have f2_0 := E_o.wr W2
  have f2_1 := F1_o.other W2 (Or.inr (slot_ne (a0 := a0) (C := "com/example/paranhos/paranhos/BitArray") (Or.inr (hw _ (List.mem_of_getElem? (i := 28) rfl))) (Or.inr (hw _ (List.mem_of_getElem? (i := 26) rfl))) (by decide) (t := .long) (t' := (.array .long)) (by decide) (by decide)))
  have K2 : Keep h0 h2 [o] := (Keep.refl h0 [o]).wr W2 (Or.inl (List.mem_of_getElem? (i := 0) rfl))
  have Z2 : n0 ≤ h2.size := Nat.le_trans Z0 K2.1
  have N2 := Fr.snoc X2 N0 g_o
  obtain ⟨J2, X2, N2⟩ := own_hide X2 N2
  refine own_Go.of (g' := (mkF m 9 #[.val (.ref o), .val (.ref b), .val (.long q), .second] [])) (fun t k => st2 _ k) ?_
  refine og_aloadN (pc' := 10) X2 hx (hb hby d4_9) rfl rfl rfl ?_
  refine og_lloadN (pc' := 11) X2 hx (hb hby d4_10) rfl rfl ?_
  obtain ⟨T3, h3, X3, e3, W3, st3⟩ := putF X2 hx hZ hown (host := "") (Or.inl (hw _ (List.mem_of_getElem? (i := 27) rfl))) Via.refl e2 f2_1 f2_0 (Or.inr ⟨(hw _ (List.mem_of_getElem? (i := 28) rfl)), rfl, hnm⟩) (hw _ (List.mem_of_getElem? (i := 8) rfl)) (ty := .long) (by decide) rfl rfl (g := (mkF m 11 #[.val (.ref o), .val (.ref b), .val (.long q), .second] [(.long q), (.ref o)])) rfl rfl (hb hby d4_11)
  have w3 : Fld Z h3 o "com/example/paranhos/paranhos/BitArray" "length" "J" (.long q) := f2_1.same W3
  have f3_0 := f2_0.wr W3
  have f3_2 := w2.other W3 (Or.inr (slot_ne (a0 := a0) (C := "com/example/paranhos/paranhos/BitArray") (Or.inr (hw _ (List.mem_of_getElem? (i := 26) rfl))) (Or.inr (hw _ (List.mem_of_getElem? (i := 28) rfl))) (by decide) (t := (.array .long)) (t' := .long) (by decide) (by decide)))
  have K3 : Keep h0 h3 [o] := K2.wr W3 (Or.inl (List.mem_of_getElem? (i := 0) rfl))
  have Z3 : n0 ≤ h3.size := Nat.le_trans Z0 K3.1
  have N3 := Fr.snoc X3 N2 g_o
  obtain ⟨J3, X3, N3⟩ := own_hide X3 N3
  refine own_Go.of (g' := (mkF m 14 #[.val (.ref o), .val (.ref b), .val (.long q), .second] [])) (fun t k => st3 _ k) ?_
  obtain ⟨fs, hr, hrun, hended, hW, hsame⟩ := X3.leave (v := none) (fun _ => rfl) (BodyLoose.notSynchronized Bd)
  refine ⟨_, _, X3.returnOut hx Bd.returns (hb hby d4_14) hr, hrun, hended, none, _, rfl, ?_, ⟨_, rfl⟩, hW, hsame.mono (by decide) (by decide)⟩
  show Qi2 Z o b q u0 u1 h0 n0 _ T3.heap _
  rw [e3]
  exact ⟨rfl, N3, K3, f3_0, f3_2⟩

theorem d2_0 : decode prog_1_method_1_code 0 = .ok (.aload_n 0, 1) := by decide +kernel
theorem d2_1 : decode prog_1_method_1_code 1 = .ok (.lload_n 1, 1) := by decide +kernel
theorem d2_2 : decode prog_1_method_1_code 2 = .ok (.invokestatic 5, 3) := by decide +kernel
theorem d2_5 : decode prog_1_method_1_code 5 = .ok (.newarray .long, 2) := by decide +kernel
theorem d2_7 : decode prog_1_method_1_code 7 = .ok (.lload_n 1, 1) := by decide +kernel
theorem d2_8 : decode prog_1_method_1_code 8 = .ok (.invokespecial 11, 3) := by decide +kernel
theorem d2_11 : decode prog_1_method_1_code 11 = .ok (.return_, 1) := by decide +kernel
theorem pni1 : plainName "com/example/paranhos/paranhos/BitArray" = true := by first | (simp [plainName, overriddenIn]; done) | decide +kernel
theorem pd_0 : parseMethodDescriptor "(J)I" = some ⟨[.long], some .int⟩ := by decide +kernel
theorem pd_1 : parseMethodDescriptor "([JJ)V" = some ⟨[(.array .long), .long], none⟩ := by decide +kernel
theorem efi1 (m : MethodId) (z0 : Addr) : entryFrame m #[(.ref z0), (.long (192 : Int64))] 3 = mkF m 0 #[.val (.ref z0), .val (.long (192 : Int64)), .second] [] := by first | (simp [entryFrame, mkF, argsToLocals, Value.category]; done) | rfl
def Qi1 (Z : State) (o : Addr) (u0 : Value) (u1 : Value) (h0 : Heap) (n0 : Nat) (v : Option Value) (h : Heap) (L : List Loc) : Prop := ∃ (b : Addr) (k : ClassId), v = none ∧ Fr n0 L ∧ Keep h0 h [o] ∧ h0.size ≤ b ∧ Exa Z h o "com/example/paranhos/paranhos/BitArray" ∧ Fld Z h o "com/example/paranhos/paranhos/BitArray" "words" "[J" (.ref b) ∧ Arv Z h b k .long (3 : Int32) [(.long (0 : Int64)), (.long (0 : Int64)), (.long (0 : Int64))] (.long (0 : Int64))
set_option maxRecDepth 65536 in
set_option maxHeartbeats 40000000 in
theorem rmi1 (l : Launch) (Z : State) (a0 : Array Value) (hw : ∀ d ∈ tables_1, d.before a0 Z = true) (ws : List Jvm.Cond) (o : Addr) (u0 : Value) (u1 : Value) (h0 : Heap) (n0 : Nat) (Z0 : n0 ≤ h0.size) (E_o : Exa Z h0 o "com/example/paranhos/paranhos/BitArray") (F0_o : Fld Z h0 o "com/example/paranhos/paranhos/BitArray" "words" "[J" u0) (F1_o : Fld Z h0 o "com/example/paranhos/paranhos/BitArray" "length" "J" u1) (g_o : n0 ≤ o) :
    MetFree l (⟨"com/example/paranhos/paranhos/BitArray", "<init>", "(J)V"⟩ : MethodName) (head1 (Jvm.Cond.code (⟨"com/example/paranhos/paranhos/BitArray", "<init>", "(J)V"⟩ : MethodName) prog_1_method_1_code 3 none :: ws) ({ frames := 2, cells := 1, slots := 3, locals := 27 } : Room)) (fun a U => a = #[(.ref o), (.long (192 : Int64))] ∧ Z.Warmed39 U.vm ∧ U.heap = h0) (fun _ _ _ _ _ => True) (fun _ U oc U' => ∃ v L, oc = .returned v ∧ Qi1 Z o u0 u1 h0 n0 v U'.heap L ∧ FrameEnd U oc U' L ({ frames := 2, cells := 1, slots := 3, locals := 27 } : Room).cells ({ frames := 2, cells := 1, slots := 3, locals := 27 } : Room).slots) := by
  refine MetFree.of_bodySF (plainFor_of_name pni1) hisR ?_
  intro p e s m args below meth c s₁ Bd hml0 hP hK
  obtain ⟨rfl, hZ, hh⟩ := hP
  have hx := Bd.exec
  have hby := Bd.bytes
  have hml : c.maxLocals = 3 := hml0
  have hown : s.vm.findClass "com/example/paranhos/paranhos/BitArray" = some m.cls := findClass_of_methodNamed Bd.named
  have hnm := (name_of_methodNamed Bd.named Bd.method).1
  have X0 : Stand p l e ({ frames := 2, cells := 1, slots := 3, locals := 27 } : Room) s m #[(.ref o), (.long (192 : Int64))] below meth c s₁ [] 0 0 := Stand.of_body Bd
  have e0 : s₁.heap = h0 := by rw [← hh, Bd.state]; rfl
  have N0 := Fr.nil n0
  show own_Go p e below (fun s₂ oc => ∃ v L, oc = .returned v ∧ Qi1 Z o u0 u1 h0 n0 v s₂.heap L ∧ FrameEnd s oc s₂ L ({ frames := 2, cells := 1, slots := 3, locals := 27 } : Room).cells ({ frames := 2, cells := 1, slots := 3, locals := 27 } : Room).slots) s₁ (entryFrame m #[(.ref o), (.long (192 : Int64))] 3)
  refine own_Go.of (g' := mkF m 0 #[.val (.ref o), .val (.long (192 : Int64)), .second] []) (fun t k => castTop (efi1 m o) k) ?_
  refine og_aloadN (pc' := 1) X0 hx (hb hby d2_0) rfl rfl rfl ?_
  refine og_lloadN (pc' := 2) X0 hx (hb hby d2_1) rfl rfl ?_
  obtain ⟨_, _, ⟨T1, L1, k1, n1⟩, -, X1, ⟨Lc1, hQ1, l1, y1, z1⟩, st1⟩ := Jvm.LawKit.callS X0 hx (y := (⟨"com/example/paranhos/paranhos/BitArray", "wordsFor", "(J)I"⟩ : MethodName)) hown (mvT hZ (hw _ (List.mem_of_getElem? (i := 14) rfl))) (mvT hZ (hw _ (List.mem_of_getElem? (i := 15) rfl))) (mvT hZ (hw _ (List.mem_of_getElem? (i := 9) rfl))) (mvT hZ (hw _ (List.mem_of_getElem? (i := 16) rfl))) (by decide) (backOf (W := 1) (rmwf l Z a0 hw [] (192 : Int64) h0 n0 Z0 ) hZ (hw _ (List.mem_of_getElem? (i := 16) rfl)) (hw _ (List.mem_of_getElem? (i := 9) rfl)) (by decide) (by decide)) (g := (mkF m 2 #[.val (.ref o), .val (.long (192 : Int64)), .second] [(.long (192 : Int64)), (.ref o)])) rfl (by rw [hml]; rfl) (argsL := [(.long (192 : Int64))]) (rest := [(.ref o)]) (lenOf pd_0 rfl) rfl (by show 2 * 0 + _ ≤ _; exact Nat.le_of_eq rfl) (hb hby d2_2) (fun _ _ => ⟨rfl, e0, (by decide : 0 + 0 ≤ _), (by decide : 0 + 0 ≤ _)⟩)
  dsimp only [Pt.U, Pt.locs, Pt.cells, Pt.slots] at X1 l1 y1 z1 st1 hQ1
  subst l1 y1 z1
  obtain ⟨rfl, N1q, e1⟩ := hQ1
  have N1 := Fr.app N0 N1q
  obtain ⟨J1, X1, N1⟩ := own_hide X1 N1
  refine own_Go.of (g' := (mkF m 5 #[.val (.ref o), .val (.long (192 : Int64)), .second] [(.int (own_wf (192 : Int64))), (.ref o)])) (fun t k => st1 _ k) ?_
  rw [show (own_wf (192 : Int64)) = (3 : Int32) from by decide]
  obtain ⟨T2, h2, k2, X2, e2, E2, A2, st2⟩ := newP X1 hx hZ (hw _ (List.mem_of_getElem? (i := 18) rfl)) e1 (g := (mkF m 5 #[.val (.ref o), .val (.long (192 : Int64)), .second] [(.int (3 : Int32)), (.ref o)])) rfl (hb hby d2_5) rfl (by decide) (cap := 3) (by decide) (by decide) (by decide) (by decide)
  obtain ⟨b2, g2⟩ : ∃ z, z = h0.size := ⟨_, rfl⟩
  rw [← g2] at A2 st2
  have ne2_0 : o ≠ b2 := Nat.ne_of_lt (Nat.lt_of_lt_of_le E_o.lt (Nat.le_of_eq g2.symm))
  have g_b2 : n0 ≤ b2 := Nat.le_trans Z0 (Nat.le_of_eq g2.symm)
  have sz_b2 : h0.size ≤ b2 := Nat.le_trans (Keep.refl h0 [o]).1 (Nat.le_of_eq g2.symm)
  have f2_0 := E_o.ext E2
  have f2_1 := F0_o.ext E2
  have f2_2 := F1_o.ext E2
  have V2 : Arv Z h2 b2 k2 .long (3 : Int32) [(.long (0 : Int64)), (.long (0 : Int64)), (.long (0 : Int64))] (.long (0 : Int64)) := (Arv.new A2 (by decide)).pad (pad_rep [] (.long (0 : Int64)) 3)
  have K2 : Keep h0 h2 [o] := (Keep.refl h0 [o]).ext E2
  have Z2 : n0 ≤ h2.size := Nat.le_trans Z0 K2.1
  refine own_Go.of (g' := (mkF m 7 #[.val (.ref o), .val (.long (192 : Int64)), .second] [(.ref b2), (.ref o)])) (fun t k => st2 _ k) ?_
  refine og_lloadN (pc' := 8) X2 hx (hb hby d2_7) rfl rfl ?_
  obtain ⟨_, _, ⟨T3, L3, k3, n3⟩, -, X3, ⟨Lc3, hQ3, l3, y3, z3⟩, st3⟩ := X2.specialBack hx (y := (⟨"com/example/paranhos/paranhos/BitArray", "<init>", "([JJ)V"⟩ : MethodName)) rfl hown (mvT hZ (hw _ (List.mem_of_getElem? (i := 19) rfl))) (mvT hZ (hw _ (List.mem_of_getElem? (i := 20) rfl))) (mvT hZ (hw _ (List.mem_of_getElem? (i := 21) rfl))) (by decide) (backOf (W := 0) (rmi2 l Z a0 hw [] o b2 (192 : Int64) u0 u1 h2 n0 Z2 f2_0 f2_1 f2_2 g_o) hZ (hw _ (List.mem_of_getElem? (i := 21) rfl)) (hw _ (List.mem_of_getElem? (i := 9) rfl)) (by decide) (by decide)) (g := (mkF m 8 #[.val (.ref o), .val (.long (192 : Int64)), .second] [(.long (192 : Int64)), (.ref b2), (.ref o)])) rfl (by rw [hml]; rfl) (Steps.refl _) (a := o) (argsL := [(.ref b2), (.long (192 : Int64))]) (rest := []) (lenOf pd_1 rfl) rfl (by show 2 * 0 + _ ≤ _; exact Nat.le_of_eq rfl) (hb hby d2_8) (fun _ _ => ⟨rfl, e2, (by decide : 1 + 0 ≤ _), (by decide : 3 + 0 ≤ _)⟩)
  dsimp only [Pt.U, Pt.locs, Pt.cells, Pt.slots] at X3 l3 y3 z3 st3 hQ3
  subst l3 y3 z3
  obtain ⟨rfl, N3q, K3q, c3_0, c3_1⟩ := hQ3
  have N3 := Fr.app N1 N3q
  obtain ⟨J3, X3, N3⟩ := own_hide X3 N3
  have f3_0 := f2_0.keep K3q
  have f3_2 := V2.keep K3q (ninS (Ne.symm ne2_0) nin0)
  have K3 : Keep h0 T3.heap [o] := K2.trans K3q (allS (Or.inl (List.mem_of_getElem? (i := 0) rfl)) all0)
  have Z3 : n0 ≤ T3.heap.size := Nat.le_trans Z0 K3.1
  refine own_Go.of (g' := (mkF m 11 #[.val (.ref o), .val (.long (192 : Int64)), .second] [])) (fun t k => st3.trans k) ?_
  obtain ⟨fs, hr, hrun, hended, hW, hsame⟩ := X3.leave (v := none) (fun _ => rfl) (BodyLoose.notSynchronized Bd)
  refine ⟨_, _, X3.returnOut hx Bd.returns (hb hby d2_11) hr, hrun, hended, none, _, rfl, ?_, ⟨_, rfl⟩, hW, hsame.mono (by decide) (by decide)⟩
  show Qi1 Z o u0 u1 h0 n0 _ T3.heap _
  exact ⟨b2, k2, rfl, N3, K3, sz_b2, c3_0, c3_1, f3_2⟩

theorem d6_0 : decode prog_1_method_9_code 0 = .ok (.iload_n 3, 1) := by decide +kernel
theorem d6_1 : decode prog_1_method_9_code 1 = .ok (.ifCond .ne 4, 3) := by decide +kernel
theorem d6_5 : decode prog_1_method_9_code 5 = .ok (.lload_n 1, 1) := by decide +kernel
theorem d6_6 : decode prog_1_method_9_code 6 = .ok (.bipush 6, 2) := by decide +kernel
theorem d6_8 : decode prog_1_method_9_code 8 = .ok (.lushr, 1) := by decide +kernel
theorem d6_9 : decode prog_1_method_9_code 9 = .ok (.l2i, 1) := by decide +kernel
theorem d6_10 : decode prog_1_method_9_code 10 = .ok (.istore 6, 2) := by decide +kernel
theorem d6_12 : decode prog_1_method_9_code 12 = .ok (.lload_n 1, 1) := by decide +kernel
theorem d6_13 : decode prog_1_method_9_code 13 = .ok (.ldc2_w 46, 3) := by decide +kernel
theorem d6_16 : decode prog_1_method_9_code 16 = .ok (.land, 1) := by decide +kernel
theorem d6_17 : decode prog_1_method_9_code 17 = .ok (.l2i, 1) := by decide +kernel
theorem d6_18 : decode prog_1_method_9_code 18 = .ok (.istore 7, 2) := by decide +kernel
theorem d6_20 : decode prog_1_method_9_code 20 = .ok (.iload_n 3, 1) := by decide +kernel
theorem d6_21 : decode prog_1_method_9_code 21 = .ok (.bipush 64, 2) := by decide +kernel
theorem d6_23 : decode prog_1_method_9_code 23 = .ok (.if_icmp .ne 9, 3) := by decide +kernel
theorem d6_26 : decode prog_1_method_9_code 26 = .ok (.ldc2_w 48, 3) := by decide +kernel
theorem d6_29 : decode prog_1_method_9_code 29 = .ok (.goto 8, 3) := by decide +kernel
theorem d6_37 : decode prog_1_method_9_code 37 = .ok (.lstore 8, 2) := by decide +kernel
theorem d6_39 : decode prog_1_method_9_code 39 = .ok (.aload_n 0, 1) := by decide +kernel
theorem d6_40 : decode prog_1_method_9_code 40 = .ok (.getfield 20, 3) := by decide +kernel
theorem d6_43 : decode prog_1_method_9_code 43 = .ok (.iload 6, 2) := by decide +kernel
theorem d6_45 : decode prog_1_method_9_code 45 = .ok (.aload_n 0, 1) := by decide +kernel
theorem d6_46 : decode prog_1_method_9_code 46 = .ok (.getfield 20, 3) := by decide +kernel
theorem d6_49 : decode prog_1_method_9_code 49 = .ok (.iload 6, 2) := by decide +kernel
theorem d6_51 : decode prog_1_method_9_code 51 = .ok (.laload, 1) := by decide +kernel
theorem d6_52 : decode prog_1_method_9_code 52 = .ok (.lload 8, 2) := by decide +kernel
theorem d6_54 : decode prog_1_method_9_code 54 = .ok (.iload 7, 2) := by decide +kernel
theorem d6_56 : decode prog_1_method_9_code 56 = .ok (.lshl, 1) := by decide +kernel
theorem d6_57 : decode prog_1_method_9_code 57 = .ok (.ldc2_w 48, 3) := by decide +kernel
theorem d6_60 : decode prog_1_method_9_code 60 = .ok (.lxor, 1) := by decide +kernel
theorem d6_61 : decode prog_1_method_9_code 61 = .ok (.land, 1) := by decide +kernel
theorem d6_62 : decode prog_1_method_9_code 62 = .ok (.lload 4, 2) := by decide +kernel
theorem d6_64 : decode prog_1_method_9_code 64 = .ok (.iload 7, 2) := by decide +kernel
theorem d6_66 : decode prog_1_method_9_code 66 = .ok (.lshl, 1) := by decide +kernel
theorem d6_67 : decode prog_1_method_9_code 67 = .ok (.lor, 1) := by decide +kernel
theorem d6_68 : decode prog_1_method_9_code 68 = .ok (.lastore, 1) := by decide +kernel
theorem d6_69 : decode prog_1_method_9_code 69 = .ok (.iload 7, 2) := by decide +kernel
theorem d6_71 : decode prog_1_method_9_code 71 = .ok (.iload_n 3, 1) := by decide +kernel
theorem d6_72 : decode prog_1_method_9_code 72 = .ok (.iadd, 1) := by decide +kernel
theorem d6_73 : decode prog_1_method_9_code 73 = .ok (.bipush 64, 2) := by decide +kernel
theorem d6_75 : decode prog_1_method_9_code 75 = .ok (.if_icmp .le 50, 3) := by decide +kernel
theorem d6_125 : decode prog_1_method_9_code 125 = .ok (.return_, 1) := by decide +kernel
theorem pnput0 : plainName "com/example/paranhos/paranhos/BitArray" = true := by first | (simp [plainName, overriddenIn]; done) | decide +kernel
theorem efput0 (m : MethodId) (z0 : Addr) (z3 : Int64) : entryFrame m #[(.ref z0), (.long (0 : Int64)), (.int (64 : Int32)), (.long z3)] 11 = mkF m 0 #[.val (.ref z0), .val (.long (0 : Int64)), .second, .val (.int (64 : Int32)), .val (.long z3), .second, .unset, .unset, .unset, .unset, .unset] [] := by first | (simp [entryFrame, mkF, argsToLocals, Value.category]; done) | rfl
def Qput0 (Z : State) (o : Addr) (x : Int64) (b : Addr) (k : ClassId) (w0 : Int64) (w1 : Int64) (w2 : Int64) (h0 : Heap) (n0 : Nat) (v : Option Value) (h : Heap) (L : List Loc) : Prop := v = none ∧ Fr n0 L ∧ Keep h0 h [b] ∧ Exa Z h o "com/example/paranhos/paranhos/BitArray" ∧ Fld Z h o "com/example/paranhos/paranhos/BitArray" "words" "[J" (.ref b) ∧ Arv Z h b k .long (3 : Int32) [(.long x), (.long w1), (.long w2)] (.long (0 : Int64))
set_option maxRecDepth 65536 in
set_option maxHeartbeats 40000000 in
theorem rmput0 (l : Launch) (Z : State) (a0 : Array Value) (hw : ∀ d ∈ tables_1, d.before a0 Z = true) (ws : List Jvm.Cond) (o : Addr) (x : Int64) (b : Addr) (k : ClassId) (w0 : Int64) (w1 : Int64) (w2 : Int64) (h0 : Heap) (n0 : Nat) (Z0 : n0 ≤ h0.size) (E_o : Exa Z h0 o "com/example/paranhos/paranhos/BitArray") (F_o : Fld Z h0 o "com/example/paranhos/paranhos/BitArray" "words" "[J" (.ref b)) (V_b : Arv Z h0 b k .long (3 : Int32) [(.long w0), (.long w1), (.long w2)] (.long (0 : Int64))) (g_b : n0 ≤ b) (ne_ob : o ≠ b) :
    MetFree l (⟨"com/example/paranhos/paranhos/BitArray", "put", "(JIJ)V"⟩ : MethodName) (head1 (Jvm.Cond.code (⟨"com/example/paranhos/paranhos/BitArray", "put", "(JIJ)V"⟩ : MethodName) prog_1_method_9_code 11 none :: ws) ({ frames := 0, cells := 0, slots := 0, locals := 0 } : Room)) (fun a U => a = #[(.ref o), (.long (0 : Int64)), (.int (64 : Int32)), (.long x)] ∧ Z.Warmed39 U.vm ∧ U.heap = h0) (fun _ _ _ _ _ => True) (fun _ U oc U' => ∃ v L, oc = .returned v ∧ Qput0 Z o x b k w0 w1 w2 h0 n0 v U'.heap L ∧ FrameEnd U oc U' L ({ frames := 0, cells := 0, slots := 0, locals := 0 } : Room).cells ({ frames := 0, cells := 0, slots := 0, locals := 0 } : Room).slots) := by
  refine MetFree.of_bodySF (plainFor_of_name pnput0) hisR ?_
  intro p e s m args below meth c s₁ Bd hml0 hP hK
  obtain ⟨rfl, hZ, hh⟩ := hP
  have hx := Bd.exec
  have hby := Bd.bytes
  have hml : c.maxLocals = 11 := hml0
  have hown : s.vm.findClass "com/example/paranhos/paranhos/BitArray" = some m.cls := findClass_of_methodNamed Bd.named
  have hnm := (name_of_methodNamed Bd.named Bd.method).1
  have X0 : Stand p l e ({ frames := 0, cells := 0, slots := 0, locals := 0 } : Room) s m #[(.ref o), (.long (0 : Int64)), (.int (64 : Int32)), (.long x)] below meth c s₁ [] 0 0 := Stand.of_body Bd
  have e0 : s₁.heap = h0 := by rw [← hh, Bd.state]; rfl
  have N0 := Fr.nil n0
  show own_Go p e below (fun s₂ oc => ∃ v L, oc = .returned v ∧ Qput0 Z o x b k w0 w1 w2 h0 n0 v s₂.heap L ∧ FrameEnd s oc s₂ L ({ frames := 0, cells := 0, slots := 0, locals := 0 } : Room).cells ({ frames := 0, cells := 0, slots := 0, locals := 0 } : Room).slots) s₁ (entryFrame m #[(.ref o), (.long (0 : Int64)), (.int (64 : Int32)), (.long x)] 11)
  refine own_Go.of (g' := mkF m 0 #[.val (.ref o), .val (.long (0 : Int64)), .second, .val (.int (64 : Int32)), .val (.long x), .second, .unset, .unset, .unset, .unset, .unset] []) (fun t k => castTop (efput0 m o x) k) ?_
  refine og_iloadN (pc' := 1) X0 hx (hb hby d6_0) rfl rfl ?_
  refine og_ifYes (pc' := 5) X0 hx (hb hby d6_1) ((if0 _ _).trans (feq (by decide)).2) (by decide) (by decide) ?_
  refine og_lloadN (pc' := 6) X0 hx (hb hby d6_5) rfl rfl ?_
  refine og_bipush (pc' := 8) (n := 6) X0 hx (hb hby d6_6) rfl rfl ?_
  refine og_lushr (pc' := 9) X0 hx (hb hby d6_8) rfl ?_
  rw [show (((0 : Int64).toUInt64 >>> ((6 : Int32) &&& 0x3f).toInt64.toUInt64).toInt64) = (0 : Int64) from by decide]
  refine og_l2i (pc' := 10) X0 hx (hb hby d6_9) rfl ?_
  rw [show ((0 : Int64).toInt32) = (0 : Int32) from by decide]
  refine og_istore (pc' := 12) (L' := #[.val (.ref o), .val (.long (0 : Int64)), .second, .val (.int (64 : Int32)), .val (.long x), .second, .val (.int (0 : Int32)), .unset, .unset, .unset, .unset]) X0 hx (hb hby d6_10) rfl rfl ?_
  refine og_lloadN (pc' := 13) X0 hx (hb hby d6_12) rfl rfl ?_
  refine og_ldc2_w (pc' := 16) X0 hx (hb hby d6_13) hown (mvT hZ (hw _ (List.mem_of_getElem? (i := 34) rfl))) rfl ?_
  refine og_land (pc' := 17) X0 hx (hb hby d6_16) rfl ?_
  rw [show ((0 : Int64) &&& (63 : Int64)) = (0 : Int64) from by decide]
  refine og_l2i (pc' := 18) X0 hx (hb hby d6_17) rfl ?_
  rw [show ((0 : Int64).toInt32) = (0 : Int32) from by decide]
  refine og_istore (pc' := 20) (L' := #[.val (.ref o), .val (.long (0 : Int64)), .second, .val (.int (64 : Int32)), .val (.long x), .second, .val (.int (0 : Int32)), .val (.int (0 : Int32)), .unset, .unset, .unset]) X0 hx (hb hby d6_18) rfl rfl ?_
  refine og_iloadN (pc' := 21) X0 hx (hb hby d6_20) rfl rfl ?_
  refine og_bipush (pc' := 23) (n := 64) X0 hx (hb hby d6_21) rfl rfl ?_
  refine og_icmpNo (pc' := 26) X0 hx (hb hby d6_23) (teq (by decide)).2 rfl ?_
  refine og_ldc2_w (pc' := 29) X0 hx (hb hby d6_26) hown (mvT hZ (hw _ (List.mem_of_getElem? (i := 35) rfl))) rfl ?_
  refine og_goto (pc' := 37) X0 hx (hb hby d6_29) (by decide) (by decide) ?_
  refine og_lstore (pc' := 39) (L' := #[.val (.ref o), .val (.long (0 : Int64)), .second, .val (.int (64 : Int32)), .val (.long x), .second, .val (.int (0 : Int32)), .val (.int (0 : Int32)), .val (.long (-1 : Int64)), .second, .unset]) X0 hx (hb hby d6_37) rfl rfl ?_
  refine og_aloadN (pc' := 40) X0 hx (hb hby d6_39) rfl rfl rfl ?_
  obtain ⟨T1, X1, e1, st1⟩ := getF X0 hx hZ hown (host := "") (Or.inl (hw _ (List.mem_of_getElem? (i := 25) rfl))) Via.refl e0 F_o (g := (mkF m 40 #[.val (.ref o), .val (.long (0 : Int64)), .second, .val (.int (64 : Int32)), .val (.long x), .second, .val (.int (0 : Int32)), .val (.int (0 : Int32)), .val (.long (-1 : Int64)), .second, .unset] [(.ref o)])) rfl rfl (hb hby d6_40)
  refine own_Go.of (g' := (mkF m 43 #[.val (.ref o), .val (.long (0 : Int64)), .second, .val (.int (64 : Int32)), .val (.long x), .second, .val (.int (0 : Int32)), .val (.int (0 : Int32)), .val (.long (-1 : Int64)), .second, .unset] [(.ref b)])) (fun t k => st1 _ k) ?_
  refine og_iload (pc' := 45) X1 hx (hb hby d6_43) rfl rfl ?_
  refine og_aloadN (pc' := 46) X1 hx (hb hby d6_45) rfl rfl rfl ?_
  obtain ⟨T2, X2, e2, st2⟩ := getF X1 hx hZ hown (host := "") (Or.inl (hw _ (List.mem_of_getElem? (i := 25) rfl))) Via.refl e1 F_o (g := (mkF m 46 #[.val (.ref o), .val (.long (0 : Int64)), .second, .val (.int (64 : Int32)), .val (.long x), .second, .val (.int (0 : Int32)), .val (.int (0 : Int32)), .val (.long (-1 : Int64)), .second, .unset] [(.ref o), (.int (0 : Int32)), (.ref b)])) rfl rfl (hb hby d6_46)
  refine own_Go.of (g' := (mkF m 49 #[.val (.ref o), .val (.long (0 : Int64)), .second, .val (.int (64 : Int32)), .val (.long x), .second, .val (.int (0 : Int32)), .val (.int (0 : Int32)), .val (.long (-1 : Int64)), .second, .unset] [(.ref b), (.int (0 : Int32)), (.ref b)])) (fun t k => st2 _ k) ?_
  refine og_iload (pc' := 51) X2 hx (hb hby d6_49) rfl rfl ?_
  obtain ⟨cl3, Ar3, q3, S3, M3, H3, G3⟩ := id V_b
  have hin3 : ¬ ((0 : Int32) < 0 ∨ cl3.slots.size ≤ ((0 : Int32)).toNatClampNeg) := inb_of S3 ⟨by decide, by decide⟩
  have hat3 : cl3.slots[((0 : Int32)).toNatClampNeg]? = some (.long w0) := Has.at H3 hin3 rfl
  refine own_Go.of (g' := (mkF m 52 #[.val (.ref o), .val (.long (0 : Int64)), .second, .val (.int (64 : Int32)), .val (.long x), .second, .val (.int (0 : Int32)), .val (.int (0 : Int32)), .val (.long (-1 : Int64)), .second, .unset] [(.long w0), (.int (0 : Int32)), (.ref b)])) (fun t k => X2.laload hx (j := (0 : Int32)) (v := (.long w0)) (by rw [e2]; exact Ar3.1) (State.isArrayOf_alike hZ.alike Ar3.2.1) Ar3.2.2 hin3 hat3 (g := (mkF m 51 #[.val (.ref o), .val (.long (0 : Int64)), .second, .val (.int (64 : Int32)), .val (.long x), .second, .val (.int (0 : Int32)), .val (.int (0 : Int32)), .val (.long (-1 : Int64)), .second, .unset] [(.int (0 : Int32)), (.ref b), (.int (0 : Int32)), (.ref b)])) rfl rfl (hb hby d6_51) _ k) ?_
  refine og_lload (pc' := 54) X2 hx (hb hby d6_52) rfl rfl ?_
  refine og_iload (pc' := 56) X2 hx (hb hby d6_54) rfl rfl ?_
  refine og_lshl (pc' := 57) X2 hx (hb hby d6_56) rfl ?_
  rw [show ((-1 : Int64) <<< ((0 : Int32) &&& 0x3f).toInt64) = (-1 : Int64) from by decide]
  refine og_ldc2_w (pc' := 60) X2 hx (hb hby d6_57) hown (mvT hZ (hw _ (List.mem_of_getElem? (i := 35) rfl))) rfl ?_
  refine og_lxor (pc' := 61) X2 hx (hb hby d6_60) rfl ?_
  rw [show ((-1 : Int64) ^^^ (-1 : Int64)) = (0 : Int64) from by decide]
  refine og_land (pc' := 62) X2 hx (hb hby d6_61) rfl ?_
  refine og_lload (pc' := 64) X2 hx (hb hby d6_62) rfl rfl ?_
  refine og_iload (pc' := 66) X2 hx (hb hby d6_64) rfl rfl ?_
  refine og_lshl (pc' := 67) X2 hx (hb hby d6_66) rfl ?_
  refine og_lor (pc' := 68) X2 hx (hb hby d6_67) rfl ?_
  rw [own_full w0 x]
  obtain ⟨cl4, Ar4, q4, S4, M4, H4, G4⟩ := id V_b
  have hin4 : ¬ ((0 : Int32) < 0 ∨ cl4.slots.size ≤ ((0 : Int32)).toNatClampNeg) := inb_of S4 ⟨by decide, by decide⟩
  obtain ⟨T4, h4, X4, e4, W4, st4⟩ := stJ X2 hx hZ e2 Ar4 (j := (0 : Int32)) hin4 (g := (mkF m 68 #[.val (.ref o), .val (.long (0 : Int64)), .second, .val (.int (64 : Int32)), .val (.long x), .second, .val (.int (0 : Int32)), .val (.int (0 : Int32)), .val (.long (-1 : Int64)), .second, .unset] [(.long x), (.int (0 : Int32)), (.ref b)])) rfl rfl (hb hby d6_68)
  have V4 : Arv Z h4 b k .long (3 : Int32) [(.long x), (.long w1), (.long w2)] (.long (0 : Int64)) := Arv.set Ar4 q4 S4 M4 H4 G4 rfl W4 0 rfl (Nat.le_of_ble_eq_true rfl)
  have f4_0 := E_o.wr W4
  have f4_1 := F_o.other W4 (Or.inl ne_ob)
  have K4 : Keep h0 h4 [b] := (Keep.refl h0 [b]).wr W4 (Or.inl (List.mem_of_getElem? (i := 0) rfl))
  have Z4 : n0 ≤ h4.size := Nat.le_trans Z0 K4.1
  have N4 := Fr.snoc X4 N0 g_b
  obtain ⟨J4, X4, N4⟩ := own_hide X4 N4
  refine own_Go.of (g' := (mkF m 69 #[.val (.ref o), .val (.long (0 : Int64)), .second, .val (.int (64 : Int32)), .val (.long x), .second, .val (.int (0 : Int32)), .val (.int (0 : Int32)), .val (.long (-1 : Int64)), .second, .unset] [])) (fun t k => st4 _ k) ?_
  refine og_iload (pc' := 71) X4 hx (hb hby d6_69) rfl rfl ?_
  refine og_iloadN (pc' := 72) X4 hx (hb hby d6_71) rfl rfl ?_
  refine og_iadd (pc' := 73) X4 hx (hb hby d6_72) rfl ?_
  rw [show ((0 : Int32) + (64 : Int32)) = (64 : Int32) from by decide]
  refine og_bipush (pc' := 75) (n := 64) X4 hx (hb hby d6_73) rfl rfl ?_
  refine og_icmpYes (pc' := 125) X4 hx (hb hby d6_75) (flt (by decide)).2.2.2 (by decide) (by decide) ?_
  obtain ⟨fs, hr, hrun, hended, hW, hsame⟩ := X4.leave (v := none) (fun _ => rfl) (BodyLoose.notSynchronized Bd)
  refine ⟨_, _, X4.returnOut hx Bd.returns (hb hby d6_125) hr, hrun, hended, none, _, rfl, ?_, ⟨_, rfl⟩, hW, hsame.mono (by decide) (by decide)⟩
  show Qput0 Z o x b k w0 w1 w2 h0 n0 _ T4.heap _
  rw [e4]
  exact ⟨rfl, N4, K4, f4_0, f4_1, V4⟩

theorem pnput1 : plainName "com/example/paranhos/paranhos/BitArray" = true := by first | (simp [plainName, overriddenIn]; done) | decide +kernel
theorem efput1 (m : MethodId) (z0 : Addr) (z3 : Int64) : entryFrame m #[(.ref z0), (.long (64 : Int64)), (.int (64 : Int32)), (.long z3)] 11 = mkF m 0 #[.val (.ref z0), .val (.long (64 : Int64)), .second, .val (.int (64 : Int32)), .val (.long z3), .second, .unset, .unset, .unset, .unset, .unset] [] := by first | (simp [entryFrame, mkF, argsToLocals, Value.category]; done) | rfl
def Qput1 (Z : State) (o : Addr) (x : Int64) (b : Addr) (k : ClassId) (w0 : Int64) (w1 : Int64) (w2 : Int64) (h0 : Heap) (n0 : Nat) (v : Option Value) (h : Heap) (L : List Loc) : Prop := v = none ∧ Fr n0 L ∧ Keep h0 h [b] ∧ Exa Z h o "com/example/paranhos/paranhos/BitArray" ∧ Fld Z h o "com/example/paranhos/paranhos/BitArray" "words" "[J" (.ref b) ∧ Arv Z h b k .long (3 : Int32) [(.long w0), (.long x), (.long w2)] (.long (0 : Int64))
set_option maxRecDepth 65536 in
set_option maxHeartbeats 40000000 in
theorem rmput1 (l : Launch) (Z : State) (a0 : Array Value) (hw : ∀ d ∈ tables_1, d.before a0 Z = true) (ws : List Jvm.Cond) (o : Addr) (x : Int64) (b : Addr) (k : ClassId) (w0 : Int64) (w1 : Int64) (w2 : Int64) (h0 : Heap) (n0 : Nat) (Z0 : n0 ≤ h0.size) (E_o : Exa Z h0 o "com/example/paranhos/paranhos/BitArray") (F_o : Fld Z h0 o "com/example/paranhos/paranhos/BitArray" "words" "[J" (.ref b)) (V_b : Arv Z h0 b k .long (3 : Int32) [(.long w0), (.long w1), (.long w2)] (.long (0 : Int64))) (g_b : n0 ≤ b) (ne_ob : o ≠ b) :
    MetFree l (⟨"com/example/paranhos/paranhos/BitArray", "put", "(JIJ)V"⟩ : MethodName) (head1 (Jvm.Cond.code (⟨"com/example/paranhos/paranhos/BitArray", "put", "(JIJ)V"⟩ : MethodName) prog_1_method_9_code 11 none :: ws) ({ frames := 0, cells := 0, slots := 0, locals := 0 } : Room)) (fun a U => a = #[(.ref o), (.long (64 : Int64)), (.int (64 : Int32)), (.long x)] ∧ Z.Warmed39 U.vm ∧ U.heap = h0) (fun _ _ _ _ _ => True) (fun _ U oc U' => ∃ v L, oc = .returned v ∧ Qput1 Z o x b k w0 w1 w2 h0 n0 v U'.heap L ∧ FrameEnd U oc U' L ({ frames := 0, cells := 0, slots := 0, locals := 0 } : Room).cells ({ frames := 0, cells := 0, slots := 0, locals := 0 } : Room).slots) := by
  refine MetFree.of_bodySF (plainFor_of_name pnput1) hisR ?_
  intro p e s m args below meth c s₁ Bd hml0 hP hK
  obtain ⟨rfl, hZ, hh⟩ := hP
  have hx := Bd.exec
  have hby := Bd.bytes
  have hml : c.maxLocals = 11 := hml0
  have hown : s.vm.findClass "com/example/paranhos/paranhos/BitArray" = some m.cls := findClass_of_methodNamed Bd.named
  have hnm := (name_of_methodNamed Bd.named Bd.method).1
  have X0 : Stand p l e ({ frames := 0, cells := 0, slots := 0, locals := 0 } : Room) s m #[(.ref o), (.long (64 : Int64)), (.int (64 : Int32)), (.long x)] below meth c s₁ [] 0 0 := Stand.of_body Bd
  have e0 : s₁.heap = h0 := by rw [← hh, Bd.state]; rfl
  have N0 := Fr.nil n0
  show own_Go p e below (fun s₂ oc => ∃ v L, oc = .returned v ∧ Qput1 Z o x b k w0 w1 w2 h0 n0 v s₂.heap L ∧ FrameEnd s oc s₂ L ({ frames := 0, cells := 0, slots := 0, locals := 0 } : Room).cells ({ frames := 0, cells := 0, slots := 0, locals := 0 } : Room).slots) s₁ (entryFrame m #[(.ref o), (.long (64 : Int64)), (.int (64 : Int32)), (.long x)] 11)
  refine own_Go.of (g' := mkF m 0 #[.val (.ref o), .val (.long (64 : Int64)), .second, .val (.int (64 : Int32)), .val (.long x), .second, .unset, .unset, .unset, .unset, .unset] []) (fun t k => castTop (efput1 m o x) k) ?_
  refine og_iloadN (pc' := 1) X0 hx (hb hby d6_0) rfl rfl ?_
  refine og_ifYes (pc' := 5) X0 hx (hb hby d6_1) ((if0 _ _).trans (feq (by decide)).2) (by decide) (by decide) ?_
  refine og_lloadN (pc' := 6) X0 hx (hb hby d6_5) rfl rfl ?_
  refine og_bipush (pc' := 8) (n := 6) X0 hx (hb hby d6_6) rfl rfl ?_
  refine og_lushr (pc' := 9) X0 hx (hb hby d6_8) rfl ?_
  rw [show (((64 : Int64).toUInt64 >>> ((6 : Int32) &&& 0x3f).toInt64.toUInt64).toInt64) = (1 : Int64) from by decide]
  refine og_l2i (pc' := 10) X0 hx (hb hby d6_9) rfl ?_
  rw [show ((1 : Int64).toInt32) = (1 : Int32) from by decide]
  refine og_istore (pc' := 12) (L' := #[.val (.ref o), .val (.long (64 : Int64)), .second, .val (.int (64 : Int32)), .val (.long x), .second, .val (.int (1 : Int32)), .unset, .unset, .unset, .unset]) X0 hx (hb hby d6_10) rfl rfl ?_
  refine og_lloadN (pc' := 13) X0 hx (hb hby d6_12) rfl rfl ?_
  refine og_ldc2_w (pc' := 16) X0 hx (hb hby d6_13) hown (mvT hZ (hw _ (List.mem_of_getElem? (i := 34) rfl))) rfl ?_
  refine og_land (pc' := 17) X0 hx (hb hby d6_16) rfl ?_
  rw [show ((64 : Int64) &&& (63 : Int64)) = (0 : Int64) from by decide]
  refine og_l2i (pc' := 18) X0 hx (hb hby d6_17) rfl ?_
  rw [show ((0 : Int64).toInt32) = (0 : Int32) from by decide]
  refine og_istore (pc' := 20) (L' := #[.val (.ref o), .val (.long (64 : Int64)), .second, .val (.int (64 : Int32)), .val (.long x), .second, .val (.int (1 : Int32)), .val (.int (0 : Int32)), .unset, .unset, .unset]) X0 hx (hb hby d6_18) rfl rfl ?_
  refine og_iloadN (pc' := 21) X0 hx (hb hby d6_20) rfl rfl ?_
  refine og_bipush (pc' := 23) (n := 64) X0 hx (hb hby d6_21) rfl rfl ?_
  refine og_icmpNo (pc' := 26) X0 hx (hb hby d6_23) (teq (by decide)).2 rfl ?_
  refine og_ldc2_w (pc' := 29) X0 hx (hb hby d6_26) hown (mvT hZ (hw _ (List.mem_of_getElem? (i := 35) rfl))) rfl ?_
  refine og_goto (pc' := 37) X0 hx (hb hby d6_29) (by decide) (by decide) ?_
  refine og_lstore (pc' := 39) (L' := #[.val (.ref o), .val (.long (64 : Int64)), .second, .val (.int (64 : Int32)), .val (.long x), .second, .val (.int (1 : Int32)), .val (.int (0 : Int32)), .val (.long (-1 : Int64)), .second, .unset]) X0 hx (hb hby d6_37) rfl rfl ?_
  refine og_aloadN (pc' := 40) X0 hx (hb hby d6_39) rfl rfl rfl ?_
  obtain ⟨T1, X1, e1, st1⟩ := getF X0 hx hZ hown (host := "") (Or.inl (hw _ (List.mem_of_getElem? (i := 25) rfl))) Via.refl e0 F_o (g := (mkF m 40 #[.val (.ref o), .val (.long (64 : Int64)), .second, .val (.int (64 : Int32)), .val (.long x), .second, .val (.int (1 : Int32)), .val (.int (0 : Int32)), .val (.long (-1 : Int64)), .second, .unset] [(.ref o)])) rfl rfl (hb hby d6_40)
  refine own_Go.of (g' := (mkF m 43 #[.val (.ref o), .val (.long (64 : Int64)), .second, .val (.int (64 : Int32)), .val (.long x), .second, .val (.int (1 : Int32)), .val (.int (0 : Int32)), .val (.long (-1 : Int64)), .second, .unset] [(.ref b)])) (fun t k => st1 _ k) ?_
  refine og_iload (pc' := 45) X1 hx (hb hby d6_43) rfl rfl ?_
  refine og_aloadN (pc' := 46) X1 hx (hb hby d6_45) rfl rfl rfl ?_
  obtain ⟨T2, X2, e2, st2⟩ := getF X1 hx hZ hown (host := "") (Or.inl (hw _ (List.mem_of_getElem? (i := 25) rfl))) Via.refl e1 F_o (g := (mkF m 46 #[.val (.ref o), .val (.long (64 : Int64)), .second, .val (.int (64 : Int32)), .val (.long x), .second, .val (.int (1 : Int32)), .val (.int (0 : Int32)), .val (.long (-1 : Int64)), .second, .unset] [(.ref o), (.int (1 : Int32)), (.ref b)])) rfl rfl (hb hby d6_46)
  refine own_Go.of (g' := (mkF m 49 #[.val (.ref o), .val (.long (64 : Int64)), .second, .val (.int (64 : Int32)), .val (.long x), .second, .val (.int (1 : Int32)), .val (.int (0 : Int32)), .val (.long (-1 : Int64)), .second, .unset] [(.ref b), (.int (1 : Int32)), (.ref b)])) (fun t k => st2 _ k) ?_
  refine og_iload (pc' := 51) X2 hx (hb hby d6_49) rfl rfl ?_
  obtain ⟨cl3, Ar3, q3, S3, M3, H3, G3⟩ := id V_b
  have hin3 : ¬ ((1 : Int32) < 0 ∨ cl3.slots.size ≤ ((1 : Int32)).toNatClampNeg) := inb_of S3 ⟨by decide, by decide⟩
  have hat3 : cl3.slots[((1 : Int32)).toNatClampNeg]? = some (.long w1) := Has.at H3 hin3 rfl
  refine own_Go.of (g' := (mkF m 52 #[.val (.ref o), .val (.long (64 : Int64)), .second, .val (.int (64 : Int32)), .val (.long x), .second, .val (.int (1 : Int32)), .val (.int (0 : Int32)), .val (.long (-1 : Int64)), .second, .unset] [(.long w1), (.int (1 : Int32)), (.ref b)])) (fun t k => X2.laload hx (j := (1 : Int32)) (v := (.long w1)) (by rw [e2]; exact Ar3.1) (State.isArrayOf_alike hZ.alike Ar3.2.1) Ar3.2.2 hin3 hat3 (g := (mkF m 51 #[.val (.ref o), .val (.long (64 : Int64)), .second, .val (.int (64 : Int32)), .val (.long x), .second, .val (.int (1 : Int32)), .val (.int (0 : Int32)), .val (.long (-1 : Int64)), .second, .unset] [(.int (1 : Int32)), (.ref b), (.int (1 : Int32)), (.ref b)])) rfl rfl (hb hby d6_51) _ k) ?_
  refine og_lload (pc' := 54) X2 hx (hb hby d6_52) rfl rfl ?_
  refine og_iload (pc' := 56) X2 hx (hb hby d6_54) rfl rfl ?_
  refine og_lshl (pc' := 57) X2 hx (hb hby d6_56) rfl ?_
  rw [show ((-1 : Int64) <<< ((0 : Int32) &&& 0x3f).toInt64) = (-1 : Int64) from by decide]
  refine og_ldc2_w (pc' := 60) X2 hx (hb hby d6_57) hown (mvT hZ (hw _ (List.mem_of_getElem? (i := 35) rfl))) rfl ?_
  refine og_lxor (pc' := 61) X2 hx (hb hby d6_60) rfl ?_
  rw [show ((-1 : Int64) ^^^ (-1 : Int64)) = (0 : Int64) from by decide]
  refine og_land (pc' := 62) X2 hx (hb hby d6_61) rfl ?_
  refine og_lload (pc' := 64) X2 hx (hb hby d6_62) rfl rfl ?_
  refine og_iload (pc' := 66) X2 hx (hb hby d6_64) rfl rfl ?_
  refine og_lshl (pc' := 67) X2 hx (hb hby d6_66) rfl ?_
  refine og_lor (pc' := 68) X2 hx (hb hby d6_67) rfl ?_
  rw [own_full w1 x]
  obtain ⟨cl4, Ar4, q4, S4, M4, H4, G4⟩ := id V_b
  have hin4 : ¬ ((1 : Int32) < 0 ∨ cl4.slots.size ≤ ((1 : Int32)).toNatClampNeg) := inb_of S4 ⟨by decide, by decide⟩
  obtain ⟨T4, h4, X4, e4, W4, st4⟩ := stJ X2 hx hZ e2 Ar4 (j := (1 : Int32)) hin4 (g := (mkF m 68 #[.val (.ref o), .val (.long (64 : Int64)), .second, .val (.int (64 : Int32)), .val (.long x), .second, .val (.int (1 : Int32)), .val (.int (0 : Int32)), .val (.long (-1 : Int64)), .second, .unset] [(.long x), (.int (1 : Int32)), (.ref b)])) rfl rfl (hb hby d6_68)
  have V4 : Arv Z h4 b k .long (3 : Int32) [(.long w0), (.long x), (.long w2)] (.long (0 : Int64)) := Arv.set Ar4 q4 S4 M4 H4 G4 rfl W4 1 rfl (Nat.le_of_ble_eq_true rfl)
  have f4_0 := E_o.wr W4
  have f4_1 := F_o.other W4 (Or.inl ne_ob)
  have K4 : Keep h0 h4 [b] := (Keep.refl h0 [b]).wr W4 (Or.inl (List.mem_of_getElem? (i := 0) rfl))
  have Z4 : n0 ≤ h4.size := Nat.le_trans Z0 K4.1
  have N4 := Fr.snoc X4 N0 g_b
  obtain ⟨J4, X4, N4⟩ := own_hide X4 N4
  refine own_Go.of (g' := (mkF m 69 #[.val (.ref o), .val (.long (64 : Int64)), .second, .val (.int (64 : Int32)), .val (.long x), .second, .val (.int (1 : Int32)), .val (.int (0 : Int32)), .val (.long (-1 : Int64)), .second, .unset] [])) (fun t k => st4 _ k) ?_
  refine og_iload (pc' := 71) X4 hx (hb hby d6_69) rfl rfl ?_
  refine og_iloadN (pc' := 72) X4 hx (hb hby d6_71) rfl rfl ?_
  refine og_iadd (pc' := 73) X4 hx (hb hby d6_72) rfl ?_
  rw [show ((0 : Int32) + (64 : Int32)) = (64 : Int32) from by decide]
  refine og_bipush (pc' := 75) (n := 64) X4 hx (hb hby d6_73) rfl rfl ?_
  refine og_icmpYes (pc' := 125) X4 hx (hb hby d6_75) (flt (by decide)).2.2.2 (by decide) (by decide) ?_
  obtain ⟨fs, hr, hrun, hended, hW, hsame⟩ := X4.leave (v := none) (fun _ => rfl) (BodyLoose.notSynchronized Bd)
  refine ⟨_, _, X4.returnOut hx Bd.returns (hb hby d6_125) hr, hrun, hended, none, _, rfl, ?_, ⟨_, rfl⟩, hW, hsame.mono (by decide) (by decide)⟩
  show Qput1 Z o x b k w0 w1 w2 h0 n0 _ T4.heap _
  rw [e4]
  exact ⟨rfl, N4, K4, f4_0, f4_1, V4⟩

theorem pnput2 : plainName "com/example/paranhos/paranhos/BitArray" = true := by first | (simp [plainName, overriddenIn]; done) | decide +kernel
theorem efput2 (m : MethodId) (z0 : Addr) (z3 : Int64) : entryFrame m #[(.ref z0), (.long (128 : Int64)), (.int (64 : Int32)), (.long z3)] 11 = mkF m 0 #[.val (.ref z0), .val (.long (128 : Int64)), .second, .val (.int (64 : Int32)), .val (.long z3), .second, .unset, .unset, .unset, .unset, .unset] [] := by first | (simp [entryFrame, mkF, argsToLocals, Value.category]; done) | rfl
def Qput2 (Z : State) (o : Addr) (x : Int64) (b : Addr) (k : ClassId) (w0 : Int64) (w1 : Int64) (w2 : Int64) (h0 : Heap) (n0 : Nat) (v : Option Value) (h : Heap) (L : List Loc) : Prop := v = none ∧ Fr n0 L ∧ Keep h0 h [b] ∧ Exa Z h o "com/example/paranhos/paranhos/BitArray" ∧ Fld Z h o "com/example/paranhos/paranhos/BitArray" "words" "[J" (.ref b) ∧ Arv Z h b k .long (3 : Int32) [(.long w0), (.long w1), (.long x)] (.long (0 : Int64))
set_option maxRecDepth 65536 in
set_option maxHeartbeats 40000000 in
theorem rmput2 (l : Launch) (Z : State) (a0 : Array Value) (hw : ∀ d ∈ tables_1, d.before a0 Z = true) (ws : List Jvm.Cond) (o : Addr) (x : Int64) (b : Addr) (k : ClassId) (w0 : Int64) (w1 : Int64) (w2 : Int64) (h0 : Heap) (n0 : Nat) (Z0 : n0 ≤ h0.size) (E_o : Exa Z h0 o "com/example/paranhos/paranhos/BitArray") (F_o : Fld Z h0 o "com/example/paranhos/paranhos/BitArray" "words" "[J" (.ref b)) (V_b : Arv Z h0 b k .long (3 : Int32) [(.long w0), (.long w1), (.long w2)] (.long (0 : Int64))) (g_b : n0 ≤ b) (ne_ob : o ≠ b) :
    MetFree l (⟨"com/example/paranhos/paranhos/BitArray", "put", "(JIJ)V"⟩ : MethodName) (head1 (Jvm.Cond.code (⟨"com/example/paranhos/paranhos/BitArray", "put", "(JIJ)V"⟩ : MethodName) prog_1_method_9_code 11 none :: ws) ({ frames := 0, cells := 0, slots := 0, locals := 0 } : Room)) (fun a U => a = #[(.ref o), (.long (128 : Int64)), (.int (64 : Int32)), (.long x)] ∧ Z.Warmed39 U.vm ∧ U.heap = h0) (fun _ _ _ _ _ => True) (fun _ U oc U' => ∃ v L, oc = .returned v ∧ Qput2 Z o x b k w0 w1 w2 h0 n0 v U'.heap L ∧ FrameEnd U oc U' L ({ frames := 0, cells := 0, slots := 0, locals := 0 } : Room).cells ({ frames := 0, cells := 0, slots := 0, locals := 0 } : Room).slots) := by
  refine MetFree.of_bodySF (plainFor_of_name pnput2) hisR ?_
  intro p e s m args below meth c s₁ Bd hml0 hP hK
  obtain ⟨rfl, hZ, hh⟩ := hP
  have hx := Bd.exec
  have hby := Bd.bytes
  have hml : c.maxLocals = 11 := hml0
  have hown : s.vm.findClass "com/example/paranhos/paranhos/BitArray" = some m.cls := findClass_of_methodNamed Bd.named
  have hnm := (name_of_methodNamed Bd.named Bd.method).1
  have X0 : Stand p l e ({ frames := 0, cells := 0, slots := 0, locals := 0 } : Room) s m #[(.ref o), (.long (128 : Int64)), (.int (64 : Int32)), (.long x)] below meth c s₁ [] 0 0 := Stand.of_body Bd
  have e0 : s₁.heap = h0 := by rw [← hh, Bd.state]; rfl
  have N0 := Fr.nil n0
  show own_Go p e below (fun s₂ oc => ∃ v L, oc = .returned v ∧ Qput2 Z o x b k w0 w1 w2 h0 n0 v s₂.heap L ∧ FrameEnd s oc s₂ L ({ frames := 0, cells := 0, slots := 0, locals := 0 } : Room).cells ({ frames := 0, cells := 0, slots := 0, locals := 0 } : Room).slots) s₁ (entryFrame m #[(.ref o), (.long (128 : Int64)), (.int (64 : Int32)), (.long x)] 11)
  refine own_Go.of (g' := mkF m 0 #[.val (.ref o), .val (.long (128 : Int64)), .second, .val (.int (64 : Int32)), .val (.long x), .second, .unset, .unset, .unset, .unset, .unset] []) (fun t k => castTop (efput2 m o x) k) ?_
  refine og_iloadN (pc' := 1) X0 hx (hb hby d6_0) rfl rfl ?_
  refine og_ifYes (pc' := 5) X0 hx (hb hby d6_1) ((if0 _ _).trans (feq (by decide)).2) (by decide) (by decide) ?_
  refine og_lloadN (pc' := 6) X0 hx (hb hby d6_5) rfl rfl ?_
  refine og_bipush (pc' := 8) (n := 6) X0 hx (hb hby d6_6) rfl rfl ?_
  refine og_lushr (pc' := 9) X0 hx (hb hby d6_8) rfl ?_
  rw [show (((128 : Int64).toUInt64 >>> ((6 : Int32) &&& 0x3f).toInt64.toUInt64).toInt64) = (2 : Int64) from by decide]
  refine og_l2i (pc' := 10) X0 hx (hb hby d6_9) rfl ?_
  rw [show ((2 : Int64).toInt32) = (2 : Int32) from by decide]
  refine og_istore (pc' := 12) (L' := #[.val (.ref o), .val (.long (128 : Int64)), .second, .val (.int (64 : Int32)), .val (.long x), .second, .val (.int (2 : Int32)), .unset, .unset, .unset, .unset]) X0 hx (hb hby d6_10) rfl rfl ?_
  refine og_lloadN (pc' := 13) X0 hx (hb hby d6_12) rfl rfl ?_
  refine og_ldc2_w (pc' := 16) X0 hx (hb hby d6_13) hown (mvT hZ (hw _ (List.mem_of_getElem? (i := 34) rfl))) rfl ?_
  refine og_land (pc' := 17) X0 hx (hb hby d6_16) rfl ?_
  rw [show ((128 : Int64) &&& (63 : Int64)) = (0 : Int64) from by decide]
  refine og_l2i (pc' := 18) X0 hx (hb hby d6_17) rfl ?_
  rw [show ((0 : Int64).toInt32) = (0 : Int32) from by decide]
  refine og_istore (pc' := 20) (L' := #[.val (.ref o), .val (.long (128 : Int64)), .second, .val (.int (64 : Int32)), .val (.long x), .second, .val (.int (2 : Int32)), .val (.int (0 : Int32)), .unset, .unset, .unset]) X0 hx (hb hby d6_18) rfl rfl ?_
  refine og_iloadN (pc' := 21) X0 hx (hb hby d6_20) rfl rfl ?_
  refine og_bipush (pc' := 23) (n := 64) X0 hx (hb hby d6_21) rfl rfl ?_
  refine og_icmpNo (pc' := 26) X0 hx (hb hby d6_23) (teq (by decide)).2 rfl ?_
  refine og_ldc2_w (pc' := 29) X0 hx (hb hby d6_26) hown (mvT hZ (hw _ (List.mem_of_getElem? (i := 35) rfl))) rfl ?_
  refine og_goto (pc' := 37) X0 hx (hb hby d6_29) (by decide) (by decide) ?_
  refine og_lstore (pc' := 39) (L' := #[.val (.ref o), .val (.long (128 : Int64)), .second, .val (.int (64 : Int32)), .val (.long x), .second, .val (.int (2 : Int32)), .val (.int (0 : Int32)), .val (.long (-1 : Int64)), .second, .unset]) X0 hx (hb hby d6_37) rfl rfl ?_
  refine og_aloadN (pc' := 40) X0 hx (hb hby d6_39) rfl rfl rfl ?_
  obtain ⟨T1, X1, e1, st1⟩ := getF X0 hx hZ hown (host := "") (Or.inl (hw _ (List.mem_of_getElem? (i := 25) rfl))) Via.refl e0 F_o (g := (mkF m 40 #[.val (.ref o), .val (.long (128 : Int64)), .second, .val (.int (64 : Int32)), .val (.long x), .second, .val (.int (2 : Int32)), .val (.int (0 : Int32)), .val (.long (-1 : Int64)), .second, .unset] [(.ref o)])) rfl rfl (hb hby d6_40)
  refine own_Go.of (g' := (mkF m 43 #[.val (.ref o), .val (.long (128 : Int64)), .second, .val (.int (64 : Int32)), .val (.long x), .second, .val (.int (2 : Int32)), .val (.int (0 : Int32)), .val (.long (-1 : Int64)), .second, .unset] [(.ref b)])) (fun t k => st1 _ k) ?_
  refine og_iload (pc' := 45) X1 hx (hb hby d6_43) rfl rfl ?_
  refine og_aloadN (pc' := 46) X1 hx (hb hby d6_45) rfl rfl rfl ?_
  obtain ⟨T2, X2, e2, st2⟩ := getF X1 hx hZ hown (host := "") (Or.inl (hw _ (List.mem_of_getElem? (i := 25) rfl))) Via.refl e1 F_o (g := (mkF m 46 #[.val (.ref o), .val (.long (128 : Int64)), .second, .val (.int (64 : Int32)), .val (.long x), .second, .val (.int (2 : Int32)), .val (.int (0 : Int32)), .val (.long (-1 : Int64)), .second, .unset] [(.ref o), (.int (2 : Int32)), (.ref b)])) rfl rfl (hb hby d6_46)
  refine own_Go.of (g' := (mkF m 49 #[.val (.ref o), .val (.long (128 : Int64)), .second, .val (.int (64 : Int32)), .val (.long x), .second, .val (.int (2 : Int32)), .val (.int (0 : Int32)), .val (.long (-1 : Int64)), .second, .unset] [(.ref b), (.int (2 : Int32)), (.ref b)])) (fun t k => st2 _ k) ?_
  refine og_iload (pc' := 51) X2 hx (hb hby d6_49) rfl rfl ?_
  obtain ⟨cl3, Ar3, q3, S3, M3, H3, G3⟩ := id V_b
  have hin3 : ¬ ((2 : Int32) < 0 ∨ cl3.slots.size ≤ ((2 : Int32)).toNatClampNeg) := inb_of S3 ⟨by decide, by decide⟩
  have hat3 : cl3.slots[((2 : Int32)).toNatClampNeg]? = some (.long w2) := Has.at H3 hin3 rfl
  refine own_Go.of (g' := (mkF m 52 #[.val (.ref o), .val (.long (128 : Int64)), .second, .val (.int (64 : Int32)), .val (.long x), .second, .val (.int (2 : Int32)), .val (.int (0 : Int32)), .val (.long (-1 : Int64)), .second, .unset] [(.long w2), (.int (2 : Int32)), (.ref b)])) (fun t k => X2.laload hx (j := (2 : Int32)) (v := (.long w2)) (by rw [e2]; exact Ar3.1) (State.isArrayOf_alike hZ.alike Ar3.2.1) Ar3.2.2 hin3 hat3 (g := (mkF m 51 #[.val (.ref o), .val (.long (128 : Int64)), .second, .val (.int (64 : Int32)), .val (.long x), .second, .val (.int (2 : Int32)), .val (.int (0 : Int32)), .val (.long (-1 : Int64)), .second, .unset] [(.int (2 : Int32)), (.ref b), (.int (2 : Int32)), (.ref b)])) rfl rfl (hb hby d6_51) _ k) ?_
  refine og_lload (pc' := 54) X2 hx (hb hby d6_52) rfl rfl ?_
  refine og_iload (pc' := 56) X2 hx (hb hby d6_54) rfl rfl ?_
  refine og_lshl (pc' := 57) X2 hx (hb hby d6_56) rfl ?_
  rw [show ((-1 : Int64) <<< ((0 : Int32) &&& 0x3f).toInt64) = (-1 : Int64) from by decide]
  refine og_ldc2_w (pc' := 60) X2 hx (hb hby d6_57) hown (mvT hZ (hw _ (List.mem_of_getElem? (i := 35) rfl))) rfl ?_
  refine og_lxor (pc' := 61) X2 hx (hb hby d6_60) rfl ?_
  rw [show ((-1 : Int64) ^^^ (-1 : Int64)) = (0 : Int64) from by decide]
  refine og_land (pc' := 62) X2 hx (hb hby d6_61) rfl ?_
  refine og_lload (pc' := 64) X2 hx (hb hby d6_62) rfl rfl ?_
  refine og_iload (pc' := 66) X2 hx (hb hby d6_64) rfl rfl ?_
  refine og_lshl (pc' := 67) X2 hx (hb hby d6_66) rfl ?_
  refine og_lor (pc' := 68) X2 hx (hb hby d6_67) rfl ?_
  rw [own_full w2 x]
  obtain ⟨cl4, Ar4, q4, S4, M4, H4, G4⟩ := id V_b
  have hin4 : ¬ ((2 : Int32) < 0 ∨ cl4.slots.size ≤ ((2 : Int32)).toNatClampNeg) := inb_of S4 ⟨by decide, by decide⟩
  obtain ⟨T4, h4, X4, e4, W4, st4⟩ := stJ X2 hx hZ e2 Ar4 (j := (2 : Int32)) hin4 (g := (mkF m 68 #[.val (.ref o), .val (.long (128 : Int64)), .second, .val (.int (64 : Int32)), .val (.long x), .second, .val (.int (2 : Int32)), .val (.int (0 : Int32)), .val (.long (-1 : Int64)), .second, .unset] [(.long x), (.int (2 : Int32)), (.ref b)])) rfl rfl (hb hby d6_68)
  have V4 : Arv Z h4 b k .long (3 : Int32) [(.long w0), (.long w1), (.long x)] (.long (0 : Int64)) := Arv.set Ar4 q4 S4 M4 H4 G4 rfl W4 2 rfl (Nat.le_of_ble_eq_true rfl)
  have f4_0 := E_o.wr W4
  have f4_1 := F_o.other W4 (Or.inl ne_ob)
  have K4 : Keep h0 h4 [b] := (Keep.refl h0 [b]).wr W4 (Or.inl (List.mem_of_getElem? (i := 0) rfl))
  have Z4 : n0 ≤ h4.size := Nat.le_trans Z0 K4.1
  have N4 := Fr.snoc X4 N0 g_b
  obtain ⟨J4, X4, N4⟩ := own_hide X4 N4
  refine own_Go.of (g' := (mkF m 69 #[.val (.ref o), .val (.long (128 : Int64)), .second, .val (.int (64 : Int32)), .val (.long x), .second, .val (.int (2 : Int32)), .val (.int (0 : Int32)), .val (.long (-1 : Int64)), .second, .unset] [])) (fun t k => st4 _ k) ?_
  refine og_iload (pc' := 71) X4 hx (hb hby d6_69) rfl rfl ?_
  refine og_iloadN (pc' := 72) X4 hx (hb hby d6_71) rfl rfl ?_
  refine og_iadd (pc' := 73) X4 hx (hb hby d6_72) rfl ?_
  rw [show ((0 : Int32) + (64 : Int32)) = (64 : Int32) from by decide]
  refine og_bipush (pc' := 75) (n := 64) X4 hx (hb hby d6_73) rfl rfl ?_
  refine og_icmpYes (pc' := 125) X4 hx (hb hby d6_75) (flt (by decide)).2.2.2 (by decide) (by decide) ?_
  obtain ⟨fs, hr, hrun, hended, hW, hsame⟩ := X4.leave (v := none) (fun _ => rfl) (BodyLoose.notSynchronized Bd)
  refine ⟨_, _, X4.returnOut hx Bd.returns (hb hby d6_125) hr, hrun, hended, none, _, rfl, ?_, ⟨_, rfl⟩, hW, hsame.mono (by decide) (by decide)⟩
  show Qput2 Z o x b k w0 w1 w2 h0 n0 _ T4.heap _
  rw [e4]
  exact ⟨rfl, N4, K4, f4_0, f4_1, V4⟩

theorem d6_4 : decode prog_1_method_9_code 4 = .ok (.return_, 1) := by decide +kernel
theorem d6_32 : decode prog_1_method_9_code 32 = .ok (.lconst 1, 1) := by decide +kernel
theorem d6_33 : decode prog_1_method_9_code 33 = .ok (.iload_n 3, 1) := by decide +kernel
theorem d6_34 : decode prog_1_method_9_code 34 = .ok (.lshl, 1) := by decide +kernel
theorem d6_35 : decode prog_1_method_9_code 35 = .ok (.lconst 1, 1) := by decide +kernel
theorem d6_36 : decode prog_1_method_9_code 36 = .ok (.lsub, 1) := by decide +kernel
theorem d6_78 : decode prog_1_method_9_code 78 = .ok (.iload 7, 2) := by decide +kernel
theorem d6_80 : decode prog_1_method_9_code 80 = .ok (.iload_n 3, 1) := by decide +kernel
theorem d6_81 : decode prog_1_method_9_code 81 = .ok (.iadd, 1) := by decide +kernel
theorem d6_82 : decode prog_1_method_9_code 82 = .ok (.bipush 64, 2) := by decide +kernel
theorem d6_84 : decode prog_1_method_9_code 84 = .ok (.isub, 1) := by decide +kernel
theorem d6_85 : decode prog_1_method_9_code 85 = .ok (.istore 10, 2) := by decide +kernel
theorem d6_87 : decode prog_1_method_9_code 87 = .ok (.aload_n 0, 1) := by decide +kernel
theorem d6_88 : decode prog_1_method_9_code 88 = .ok (.getfield 20, 3) := by decide +kernel
theorem d6_91 : decode prog_1_method_9_code 91 = .ok (.iload 6, 2) := by decide +kernel
theorem d6_93 : decode prog_1_method_9_code 93 = .ok (.iconst 1, 1) := by decide +kernel
theorem d6_94 : decode prog_1_method_9_code 94 = .ok (.iadd, 1) := by decide +kernel
theorem d6_95 : decode prog_1_method_9_code 95 = .ok (.aload_n 0, 1) := by decide +kernel
theorem d6_96 : decode prog_1_method_9_code 96 = .ok (.getfield 20, 3) := by decide +kernel
theorem d6_99 : decode prog_1_method_9_code 99 = .ok (.iload 6, 2) := by decide +kernel
theorem d6_101 : decode prog_1_method_9_code 101 = .ok (.iconst 1, 1) := by decide +kernel
theorem d6_102 : decode prog_1_method_9_code 102 = .ok (.iadd, 1) := by decide +kernel
theorem d6_103 : decode prog_1_method_9_code 103 = .ok (.laload, 1) := by decide +kernel
theorem d6_104 : decode prog_1_method_9_code 104 = .ok (.lconst 1, 1) := by decide +kernel
theorem d6_105 : decode prog_1_method_9_code 105 = .ok (.iload 10, 2) := by decide +kernel
theorem d6_107 : decode prog_1_method_9_code 107 = .ok (.lshl, 1) := by decide +kernel
theorem d6_108 : decode prog_1_method_9_code 108 = .ok (.lconst 1, 1) := by decide +kernel
theorem d6_109 : decode prog_1_method_9_code 109 = .ok (.lsub, 1) := by decide +kernel
theorem d6_110 : decode prog_1_method_9_code 110 = .ok (.ldc2_w 48, 3) := by decide +kernel
theorem d6_113 : decode prog_1_method_9_code 113 = .ok (.lxor, 1) := by decide +kernel
theorem d6_114 : decode prog_1_method_9_code 114 = .ok (.land, 1) := by decide +kernel
theorem d6_115 : decode prog_1_method_9_code 115 = .ok (.lload 4, 2) := by decide +kernel
theorem d6_117 : decode prog_1_method_9_code 117 = .ok (.bipush 64, 2) := by decide +kernel
theorem d6_119 : decode prog_1_method_9_code 119 = .ok (.iload 7, 2) := by decide +kernel
theorem d6_121 : decode prog_1_method_9_code 121 = .ok (.isub, 1) := by decide +kernel
theorem d6_122 : decode prog_1_method_9_code 122 = .ok (.lushr, 1) := by decide +kernel
theorem d6_123 : decode prog_1_method_9_code 123 = .ok (.lor, 1) := by decide +kernel
theorem d6_124 : decode prog_1_method_9_code 124 = .ok (.lastore, 1) := by decide +kernel
theorem pnput : plainName "com/example/paranhos/paranhos/BitArray" = true := by first | (simp [plainName, overriddenIn]; done) | decide +kernel
theorem efput (m : MethodId) (z0 : Addr) (z1 : Int64) (z2 : Int32) (z3 : Int64) : entryFrame m #[(.ref z0), (.long z1), (.int z2), (.long z3)] 11 = mkF m 0 #[.val (.ref z0), .val (.long z1), .second, .val (.int z2), .val (.long z3), .second, .unset, .unset, .unset, .unset, .unset] [] := by first | (simp [entryFrame, mkF, argsToLocals, Value.category]; done) | rfl
def Qput (Z : State) (o : Addr) (bt : Int64) (ln : Int32) (x : Int64) (b : Addr) (k : ClassId) (w0 : Int64) (w1 : Int64) (w2 : Int64) (h0 : Heap) (n0 : Nat) (v : Option Value) (h : Heap) (L : List Loc) : Prop := v = none ∧ Fr n0 L ∧ Keep h0 h [b] ∧ Exa Z h o "com/example/paranhos/paranhos/BitArray" ∧ Fld Z h o "com/example/paranhos/paranhos/BitArray" "words" "[J" (.ref b) ∧ Arv Z h b k .long (3 : Int32) [(.long (own_pw0 bt ln x w0 w1 w2)), (.long (own_pw1 bt ln x w0 w1 w2)), (.long (own_pw2 bt ln x w0 w1 w2))] (.long (0 : Int64))
set_option maxRecDepth 65536 in
set_option maxHeartbeats 40000000 in
theorem rmput (l : Launch) (Z : State) (a0 : Array Value) (hw : ∀ d ∈ tables_1, d.before a0 Z = true) (ws : List Jvm.Cond) (o : Addr) (bt : Int64) (ln : Int32) (x : Int64) (b : Addr) (k : ClassId) (w0 : Int64) (w1 : Int64) (w2 : Int64) (h0 : Heap) (n0 : Nat) (Z0 : n0 ≤ h0.size) (E_o : Exa Z h0 o "com/example/paranhos/paranhos/BitArray") (F_o : Fld Z h0 o "com/example/paranhos/paranhos/BitArray" "words" "[J" (.ref b)) (V_b : Arv Z h0 b k .long (3 : Int32) [(.long w0), (.long w1), (.long w2)] (.long (0 : Int64))) (g_b : n0 ≤ b) (ne_ob : o ≠ b) (hok : own_ok bt ln) :
    MetFree l (⟨"com/example/paranhos/paranhos/BitArray", "put", "(JIJ)V"⟩ : MethodName) (head1 (Jvm.Cond.code (⟨"com/example/paranhos/paranhos/BitArray", "put", "(JIJ)V"⟩ : MethodName) prog_1_method_9_code 11 none :: ws) ({ frames := 0, cells := 0, slots := 0, locals := 0 } : Room)) (fun a U => a = #[(.ref o), (.long bt), (.int ln), (.long x)] ∧ Z.Warmed39 U.vm ∧ U.heap = h0) (fun _ _ _ _ _ => True) (fun _ U oc U' => ∃ v L, oc = .returned v ∧ Qput Z o bt ln x b k w0 w1 w2 h0 n0 v U'.heap L ∧ FrameEnd U oc U' L ({ frames := 0, cells := 0, slots := 0, locals := 0 } : Room).cells ({ frames := 0, cells := 0, slots := 0, locals := 0 } : Room).slots) := by
  refine MetFree.of_bodySF (plainFor_of_name pnput) hisR ?_
  intro p e s m args below meth c s₁ Bd hml0 hP hK
  obtain ⟨rfl, hZ, hh⟩ := hP
  have hx := Bd.exec
  have hby := Bd.bytes
  have hml : c.maxLocals = 11 := hml0
  have hown : s.vm.findClass "com/example/paranhos/paranhos/BitArray" = some m.cls := findClass_of_methodNamed Bd.named
  have hnm := (name_of_methodNamed Bd.named Bd.method).1
  have X0 : Stand p l e ({ frames := 0, cells := 0, slots := 0, locals := 0 } : Room) s m #[(.ref o), (.long bt), (.int ln), (.long x)] below meth c s₁ [] 0 0 := Stand.of_body Bd
  have e0 : s₁.heap = h0 := by rw [← hh, Bd.state]; rfl
  have N0 := Fr.nil n0
  show own_Go p e below (fun s₂ oc => ∃ v L, oc = .returned v ∧ Qput Z o bt ln x b k w0 w1 w2 h0 n0 v s₂.heap L ∧ FrameEnd s oc s₂ L ({ frames := 0, cells := 0, slots := 0, locals := 0 } : Room).cells ({ frames := 0, cells := 0, slots := 0, locals := 0 } : Room).slots) s₁ (entryFrame m #[(.ref o), (.long bt), (.int ln), (.long x)] 11)
  refine own_Go.of (g' := mkF m 0 #[.val (.ref o), .val (.long bt), .second, .val (.int ln), .val (.long x), .second, .unset, .unset, .unset, .unset, .unset] []) (fun t k => castTop (efput m o bt ln x) k) ?_
  refine og_iloadN (pc' := 1) X0 hx (hb hby d6_0) rfl rfl ?_
  by_cases hc1_1 : ln = (0 : Int32)
  · refine og_ifNo (pc' := 4) X0 hx (hb hby d6_1) ((if0 _ _).trans (teq hc1_1).2) rfl ?_
    obtain ⟨fs, hr, hrun, hended, hW, hsame⟩ := X0.leave (v := none) (fun _ => rfl) (BodyLoose.notSynchronized Bd)
    refine ⟨_, _, X0.returnOut hx Bd.returns (hb hby d6_4) hr, hrun, hended, none, _, rfl, ?_, ⟨_, rfl⟩, hW, hsame.mono (by decide) (by decide)⟩
    show Qput Z o bt ln x b k w0 w1 w2 h0 n0 _ s₁.heap _
    rw [e0]
    exact ⟨rfl, N0, (Keep.refl h0 [b]), E_o, F_o, (by have q := V_b; simpa only [own_pw0, own_pw1, own_pw2, own_A, own_B, if_pos hc1_1] using q)⟩
  · refine og_ifYes (pc' := 5) X0 hx (hb hby d6_1) ((if0 _ _).trans (feq hc1_1).2) (by decide) (by decide) ?_
    refine og_lloadN (pc' := 6) X0 hx (hb hby d6_5) rfl rfl ?_
    refine og_bipush (pc' := 8) (n := 6) X0 hx (hb hby d6_6) rfl rfl ?_
    refine og_lushr (pc' := 9) X0 hx (hb hby d6_8) rfl ?_
    refine own_Go.of (g' := (mkF m 10 #[.val (.ref o), .val (.long bt), .second, .val (.int ln), .val (.long x), .second, .unset, .unset, .unset, .unset, .unset] [(.int (own_ix bt))])) (fun t k => XS.l2i X0.here hx rfl (hb hby d6_9) rfl k) ?_
    refine og_istore (pc' := 12) (L' := #[.val (.ref o), .val (.long bt), .second, .val (.int ln), .val (.long x), .second, .val (.int (own_ix bt)), .unset, .unset, .unset, .unset]) X0 hx (hb hby d6_10) rfl rfl ?_
    refine og_lloadN (pc' := 13) X0 hx (hb hby d6_12) rfl rfl ?_
    refine og_ldc2_w (pc' := 16) X0 hx (hb hby d6_13) hown (mvT hZ (hw _ (List.mem_of_getElem? (i := 34) rfl))) rfl ?_
    refine og_land (pc' := 17) X0 hx (hb hby d6_16) rfl ?_
    refine own_Go.of (g' := (mkF m 18 #[.val (.ref o), .val (.long bt), .second, .val (.int ln), .val (.long x), .second, .val (.int (own_ix bt)), .unset, .unset, .unset, .unset] [(.int (own_of bt))])) (fun t k => XS.l2i X0.here hx rfl (hb hby d6_17) rfl k) ?_
    refine og_istore (pc' := 20) (L' := #[.val (.ref o), .val (.long bt), .second, .val (.int ln), .val (.long x), .second, .val (.int (own_ix bt)), .val (.int (own_of bt)), .unset, .unset, .unset]) X0 hx (hb hby d6_18) rfl rfl ?_
    refine og_iloadN (pc' := 21) X0 hx (hb hby d6_20) rfl rfl ?_
    refine og_bipush (pc' := 23) (n := 64) X0 hx (hb hby d6_21) rfl rfl ?_
    refine own_via (A := own_Go p e below (fun s₂ oc => ∃ v L, oc = .returned v ∧ Qput Z o bt ln x b k w0 w1 w2 h0 n0 v s₂.heap L ∧ FrameEnd s oc s₂ L ({ frames := 0, cells := 0, slots := 0, locals := 0 } : Room).cells ({ frames := 0, cells := 0, slots := 0, locals := 0 } : Room).slots) s₁ (mkF m 37 #[.val (.ref o), .val (.long bt), .second, .val (.int ln), .val (.long x), .second, .val (.int (own_ix bt)), .val (.int (own_of bt)), .unset, .unset, .unset] [(.long (if ln = (64 : Int32) then (-1 : Int64) else (((1 : Int64) <<< (ln &&& 0x3f).toInt64) - (1 : Int64))))])) (fun k => ?_) ?_
    · by_cases hc23_2 : ln = (64 : Int32)
      · refine og_icmpNo (pc' := 26) X0 hx (hb hby d6_23) (teq hc23_2).2 rfl ?_
        refine og_ldc2_w (pc' := 29) X0 hx (hb hby d6_26) hown (mvT hZ (hw _ (List.mem_of_getElem? (i := 35) rfl))) rfl ?_
        refine og_goto (pc' := 37) X0 hx (hb hby d6_29) (by decide) (by decide) ?_
        simp only [if_pos hc23_2] at k
        exact k
      · refine og_icmpYes (pc' := 32) X0 hx (hb hby d6_23) (feq hc23_2).2 (by decide) (by decide) ?_
        refine og_lconst1 (pc' := 33) X0 hx (hb hby d6_32) rfl ?_
        refine og_iloadN (pc' := 34) X0 hx (hb hby d6_33) rfl rfl ?_
        refine og_lshl (pc' := 35) X0 hx (hb hby d6_34) rfl ?_
        refine og_lconst1 (pc' := 36) X0 hx (hb hby d6_35) rfl ?_
        refine og_lsub (pc' := 37) X0 hx (hb hby d6_36) rfl ?_
        simp only [if_neg hc23_2] at k
        exact k
    refine own_Go.of (g' := (mkF m 39 #[.val (.ref o), .val (.long bt), .second, .val (.int ln), .val (.long x), .second, .val (.int (own_ix bt)), .val (.int (own_of bt)), .val (.long (own_mk ln)), .second, .unset] [])) (fun t k => XS.lstore X0.here hx rfl (hb hby d6_37) rfl (l' := #[.val (.ref o), .val (.long bt), .second, .val (.int ln), .val (.long x), .second, .val (.int (own_ix bt)), .val (.int (own_of bt)), .val (.long (own_mk ln)), .second, .unset]) rfl k) ?_
    refine og_aloadN (pc' := 40) X0 hx (hb hby d6_39) rfl rfl rfl ?_
    obtain ⟨T1, X1, e1, st1⟩ := getF X0 hx hZ hown (host := "") (Or.inl (hw _ (List.mem_of_getElem? (i := 25) rfl))) Via.refl e0 F_o (g := (mkF m 40 #[.val (.ref o), .val (.long bt), .second, .val (.int ln), .val (.long x), .second, .val (.int (own_ix bt)), .val (.int (own_of bt)), .val (.long (own_mk ln)), .second, .unset] [(.ref o)])) rfl rfl (hb hby d6_40)
    refine own_Go.of (g' := (mkF m 43 #[.val (.ref o), .val (.long bt), .second, .val (.int ln), .val (.long x), .second, .val (.int (own_ix bt)), .val (.int (own_of bt)), .val (.long (own_mk ln)), .second, .unset] [(.ref b)])) (fun t k => st1 _ k) ?_
    refine og_iload (pc' := 45) X1 hx (hb hby d6_43) rfl rfl ?_
    refine og_aloadN (pc' := 46) X1 hx (hb hby d6_45) rfl rfl rfl ?_
    obtain ⟨T2, X2, e2, st2⟩ := getF X1 hx hZ hown (host := "") (Or.inl (hw _ (List.mem_of_getElem? (i := 25) rfl))) Via.refl e1 F_o (g := (mkF m 46 #[.val (.ref o), .val (.long bt), .second, .val (.int ln), .val (.long x), .second, .val (.int (own_ix bt)), .val (.int (own_of bt)), .val (.long (own_mk ln)), .second, .unset] [(.ref o), (.int (own_ix bt)), (.ref b)])) rfl rfl (hb hby d6_46)
    refine own_Go.of (g' := (mkF m 49 #[.val (.ref o), .val (.long bt), .second, .val (.int ln), .val (.long x), .second, .val (.int (own_ix bt)), .val (.int (own_of bt)), .val (.long (own_mk ln)), .second, .unset] [(.ref b), (.int (own_ix bt)), (.ref b)])) (fun t k => st2 _ k) ?_
    refine og_iload (pc' := 51) X2 hx (hb hby d6_49) rfl rfl ?_
    obtain ⟨cl3, Ar3, q3, S3, M3, H3, G3⟩ := id V_b
    have hin3 : ¬ ((own_ix bt) < 0 ∨ cl3.slots.size ≤ ((own_ix bt)).toNatClampNeg) := inb_of S3 (own_in0 hok hc1_1)
    have hat3 : cl3.slots[((own_ix bt)).toNatClampNeg]? = some (.long (own_sel (own_ix bt) w0 w1 w2)) := Has.at H3 hin3 (own_getD3 (own_in0 hok hc1_1))
    refine own_Go.of (g' := (mkF m 52 #[.val (.ref o), .val (.long bt), .second, .val (.int ln), .val (.long x), .second, .val (.int (own_ix bt)), .val (.int (own_of bt)), .val (.long (own_mk ln)), .second, .unset] [(.long (own_sel (own_ix bt) w0 w1 w2)), (.int (own_ix bt)), (.ref b)])) (fun t k => X2.laload hx (j := (own_ix bt)) (v := (.long (own_sel (own_ix bt) w0 w1 w2))) (by rw [e2]; exact Ar3.1) (State.isArrayOf_alike hZ.alike Ar3.2.1) Ar3.2.2 hin3 hat3 (g := (mkF m 51 #[.val (.ref o), .val (.long bt), .second, .val (.int ln), .val (.long x), .second, .val (.int (own_ix bt)), .val (.int (own_of bt)), .val (.long (own_mk ln)), .second, .unset] [(.int (own_ix bt)), (.ref b), (.int (own_ix bt)), (.ref b)])) rfl rfl (hb hby d6_51) _ k) ?_
    refine og_lload (pc' := 54) X2 hx (hb hby d6_52) rfl rfl ?_
    refine og_iload (pc' := 56) X2 hx (hb hby d6_54) rfl rfl ?_
    refine og_lshl (pc' := 57) X2 hx (hb hby d6_56) rfl ?_
    refine og_ldc2_w (pc' := 60) X2 hx (hb hby d6_57) hown (mvT hZ (hw _ (List.mem_of_getElem? (i := 35) rfl))) rfl ?_
    refine og_lxor (pc' := 61) X2 hx (hb hby d6_60) rfl ?_
    refine og_land (pc' := 62) X2 hx (hb hby d6_61) rfl ?_
    refine og_lload (pc' := 64) X2 hx (hb hby d6_62) rfl rfl ?_
    refine og_iload (pc' := 66) X2 hx (hb hby d6_64) rfl rfl ?_
    refine og_lshl (pc' := 67) X2 hx (hb hby d6_66) rfl ?_
    refine own_Go.of (g' := (mkF m 68 #[.val (.ref o), .val (.long bt), .second, .val (.int ln), .val (.long x), .second, .val (.int (own_ix bt)), .val (.int (own_of bt)), .val (.long (own_mk ln)), .second, .unset] [(.long (own_X1 bt ln x (own_sel (own_ix bt) w0 w1 w2))), (.int (own_ix bt)), (.ref b)])) (fun t k => XS.lor X2.here hx rfl (hb hby d6_67) rfl k) ?_
    obtain ⟨cl4, Ar4, q4, S4, M4, H4, G4⟩ := id V_b
    have hin4 : ¬ ((own_ix bt) < 0 ∨ cl4.slots.size ≤ ((own_ix bt)).toNatClampNeg) := inb_of S4 (own_in0 hok hc1_1)
    obtain ⟨T4, h4, X4, e4, W4, st4⟩ := stJ X2 hx hZ e2 Ar4 (j := (own_ix bt)) hin4 (g := (mkF m 68 #[.val (.ref o), .val (.long bt), .second, .val (.int ln), .val (.long x), .second, .val (.int (own_ix bt)), .val (.int (own_of bt)), .val (.long (own_mk ln)), .second, .unset] [(.long (own_X1 bt ln x (own_sel (own_ix bt) w0 w1 w2))), (.int (own_ix bt)), (.ref b)])) rfl rfl (hb hby d6_68)
    have V4 : Arv Z h4 b k .long (3 : Int32) [(.long (own_up (own_ix bt) (0 : Int32) w0 (own_X1 bt ln x (own_sel (own_ix bt) w0 w1 w2)))), (.long (own_up (own_ix bt) (1 : Int32) w1 (own_X1 bt ln x (own_sel (own_ix bt) w0 w1 w2)))), (.long (own_up (own_ix bt) (2 : Int32) w2 (own_X1 bt ln x (own_sel (own_ix bt) w0 w1 w2))))] (.long (0 : Int64)) := own_set3 (own_in0 hok hc1_1) ▸ Arv.set Ar4 q4 S4 M4 H4 G4 rfl W4 _ rfl (own_lt3 (own_in0 hok hc1_1))
    have f4_0 := E_o.wr W4
    have f4_1 := F_o.other W4 (Or.inl ne_ob)
    have K4 : Keep h0 h4 [b] := (Keep.refl h0 [b]).wr W4 (Or.inl (List.mem_of_getElem? (i := 0) rfl))
    have Z4 : n0 ≤ h4.size := Nat.le_trans Z0 K4.1
    have N4 := Fr.snoc X4 N0 g_b
    obtain ⟨J4, X4, N4⟩ := own_hide X4 N4
    refine own_Go.of (g' := (mkF m 69 #[.val (.ref o), .val (.long bt), .second, .val (.int ln), .val (.long x), .second, .val (.int (own_ix bt)), .val (.int (own_of bt)), .val (.long (own_mk ln)), .second, .unset] [])) (fun t k => st4 _ k) ?_
    refine og_iload (pc' := 71) X4 hx (hb hby d6_69) rfl rfl ?_
    refine og_iloadN (pc' := 72) X4 hx (hb hby d6_71) rfl rfl ?_
    refine og_iadd (pc' := 73) X4 hx (hb hby d6_72) rfl ?_
    refine og_bipush (pc' := 75) (n := 64) X4 hx (hb hby d6_73) rfl rfl ?_
    by_cases hc75_3 : (64 : Int32) < ((own_of bt) + ln)
    · refine og_icmpNo (pc' := 78) X4 hx (hb hby d6_75) (tlt hc75_3).2.2.2 rfl ?_
      refine og_iload (pc' := 80) X4 hx (hb hby d6_78) rfl rfl ?_
      refine og_iloadN (pc' := 81) X4 hx (hb hby d6_80) rfl rfl ?_
      refine og_iadd (pc' := 82) X4 hx (hb hby d6_81) rfl ?_
      refine og_bipush (pc' := 84) (n := 64) X4 hx (hb hby d6_82) rfl rfl ?_
      refine og_isub (pc' := 85) X4 hx (hb hby d6_84) rfl ?_
      refine og_istore (pc' := 87) (L' := #[.val (.ref o), .val (.long bt), .second, .val (.int ln), .val (.long x), .second, .val (.int (own_ix bt)), .val (.int (own_of bt)), .val (.long (own_mk ln)), .second, .val (.int (((own_of bt) + ln) - (64 : Int32)))]) X4 hx (hb hby d6_85) rfl rfl ?_
      refine og_aloadN (pc' := 88) X4 hx (hb hby d6_87) rfl rfl rfl ?_
      obtain ⟨T5, X5, e5, st5⟩ := getF X4 hx hZ hown (host := "") (Or.inl (hw _ (List.mem_of_getElem? (i := 25) rfl))) Via.refl e4 f4_1 (g := (mkF m 88 #[.val (.ref o), .val (.long bt), .second, .val (.int ln), .val (.long x), .second, .val (.int (own_ix bt)), .val (.int (own_of bt)), .val (.long (own_mk ln)), .second, .val (.int (((own_of bt) + ln) - (64 : Int32)))] [(.ref o)])) rfl rfl (hb hby d6_88)
      refine own_Go.of (g' := (mkF m 91 #[.val (.ref o), .val (.long bt), .second, .val (.int ln), .val (.long x), .second, .val (.int (own_ix bt)), .val (.int (own_of bt)), .val (.long (own_mk ln)), .second, .val (.int (((own_of bt) + ln) - (64 : Int32)))] [(.ref b)])) (fun t k => st5 _ k) ?_
      refine og_iload (pc' := 93) X5 hx (hb hby d6_91) rfl rfl ?_
      refine og_iconst (pc' := 94) (n := 1) X5 hx (hb hby d6_93) rfl rfl ?_
      refine og_iadd (pc' := 95) X5 hx (hb hby d6_94) rfl ?_
      refine og_aloadN (pc' := 96) X5 hx (hb hby d6_95) rfl rfl rfl ?_
      obtain ⟨T6, X6, e6, st6⟩ := getF X5 hx hZ hown (host := "") (Or.inl (hw _ (List.mem_of_getElem? (i := 25) rfl))) Via.refl e5 f4_1 (g := (mkF m 96 #[.val (.ref o), .val (.long bt), .second, .val (.int ln), .val (.long x), .second, .val (.int (own_ix bt)), .val (.int (own_of bt)), .val (.long (own_mk ln)), .second, .val (.int (((own_of bt) + ln) - (64 : Int32)))] [(.ref o), (.int ((own_ix bt) + (1 : Int32))), (.ref b)])) rfl rfl (hb hby d6_96)
      refine own_Go.of (g' := (mkF m 99 #[.val (.ref o), .val (.long bt), .second, .val (.int ln), .val (.long x), .second, .val (.int (own_ix bt)), .val (.int (own_of bt)), .val (.long (own_mk ln)), .second, .val (.int (((own_of bt) + ln) - (64 : Int32)))] [(.ref b), (.int ((own_ix bt) + (1 : Int32))), (.ref b)])) (fun t k => st6 _ k) ?_
      refine og_iload (pc' := 101) X6 hx (hb hby d6_99) rfl rfl ?_
      refine og_iconst (pc' := 102) (n := 1) X6 hx (hb hby d6_101) rfl rfl ?_
      refine og_iadd (pc' := 103) X6 hx (hb hby d6_102) rfl ?_
      obtain ⟨cl7, Ar7, q7, S7, M7, H7, G7⟩ := id V4
      have hin7 : ¬ (((own_ix bt) + (1 : Int32)) < 0 ∨ cl7.slots.size ≤ (((own_ix bt) + (1 : Int32))).toNatClampNeg) := inb_of S7 (own_in1 hok hc75_3)
      have hat7 : cl7.slots[(((own_ix bt) + (1 : Int32))).toNatClampNeg]? = some (.long (own_sel ((own_ix bt) + (1 : Int32)) (own_up (own_ix bt) (0 : Int32) w0 (own_X1 bt ln x (own_sel (own_ix bt) w0 w1 w2))) (own_up (own_ix bt) (1 : Int32) w1 (own_X1 bt ln x (own_sel (own_ix bt) w0 w1 w2))) (own_up (own_ix bt) (2 : Int32) w2 (own_X1 bt ln x (own_sel (own_ix bt) w0 w1 w2))))) := Has.at H7 hin7 (own_getD3 (own_in1 hok hc75_3))
      refine own_Go.of (g' := (mkF m 104 #[.val (.ref o), .val (.long bt), .second, .val (.int ln), .val (.long x), .second, .val (.int (own_ix bt)), .val (.int (own_of bt)), .val (.long (own_mk ln)), .second, .val (.int (((own_of bt) + ln) - (64 : Int32)))] [(.long (own_sel ((own_ix bt) + (1 : Int32)) (own_up (own_ix bt) (0 : Int32) w0 (own_X1 bt ln x (own_sel (own_ix bt) w0 w1 w2))) (own_up (own_ix bt) (1 : Int32) w1 (own_X1 bt ln x (own_sel (own_ix bt) w0 w1 w2))) (own_up (own_ix bt) (2 : Int32) w2 (own_X1 bt ln x (own_sel (own_ix bt) w0 w1 w2))))), (.int ((own_ix bt) + (1 : Int32))), (.ref b)])) (fun t k => X6.laload hx (j := ((own_ix bt) + (1 : Int32))) (v := (.long (own_sel ((own_ix bt) + (1 : Int32)) (own_up (own_ix bt) (0 : Int32) w0 (own_X1 bt ln x (own_sel (own_ix bt) w0 w1 w2))) (own_up (own_ix bt) (1 : Int32) w1 (own_X1 bt ln x (own_sel (own_ix bt) w0 w1 w2))) (own_up (own_ix bt) (2 : Int32) w2 (own_X1 bt ln x (own_sel (own_ix bt) w0 w1 w2)))))) (by rw [e6]; exact Ar7.1) (State.isArrayOf_alike hZ.alike Ar7.2.1) Ar7.2.2 hin7 hat7 (g := (mkF m 103 #[.val (.ref o), .val (.long bt), .second, .val (.int ln), .val (.long x), .second, .val (.int (own_ix bt)), .val (.int (own_of bt)), .val (.long (own_mk ln)), .second, .val (.int (((own_of bt) + ln) - (64 : Int32)))] [(.int ((own_ix bt) + (1 : Int32))), (.ref b), (.int ((own_ix bt) + (1 : Int32))), (.ref b)])) rfl rfl (hb hby d6_103) _ k) ?_
      refine og_lconst1 (pc' := 105) X6 hx (hb hby d6_104) rfl ?_
      refine og_iload (pc' := 107) X6 hx (hb hby d6_105) rfl rfl ?_
      refine og_lshl (pc' := 108) X6 hx (hb hby d6_107) rfl ?_
      refine og_lconst1 (pc' := 109) X6 hx (hb hby d6_108) rfl ?_
      refine og_lsub (pc' := 110) X6 hx (hb hby d6_109) rfl ?_
      refine og_ldc2_w (pc' := 113) X6 hx (hb hby d6_110) hown (mvT hZ (hw _ (List.mem_of_getElem? (i := 35) rfl))) rfl ?_
      refine og_lxor (pc' := 114) X6 hx (hb hby d6_113) rfl ?_
      refine og_land (pc' := 115) X6 hx (hb hby d6_114) rfl ?_
      refine og_lload (pc' := 117) X6 hx (hb hby d6_115) rfl rfl ?_
      refine og_bipush (pc' := 119) (n := 64) X6 hx (hb hby d6_117) rfl rfl ?_
      refine og_iload (pc' := 121) X6 hx (hb hby d6_119) rfl rfl ?_
      refine og_isub (pc' := 122) X6 hx (hb hby d6_121) rfl ?_
      refine og_lushr (pc' := 123) X6 hx (hb hby d6_122) rfl ?_
      refine own_Go.of (g' := (mkF m 124 #[.val (.ref o), .val (.long bt), .second, .val (.int ln), .val (.long x), .second, .val (.int (own_ix bt)), .val (.int (own_of bt)), .val (.long (own_mk ln)), .second, .val (.int (((own_of bt) + ln) - (64 : Int32)))] [(.long (own_X2 bt ln x (own_sel ((own_ix bt) + (1 : Int32)) (own_up (own_ix bt) (0 : Int32) w0 (own_X1 bt ln x (own_sel (own_ix bt) w0 w1 w2))) (own_up (own_ix bt) (1 : Int32) w1 (own_X1 bt ln x (own_sel (own_ix bt) w0 w1 w2))) (own_up (own_ix bt) (2 : Int32) w2 (own_X1 bt ln x (own_sel (own_ix bt) w0 w1 w2)))))), (.int ((own_ix bt) + (1 : Int32))), (.ref b)])) (fun t k => XS.lor X6.here hx rfl (hb hby d6_123) rfl k) ?_
      obtain ⟨cl8, Ar8, q8, S8, M8, H8, G8⟩ := id V4
      have hin8 : ¬ (((own_ix bt) + (1 : Int32)) < 0 ∨ cl8.slots.size ≤ (((own_ix bt) + (1 : Int32))).toNatClampNeg) := inb_of S8 (own_in1 hok hc75_3)
      obtain ⟨T8, h8, X8, e8, W8, st8⟩ := stJ X6 hx hZ e6 Ar8 (j := ((own_ix bt) + (1 : Int32))) hin8 (g := (mkF m 124 #[.val (.ref o), .val (.long bt), .second, .val (.int ln), .val (.long x), .second, .val (.int (own_ix bt)), .val (.int (own_of bt)), .val (.long (own_mk ln)), .second, .val (.int (((own_of bt) + ln) - (64 : Int32)))] [(.long (own_X2 bt ln x (own_sel ((own_ix bt) + (1 : Int32)) (own_up (own_ix bt) (0 : Int32) w0 (own_X1 bt ln x (own_sel (own_ix bt) w0 w1 w2))) (own_up (own_ix bt) (1 : Int32) w1 (own_X1 bt ln x (own_sel (own_ix bt) w0 w1 w2))) (own_up (own_ix bt) (2 : Int32) w2 (own_X1 bt ln x (own_sel (own_ix bt) w0 w1 w2)))))), (.int ((own_ix bt) + (1 : Int32))), (.ref b)])) rfl rfl (hb hby d6_124)
      have V8 : Arv Z h8 b k .long (3 : Int32) [(.long (own_up ((own_ix bt) + (1 : Int32)) (0 : Int32) (own_up (own_ix bt) (0 : Int32) w0 (own_X1 bt ln x (own_sel (own_ix bt) w0 w1 w2))) (own_X2 bt ln x (own_sel ((own_ix bt) + (1 : Int32)) (own_up (own_ix bt) (0 : Int32) w0 (own_X1 bt ln x (own_sel (own_ix bt) w0 w1 w2))) (own_up (own_ix bt) (1 : Int32) w1 (own_X1 bt ln x (own_sel (own_ix bt) w0 w1 w2))) (own_up (own_ix bt) (2 : Int32) w2 (own_X1 bt ln x (own_sel (own_ix bt) w0 w1 w2))))))), (.long (own_up ((own_ix bt) + (1 : Int32)) (1 : Int32) (own_up (own_ix bt) (1 : Int32) w1 (own_X1 bt ln x (own_sel (own_ix bt) w0 w1 w2))) (own_X2 bt ln x (own_sel ((own_ix bt) + (1 : Int32)) (own_up (own_ix bt) (0 : Int32) w0 (own_X1 bt ln x (own_sel (own_ix bt) w0 w1 w2))) (own_up (own_ix bt) (1 : Int32) w1 (own_X1 bt ln x (own_sel (own_ix bt) w0 w1 w2))) (own_up (own_ix bt) (2 : Int32) w2 (own_X1 bt ln x (own_sel (own_ix bt) w0 w1 w2))))))), (.long (own_up ((own_ix bt) + (1 : Int32)) (2 : Int32) (own_up (own_ix bt) (2 : Int32) w2 (own_X1 bt ln x (own_sel (own_ix bt) w0 w1 w2))) (own_X2 bt ln x (own_sel ((own_ix bt) + (1 : Int32)) (own_up (own_ix bt) (0 : Int32) w0 (own_X1 bt ln x (own_sel (own_ix bt) w0 w1 w2))) (own_up (own_ix bt) (1 : Int32) w1 (own_X1 bt ln x (own_sel (own_ix bt) w0 w1 w2))) (own_up (own_ix bt) (2 : Int32) w2 (own_X1 bt ln x (own_sel (own_ix bt) w0 w1 w2)))))))] (.long (0 : Int64)) := own_set3 (own_in1 hok hc75_3) ▸ Arv.set Ar8 q8 S8 M8 H8 G8 rfl W8 _ rfl (own_lt3 (own_in1 hok hc75_3))
      have f8_0 := f4_0.wr W8
      have f8_1 := f4_1.other W8 (Or.inl ne_ob)
      have K8 : Keep h0 h8 [b] := K4.wr W8 (Or.inl (List.mem_of_getElem? (i := 0) rfl))
      have Z8 : n0 ≤ h8.size := Nat.le_trans Z0 K8.1
      have N8 := Fr.snoc X8 N4 g_b
      obtain ⟨J8, X8, N8⟩ := own_hide X8 N8
      refine own_Go.of (g' := (mkF m 125 #[.val (.ref o), .val (.long bt), .second, .val (.int ln), .val (.long x), .second, .val (.int (own_ix bt)), .val (.int (own_of bt)), .val (.long (own_mk ln)), .second, .val (.int (((own_of bt) + ln) - (64 : Int32)))] [])) (fun t k => st8 _ k) ?_
      obtain ⟨fs, hr, hrun, hended, hW, hsame⟩ := X8.leave (v := none) (fun _ => rfl) (BodyLoose.notSynchronized Bd)
      refine ⟨_, _, X8.returnOut hx Bd.returns (hb hby d6_125) hr, hrun, hended, none, _, rfl, ?_, ⟨_, rfl⟩, hW, hsame.mono (by decide) (by decide)⟩
      show Qput Z o bt ln x b k w0 w1 w2 h0 n0 _ T8.heap _
      rw [e8]
      exact ⟨rfl, N8, K8, f8_0, f8_1, (by have q := V8; simpa only [own_pw0, own_pw1, own_pw2, own_A, own_B, if_neg hc1_1, if_pos hc75_3] using q)⟩
    · refine og_icmpYes (pc' := 125) X4 hx (hb hby d6_75) (flt hc75_3).2.2.2 (by decide) (by decide) ?_
      obtain ⟨fs, hr, hrun, hended, hW, hsame⟩ := X4.leave (v := none) (fun _ => rfl) (BodyLoose.notSynchronized Bd)
      refine ⟨_, _, X4.returnOut hx Bd.returns (hb hby d6_125) hr, hrun, hended, none, _, rfl, ?_, ⟨_, rfl⟩, hW, hsame.mono (by decide) (by decide)⟩
      show Qput Z o bt ln x b k w0 w1 w2 h0 n0 _ T4.heap _
      rw [e4]
      exact ⟨rfl, N4, K4, f4_0, f4_1, (by have q := V4; simpa only [own_pw0, own_pw1, own_pw2, own_A, own_B, if_neg hc1_1, if_neg hc75_3] using q)⟩

def own_get_62 (bt : Int64) (ln : Int32) (w0 : Int64) (w1 : Int64) (w2 : Int64) (i4 : Int32) (i5 : Int32) (j6 : Int64) : Int64 := (if ln = (64 : Int32) then j6 else (j6 &&& (((1 : Int64) <<< (ln &&& 0x3f).toInt64) - (1 : Int64))))
def own_get (bt : Int64) (ln : Int32) (w0 : Int64) (w1 : Int64) (w2 : Int64) : Int64 := (if ln = (0 : Int32) then (0 : Int64) else (if (64 : Int32) < ((own_of bt) + ln) then (own_get_62 bt ln w0 w1 w2 (own_ix bt) (own_of bt) ((((own_sel (own_ix bt) w0 w1 w2).toUInt64 >>> ((own_of bt) &&& 0x3f).toInt64.toUInt64).toInt64) ||| ((own_sel ((own_ix bt) + (1 : Int32)) w0 w1 w2) <<< (((64 : Int32) - (own_of bt)) &&& 0x3f).toInt64))) else (own_get_62 bt ln w0 w1 w2 (own_ix bt) (own_of bt) (((own_sel (own_ix bt) w0 w1 w2).toUInt64 >>> ((own_of bt) &&& 0x3f).toInt64.toUInt64).toInt64))))
theorem d7_0 : decode prog_1_method_8_code 0 = .ok (.iload_n 3, 1) := by decide +kernel
theorem d7_1 : decode prog_1_method_8_code 1 = .ok (.ifCond .ne 5, 3) := by decide +kernel
theorem d7_4 : decode prog_1_method_8_code 4 = .ok (.lconst 0, 1) := by decide +kernel
theorem d7_5 : decode prog_1_method_8_code 5 = .ok (.lreturn, 1) := by decide +kernel
theorem d7_6 : decode prog_1_method_8_code 6 = .ok (.lload_n 1, 1) := by decide +kernel
theorem d7_7 : decode prog_1_method_8_code 7 = .ok (.bipush 6, 2) := by decide +kernel
theorem d7_9 : decode prog_1_method_8_code 9 = .ok (.lushr, 1) := by decide +kernel
theorem d7_10 : decode prog_1_method_8_code 10 = .ok (.l2i, 1) := by decide +kernel
theorem d7_11 : decode prog_1_method_8_code 11 = .ok (.istore 4, 2) := by decide +kernel
theorem d7_13 : decode prog_1_method_8_code 13 = .ok (.lload_n 1, 1) := by decide +kernel
theorem d7_14 : decode prog_1_method_8_code 14 = .ok (.ldc2_w 46, 3) := by decide +kernel
theorem d7_17 : decode prog_1_method_8_code 17 = .ok (.land, 1) := by decide +kernel
theorem d7_18 : decode prog_1_method_8_code 18 = .ok (.l2i, 1) := by decide +kernel
theorem d7_19 : decode prog_1_method_8_code 19 = .ok (.istore 5, 2) := by decide +kernel
theorem d7_21 : decode prog_1_method_8_code 21 = .ok (.aload_n 0, 1) := by decide +kernel
theorem d7_22 : decode prog_1_method_8_code 22 = .ok (.getfield 20, 3) := by decide +kernel
theorem d7_25 : decode prog_1_method_8_code 25 = .ok (.iload 4, 2) := by decide +kernel
theorem d7_27 : decode prog_1_method_8_code 27 = .ok (.laload, 1) := by decide +kernel
theorem d7_28 : decode prog_1_method_8_code 28 = .ok (.iload 5, 2) := by decide +kernel
theorem d7_30 : decode prog_1_method_8_code 30 = .ok (.lushr, 1) := by decide +kernel
theorem d7_31 : decode prog_1_method_8_code 31 = .ok (.lstore 6, 2) := by decide +kernel
theorem d7_33 : decode prog_1_method_8_code 33 = .ok (.iload 5, 2) := by decide +kernel
theorem d7_35 : decode prog_1_method_8_code 35 = .ok (.iload_n 3, 1) := by decide +kernel
theorem d7_36 : decode prog_1_method_8_code 36 = .ok (.iadd, 1) := by decide +kernel
theorem d7_37 : decode prog_1_method_8_code 37 = .ok (.bipush 64, 2) := by decide +kernel
theorem d7_39 : decode prog_1_method_8_code 39 = .ok (.if_icmp .le 23, 3) := by decide +kernel
theorem d7_42 : decode prog_1_method_8_code 42 = .ok (.lload 6, 2) := by decide +kernel
theorem d7_44 : decode prog_1_method_8_code 44 = .ok (.aload_n 0, 1) := by decide +kernel
theorem d7_45 : decode prog_1_method_8_code 45 = .ok (.getfield 20, 3) := by decide +kernel
theorem d7_48 : decode prog_1_method_8_code 48 = .ok (.iload 4, 2) := by decide +kernel
theorem d7_50 : decode prog_1_method_8_code 50 = .ok (.iconst 1, 1) := by decide +kernel
theorem d7_51 : decode prog_1_method_8_code 51 = .ok (.iadd, 1) := by decide +kernel
theorem d7_52 : decode prog_1_method_8_code 52 = .ok (.laload, 1) := by decide +kernel
theorem d7_53 : decode prog_1_method_8_code 53 = .ok (.bipush 64, 2) := by decide +kernel
theorem d7_55 : decode prog_1_method_8_code 55 = .ok (.iload 5, 2) := by decide +kernel
theorem d7_57 : decode prog_1_method_8_code 57 = .ok (.isub, 1) := by decide +kernel
theorem d7_58 : decode prog_1_method_8_code 58 = .ok (.lshl, 1) := by decide +kernel
theorem d7_59 : decode prog_1_method_8_code 59 = .ok (.lor, 1) := by decide +kernel
theorem d7_60 : decode prog_1_method_8_code 60 = .ok (.lstore 6, 2) := by decide +kernel
theorem d7_62 : decode prog_1_method_8_code 62 = .ok (.iload_n 3, 1) := by decide +kernel
theorem d7_63 : decode prog_1_method_8_code 63 = .ok (.bipush 64, 2) := by decide +kernel
theorem d7_65 : decode prog_1_method_8_code 65 = .ok (.if_icmp .ne 8, 3) := by decide +kernel
theorem d7_68 : decode prog_1_method_8_code 68 = .ok (.lload 6, 2) := by decide +kernel
theorem d7_70 : decode prog_1_method_8_code 70 = .ok (.goto 11, 3) := by decide +kernel
theorem d7_73 : decode prog_1_method_8_code 73 = .ok (.lload 6, 2) := by decide +kernel
theorem d7_75 : decode prog_1_method_8_code 75 = .ok (.lconst 1, 1) := by decide +kernel
theorem d7_76 : decode prog_1_method_8_code 76 = .ok (.iload_n 3, 1) := by decide +kernel
theorem d7_77 : decode prog_1_method_8_code 77 = .ok (.lshl, 1) := by decide +kernel
theorem d7_78 : decode prog_1_method_8_code 78 = .ok (.lconst 1, 1) := by decide +kernel
theorem d7_79 : decode prog_1_method_8_code 79 = .ok (.lsub, 1) := by decide +kernel
theorem d7_80 : decode prog_1_method_8_code 80 = .ok (.land, 1) := by decide +kernel
theorem d7_81 : decode prog_1_method_8_code 81 = .ok (.lreturn, 1) := by decide +kernel
theorem pnget : plainName "com/example/paranhos/paranhos/BitArray" = true := by first | (simp [plainName, overriddenIn]; done) | decide +kernel
theorem efget (m : MethodId) (z0 : Addr) (z1 : Int64) (z2 : Int32) : entryFrame m #[(.ref z0), (.long z1), (.int z2)] 8 = mkF m 0 #[.val (.ref z0), .val (.long z1), .second, .val (.int z2), .unset, .unset, .unset, .unset] [] := by first | (simp [entryFrame, mkF, argsToLocals, Value.category]; done) | rfl
def Qget (Z : State) (o : Addr) (bt : Int64) (ln : Int32) (b : Addr) (k : ClassId) (w0 : Int64) (w1 : Int64) (w2 : Int64) (h0 : Heap) (n0 : Nat) (v : Option Value) (h : Heap) (L : List Loc) : Prop := v = some (.long (own_get bt ln w0 w1 w2)) ∧ Fr n0 L ∧ h = h0
set_option maxRecDepth 65536 in
set_option maxHeartbeats 40000000 in
theorem rmget (l : Launch) (Z : State) (a0 : Array Value) (hw : ∀ d ∈ tables_1, d.before a0 Z = true) (ws : List Jvm.Cond) (o : Addr) (bt : Int64) (ln : Int32) (b : Addr) (k : ClassId) (w0 : Int64) (w1 : Int64) (w2 : Int64) (h0 : Heap) (n0 : Nat) (Z0 : n0 ≤ h0.size) (F_o : Fld Z h0 o "com/example/paranhos/paranhos/BitArray" "words" "[J" (.ref b)) (V_b : Arv Z h0 b k .long (3 : Int32) [(.long w0), (.long w1), (.long w2)] (.long (0 : Int64))) (hok : own_ok bt ln) :
    MetFree l (⟨"com/example/paranhos/paranhos/BitArray", "get", "(JI)J"⟩ : MethodName) (head1 (Jvm.Cond.code (⟨"com/example/paranhos/paranhos/BitArray", "get", "(JI)J"⟩ : MethodName) prog_1_method_8_code 8 (some .long) :: ws) ({ frames := 0, cells := 0, slots := 0, locals := 0 } : Room)) (fun a U => a = #[(.ref o), (.long bt), (.int ln)] ∧ Z.Warmed39 U.vm ∧ U.heap = h0) (fun _ _ _ _ _ => True) (fun _ U oc U' => ∃ v L, oc = .returned v ∧ Qget Z o bt ln b k w0 w1 w2 h0 n0 v U'.heap L ∧ FrameEnd U oc U' L ({ frames := 0, cells := 0, slots := 0, locals := 0 } : Room).cells ({ frames := 0, cells := 0, slots := 0, locals := 0 } : Room).slots) := by
  refine MetFree.of_bodySF (plainFor_of_name pnget) hisR ?_
  intro p e s m args below meth c s₁ Bd hml0 hP hK
  obtain ⟨rfl, hZ, hh⟩ := hP
  have hx := Bd.exec
  have hby := Bd.bytes
  have hml : c.maxLocals = 8 := hml0
  have hown : s.vm.findClass "com/example/paranhos/paranhos/BitArray" = some m.cls := findClass_of_methodNamed Bd.named
  have hnm := (name_of_methodNamed Bd.named Bd.method).1
  have X0 : Stand p l e ({ frames := 0, cells := 0, slots := 0, locals := 0 } : Room) s m #[(.ref o), (.long bt), (.int ln)] below meth c s₁ [] 0 0 := Stand.of_body Bd
  have e0 : s₁.heap = h0 := by rw [← hh, Bd.state]; rfl
  have N0 := Fr.nil n0
  show own_Go p e below (fun s₂ oc => ∃ v L, oc = .returned v ∧ Qget Z o bt ln b k w0 w1 w2 h0 n0 v s₂.heap L ∧ FrameEnd s oc s₂ L ({ frames := 0, cells := 0, slots := 0, locals := 0 } : Room).cells ({ frames := 0, cells := 0, slots := 0, locals := 0 } : Room).slots) s₁ (entryFrame m #[(.ref o), (.long bt), (.int ln)] 8)
  have B62 : ∀ (TB : State) (Lc : List Loc) (XB : Stand p l e ({ frames := 0, cells := 0, slots := 0, locals := 0 } : Room) s m #[(.ref o), (.long bt), (.int ln)] below meth c TB Lc 0 0) (eB : TB.heap = h0) (NB : Fr n0 Lc) (i4 : Int32) (i5 : Int32) (j6 : Int64), own_get bt ln w0 w1 w2 = own_get_62 bt ln w0 w1 w2 i4 i5 j6 → own_Go p e below (fun s₂ oc => ∃ v L, oc = .returned v ∧ Qget Z o bt ln b k w0 w1 w2 h0 n0 v s₂.heap L ∧ FrameEnd s oc s₂ L ({ frames := 0, cells := 0, slots := 0, locals := 0 } : Room).cells ({ frames := 0, cells := 0, slots := 0, locals := 0 } : Room).slots) TB (mkF m 62 #[.val (.ref o), .val (.long bt), .second, .val (.int ln), .val (.int i4), .val (.int i5), .val (.long j6), .second] []) := by
    intro TB Lc XB eB NB i4 i5 j6 hv
    refine og_iloadN (pc' := 63) XB hx (hb hby d7_62) rfl rfl ?_
    refine og_bipush (pc' := 65) (n := 64) XB hx (hb hby d7_63) rfl rfl ?_
    by_cases hc65_1 : ln = (64 : Int32)
    · have hv := hv.trans (if_pos hc65_1)
      refine og_icmpNo (pc' := 68) XB hx (hb hby d7_65) (teq hc65_1).2 rfl ?_
      refine og_lload (pc' := 70) XB hx (hb hby d7_68) rfl rfl ?_
      refine og_goto (pc' := 81) XB hx (hb hby d7_70) (by decide) (by decide) ?_
      obtain ⟨fs, hr, hrun, hended, hW, hsame⟩ := XB.leave (v := some (.long j6)) (fun h => by rw [Bd.returns] at h; cases h) (BodyLoose.notSynchronized Bd)
      refine ⟨_, _, retL XB hx Bd.returns (hb hby d7_81) hr, hrun, hended, some (.long j6), _, rfl, ?_, ⟨_, rfl⟩, hW, hsame.mono (by decide) (by decide)⟩
      show Qget Z o bt ln b k w0 w1 w2 h0 n0 _ TB.heap _
      rw [eB]
      exact ⟨(congrArg (fun z => some (Value.long z)) hv.symm), NB, rfl⟩
    · have hv := hv.trans (if_neg hc65_1)
      refine og_icmpYes (pc' := 73) XB hx (hb hby d7_65) (feq hc65_1).2 (by decide) (by decide) ?_
      refine og_lload (pc' := 75) XB hx (hb hby d7_73) rfl rfl ?_
      refine og_lconst1 (pc' := 76) XB hx (hb hby d7_75) rfl ?_
      refine og_iloadN (pc' := 77) XB hx (hb hby d7_76) rfl rfl ?_
      refine og_lshl (pc' := 78) XB hx (hb hby d7_77) rfl ?_
      refine og_lconst1 (pc' := 79) XB hx (hb hby d7_78) rfl ?_
      refine og_lsub (pc' := 80) XB hx (hb hby d7_79) rfl ?_
      refine og_land (pc' := 81) XB hx (hb hby d7_80) rfl ?_
      obtain ⟨fs, hr, hrun, hended, hW, hsame⟩ := XB.leave (v := some (.long (j6 &&& (((1 : Int64) <<< (ln &&& 0x3f).toInt64) - (1 : Int64))))) (fun h => by rw [Bd.returns] at h; cases h) (BodyLoose.notSynchronized Bd)
      refine ⟨_, _, retL XB hx Bd.returns (hb hby d7_81) hr, hrun, hended, some (.long (j6 &&& (((1 : Int64) <<< (ln &&& 0x3f).toInt64) - (1 : Int64)))), _, rfl, ?_, ⟨_, rfl⟩, hW, hsame.mono (by decide) (by decide)⟩
      show Qget Z o bt ln b k w0 w1 w2 h0 n0 _ TB.heap _
      rw [eB]
      exact ⟨(congrArg (fun z => some (Value.long z)) hv.symm), NB, rfl⟩
  refine own_Go.of (g' := mkF m 0 #[.val (.ref o), .val (.long bt), .second, .val (.int ln), .unset, .unset, .unset, .unset] []) (fun t k => castTop (efget m o bt ln) k) ?_
  have hv : own_get bt ln w0 w1 w2 = own_get bt ln w0 w1 w2 := rfl
  refine og_iloadN (pc' := 1) X0 hx (hb hby d7_0) rfl rfl ?_
  by_cases hc1_2 : ln = (0 : Int32)
  · have hv := hv.trans (if_pos hc1_2)
    refine og_ifNo (pc' := 4) X0 hx (hb hby d7_1) ((if0 _ _).trans (teq hc1_2).2) rfl ?_
    refine og_lconst0 (pc' := 5) X0 hx (hb hby d7_4) rfl ?_
    obtain ⟨fs, hr, hrun, hended, hW, hsame⟩ := X0.leave (v := some (.long (0 : Int64))) (fun h => by rw [Bd.returns] at h; cases h) (BodyLoose.notSynchronized Bd)
    refine ⟨_, _, retL X0 hx Bd.returns (hb hby d7_5) hr, hrun, hended, some (.long (0 : Int64)), _, rfl, ?_, ⟨_, rfl⟩, hW, hsame.mono (by decide) (by decide)⟩
    show Qget Z o bt ln b k w0 w1 w2 h0 n0 _ s₁.heap _
    rw [e0]
    exact ⟨(congrArg (fun z => some (Value.long z)) hv.symm), N0, rfl⟩
  · have hv := hv.trans (if_neg hc1_2)
    refine og_ifYes (pc' := 6) X0 hx (hb hby d7_1) ((if0 _ _).trans (feq hc1_2).2) (by decide) (by decide) ?_
    refine og_lloadN (pc' := 7) X0 hx (hb hby d7_6) rfl rfl ?_
    refine og_bipush (pc' := 9) (n := 6) X0 hx (hb hby d7_7) rfl rfl ?_
    refine og_lushr (pc' := 10) X0 hx (hb hby d7_9) rfl ?_
    refine own_Go.of (g' := (mkF m 11 #[.val (.ref o), .val (.long bt), .second, .val (.int ln), .unset, .unset, .unset, .unset] [(.int (own_ix bt))])) (fun t k => XS.l2i X0.here hx rfl (hb hby d7_10) rfl k) ?_
    refine og_istore (pc' := 13) (L' := #[.val (.ref o), .val (.long bt), .second, .val (.int ln), .val (.int (own_ix bt)), .unset, .unset, .unset]) X0 hx (hb hby d7_11) rfl rfl ?_
    refine og_lloadN (pc' := 14) X0 hx (hb hby d7_13) rfl rfl ?_
    refine og_ldc2_w (pc' := 17) X0 hx (hb hby d7_14) hown (mvT hZ (hw _ (List.mem_of_getElem? (i := 34) rfl))) rfl ?_
    refine og_land (pc' := 18) X0 hx (hb hby d7_17) rfl ?_
    refine own_Go.of (g' := (mkF m 19 #[.val (.ref o), .val (.long bt), .second, .val (.int ln), .val (.int (own_ix bt)), .unset, .unset, .unset] [(.int (own_of bt))])) (fun t k => XS.l2i X0.here hx rfl (hb hby d7_18) rfl k) ?_
    refine og_istore (pc' := 21) (L' := #[.val (.ref o), .val (.long bt), .second, .val (.int ln), .val (.int (own_ix bt)), .val (.int (own_of bt)), .unset, .unset]) X0 hx (hb hby d7_19) rfl rfl ?_
    refine og_aloadN (pc' := 22) X0 hx (hb hby d7_21) rfl rfl rfl ?_
    obtain ⟨T1, X1, e1, st1⟩ := getF X0 hx hZ hown (host := "") (Or.inl (hw _ (List.mem_of_getElem? (i := 25) rfl))) Via.refl e0 F_o (g := (mkF m 22 #[.val (.ref o), .val (.long bt), .second, .val (.int ln), .val (.int (own_ix bt)), .val (.int (own_of bt)), .unset, .unset] [(.ref o)])) rfl rfl (hb hby d7_22)
    refine own_Go.of (g' := (mkF m 25 #[.val (.ref o), .val (.long bt), .second, .val (.int ln), .val (.int (own_ix bt)), .val (.int (own_of bt)), .unset, .unset] [(.ref b)])) (fun t k => st1 _ k) ?_
    refine og_iload (pc' := 27) X1 hx (hb hby d7_25) rfl rfl ?_
    obtain ⟨cl2, Ar2, q2, S2, M2, H2, G2⟩ := id V_b
    have hin2 : ¬ ((own_ix bt) < 0 ∨ cl2.slots.size ≤ ((own_ix bt)).toNatClampNeg) := inb_of S2 (own_in0 hok hc1_2)
    have hat2 : cl2.slots[((own_ix bt)).toNatClampNeg]? = some (.long (own_sel (own_ix bt) w0 w1 w2)) := Has.at H2 hin2 (own_getD3 (own_in0 hok hc1_2))
    refine own_Go.of (g' := (mkF m 28 #[.val (.ref o), .val (.long bt), .second, .val (.int ln), .val (.int (own_ix bt)), .val (.int (own_of bt)), .unset, .unset] [(.long (own_sel (own_ix bt) w0 w1 w2))])) (fun t k => X1.laload hx (j := (own_ix bt)) (v := (.long (own_sel (own_ix bt) w0 w1 w2))) (by rw [e1]; exact Ar2.1) (State.isArrayOf_alike hZ.alike Ar2.2.1) Ar2.2.2 hin2 hat2 (g := (mkF m 27 #[.val (.ref o), .val (.long bt), .second, .val (.int ln), .val (.int (own_ix bt)), .val (.int (own_of bt)), .unset, .unset] [(.int (own_ix bt)), (.ref b)])) rfl rfl (hb hby d7_27) _ k) ?_
    refine og_iload (pc' := 30) X1 hx (hb hby d7_28) rfl rfl ?_
    refine og_lushr (pc' := 31) X1 hx (hb hby d7_30) rfl ?_
    refine og_lstore (pc' := 33) (L' := #[.val (.ref o), .val (.long bt), .second, .val (.int ln), .val (.int (own_ix bt)), .val (.int (own_of bt)), .val (.long (((own_sel (own_ix bt) w0 w1 w2).toUInt64 >>> ((own_of bt) &&& 0x3f).toInt64.toUInt64).toInt64)), .second]) X1 hx (hb hby d7_31) rfl rfl ?_
    refine og_iload (pc' := 35) X1 hx (hb hby d7_33) rfl rfl ?_
    refine og_iloadN (pc' := 36) X1 hx (hb hby d7_35) rfl rfl ?_
    refine og_iadd (pc' := 37) X1 hx (hb hby d7_36) rfl ?_
    refine og_bipush (pc' := 39) (n := 64) X1 hx (hb hby d7_37) rfl rfl ?_
    by_cases hc39_3 : (64 : Int32) < ((own_of bt) + ln)
    · have hv := hv.trans (if_pos hc39_3)
      refine og_icmpNo (pc' := 42) X1 hx (hb hby d7_39) (tlt hc39_3).2.2.2 rfl ?_
      refine og_lload (pc' := 44) X1 hx (hb hby d7_42) rfl rfl ?_
      refine og_aloadN (pc' := 45) X1 hx (hb hby d7_44) rfl rfl rfl ?_
      obtain ⟨T3, X3, e3, st3⟩ := getF X1 hx hZ hown (host := "") (Or.inl (hw _ (List.mem_of_getElem? (i := 25) rfl))) Via.refl e1 F_o (g := (mkF m 45 #[.val (.ref o), .val (.long bt), .second, .val (.int ln), .val (.int (own_ix bt)), .val (.int (own_of bt)), .val (.long (((own_sel (own_ix bt) w0 w1 w2).toUInt64 >>> ((own_of bt) &&& 0x3f).toInt64.toUInt64).toInt64)), .second] [(.ref o), (.long (((own_sel (own_ix bt) w0 w1 w2).toUInt64 >>> ((own_of bt) &&& 0x3f).toInt64.toUInt64).toInt64))])) rfl rfl (hb hby d7_45)
      refine own_Go.of (g' := (mkF m 48 #[.val (.ref o), .val (.long bt), .second, .val (.int ln), .val (.int (own_ix bt)), .val (.int (own_of bt)), .val (.long (((own_sel (own_ix bt) w0 w1 w2).toUInt64 >>> ((own_of bt) &&& 0x3f).toInt64.toUInt64).toInt64)), .second] [(.ref b), (.long (((own_sel (own_ix bt) w0 w1 w2).toUInt64 >>> ((own_of bt) &&& 0x3f).toInt64.toUInt64).toInt64))])) (fun t k => st3 _ k) ?_
      refine og_iload (pc' := 50) X3 hx (hb hby d7_48) rfl rfl ?_
      refine og_iconst (pc' := 51) (n := 1) X3 hx (hb hby d7_50) rfl rfl ?_
      refine og_iadd (pc' := 52) X3 hx (hb hby d7_51) rfl ?_
      obtain ⟨cl4, Ar4, q4, S4, M4, H4, G4⟩ := id V_b
      have hin4 : ¬ (((own_ix bt) + (1 : Int32)) < 0 ∨ cl4.slots.size ≤ (((own_ix bt) + (1 : Int32))).toNatClampNeg) := inb_of S4 (own_in1 hok hc39_3)
      have hat4 : cl4.slots[(((own_ix bt) + (1 : Int32))).toNatClampNeg]? = some (.long (own_sel ((own_ix bt) + (1 : Int32)) w0 w1 w2)) := Has.at H4 hin4 (own_getD3 (own_in1 hok hc39_3))
      refine own_Go.of (g' := (mkF m 53 #[.val (.ref o), .val (.long bt), .second, .val (.int ln), .val (.int (own_ix bt)), .val (.int (own_of bt)), .val (.long (((own_sel (own_ix bt) w0 w1 w2).toUInt64 >>> ((own_of bt) &&& 0x3f).toInt64.toUInt64).toInt64)), .second] [(.long (own_sel ((own_ix bt) + (1 : Int32)) w0 w1 w2)), (.long (((own_sel (own_ix bt) w0 w1 w2).toUInt64 >>> ((own_of bt) &&& 0x3f).toInt64.toUInt64).toInt64))])) (fun t k => X3.laload hx (j := ((own_ix bt) + (1 : Int32))) (v := (.long (own_sel ((own_ix bt) + (1 : Int32)) w0 w1 w2))) (by rw [e3]; exact Ar4.1) (State.isArrayOf_alike hZ.alike Ar4.2.1) Ar4.2.2 hin4 hat4 (g := (mkF m 52 #[.val (.ref o), .val (.long bt), .second, .val (.int ln), .val (.int (own_ix bt)), .val (.int (own_of bt)), .val (.long (((own_sel (own_ix bt) w0 w1 w2).toUInt64 >>> ((own_of bt) &&& 0x3f).toInt64.toUInt64).toInt64)), .second] [(.int ((own_ix bt) + (1 : Int32))), (.ref b), (.long (((own_sel (own_ix bt) w0 w1 w2).toUInt64 >>> ((own_of bt) &&& 0x3f).toInt64.toUInt64).toInt64))])) rfl rfl (hb hby d7_52) _ k) ?_
      refine og_bipush (pc' := 55) (n := 64) X3 hx (hb hby d7_53) rfl rfl ?_
      refine og_iload (pc' := 57) X3 hx (hb hby d7_55) rfl rfl ?_
      refine og_isub (pc' := 58) X3 hx (hb hby d7_57) rfl ?_
      refine og_lshl (pc' := 59) X3 hx (hb hby d7_58) rfl ?_
      refine og_lor (pc' := 60) X3 hx (hb hby d7_59) rfl ?_
      refine og_lstore (pc' := 62) (L' := #[.val (.ref o), .val (.long bt), .second, .val (.int ln), .val (.int (own_ix bt)), .val (.int (own_of bt)), .val (.long ((((own_sel (own_ix bt) w0 w1 w2).toUInt64 >>> ((own_of bt) &&& 0x3f).toInt64.toUInt64).toInt64) ||| ((own_sel ((own_ix bt) + (1 : Int32)) w0 w1 w2) <<< (((64 : Int32) - (own_of bt)) &&& 0x3f).toInt64))), .second]) X3 hx (hb hby d7_60) rfl rfl ?_
      exact B62 T3 _ X3 e3 N0 (own_ix bt) (own_of bt) ((((own_sel (own_ix bt) w0 w1 w2).toUInt64 >>> ((own_of bt) &&& 0x3f).toInt64.toUInt64).toInt64) ||| ((own_sel ((own_ix bt) + (1 : Int32)) w0 w1 w2) <<< (((64 : Int32) - (own_of bt)) &&& 0x3f).toInt64)) hv
    · have hv := hv.trans (if_neg hc39_3)
      refine og_icmpYes (pc' := 62) X1 hx (hb hby d7_39) (flt hc39_3).2.2.2 (by decide) (by decide) ?_
      exact B62 T1 _ X1 e1 N0 (own_ix bt) (own_of bt) (((own_sel (own_ix bt) w0 w1 w2).toUInt64 >>> ((own_of bt) &&& 0x3f).toInt64.toUInt64).toInt64) hv

def own_lm (x0 : Int32) : Int64 := (if x0 < (64 : Int32) then (((1 : Int64) <<< (x0 &&& 0x3f).toInt64) - (1 : Int64)) else (-1 : Int64))
theorem d1_0 : decode method_5_code 0 = .ok (.iload_n 0, 1) := by decide +kernel
theorem d1_1 : decode method_5_code 1 = .ok (.bipush 64, 2) := by decide +kernel
theorem d1_3 : decode method_5_code 3 = .ok (.if_icmp .lt 7, 3) := by decide +kernel
theorem d1_6 : decode method_5_code 6 = .ok (.ldc2_w 45, 3) := by decide +kernel
theorem d1_9 : decode method_5_code 9 = .ok (.lreturn, 1) := by decide +kernel
theorem d1_10 : decode method_5_code 10 = .ok (.lconst 1, 1) := by decide +kernel
theorem d1_11 : decode method_5_code 11 = .ok (.iload_n 0, 1) := by decide +kernel
theorem d1_12 : decode method_5_code 12 = .ok (.lshl, 1) := by decide +kernel
theorem d1_13 : decode method_5_code 13 = .ok (.lconst 1, 1) := by decide +kernel
theorem d1_14 : decode method_5_code 14 = .ok (.lsub, 1) := by decide +kernel
theorem d1_15 : decode method_5_code 15 = .ok (.lreturn, 1) := by decide +kernel
theorem pnlm : plainName "com/example/paranhos/paranhos/BitArrayPutPinLaw" = true := by first | (simp [plainName, overriddenIn]; done) | decide +kernel
theorem eflm (m : MethodId) (z0 : Int32) : entryFrame m #[(.int z0)] 1 = mkF m 0 #[.val (.int z0)] [] := by first | (simp [entryFrame, mkF, argsToLocals, Value.category]; done) | rfl
def Qlm (Z : State) (x0 : Int32) (h0 : Heap) (n0 : Nat) (v : Option Value) (h : Heap) (L : List Loc) : Prop := v = some (.long (own_lm x0)) ∧ Fr n0 L ∧ h = h0
set_option maxRecDepth 65536 in
set_option maxHeartbeats 40000000 in
theorem rmlm (l : Launch) (Z : State) (a0 : Array Value) (hw : ∀ d ∈ tables_1, d.before a0 Z = true) (ws : List Jvm.Cond) (x0 : Int32) (h0 : Heap) (n0 : Nat) (Z0 : n0 ≤ h0.size) :
    MetFree l (⟨"com/example/paranhos/paranhos/BitArrayPutPinLaw", "lowMask", "(I)J"⟩ : MethodName) (head1 (Jvm.Cond.code (⟨"com/example/paranhos/paranhos/BitArrayPutPinLaw", "lowMask", "(I)J"⟩ : MethodName) method_5_code 1 (some .long) :: ws) ({ frames := 0, cells := 0, slots := 0, locals := 0 } : Room)) (fun a U => a = #[(.int x0)] ∧ Z.Warmed39 U.vm ∧ U.heap = h0) (fun _ _ _ _ _ => True) (fun _ U oc U' => ∃ v L, oc = .returned v ∧ Qlm Z x0 h0 n0 v U'.heap L ∧ FrameEnd U oc U' L ({ frames := 0, cells := 0, slots := 0, locals := 0 } : Room).cells ({ frames := 0, cells := 0, slots := 0, locals := 0 } : Room).slots) := by
  refine MetFree.of_bodySF (plainFor_of_name pnlm) hisR ?_
  intro p e s m args below meth c s₁ Bd hml0 hP hK
  obtain ⟨rfl, hZ, hh⟩ := hP
  have hx := Bd.exec
  have hby := Bd.bytes
  have hml : c.maxLocals = 1 := hml0
  have hown : s.vm.findClass "com/example/paranhos/paranhos/BitArrayPutPinLaw" = some m.cls := findClass_of_methodNamed Bd.named
  have hnm := (name_of_methodNamed Bd.named Bd.method).1
  have X0 : Stand p l e ({ frames := 0, cells := 0, slots := 0, locals := 0 } : Room) s m #[(.int x0)] below meth c s₁ [] 0 0 := Stand.of_body Bd
  have e0 : s₁.heap = h0 := by rw [← hh, Bd.state]; rfl
  have N0 := Fr.nil n0
  show own_Go p e below (fun s₂ oc => ∃ v L, oc = .returned v ∧ Qlm Z x0 h0 n0 v s₂.heap L ∧ FrameEnd s oc s₂ L ({ frames := 0, cells := 0, slots := 0, locals := 0 } : Room).cells ({ frames := 0, cells := 0, slots := 0, locals := 0 } : Room).slots) s₁ (entryFrame m #[(.int x0)] 1)
  refine own_Go.of (g' := mkF m 0 #[.val (.int x0)] []) (fun t k => castTop (eflm m x0) k) ?_
  have hv : own_lm x0 = own_lm x0 := rfl
  refine og_iloadN (pc' := 1) X0 hx (hb hby d1_0) rfl rfl ?_
  refine og_bipush (pc' := 3) (n := 64) X0 hx (hb hby d1_1) rfl rfl ?_
  by_cases hc3_1 : x0 < (64 : Int32)
  · have hv := hv.trans (if_pos hc3_1)
    refine og_icmpYes (pc' := 10) X0 hx (hb hby d1_3) (tlt hc3_1).1 (by decide) (by decide) ?_
    refine og_lconst1 (pc' := 11) X0 hx (hb hby d1_10) rfl ?_
    refine og_iloadN (pc' := 12) X0 hx (hb hby d1_11) rfl rfl ?_
    refine og_lshl (pc' := 13) X0 hx (hb hby d1_12) rfl ?_
    refine og_lconst1 (pc' := 14) X0 hx (hb hby d1_13) rfl ?_
    refine og_lsub (pc' := 15) X0 hx (hb hby d1_14) rfl ?_
    obtain ⟨fs, hr, hrun, hended, hW, hsame⟩ := X0.leave (v := some (.long (((1 : Int64) <<< (x0 &&& 0x3f).toInt64) - (1 : Int64)))) (fun h => by rw [Bd.returns] at h; cases h) (BodyLoose.notSynchronized Bd)
    refine ⟨_, _, retL X0 hx Bd.returns (hb hby d1_15) hr, hrun, hended, some (.long (((1 : Int64) <<< (x0 &&& 0x3f).toInt64) - (1 : Int64))), _, rfl, ?_, ⟨_, rfl⟩, hW, hsame.mono (by decide) (by decide)⟩
    show Qlm Z x0 h0 n0 _ s₁.heap _
    rw [e0]
    exact ⟨(congrArg (fun z => some (Value.long z)) hv.symm), N0, rfl⟩
  · have hv := hv.trans (if_neg hc3_1)
    refine og_icmpNo (pc' := 6) X0 hx (hb hby d1_3) (flt hc3_1).1 rfl ?_
    refine og_ldc2_w (pc' := 9) X0 hx (hb hby d1_6) hown (mvT hZ (hw _ (List.mem_of_getElem? (i := 56) rfl))) rfl ?_
    obtain ⟨fs, hr, hrun, hended, hW, hsame⟩ := X0.leave (v := some (.long (-1 : Int64))) (fun h => by rw [Bd.returns] at h; cases h) (BodyLoose.notSynchronized Bd)
    refine ⟨_, _, retL X0 hx Bd.returns (hb hby d1_9) hr, hrun, hended, some (.long (-1 : Int64)), _, rfl, ?_, ⟨_, rfl⟩, hW, hsame.mono (by decide) (by decide)⟩
    show Qlm Z x0 h0 n0 _ s₁.heap _
    rw [e0]
    exact ⟨(congrArg (fun z => some (Value.long z)) hv.symm), N0, rfl⟩

def own_min (x0 : Int64) (x1 : Int64) : Int64 := (if x1 < x0 then x1 else x0)
theorem d10_0 : decode jdk_29_method_70_code 0 = .ok (.lload_n 0, 1) := by decide +kernel
theorem d10_1 : decode jdk_29_method_70_code 1 = .ok (.lload_n 2, 1) := by decide +kernel
theorem d10_2 : decode jdk_29_method_70_code 2 = .ok (.lcmp, 1) := by decide +kernel
theorem d10_3 : decode jdk_29_method_70_code 3 = .ok (.ifCond .gt 7, 3) := by decide +kernel
theorem d10_6 : decode jdk_29_method_70_code 6 = .ok (.lload_n 0, 1) := by decide +kernel
theorem d10_7 : decode jdk_29_method_70_code 7 = .ok (.goto 4, 3) := by decide +kernel
theorem d10_10 : decode jdk_29_method_70_code 10 = .ok (.lload_n 2, 1) := by decide +kernel
theorem d10_11 : decode jdk_29_method_70_code 11 = .ok (.lreturn, 1) := by decide +kernel
theorem efmi (m : MethodId) (z0 : Int64) (z1 : Int64) : entryFrame m #[(.long z0), (.long z1)] 4 = mkF m 0 #[.val (.long z0), .second, .val (.long z1), .second] [] := by first | (simp [entryFrame, mkF, argsToLocals, Value.category]; done) | rfl
def Qmi (Z : State) (x0 : Int64) (x1 : Int64) (h0 : Heap) (n0 : Nat) (v : Option Value) (h : Heap) (L : List Loc) : Prop := v = some (.long (own_min x0 x1)) ∧ Fr n0 L ∧ h = h0
set_option maxRecDepth 65536 in
set_option maxHeartbeats 40000000 in
theorem rmmi (l : Launch) (Z : State) (a0 : Array Value) (hw : ∀ d ∈ tables_1, d.before a0 Z = true) (ws : List Jvm.Cond) (x0 : Int64) (x1 : Int64) (h0 : Heap) (n0 : Nat) (Z0 : n0 ≤ h0.size) :
    MetFree l (⟨"java/lang/Math", "min", "(JJ)J"⟩ : MethodName) (head1 (Jvm.Cond.code (⟨"java/lang/Math", "min", "(JJ)J"⟩ : MethodName) jdk_29_method_70_code 4 (some .long) :: ws) ({ frames := 0, cells := 0, slots := 0, locals := 0 } : Room)) (fun a U => a = #[(.long x0), (.long x1)] ∧ Z.Warmed39 U.vm ∧ U.heap = h0) (fun _ _ _ _ _ => True) (fun _ U oc U' => ∃ v L, oc = .returned v ∧ Qmi Z x0 x1 h0 n0 v U'.heap L ∧ FrameEnd U oc U' L ({ frames := 0, cells := 0, slots := 0, locals := 0 } : Room).cells ({ frames := 0, cells := 0, slots := 0, locals := 0 } : Room).slots) := by
  refine MetFree.of_bodySF (Jvm.Free.JP.mathPlain rfl (by decide +kernel)) hisR ?_
  intro p e s m args below meth c s₁ Bd hml0 hP hK
  obtain ⟨rfl, hZ, hh⟩ := hP
  have hx := Bd.exec
  have hby := Bd.bytes
  have hml : c.maxLocals = 4 := hml0
  have hown : s.vm.findClass "java/lang/Math" = some m.cls := findClass_of_methodNamed Bd.named
  have hnm := (name_of_methodNamed Bd.named Bd.method).1
  have X0 : Stand p l e ({ frames := 0, cells := 0, slots := 0, locals := 0 } : Room) s m #[(.long x0), (.long x1)] below meth c s₁ [] 0 0 := Stand.of_body Bd
  have e0 : s₁.heap = h0 := by rw [← hh, Bd.state]; rfl
  have N0 := Fr.nil n0
  show own_Go p e below (fun s₂ oc => ∃ v L, oc = .returned v ∧ Qmi Z x0 x1 h0 n0 v s₂.heap L ∧ FrameEnd s oc s₂ L ({ frames := 0, cells := 0, slots := 0, locals := 0 } : Room).cells ({ frames := 0, cells := 0, slots := 0, locals := 0 } : Room).slots) s₁ (entryFrame m #[(.long x0), (.long x1)] 4)
  refine own_Go.of (g' := mkF m 0 #[.val (.long x0), .second, .val (.long x1), .second] []) (fun t k => castTop (efmi m x0 x1) k) ?_
  have hv : own_min x0 x1 = own_min x0 x1 := rfl
  refine og_lloadN (pc' := 1) X0 hx (hb hby d10_0) rfl rfl ?_
  refine og_lloadN (pc' := 2) X0 hx (hb hby d10_1) rfl rfl ?_
  refine og_lcmp (pc' := 3) X0 hx (hb hby d10_2) rfl ?_
  by_cases hc3_1 : x1 < x0
  · have hv := hv.trans (if_pos hc3_1)
    refine og_ifYes (pc' := 10) X0 hx (hb hby d10_3) ((if0 _ _).trans (tlt ((lw_gt _ _).mpr hc3_1)).2.2.1) (by decide) (by decide) ?_
    refine og_lloadN (pc' := 11) X0 hx (hb hby d10_10) rfl rfl ?_
    obtain ⟨fs, hr, hrun, hended, hW, hsame⟩ := X0.leave (v := some (.long x1)) (fun h => by rw [Bd.returns] at h; cases h) (BodyLoose.notSynchronized Bd)
    refine ⟨_, _, retL X0 hx Bd.returns (hb hby d10_11) hr, hrun, hended, some (.long x1), _, rfl, ?_, ⟨_, rfl⟩, hW, hsame.mono (by decide) (by decide)⟩
    show Qmi Z x0 x1 h0 n0 _ s₁.heap _
    rw [e0]
    exact ⟨(congrArg (fun z => some (Value.long z)) hv.symm), N0, rfl⟩
  · have hv := hv.trans (if_neg hc3_1)
    refine og_ifNo (pc' := 6) X0 hx (hb hby d10_3) ((if0 _ _).trans (flt (fun q => hc3_1 ((lw_gt _ _).mp q))).2.2.1) rfl ?_
    refine og_lloadN (pc' := 7) X0 hx (hb hby d10_6) rfl rfl ?_
    refine og_goto (pc' := 11) X0 hx (hb hby d10_7) (by decide) (by decide) ?_
    obtain ⟨fs, hr, hrun, hended, hW, hsame⟩ := X0.leave (v := some (.long x0)) (fun h => by rw [Bd.returns] at h; cases h) (BodyLoose.notSynchronized Bd)
    refine ⟨_, _, retL X0 hx Bd.returns (hb hby d10_11) hr, hrun, hended, some (.long x0), _, rfl, ?_, ⟨_, rfl⟩, hW, hsame.mono (by decide) (by decide)⟩
    show Qmi Z x0 x1 h0 n0 _ s₁.heap _
    rw [e0]
    exact ⟨(congrArg (fun z => some (Value.long z)) hv.symm), N0, rfl⟩

def own_max (x0 : Int64) (x1 : Int64) : Int64 := (if x0 < x1 then x1 else x0)
theorem d11_0 : decode jdk_29_method_66_code 0 = .ok (.lload_n 0, 1) := by decide +kernel
theorem d11_1 : decode jdk_29_method_66_code 1 = .ok (.lload_n 2, 1) := by decide +kernel
theorem d11_2 : decode jdk_29_method_66_code 2 = .ok (.lcmp, 1) := by decide +kernel
theorem d11_3 : decode jdk_29_method_66_code 3 = .ok (.ifCond .lt 7, 3) := by decide +kernel
theorem d11_6 : decode jdk_29_method_66_code 6 = .ok (.lload_n 0, 1) := by decide +kernel
theorem d11_7 : decode jdk_29_method_66_code 7 = .ok (.goto 4, 3) := by decide +kernel
theorem d11_10 : decode jdk_29_method_66_code 10 = .ok (.lload_n 2, 1) := by decide +kernel
theorem d11_11 : decode jdk_29_method_66_code 11 = .ok (.lreturn, 1) := by decide +kernel
theorem efma (m : MethodId) (z0 : Int64) (z1 : Int64) : entryFrame m #[(.long z0), (.long z1)] 4 = mkF m 0 #[.val (.long z0), .second, .val (.long z1), .second] [] := by first | (simp [entryFrame, mkF, argsToLocals, Value.category]; done) | rfl
def Qma (Z : State) (x0 : Int64) (x1 : Int64) (h0 : Heap) (n0 : Nat) (v : Option Value) (h : Heap) (L : List Loc) : Prop := v = some (.long (own_max x0 x1)) ∧ Fr n0 L ∧ h = h0
set_option maxRecDepth 65536 in
set_option maxHeartbeats 40000000 in
theorem rmma (l : Launch) (Z : State) (a0 : Array Value) (hw : ∀ d ∈ tables_1, d.before a0 Z = true) (ws : List Jvm.Cond) (x0 : Int64) (x1 : Int64) (h0 : Heap) (n0 : Nat) (Z0 : n0 ≤ h0.size) :
    MetFree l (⟨"java/lang/Math", "max", "(JJ)J"⟩ : MethodName) (head1 (Jvm.Cond.code (⟨"java/lang/Math", "max", "(JJ)J"⟩ : MethodName) jdk_29_method_66_code 4 (some .long) :: ws) ({ frames := 0, cells := 0, slots := 0, locals := 0 } : Room)) (fun a U => a = #[(.long x0), (.long x1)] ∧ Z.Warmed39 U.vm ∧ U.heap = h0) (fun _ _ _ _ _ => True) (fun _ U oc U' => ∃ v L, oc = .returned v ∧ Qma Z x0 x1 h0 n0 v U'.heap L ∧ FrameEnd U oc U' L ({ frames := 0, cells := 0, slots := 0, locals := 0 } : Room).cells ({ frames := 0, cells := 0, slots := 0, locals := 0 } : Room).slots) := by
  refine MetFree.of_bodySF (Jvm.Free.JP.mathPlain rfl (by decide +kernel)) hisR ?_
  intro p e s m args below meth c s₁ Bd hml0 hP hK
  obtain ⟨rfl, hZ, hh⟩ := hP
  have hx := Bd.exec
  have hby := Bd.bytes
  have hml : c.maxLocals = 4 := hml0
  have hown : s.vm.findClass "java/lang/Math" = some m.cls := findClass_of_methodNamed Bd.named
  have hnm := (name_of_methodNamed Bd.named Bd.method).1
  have X0 : Stand p l e ({ frames := 0, cells := 0, slots := 0, locals := 0 } : Room) s m #[(.long x0), (.long x1)] below meth c s₁ [] 0 0 := Stand.of_body Bd
  have e0 : s₁.heap = h0 := by rw [← hh, Bd.state]; rfl
  have N0 := Fr.nil n0
  show own_Go p e below (fun s₂ oc => ∃ v L, oc = .returned v ∧ Qma Z x0 x1 h0 n0 v s₂.heap L ∧ FrameEnd s oc s₂ L ({ frames := 0, cells := 0, slots := 0, locals := 0 } : Room).cells ({ frames := 0, cells := 0, slots := 0, locals := 0 } : Room).slots) s₁ (entryFrame m #[(.long x0), (.long x1)] 4)
  refine own_Go.of (g' := mkF m 0 #[.val (.long x0), .second, .val (.long x1), .second] []) (fun t k => castTop (efma m x0 x1) k) ?_
  have hv : own_max x0 x1 = own_max x0 x1 := rfl
  refine og_lloadN (pc' := 1) X0 hx (hb hby d11_0) rfl rfl ?_
  refine og_lloadN (pc' := 2) X0 hx (hb hby d11_1) rfl rfl ?_
  refine og_lcmp (pc' := 3) X0 hx (hb hby d11_2) rfl ?_
  by_cases hc3_1 : x0 < x1
  · have hv := hv.trans (if_pos hc3_1)
    refine og_ifYes (pc' := 10) X0 hx (hb hby d11_3) ((if0 _ _).trans (tlt ((lw_lt _ _).mpr hc3_1)).1) (by decide) (by decide) ?_
    refine og_lloadN (pc' := 11) X0 hx (hb hby d11_10) rfl rfl ?_
    obtain ⟨fs, hr, hrun, hended, hW, hsame⟩ := X0.leave (v := some (.long x1)) (fun h => by rw [Bd.returns] at h; cases h) (BodyLoose.notSynchronized Bd)
    refine ⟨_, _, retL X0 hx Bd.returns (hb hby d11_11) hr, hrun, hended, some (.long x1), _, rfl, ?_, ⟨_, rfl⟩, hW, hsame.mono (by decide) (by decide)⟩
    show Qma Z x0 x1 h0 n0 _ s₁.heap _
    rw [e0]
    exact ⟨(congrArg (fun z => some (Value.long z)) hv.symm), N0, rfl⟩
  · have hv := hv.trans (if_neg hc3_1)
    refine og_ifNo (pc' := 6) X0 hx (hb hby d11_3) ((if0 _ _).trans (flt (fun q => hc3_1 ((lw_lt _ _).mp q))).1) rfl ?_
    refine og_lloadN (pc' := 7) X0 hx (hb hby d11_6) rfl rfl ?_
    refine og_goto (pc' := 11) X0 hx (hb hby d11_7) (by decide) (by decide) ?_
    obtain ⟨fs, hr, hrun, hended, hW, hsame⟩ := X0.leave (v := some (.long x0)) (fun h => by rw [Bd.returns] at h; cases h) (BodyLoose.notSynchronized Bd)
    refine ⟨_, _, retL X0 hx Bd.returns (hb hby d11_11) hr, hrun, hended, some (.long x0), _, rfl, ?_, ⟨_, rfl⟩, hW, hsame.mono (by decide) (by decide)⟩
    show Qma Z x0 x1 h0 n0 _ s₁.heap _
    rw [e0]
    exact ⟨(congrArg (fun z => some (Value.long z)) hv.symm), N0, rfl⟩

def own_cl (x0 : Int64) : Int32 := ((own_max (0 : Int64) (own_min (64 : Int64) x0)).toInt32)
theorem d9_0 : decode method_4_code 0 = .ok (.lconst 0, 1) := by decide +kernel
theorem d9_1 : decode method_4_code 1 = .ok (.ldc2_w 29, 3) := by decide +kernel
theorem d9_4 : decode method_4_code 4 = .ok (.lload_n 0, 1) := by decide +kernel
theorem d9_5 : decode method_4_code 5 = .ok (.invokestatic 51, 3) := by decide +kernel
theorem d9_8 : decode method_4_code 8 = .ok (.invokestatic 56, 3) := by decide +kernel
theorem d9_11 : decode method_4_code 11 = .ok (.l2i, 1) := by decide +kernel
theorem d9_12 : decode method_4_code 12 = .ok (.ireturn, 1) := by decide +kernel
theorem pncl : plainName "com/example/paranhos/paranhos/BitArrayPutPinLaw" = true := by first | (simp [plainName, overriddenIn]; done) | decide +kernel
theorem pd_2 : parseMethodDescriptor "(JJ)J" = some ⟨[.long, .long], some .long⟩ := by decide +kernel
theorem efcl (m : MethodId) (z0 : Int64) : entryFrame m #[(.long z0)] 2 = mkF m 0 #[.val (.long z0), .second] [] := by first | (simp [entryFrame, mkF, argsToLocals, Value.category]; done) | rfl
def Qcl (Z : State) (x0 : Int64) (h0 : Heap) (n0 : Nat) (v : Option Value) (h : Heap) (L : List Loc) : Prop := v = some (.int (own_cl x0)) ∧ Fr n0 L ∧ h = h0
set_option maxRecDepth 65536 in
set_option maxHeartbeats 40000000 in
theorem rmcl (l : Launch) (Z : State) (a0 : Array Value) (hw : ∀ d ∈ tables_1, d.before a0 Z = true) (ws : List Jvm.Cond) (x0 : Int64) (h0 : Heap) (n0 : Nat) (Z0 : n0 ≤ h0.size) :
    MetFree l (⟨"com/example/paranhos/paranhos/BitArrayPutPinLaw", "clamp", "(J)I"⟩ : MethodName) (head1 (Jvm.Cond.code (⟨"com/example/paranhos/paranhos/BitArrayPutPinLaw", "clamp", "(J)I"⟩ : MethodName) method_4_code 2 (some .int) :: ws) ({ frames := 1, cells := 0, slots := 0, locals := 17 } : Room)) (fun a U => a = #[(.long x0)] ∧ Z.Warmed39 U.vm ∧ U.heap = h0) (fun _ _ _ _ _ => True) (fun _ U oc U' => ∃ v L, oc = .returned v ∧ Qcl Z x0 h0 n0 v U'.heap L ∧ FrameEnd U oc U' L ({ frames := 1, cells := 0, slots := 0, locals := 17 } : Room).cells ({ frames := 1, cells := 0, slots := 0, locals := 17 } : Room).slots) := by
  refine MetFree.of_bodySF (plainFor_of_name pncl) hisR ?_
  intro p e s m args below meth c s₁ Bd hml0 hP hK
  obtain ⟨rfl, hZ, hh⟩ := hP
  have hx := Bd.exec
  have hby := Bd.bytes
  have hml : c.maxLocals = 2 := hml0
  have hown : s.vm.findClass "com/example/paranhos/paranhos/BitArrayPutPinLaw" = some m.cls := findClass_of_methodNamed Bd.named
  have hnm := (name_of_methodNamed Bd.named Bd.method).1
  have X0 : Stand p l e ({ frames := 1, cells := 0, slots := 0, locals := 17 } : Room) s m #[(.long x0)] below meth c s₁ [] 0 0 := Stand.of_body Bd
  have e0 : s₁.heap = h0 := by rw [← hh, Bd.state]; rfl
  have N0 := Fr.nil n0
  show own_Go p e below (fun s₂ oc => ∃ v L, oc = .returned v ∧ Qcl Z x0 h0 n0 v s₂.heap L ∧ FrameEnd s oc s₂ L ({ frames := 1, cells := 0, slots := 0, locals := 17 } : Room).cells ({ frames := 1, cells := 0, slots := 0, locals := 17 } : Room).slots) s₁ (entryFrame m #[(.long x0)] 2)
  refine own_Go.of (g' := mkF m 0 #[.val (.long x0), .second] []) (fun t k => castTop (efcl m x0) k) ?_
  have hv : own_cl x0 = own_cl x0 := rfl
  refine og_lconst0 (pc' := 1) X0 hx (hb hby d9_0) rfl ?_
  refine og_ldc2_w (pc' := 4) X0 hx (hb hby d9_1) hown (mvT hZ (hw _ (List.mem_of_getElem? (i := 36) rfl))) rfl ?_
  refine og_lloadN (pc' := 5) X0 hx (hb hby d9_4) rfl rfl ?_
  obtain ⟨_, _, ⟨T1, L1, k1, n1⟩, -, X1, ⟨Lc1, hQ1, l1, y1, z1⟩, st1⟩ := Jvm.LawKit.callS X0 hx (y := (⟨"java/lang/Math", "min", "(JJ)J"⟩ : MethodName)) hown (mvT hZ (hw _ (List.mem_of_getElem? (i := 49) rfl))) (mvT hZ (hw _ (List.mem_of_getElem? (i := 50) rfl))) (mvT hZ (hw _ (List.mem_of_getElem? (i := 51) rfl))) (mvT hZ (hw _ (List.mem_of_getElem? (i := 52) rfl))) (by decide) (backOf (W := 2) (rmmi l Z a0 hw [] (64 : Int64) x0 h0 n0 Z0 ) hZ (hw _ (List.mem_of_getElem? (i := 52) rfl)) (hw _ (List.mem_of_getElem? (i := 51) rfl)) (by decide) (by decide)) (g := (mkF m 5 #[.val (.long x0), .second] [(.long x0), (.long (64 : Int64)), (.long (0 : Int64))])) rfl (by rw [hml]; rfl) (argsL := [(.long (64 : Int64)), (.long x0)]) (rest := [(.long (0 : Int64))]) (lenOf pd_2 rfl) rfl (by show 2 * 0 + _ ≤ _; exact Nat.le_of_eq rfl) (hb hby d9_5) (fun _ _ => ⟨rfl, e0, (by decide : 0 + 0 ≤ _), (by decide : 0 + 0 ≤ _)⟩)
  dsimp only [Pt.U, Pt.locs, Pt.cells, Pt.slots] at X1 l1 y1 z1 st1 hQ1
  subst l1 y1 z1
  obtain ⟨rfl, N1q, e1⟩ := hQ1
  have N1 := Fr.app N0 N1q
  obtain ⟨J1, X1, N1⟩ := own_hide X1 N1
  refine own_Go.of (g' := (mkF m 8 #[.val (.long x0), .second] [(.long (own_min (64 : Int64) x0)), (.long (0 : Int64))])) (fun t k => st1 _ k) ?_
  obtain ⟨_, _, ⟨T2, L2, k2, n2⟩, -, X2, ⟨Lc2, hQ2, l2, y2, z2⟩, st2⟩ := Jvm.LawKit.callS X1 hx (y := (⟨"java/lang/Math", "max", "(JJ)J"⟩ : MethodName)) hown (mvT hZ (hw _ (List.mem_of_getElem? (i := 53) rfl))) (mvT hZ (hw _ (List.mem_of_getElem? (i := 54) rfl))) (mvT hZ (hw _ (List.mem_of_getElem? (i := 51) rfl))) (mvT hZ (hw _ (List.mem_of_getElem? (i := 55) rfl))) (by decide) (backOf (W := 0) (rmma l Z a0 hw [] (0 : Int64) (own_min (64 : Int64) x0) h0 n0 Z0 ) hZ (hw _ (List.mem_of_getElem? (i := 55) rfl)) (hw _ (List.mem_of_getElem? (i := 51) rfl)) (by decide) (by decide)) (g := (mkF m 8 #[.val (.long x0), .second] [(.long (own_min (64 : Int64) x0)), (.long (0 : Int64))])) rfl (by rw [hml]; rfl) (argsL := [(.long (0 : Int64)), (.long (own_min (64 : Int64) x0))]) (rest := []) (lenOf pd_2 rfl) rfl (by show 2 * 0 + _ ≤ _; exact Nat.le_of_eq rfl) (hb hby d9_8) (fun _ _ => ⟨rfl, e1, (by decide : 0 + 0 ≤ _), (by decide : 0 + 0 ≤ _)⟩)
  dsimp only [Pt.U, Pt.locs, Pt.cells, Pt.slots] at X2 l2 y2 z2 st2 hQ2
  subst l2 y2 z2
  obtain ⟨rfl, N2q, e2⟩ := hQ2
  have N2 := Fr.app N1 N2q
  obtain ⟨J2, X2, N2⟩ := own_hide X2 N2
  refine own_Go.of (g' := (mkF m 11 #[.val (.long x0), .second] [(.long (own_max (0 : Int64) (own_min (64 : Int64) x0)))])) (fun t k => st2 _ k) ?_
  refine og_l2i (pc' := 12) X2 hx (hb hby d9_11) rfl ?_
  obtain ⟨fs, hr, hrun, hended, hW, hsame⟩ := X2.leave (v := some (.int ((own_max (0 : Int64) (own_min (64 : Int64) x0)).toInt32))) (fun h => by rw [Bd.returns] at h; cases h) (BodyLoose.notSynchronized Bd)
  refine ⟨_, _, retI X2 hx Bd.returns (hb hby d9_12) hr, hrun, hended, some (.int ((own_max (0 : Int64) (own_min (64 : Int64) x0)).toInt32)), _, rfl, ?_, ⟨_, rfl⟩, hW, hsame.mono (by decide) (by decide)⟩
  show Qcl Z x0 h0 n0 _ T2.heap _
  rw [e2]
  exact ⟨(congrArg (fun z => some (Value.int z)) hv.symm), N2, rfl⟩

def own_shf (x0 : Int64) (x1 : Int64) : Int64 := (if x1 < (64 : Int64) then (if (-64 : Int64) < x1 then (if x1 < (0 : Int64) then ((x0.toUInt64 >>> (((-x1).toInt32) &&& 0x3f).toInt64.toUInt64).toInt64) else (x0 <<< ((x1.toInt32) &&& 0x3f).toInt64)) else (0 : Int64)) else (0 : Int64))
theorem d12_0 : decode method_6_code 0 = .ok (.lload_n 2, 1) := by decide +kernel
theorem d12_1 : decode method_6_code 1 = .ok (.ldc2_w 29, 3) := by decide +kernel
theorem d12_4 : decode method_6_code 4 = .ok (.lcmp, 1) := by decide +kernel
theorem d12_5 : decode method_6_code 5 = .ok (.ifCond .ge 11, 3) := by decide +kernel
theorem d12_8 : decode method_6_code 8 = .ok (.lload_n 2, 1) := by decide +kernel
theorem d12_9 : decode method_6_code 9 = .ok (.ldc2_w 59, 3) := by decide +kernel
theorem d12_12 : decode method_6_code 12 = .ok (.lcmp, 1) := by decide +kernel
theorem d12_13 : decode method_6_code 13 = .ok (.ifCond .gt 5, 3) := by decide +kernel
theorem d12_16 : decode method_6_code 16 = .ok (.lconst 0, 1) := by decide +kernel
theorem d12_17 : decode method_6_code 17 = .ok (.lreturn, 1) := by decide +kernel
theorem d12_18 : decode method_6_code 18 = .ok (.lload_n 2, 1) := by decide +kernel
theorem d12_19 : decode method_6_code 19 = .ok (.lconst 0, 1) := by decide +kernel
theorem d12_20 : decode method_6_code 20 = .ok (.lcmp, 1) := by decide +kernel
theorem d12_21 : decode method_6_code 21 = .ok (.ifCond .lt 8, 3) := by decide +kernel
theorem d12_24 : decode method_6_code 24 = .ok (.lload_n 0, 1) := by decide +kernel
theorem d12_25 : decode method_6_code 25 = .ok (.lload_n 2, 1) := by decide +kernel
theorem d12_26 : decode method_6_code 26 = .ok (.l2i, 1) := by decide +kernel
theorem d12_27 : decode method_6_code 27 = .ok (.lshl, 1) := by decide +kernel
theorem d12_28 : decode method_6_code 28 = .ok (.lreturn, 1) := by decide +kernel
theorem d12_29 : decode method_6_code 29 = .ok (.lload_n 0, 1) := by decide +kernel
theorem d12_30 : decode method_6_code 30 = .ok (.lload_n 2, 1) := by decide +kernel
theorem d12_31 : decode method_6_code 31 = .ok (.lneg, 1) := by decide +kernel
theorem d12_32 : decode method_6_code 32 = .ok (.l2i, 1) := by decide +kernel
theorem d12_33 : decode method_6_code 33 = .ok (.lushr, 1) := by decide +kernel
theorem d12_34 : decode method_6_code 34 = .ok (.lreturn, 1) := by decide +kernel
theorem pnsh : plainName "com/example/paranhos/paranhos/BitArrayPutPinLaw" = true := by first | (simp [plainName, overriddenIn]; done) | decide +kernel
theorem efsh (m : MethodId) (z0 : Int64) (z1 : Int64) : entryFrame m #[(.long z0), (.long z1)] 4 = mkF m 0 #[.val (.long z0), .second, .val (.long z1), .second] [] := by first | (simp [entryFrame, mkF, argsToLocals, Value.category]; done) | rfl
def Qsh (Z : State) (x0 : Int64) (x1 : Int64) (h0 : Heap) (n0 : Nat) (v : Option Value) (h : Heap) (L : List Loc) : Prop := v = some (.long (own_shf x0 x1)) ∧ Fr n0 L ∧ h = h0
set_option maxRecDepth 65536 in
set_option maxHeartbeats 40000000 in
theorem rmsh (l : Launch) (Z : State) (a0 : Array Value) (hw : ∀ d ∈ tables_1, d.before a0 Z = true) (ws : List Jvm.Cond) (x0 : Int64) (x1 : Int64) (h0 : Heap) (n0 : Nat) (Z0 : n0 ≤ h0.size) :
    MetFree l (⟨"com/example/paranhos/paranhos/BitArrayPutPinLaw", "shifted", "(JJ)J"⟩ : MethodName) (head1 (Jvm.Cond.code (⟨"com/example/paranhos/paranhos/BitArrayPutPinLaw", "shifted", "(JJ)J"⟩ : MethodName) method_6_code 4 (some .long) :: ws) ({ frames := 0, cells := 0, slots := 0, locals := 0 } : Room)) (fun a U => a = #[(.long x0), (.long x1)] ∧ Z.Warmed39 U.vm ∧ U.heap = h0) (fun _ _ _ _ _ => True) (fun _ U oc U' => ∃ v L, oc = .returned v ∧ Qsh Z x0 x1 h0 n0 v U'.heap L ∧ FrameEnd U oc U' L ({ frames := 0, cells := 0, slots := 0, locals := 0 } : Room).cells ({ frames := 0, cells := 0, slots := 0, locals := 0 } : Room).slots) := by
  refine MetFree.of_bodySF (plainFor_of_name pnsh) hisR ?_
  intro p e s m args below meth c s₁ Bd hml0 hP hK
  obtain ⟨rfl, hZ, hh⟩ := hP
  have hx := Bd.exec
  have hby := Bd.bytes
  have hml : c.maxLocals = 4 := hml0
  have hown : s.vm.findClass "com/example/paranhos/paranhos/BitArrayPutPinLaw" = some m.cls := findClass_of_methodNamed Bd.named
  have hnm := (name_of_methodNamed Bd.named Bd.method).1
  have X0 : Stand p l e ({ frames := 0, cells := 0, slots := 0, locals := 0 } : Room) s m #[(.long x0), (.long x1)] below meth c s₁ [] 0 0 := Stand.of_body Bd
  have e0 : s₁.heap = h0 := by rw [← hh, Bd.state]; rfl
  have N0 := Fr.nil n0
  show own_Go p e below (fun s₂ oc => ∃ v L, oc = .returned v ∧ Qsh Z x0 x1 h0 n0 v s₂.heap L ∧ FrameEnd s oc s₂ L ({ frames := 0, cells := 0, slots := 0, locals := 0 } : Room).cells ({ frames := 0, cells := 0, slots := 0, locals := 0 } : Room).slots) s₁ (entryFrame m #[(.long x0), (.long x1)] 4)
  refine own_Go.of (g' := mkF m 0 #[.val (.long x0), .second, .val (.long x1), .second] []) (fun t k => castTop (efsh m x0 x1) k) ?_
  have hv : own_shf x0 x1 = own_shf x0 x1 := rfl
  refine og_lloadN (pc' := 1) X0 hx (hb hby d12_0) rfl rfl ?_
  refine og_ldc2_w (pc' := 4) X0 hx (hb hby d12_1) hown (mvT hZ (hw _ (List.mem_of_getElem? (i := 36) rfl))) rfl ?_
  refine og_lcmp (pc' := 5) X0 hx (hb hby d12_4) rfl ?_
  by_cases hc5_1 : x1 < (64 : Int64)
  · have hv := hv.trans (if_pos hc5_1)
    refine og_ifNo (pc' := 8) X0 hx (hb hby d12_5) ((if0 _ _).trans (tlt ((lw_lt _ _).mpr hc5_1)).2.1) rfl ?_
    refine og_lloadN (pc' := 9) X0 hx (hb hby d12_8) rfl rfl ?_
    refine og_ldc2_w (pc' := 12) X0 hx (hb hby d12_9) hown (mvT hZ (hw _ (List.mem_of_getElem? (i := 60) rfl))) rfl ?_
    refine og_lcmp (pc' := 13) X0 hx (hb hby d12_12) rfl ?_
    by_cases hc13_2 : (-64 : Int64) < x1
    · have hv := hv.trans (if_pos hc13_2)
      refine og_ifYes (pc' := 18) X0 hx (hb hby d12_13) ((if0 _ _).trans (tlt ((lw_gt _ _).mpr hc13_2)).2.2.1) (by decide) (by decide) ?_
      refine og_lloadN (pc' := 19) X0 hx (hb hby d12_18) rfl rfl ?_
      refine og_lconst0 (pc' := 20) X0 hx (hb hby d12_19) rfl ?_
      refine og_lcmp (pc' := 21) X0 hx (hb hby d12_20) rfl ?_
      by_cases hc21_3 : x1 < (0 : Int64)
      · have hv := hv.trans (if_pos hc21_3)
        refine og_ifYes (pc' := 29) X0 hx (hb hby d12_21) ((if0 _ _).trans (tlt ((lw_lt _ _).mpr hc21_3)).1) (by decide) (by decide) ?_
        refine og_lloadN (pc' := 30) X0 hx (hb hby d12_29) rfl rfl ?_
        refine og_lloadN (pc' := 31) X0 hx (hb hby d12_30) rfl rfl ?_
        refine og_lneg (pc' := 32) X0 hx (hb hby d12_31) rfl ?_
        refine og_l2i (pc' := 33) X0 hx (hb hby d12_32) rfl ?_
        refine og_lushr (pc' := 34) X0 hx (hb hby d12_33) rfl ?_
        obtain ⟨fs, hr, hrun, hended, hW, hsame⟩ := X0.leave (v := some (.long ((x0.toUInt64 >>> (((-x1).toInt32) &&& 0x3f).toInt64.toUInt64).toInt64))) (fun h => by rw [Bd.returns] at h; cases h) (BodyLoose.notSynchronized Bd)
        refine ⟨_, _, retL X0 hx Bd.returns (hb hby d12_34) hr, hrun, hended, some (.long ((x0.toUInt64 >>> (((-x1).toInt32) &&& 0x3f).toInt64.toUInt64).toInt64)), _, rfl, ?_, ⟨_, rfl⟩, hW, hsame.mono (by decide) (by decide)⟩
        show Qsh Z x0 x1 h0 n0 _ s₁.heap _
        rw [e0]
        exact ⟨(congrArg (fun z => some (Value.long z)) hv.symm), N0, rfl⟩
      · have hv := hv.trans (if_neg hc21_3)
        refine og_ifNo (pc' := 24) X0 hx (hb hby d12_21) ((if0 _ _).trans (flt (fun q => hc21_3 ((lw_lt _ _).mp q))).1) rfl ?_
        refine og_lloadN (pc' := 25) X0 hx (hb hby d12_24) rfl rfl ?_
        refine og_lloadN (pc' := 26) X0 hx (hb hby d12_25) rfl rfl ?_
        refine og_l2i (pc' := 27) X0 hx (hb hby d12_26) rfl ?_
        refine og_lshl (pc' := 28) X0 hx (hb hby d12_27) rfl ?_
        obtain ⟨fs, hr, hrun, hended, hW, hsame⟩ := X0.leave (v := some (.long (x0 <<< ((x1.toInt32) &&& 0x3f).toInt64))) (fun h => by rw [Bd.returns] at h; cases h) (BodyLoose.notSynchronized Bd)
        refine ⟨_, _, retL X0 hx Bd.returns (hb hby d12_28) hr, hrun, hended, some (.long (x0 <<< ((x1.toInt32) &&& 0x3f).toInt64)), _, rfl, ?_, ⟨_, rfl⟩, hW, hsame.mono (by decide) (by decide)⟩
        show Qsh Z x0 x1 h0 n0 _ s₁.heap _
        rw [e0]
        exact ⟨(congrArg (fun z => some (Value.long z)) hv.symm), N0, rfl⟩
    · have hv := hv.trans (if_neg hc13_2)
      refine og_ifNo (pc' := 16) X0 hx (hb hby d12_13) ((if0 _ _).trans (flt (fun q => hc13_2 ((lw_gt _ _).mp q))).2.2.1) rfl ?_
      refine og_lconst0 (pc' := 17) X0 hx (hb hby d12_16) rfl ?_
      obtain ⟨fs, hr, hrun, hended, hW, hsame⟩ := X0.leave (v := some (.long (0 : Int64))) (fun h => by rw [Bd.returns] at h; cases h) (BodyLoose.notSynchronized Bd)
      refine ⟨_, _, retL X0 hx Bd.returns (hb hby d12_17) hr, hrun, hended, some (.long (0 : Int64)), _, rfl, ?_, ⟨_, rfl⟩, hW, hsame.mono (by decide) (by decide)⟩
      show Qsh Z x0 x1 h0 n0 _ s₁.heap _
      rw [e0]
      exact ⟨(congrArg (fun z => some (Value.long z)) hv.symm), N0, rfl⟩
  · have hv := hv.trans (if_neg hc5_1)
    refine og_ifYes (pc' := 16) X0 hx (hb hby d12_5) ((if0 _ _).trans (flt (fun q => hc5_1 ((lw_lt _ _).mp q))).2.1) (by decide) (by decide) ?_
    refine og_lconst0 (pc' := 17) X0 hx (hb hby d12_16) rfl ?_
    obtain ⟨fs, hr, hrun, hended, hW, hsame⟩ := X0.leave (v := some (.long (0 : Int64))) (fun h => by rw [Bd.returns] at h; cases h) (BodyLoose.notSynchronized Bd)
    refine ⟨_, _, retL X0 hx Bd.returns (hb hby d12_17) hr, hrun, hended, some (.long (0 : Int64)), _, rfl, ?_, ⟨_, rfl⟩, hW, hsame.mono (by decide) (by decide)⟩
    show Qsh Z x0 x1 h0 n0 _ s₁.heap _
    rw [e0]
    exact ⟨(congrArg (fun z => some (Value.long z)) hv.symm), N0, rfl⟩

def own_exp (x0 : Int64) (x1 : Int64) (x2 : Int64) (x3 : Int64) (x4 : Int64) : Int64 := ((x0 &&& (((own_lm (own_cl (x3 - x1))) &&& ((own_lm (own_cl (x2 - x1))) ^^^ (-1 : Int64))) ^^^ (-1 : Int64))) ||| ((own_shf x4 (x2 - x1)) &&& ((own_lm (own_cl (x3 - x1))) &&& ((own_lm (own_cl (x2 - x1))) ^^^ (-1 : Int64)))))
theorem d8_0 : decode method_3_code 0 = .ok (.lload 4, 2) := by decide +kernel
theorem d8_2 : decode method_3_code 2 = .ok (.lload_n 2, 1) := by decide +kernel
theorem d8_3 : decode method_3_code 3 = .ok (.lsub, 1) := by decide +kernel
theorem d8_4 : decode method_3_code 4 = .ok (.invokestatic 41, 3) := by decide +kernel
theorem d8_7 : decode method_3_code 7 = .ok (.istore 10, 2) := by decide +kernel
theorem d8_9 : decode method_3_code 9 = .ok (.lload 6, 2) := by decide +kernel
theorem d8_11 : decode method_3_code 11 = .ok (.lload_n 2, 1) := by decide +kernel
theorem d8_12 : decode method_3_code 12 = .ok (.lsub, 1) := by decide +kernel
theorem d8_13 : decode method_3_code 13 = .ok (.invokestatic 41, 3) := by decide +kernel
theorem d8_16 : decode method_3_code 16 = .ok (.istore 11, 2) := by decide +kernel
theorem d8_18 : decode method_3_code 18 = .ok (.iload 11, 2) := by decide +kernel
theorem d8_20 : decode method_3_code 20 = .ok (.invokestatic 12, 3) := by decide +kernel
theorem d8_23 : decode method_3_code 23 = .ok (.iload 10, 2) := by decide +kernel
theorem d8_25 : decode method_3_code 25 = .ok (.invokestatic 12, 3) := by decide +kernel
theorem d8_28 : decode method_3_code 28 = .ok (.ldc2_w 45, 3) := by decide +kernel
theorem d8_31 : decode method_3_code 31 = .ok (.lxor, 1) := by decide +kernel
theorem d8_32 : decode method_3_code 32 = .ok (.land, 1) := by decide +kernel
theorem d8_33 : decode method_3_code 33 = .ok (.lstore 12, 2) := by decide +kernel
theorem d8_35 : decode method_3_code 35 = .ok (.lload_n 0, 1) := by decide +kernel
theorem d8_36 : decode method_3_code 36 = .ok (.lload 12, 2) := by decide +kernel
theorem d8_38 : decode method_3_code 38 = .ok (.ldc2_w 45, 3) := by decide +kernel
theorem d8_41 : decode method_3_code 41 = .ok (.lxor, 1) := by decide +kernel
theorem d8_42 : decode method_3_code 42 = .ok (.land, 1) := by decide +kernel
theorem d8_43 : decode method_3_code 43 = .ok (.lload 8, 2) := by decide +kernel
theorem d8_45 : decode method_3_code 45 = .ok (.lload 4, 2) := by decide +kernel
theorem d8_47 : decode method_3_code 47 = .ok (.lload_n 2, 1) := by decide +kernel
theorem d8_48 : decode method_3_code 48 = .ok (.lsub, 1) := by decide +kernel
theorem d8_49 : decode method_3_code 49 = .ok (.invokestatic 47, 3) := by decide +kernel
theorem d8_52 : decode method_3_code 52 = .ok (.lload 12, 2) := by decide +kernel
theorem d8_54 : decode method_3_code 54 = .ok (.land, 1) := by decide +kernel
theorem d8_55 : decode method_3_code 55 = .ok (.lor, 1) := by decide +kernel
theorem d8_56 : decode method_3_code 56 = .ok (.lreturn, 1) := by decide +kernel
theorem pnxp : plainName "com/example/paranhos/paranhos/BitArrayPutPinLaw" = true := by first | (simp [plainName, overriddenIn]; done) | decide +kernel
theorem pd_3 : parseMethodDescriptor "(I)J" = some ⟨[.int], some .long⟩ := by decide +kernel
theorem efxp (m : MethodId) (z0 : Int64) (z1 : Int64) (z2 : Int64) (z3 : Int64) (z4 : Int64) : entryFrame m #[(.long z0), (.long z1), (.long z2), (.long z3), (.long z4)] 14 = mkF m 0 #[.val (.long z0), .second, .val (.long z1), .second, .val (.long z2), .second, .val (.long z3), .second, .val (.long z4), .second, .unset, .unset, .unset, .unset] [] := by first | (simp [entryFrame, mkF, argsToLocals, Value.category]; done) | rfl
def Qxp (Z : State) (x0 : Int64) (x1 : Int64) (x2 : Int64) (x3 : Int64) (x4 : Int64) (h0 : Heap) (n0 : Nat) (v : Option Value) (h : Heap) (L : List Loc) : Prop := v = some (.long (own_exp x0 x1 x2 x3 x4)) ∧ Fr n0 L ∧ h = h0
set_option maxRecDepth 65536 in
set_option maxHeartbeats 40000000 in
theorem rmxp (l : Launch) (Z : State) (a0 : Array Value) (hw : ∀ d ∈ tables_1, d.before a0 Z = true) (ws : List Jvm.Cond) (x0 : Int64) (x1 : Int64) (x2 : Int64) (x3 : Int64) (x4 : Int64) (h0 : Heap) (n0 : Nat) (Z0 : n0 ≤ h0.size) :
    MetFree l (⟨"com/example/paranhos/paranhos/BitArrayPutPinLaw", "expected", "(JJJJJ)J"⟩ : MethodName) (head1 (Jvm.Cond.code (⟨"com/example/paranhos/paranhos/BitArrayPutPinLaw", "expected", "(JJJJJ)J"⟩ : MethodName) method_3_code 14 (some .long) :: ws) ({ frames := 2, cells := 0, slots := 0, locals := 30 } : Room)) (fun a U => a = #[(.long x0), (.long x1), (.long x2), (.long x3), (.long x4)] ∧ Z.Warmed39 U.vm ∧ U.heap = h0) (fun _ _ _ _ _ => True) (fun _ U oc U' => ∃ v L, oc = .returned v ∧ Qxp Z x0 x1 x2 x3 x4 h0 n0 v U'.heap L ∧ FrameEnd U oc U' L ({ frames := 2, cells := 0, slots := 0, locals := 30 } : Room).cells ({ frames := 2, cells := 0, slots := 0, locals := 30 } : Room).slots) := by
  refine MetFree.of_bodySF (plainFor_of_name pnxp) hisR ?_
  intro p e s m args below meth c s₁ Bd hml0 hP hK
  obtain ⟨rfl, hZ, hh⟩ := hP
  have hx := Bd.exec
  have hby := Bd.bytes
  have hml : c.maxLocals = 14 := hml0
  have hown : s.vm.findClass "com/example/paranhos/paranhos/BitArrayPutPinLaw" = some m.cls := findClass_of_methodNamed Bd.named
  have hnm := (name_of_methodNamed Bd.named Bd.method).1
  have X0 : Stand p l e ({ frames := 2, cells := 0, slots := 0, locals := 30 } : Room) s m #[(.long x0), (.long x1), (.long x2), (.long x3), (.long x4)] below meth c s₁ [] 0 0 := Stand.of_body Bd
  have e0 : s₁.heap = h0 := by rw [← hh, Bd.state]; rfl
  have N0 := Fr.nil n0
  show own_Go p e below (fun s₂ oc => ∃ v L, oc = .returned v ∧ Qxp Z x0 x1 x2 x3 x4 h0 n0 v s₂.heap L ∧ FrameEnd s oc s₂ L ({ frames := 2, cells := 0, slots := 0, locals := 30 } : Room).cells ({ frames := 2, cells := 0, slots := 0, locals := 30 } : Room).slots) s₁ (entryFrame m #[(.long x0), (.long x1), (.long x2), (.long x3), (.long x4)] 14)
  refine own_Go.of (g' := mkF m 0 #[.val (.long x0), .second, .val (.long x1), .second, .val (.long x2), .second, .val (.long x3), .second, .val (.long x4), .second, .unset, .unset, .unset, .unset] []) (fun t k => castTop (efxp m x0 x1 x2 x3 x4) k) ?_
  have hv : own_exp x0 x1 x2 x3 x4 = own_exp x0 x1 x2 x3 x4 := rfl
  refine og_lload (pc' := 2) X0 hx (hb hby d8_0) rfl rfl ?_
  refine og_lloadN (pc' := 3) X0 hx (hb hby d8_2) rfl rfl ?_
  refine og_lsub (pc' := 4) X0 hx (hb hby d8_3) rfl ?_
  obtain ⟨_, _, ⟨T1, L1, k1, n1⟩, -, X1, ⟨Lc1, hQ1, l1, y1, z1⟩, st1⟩ := Jvm.LawKit.callS X0 hx (y := (⟨"com/example/paranhos/paranhos/BitArrayPutPinLaw", "clamp", "(J)I"⟩ : MethodName)) hown (mvT hZ (hw _ (List.mem_of_getElem? (i := 46) rfl))) (mvT hZ (hw _ (List.mem_of_getElem? (i := 47) rfl))) (mvT hZ (hw _ (List.mem_of_getElem? (i := 5) rfl))) (mvT hZ (hw _ (List.mem_of_getElem? (i := 48) rfl))) (by decide) (backOf (W := 0) (rmcl l Z a0 hw [] (x2 - x1) h0 n0 Z0 ) hZ (hw _ (List.mem_of_getElem? (i := 48) rfl)) (hw _ (List.mem_of_getElem? (i := 5) rfl)) (by decide) (by decide)) (g := (mkF m 4 #[.val (.long x0), .second, .val (.long x1), .second, .val (.long x2), .second, .val (.long x3), .second, .val (.long x4), .second, .unset, .unset, .unset, .unset] [(.long (x2 - x1))])) rfl (by rw [hml]; rfl) (argsL := [(.long (x2 - x1))]) (rest := []) (lenOf pd_0 rfl) rfl (by show 2 * 0 + _ ≤ _; exact Nat.le_of_eq rfl) (hb hby d8_4) (fun _ _ => ⟨rfl, e0, (by decide : 0 + 0 ≤ _), (by decide : 0 + 0 ≤ _)⟩)
  dsimp only [Pt.U, Pt.locs, Pt.cells, Pt.slots] at X1 l1 y1 z1 st1 hQ1
  subst l1 y1 z1
  obtain ⟨rfl, N1q, e1⟩ := hQ1
  have N1 := Fr.app N0 N1q
  obtain ⟨J1, X1, N1⟩ := own_hide X1 N1
  refine own_Go.of (g' := (mkF m 7 #[.val (.long x0), .second, .val (.long x1), .second, .val (.long x2), .second, .val (.long x3), .second, .val (.long x4), .second, .unset, .unset, .unset, .unset] [(.int (own_cl (x2 - x1)))])) (fun t k => st1 _ k) ?_
  refine og_istore (pc' := 9) (L' := #[.val (.long x0), .second, .val (.long x1), .second, .val (.long x2), .second, .val (.long x3), .second, .val (.long x4), .second, .val (.int (own_cl (x2 - x1))), .unset, .unset, .unset]) X1 hx (hb hby d8_7) rfl rfl ?_
  refine og_lload (pc' := 11) X1 hx (hb hby d8_9) rfl rfl ?_
  refine og_lloadN (pc' := 12) X1 hx (hb hby d8_11) rfl rfl ?_
  refine og_lsub (pc' := 13) X1 hx (hb hby d8_12) rfl ?_
  obtain ⟨_, _, ⟨T2, L2, k2, n2⟩, -, X2, ⟨Lc2, hQ2, l2, y2, z2⟩, st2⟩ := Jvm.LawKit.callS X1 hx (y := (⟨"com/example/paranhos/paranhos/BitArrayPutPinLaw", "clamp", "(J)I"⟩ : MethodName)) hown (mvT hZ (hw _ (List.mem_of_getElem? (i := 46) rfl))) (mvT hZ (hw _ (List.mem_of_getElem? (i := 47) rfl))) (mvT hZ (hw _ (List.mem_of_getElem? (i := 5) rfl))) (mvT hZ (hw _ (List.mem_of_getElem? (i := 48) rfl))) (by decide) (backOf (W := 0) (rmcl l Z a0 hw [] (x3 - x1) h0 n0 Z0 ) hZ (hw _ (List.mem_of_getElem? (i := 48) rfl)) (hw _ (List.mem_of_getElem? (i := 5) rfl)) (by decide) (by decide)) (g := (mkF m 13 #[.val (.long x0), .second, .val (.long x1), .second, .val (.long x2), .second, .val (.long x3), .second, .val (.long x4), .second, .val (.int (own_cl (x2 - x1))), .unset, .unset, .unset] [(.long (x3 - x1))])) rfl (by rw [hml]; rfl) (argsL := [(.long (x3 - x1))]) (rest := []) (lenOf pd_0 rfl) rfl (by show 2 * 0 + _ ≤ _; exact Nat.le_of_eq rfl) (hb hby d8_13) (fun _ _ => ⟨rfl, e1, (by decide : 0 + 0 ≤ _), (by decide : 0 + 0 ≤ _)⟩)
  dsimp only [Pt.U, Pt.locs, Pt.cells, Pt.slots] at X2 l2 y2 z2 st2 hQ2
  subst l2 y2 z2
  obtain ⟨rfl, N2q, e2⟩ := hQ2
  have N2 := Fr.app N1 N2q
  obtain ⟨J2, X2, N2⟩ := own_hide X2 N2
  refine own_Go.of (g' := (mkF m 16 #[.val (.long x0), .second, .val (.long x1), .second, .val (.long x2), .second, .val (.long x3), .second, .val (.long x4), .second, .val (.int (own_cl (x2 - x1))), .unset, .unset, .unset] [(.int (own_cl (x3 - x1)))])) (fun t k => st2 _ k) ?_
  refine og_istore (pc' := 18) (L' := #[.val (.long x0), .second, .val (.long x1), .second, .val (.long x2), .second, .val (.long x3), .second, .val (.long x4), .second, .val (.int (own_cl (x2 - x1))), .val (.int (own_cl (x3 - x1))), .unset, .unset]) X2 hx (hb hby d8_16) rfl rfl ?_
  refine og_iload (pc' := 20) X2 hx (hb hby d8_18) rfl rfl ?_
  obtain ⟨_, _, ⟨T3, L3, k3, n3⟩, -, X3, ⟨Lc3, hQ3, l3, y3, z3⟩, st3⟩ := Jvm.LawKit.callS X2 hx (y := (⟨"com/example/paranhos/paranhos/BitArrayPutPinLaw", "lowMask", "(I)J"⟩ : MethodName)) hown (mvT hZ (hw _ (List.mem_of_getElem? (i := 3) rfl))) (mvT hZ (hw _ (List.mem_of_getElem? (i := 4) rfl))) (mvT hZ (hw _ (List.mem_of_getElem? (i := 5) rfl))) (mvT hZ (hw _ (List.mem_of_getElem? (i := 6) rfl))) (by decide) (backOf (W := 0) (rmlm l Z a0 hw [] (own_cl (x3 - x1)) h0 n0 Z0 ) hZ (hw _ (List.mem_of_getElem? (i := 6) rfl)) (hw _ (List.mem_of_getElem? (i := 5) rfl)) (by decide) (by decide)) (g := (mkF m 20 #[.val (.long x0), .second, .val (.long x1), .second, .val (.long x2), .second, .val (.long x3), .second, .val (.long x4), .second, .val (.int (own_cl (x2 - x1))), .val (.int (own_cl (x3 - x1))), .unset, .unset] [(.int (own_cl (x3 - x1)))])) rfl (by rw [hml]; rfl) (argsL := [(.int (own_cl (x3 - x1)))]) (rest := []) (lenOf pd_3 rfl) rfl (by show 2 * 0 + _ ≤ _; exact Nat.le_of_eq rfl) (hb hby d8_20) (fun _ _ => ⟨rfl, e2, (by decide : 0 + 0 ≤ _), (by decide : 0 + 0 ≤ _)⟩)
  dsimp only [Pt.U, Pt.locs, Pt.cells, Pt.slots] at X3 l3 y3 z3 st3 hQ3
  subst l3 y3 z3
  obtain ⟨rfl, N3q, e3⟩ := hQ3
  have N3 := Fr.app N2 N3q
  obtain ⟨J3, X3, N3⟩ := own_hide X3 N3
  refine own_Go.of (g' := (mkF m 23 #[.val (.long x0), .second, .val (.long x1), .second, .val (.long x2), .second, .val (.long x3), .second, .val (.long x4), .second, .val (.int (own_cl (x2 - x1))), .val (.int (own_cl (x3 - x1))), .unset, .unset] [(.long (own_lm (own_cl (x3 - x1))))])) (fun t k => st3 _ k) ?_
  refine og_iload (pc' := 25) X3 hx (hb hby d8_23) rfl rfl ?_
  obtain ⟨_, _, ⟨T4, L4, k4, n4⟩, -, X4, ⟨Lc4, hQ4, l4, y4, z4⟩, st4⟩ := Jvm.LawKit.callS X3 hx (y := (⟨"com/example/paranhos/paranhos/BitArrayPutPinLaw", "lowMask", "(I)J"⟩ : MethodName)) hown (mvT hZ (hw _ (List.mem_of_getElem? (i := 3) rfl))) (mvT hZ (hw _ (List.mem_of_getElem? (i := 4) rfl))) (mvT hZ (hw _ (List.mem_of_getElem? (i := 5) rfl))) (mvT hZ (hw _ (List.mem_of_getElem? (i := 6) rfl))) (by decide) (backOf (W := 2) (rmlm l Z a0 hw [] (own_cl (x2 - x1)) h0 n0 Z0 ) hZ (hw _ (List.mem_of_getElem? (i := 6) rfl)) (hw _ (List.mem_of_getElem? (i := 5) rfl)) (by decide) (by decide)) (g := (mkF m 25 #[.val (.long x0), .second, .val (.long x1), .second, .val (.long x2), .second, .val (.long x3), .second, .val (.long x4), .second, .val (.int (own_cl (x2 - x1))), .val (.int (own_cl (x3 - x1))), .unset, .unset] [(.int (own_cl (x2 - x1))), (.long (own_lm (own_cl (x3 - x1))))])) rfl (by rw [hml]; rfl) (argsL := [(.int (own_cl (x2 - x1)))]) (rest := [(.long (own_lm (own_cl (x3 - x1))))]) (lenOf pd_3 rfl) rfl (by show 2 * 0 + _ ≤ _; exact Nat.le_of_eq rfl) (hb hby d8_25) (fun _ _ => ⟨rfl, e3, (by decide : 0 + 0 ≤ _), (by decide : 0 + 0 ≤ _)⟩)
  dsimp only [Pt.U, Pt.locs, Pt.cells, Pt.slots] at X4 l4 y4 z4 st4 hQ4
  subst l4 y4 z4
  obtain ⟨rfl, N4q, e4⟩ := hQ4
  have N4 := Fr.app N3 N4q
  obtain ⟨J4, X4, N4⟩ := own_hide X4 N4
  refine own_Go.of (g' := (mkF m 28 #[.val (.long x0), .second, .val (.long x1), .second, .val (.long x2), .second, .val (.long x3), .second, .val (.long x4), .second, .val (.int (own_cl (x2 - x1))), .val (.int (own_cl (x3 - x1))), .unset, .unset] [(.long (own_lm (own_cl (x2 - x1)))), (.long (own_lm (own_cl (x3 - x1))))])) (fun t k => st4 _ k) ?_
  refine og_ldc2_w (pc' := 31) X4 hx (hb hby d8_28) hown (mvT hZ (hw _ (List.mem_of_getElem? (i := 56) rfl))) rfl ?_
  refine og_lxor (pc' := 32) X4 hx (hb hby d8_31) rfl ?_
  refine og_land (pc' := 33) X4 hx (hb hby d8_32) rfl ?_
  refine og_lstore (pc' := 35) (L' := #[.val (.long x0), .second, .val (.long x1), .second, .val (.long x2), .second, .val (.long x3), .second, .val (.long x4), .second, .val (.int (own_cl (x2 - x1))), .val (.int (own_cl (x3 - x1))), .val (.long ((own_lm (own_cl (x3 - x1))) &&& ((own_lm (own_cl (x2 - x1))) ^^^ (-1 : Int64)))), .second]) X4 hx (hb hby d8_33) rfl rfl ?_
  refine og_lloadN (pc' := 36) X4 hx (hb hby d8_35) rfl rfl ?_
  refine og_lload (pc' := 38) X4 hx (hb hby d8_36) rfl rfl ?_
  refine og_ldc2_w (pc' := 41) X4 hx (hb hby d8_38) hown (mvT hZ (hw _ (List.mem_of_getElem? (i := 56) rfl))) rfl ?_
  refine og_lxor (pc' := 42) X4 hx (hb hby d8_41) rfl ?_
  refine og_land (pc' := 43) X4 hx (hb hby d8_42) rfl ?_
  refine og_lload (pc' := 45) X4 hx (hb hby d8_43) rfl rfl ?_
  refine og_lload (pc' := 47) X4 hx (hb hby d8_45) rfl rfl ?_
  refine og_lloadN (pc' := 48) X4 hx (hb hby d8_47) rfl rfl ?_
  refine og_lsub (pc' := 49) X4 hx (hb hby d8_48) rfl ?_
  obtain ⟨_, _, ⟨T5, L5, k5, n5⟩, -, X5, ⟨Lc5, hQ5, l5, y5, z5⟩, st5⟩ := Jvm.LawKit.callS X4 hx (y := (⟨"com/example/paranhos/paranhos/BitArrayPutPinLaw", "shifted", "(JJ)J"⟩ : MethodName)) hown (mvT hZ (hw _ (List.mem_of_getElem? (i := 57) rfl))) (mvT hZ (hw _ (List.mem_of_getElem? (i := 58) rfl))) (mvT hZ (hw _ (List.mem_of_getElem? (i := 5) rfl))) (mvT hZ (hw _ (List.mem_of_getElem? (i := 59) rfl))) (by decide) (backOf (W := 2) (rmsh l Z a0 hw [] x4 (x2 - x1) h0 n0 Z0 ) hZ (hw _ (List.mem_of_getElem? (i := 59) rfl)) (hw _ (List.mem_of_getElem? (i := 5) rfl)) (by decide) (by decide)) (g := (mkF m 49 #[.val (.long x0), .second, .val (.long x1), .second, .val (.long x2), .second, .val (.long x3), .second, .val (.long x4), .second, .val (.int (own_cl (x2 - x1))), .val (.int (own_cl (x3 - x1))), .val (.long ((own_lm (own_cl (x3 - x1))) &&& ((own_lm (own_cl (x2 - x1))) ^^^ (-1 : Int64)))), .second] [(.long (x2 - x1)), (.long x4), (.long (x0 &&& (((own_lm (own_cl (x3 - x1))) &&& ((own_lm (own_cl (x2 - x1))) ^^^ (-1 : Int64))) ^^^ (-1 : Int64))))])) rfl (by rw [hml]; rfl) (argsL := [(.long x4), (.long (x2 - x1))]) (rest := [(.long (x0 &&& (((own_lm (own_cl (x3 - x1))) &&& ((own_lm (own_cl (x2 - x1))) ^^^ (-1 : Int64))) ^^^ (-1 : Int64))))]) (lenOf pd_2 rfl) rfl (by show 2 * 0 + _ ≤ _; exact Nat.le_of_eq rfl) (hb hby d8_49) (fun _ _ => ⟨rfl, e4, (by decide : 0 + 0 ≤ _), (by decide : 0 + 0 ≤ _)⟩)
  dsimp only [Pt.U, Pt.locs, Pt.cells, Pt.slots] at X5 l5 y5 z5 st5 hQ5
  subst l5 y5 z5
  obtain ⟨rfl, N5q, e5⟩ := hQ5
  have N5 := Fr.app N4 N5q
  obtain ⟨J5, X5, N5⟩ := own_hide X5 N5
  refine own_Go.of (g' := (mkF m 52 #[.val (.long x0), .second, .val (.long x1), .second, .val (.long x2), .second, .val (.long x3), .second, .val (.long x4), .second, .val (.int (own_cl (x2 - x1))), .val (.int (own_cl (x3 - x1))), .val (.long ((own_lm (own_cl (x3 - x1))) &&& ((own_lm (own_cl (x2 - x1))) ^^^ (-1 : Int64)))), .second] [(.long (own_shf x4 (x2 - x1))), (.long (x0 &&& (((own_lm (own_cl (x3 - x1))) &&& ((own_lm (own_cl (x2 - x1))) ^^^ (-1 : Int64))) ^^^ (-1 : Int64))))])) (fun t k => st5 _ k) ?_
  refine og_lload (pc' := 54) X5 hx (hb hby d8_52) rfl rfl ?_
  refine og_land (pc' := 55) X5 hx (hb hby d8_54) rfl ?_
  refine og_lor (pc' := 56) X5 hx (hb hby d8_55) rfl ?_
  obtain ⟨fs, hr, hrun, hended, hW, hsame⟩ := X5.leave (v := some (.long ((x0 &&& (((own_lm (own_cl (x3 - x1))) &&& ((own_lm (own_cl (x2 - x1))) ^^^ (-1 : Int64))) ^^^ (-1 : Int64))) ||| ((own_shf x4 (x2 - x1)) &&& ((own_lm (own_cl (x3 - x1))) &&& ((own_lm (own_cl (x2 - x1))) ^^^ (-1 : Int64))))))) (fun h => by rw [Bd.returns] at h; cases h) (BodyLoose.notSynchronized Bd)
  refine ⟨_, _, retL X5 hx Bd.returns (hb hby d8_56) hr, hrun, hended, some (.long ((x0 &&& (((own_lm (own_cl (x3 - x1))) &&& ((own_lm (own_cl (x2 - x1))) ^^^ (-1 : Int64))) ^^^ (-1 : Int64))) ||| ((own_shf x4 (x2 - x1)) &&& ((own_lm (own_cl (x3 - x1))) &&& ((own_lm (own_cl (x2 - x1))) ^^^ (-1 : Int64)))))), _, rfl, ?_, ⟨_, rfl⟩, hW, hsame.mono (by decide) (by decide)⟩
  show Qxp Z x0 x1 x2 x3 x4 h0 n0 _ T5.heap _
  rw [e5]
  exact ⟨(congrArg (fun z => some (Value.long z)) hv.symm), N5, rfl⟩

theorem own_toNat64 {k : Int32} {n : Nat} (h : k.toInt = (n : Int)) (hn : n < 64) : k.toBitVec.toNat % 64 = n := by
  have e : k.toInt = k.toBitVec.toInt := rfl
  rw [e, BitVec.toInt_eq_toNat_cond] at h
  have := k.toBitVec.isLt
  split at h <;> omega
theorem own_shr {x : Int64} {k : Int32} {n : Nat} (h : k.toInt = (n : Int)) (hn : n < 64) : ((x.toUInt64 >>> (k &&& 0x3f).toInt64.toUInt64).toInt64).toBitVec = x.toBitVec >>> n := by
  obtain ⟨h1, h2⟩ := sm64 k n (own_toNat64 h hn)
  have e : ((x.toUInt64 >>> (k &&& 0x3f).toInt64.toUInt64).toInt64).toBitVec = x.toBitVec >>> ((k &&& 0x3f).toInt64.toBitVec % 64) := rfl
  rw [e, h1]
  have e2 : (BitVec.ofNat 64 n % 64) = BitVec.ofNat 64 n := by
    apply BitVec.eq_of_toNat_eq
    simp [BitVec.toNat_umod]
    omega
  rw [e2]
  show x.toBitVec >>> (BitVec.ofNat 64 n).toNat = _
  congr 1
  simp
  omega
theorem own_shl {x : Int64} {k : Int32} {n : Nat} (h : k.toInt = (n : Int)) (hn : n < 64) : (x <<< (k &&& 0x3f).toInt64).toBitVec = x.toBitVec <<< n := by
  obtain ⟨h1, h2⟩ := sm64 k n (own_toNat64 h hn)
  have e : (x <<< (k &&& 0x3f).toInt64).toBitVec = x.toBitVec <<< ((k &&& 0x3f).toInt64.toBitVec.smod 64) := rfl
  rw [e, h1]
  show x.toBitVec <<< ((BitVec.ofNat 64 n).smod 64).toNat = _
  rw [smod64 n hn]
theorem own_mbit {k : Int32} {n : Nat} (h : k.toInt = (n : Int)) (hn : n < 64) (i : Nat) (hi : i < 64) : (((1 : Int64) <<< (k &&& 0x3f).toInt64) - (1 : Int64)).toBitVec.getLsbD i = decide (i < n) := by
  rw [Int64.toBitVec_sub, own_shl h hn]
  have e : ((1 : Int64).toBitVec <<< n - (1 : Int64).toBitVec) = BitVec.ofNat 64 (2 ^ n - 1) := by
    apply BitVec.eq_of_toNat_eq
    have h1 : (1 : Int64).toBitVec = 1#64 := rfl
    rw [h1]
    have p : 2 ^ n < 2 ^ 64 := Nat.pow_lt_pow_right (by decide) hn
    have p1 : 1 ≤ 2 ^ n := Nat.one_le_two_pow
    simp only [BitVec.toNat_sub, BitVec.toNat_shiftLeft, BitVec.toNat_ofNat, Nat.shiftLeft_eq]
    have e2 : 1 % 2 ^ 64 = 1 := by decide
    rw [e2, Nat.one_mul, Nat.mod_eq_of_lt p, Nat.mod_eq_of_lt (show 2 ^ n - 1 < 2 ^ 64 by omega)]
    omega
  rw [e, BitVec.getLsbD_ofNat]
  simp [hi, Nat.testBit_two_pow_sub_one]
theorem own_m1bit (i : Nat) (hi : i < 64) : (-1 : Int64).toBitVec.getLsbD i = true := by
  have e : (-1 : Int64).toBitVec = BitVec.allOnes 64 := rfl
  rw [e, BitVec.getLsbD_allOnes]; simp [hi]
theorem own_ext {x y : Int64} (h : ∀ i, i < 64 → x.toBitVec.getLsbD i = y.toBitVec.getLsbD i) : x = y :=
  Int64.toBitVec_inj.mp (BitVec.eq_of_getLsbD_eq h)
def own_w (k : Nat) (w0 w1 w2 : Int64) : Int64 := if k = 0 then w0 else if k = 1 then w1 else w2
theorem own_sel_w {j : Int32} {k : Nat} (h : j.toInt = (k : Int)) (w0 w1 w2 : Int64) : own_sel j w0 w1 w2 = own_w k w0 w1 w2 := by
  unfold own_sel own_w
  have e0 : (j = (0 : Int32)) ↔ k = 0 := by rw [← Int32.toInt_inj, own_i0, h]; omega
  have e1 : (j = (1 : Int32)) ↔ k = 1 := by rw [← Int32.toInt_inj, own_i1, h]; omega
  simp only [e0, e1]

theorem own_get62_bit (bt : Int64) (ln : Int32) (w0 w1 w2 : Int64) (i4 i5 : Int32) (r : Int64) {N : Nat} (hN : ln.toInt = (N : Int)) (h64 : N ≤ 64) (i : Nat) (hi : i < 64) :
    (own_get_62 bt ln w0 w1 w2 i4 i5 r).toBitVec.getLsbD i = (decide (i < N) && r.toBitVec.getLsbD i) := by
  unfold own_get_62
  by_cases h : ln = (64 : Int32)
  · rw [if_pos h]
    have e : N = 64 := by rw [← Int32.toInt_inj, own_i64, hN] at h; omega
    subst e; simp [hi]
  · rw [if_neg h]
    have e : N < 64 := by rw [← Int32.toInt_inj, own_i64, hN] at h; omega
    rw [Int64.toBitVec_and, BitVec.getLsbD_and, own_mbit hN e i hi, Bool.and_comm]
theorem own_get_bit {bt : Int64} {ln : Int32} (w0 w1 w2 : Int64) {B N : Nat} (hB : bt.toInt = (B : Int)) (hN : ln.toInt = (N : Int)) (h64 : N ≤ 64) (hle : B + N ≤ 192) (i : Nat) (hi : i < 64) :
    (own_get bt ln w0 w1 w2).toBitVec.getLsbD i = (decide (i < N) && (own_w ((B + i) / 64) w0 w1 w2).toBitVec.getLsbD ((B + i) % 64)) := by
  unfold own_get
  by_cases hz : ln = (0 : Int32)
  · rw [if_pos hz]
    have e : N = 0 := by rw [← Int32.toInt_inj, own_i0, hN] at hz; omega
    subst e
    have e0 : (0 : Int64).toBitVec = 0#64 := rfl
    rw [e0]; simp
  · rw [if_neg hz]
    have hN0 : N ≠ 0 := by intro q; apply hz; rw [← Int32.toInt_inj, own_i0, hN, q]; rfl
    have qo : (own_of bt).toInt = ((B % 64 : Nat) : Int) := by rw [own_of_val, hB]; omega
    have qi : (own_ix bt).toInt = ((B / 64 : Nat) : Int) := by rw [own_ix_val (by omega) (by omega), hB]; omega
    have qs := c_iadd (own_of bt) ln
    have rs := rng32 ((own_of bt) + ln)
    have e1 := own_shr (x := own_sel (own_ix bt) w0 w1 w2) qo (by omega)
    by_cases hc : (64 : Int32) < ((own_of bt) + ln)
    · rw [if_pos hc, own_get62_bit _ _ _ _ _ _ _ _ hN h64 i hi]
      rw [Int32.lt_iff_toInt_lt, own_i64] at hc
      have hcr : 64 < B % 64 + N := by omega
      have q1 := c_iadd (own_ix bt) (1 : Int32)
      rw [own_i1] at q1
      have r1 := rng32 ((own_ix bt) + (1 : Int32))
      have qi1 : ((own_ix bt) + (1 : Int32)).toInt = ((B / 64 + 1 : Nat) : Int) := by omega
      have q2 := c_isub (64 : Int32) (own_of bt)
      rw [own_i64] at q2
      have r2 := rng32 ((64 : Int32) - (own_of bt))
      have qd : ((64 : Int32) - (own_of bt)).toInt = ((64 - B % 64 : Nat) : Int) := by omega
      have e2 := own_shl (x := own_sel ((own_ix bt) + (1 : Int32)) w0 w1 w2) qd (by omega)
      rw [Int64.toBitVec_or, BitVec.getLsbD_or, e1, e2, BitVec.getLsbD_ushiftRight, BitVec.getLsbD_shiftLeft, own_sel_w qi, own_sel_w qi1]
      by_cases hiN : i < N
      · by_cases hs : B % 64 + i < 64
        · have a1 : (B + i) / 64 = B / 64 := by omega
          have a2 : (B + i) % 64 = B % 64 + i := by omega
          have a3 : i < 64 - B % 64 := by omega
          rw [a1, a2]; simp [hiN, a3]
        · have a1 : (B + i) / 64 = B / 64 + 1 := by omega
          have a2 : (B + i) % 64 = i - (64 - B % 64) := by omega
          have a3 : ¬ i < 64 - B % 64 := by omega
          rw [a1, a2, BitVec.getLsbD_of_ge (own_w (B / 64) w0 w1 w2).toBitVec (B % 64 + i) (by omega)]; simp [hiN, a3, hi]
      · simp [hiN]
    · rw [if_neg hc, own_get62_bit _ _ _ _ _ _ _ _ hN h64 i hi]
      rw [Int32.lt_iff_toInt_lt, own_i64] at hc
      have hcr : B % 64 + N ≤ 64 := by omega
      rw [e1, BitVec.getLsbD_ushiftRight, own_sel_w qi]
      by_cases hiN : i < N
      · have a1 : (B + i) / 64 = B / 64 := by omega
        have a2 : (B + i) % 64 = B % 64 + i := by omega
        rw [a1, a2]
      · simp [hiN]

theorem own_j0 : (0 : Int64).toInt = 0 := by decide
theorem own_j64 : (64 : Int64).toInt = 64 := by decide
theorem own_b {x bt : Int64} (h : ((x &&& (9223372036854775807 : Int64)) - ((x &&& (9223372036854775807 : Int64)) / (129 : Int64)) * (129 : Int64)) = bt) : 0 ≤ bt.toInt ∧ bt.toInt ≤ 128 := by
  have q := c_maskL x (9223372036854775807 : Int64) 63 (by decide) (by decide)
  have e : ((2 ^ 63 : Nat) : Int) = 9223372036854775808 := by decide
  rw [e] at q
  have q1 := (c_lrem (x &&& (9223372036854775807 : Int64)) (129 : Int64) 129 (by decide)).1 (by omega)
  rw [h] at q1
  omega
theorem own_n {x n : Int32} (h : ((x &&& (2147483647 : Int32)) % (65 : Int32)) = n) : 0 ≤ n.toInt ∧ n.toInt ≤ 64 := by
  have q := c_mask x (2147483647 : Int32) 31 (by decide) (by decide)
  have e : ((2 ^ 31 : Nat) : Int) = 2147483648 := by decide
  rw [e] at q
  have q1 := (c_irem (x &&& (2147483647 : Int32)) (65 : Int32) 65 (by decide)).1 (by omega)
  rw [h] at q1
  omega
theorem own_okb {bt : Int64} {n : Int32} (rb : 0 ≤ bt.toInt ∧ bt.toInt ≤ 128) (rn : 0 ≤ n.toInt ∧ n.toInt ≤ 64) : own_ok bt n := by unfold own_ok; omega
theorem own_lm_bit {k : Int32} {n : Nat} (h : k.toInt = (n : Int)) (hn : n ≤ 64) (i : Nat) (hi : i < 64) : (own_lm k).toBitVec.getLsbD i = decide (i < n) := by
  unfold own_lm
  by_cases c : k < (64 : Int32)
  · rw [if_pos c]
    rw [Int32.lt_iff_toInt_lt, own_i64] at c
    exact own_mbit h (by omega) i hi
  · rw [if_neg c, own_m1bit i hi]
    rw [Int32.lt_iff_toInt_lt, own_i64] at c
    have e : n = 64 := by omega
    subst e; simp [hi]
theorem own_mk_bit {k : Int32} {n : Nat} (h : k.toInt = (n : Int)) (hn : n ≤ 64) (i : Nat) (hi : i < 64) : (own_mk k).toBitVec.getLsbD i = decide (i < n) := by
  unfold own_mk
  by_cases c : k = (64 : Int32)
  · rw [if_pos c, own_m1bit i hi]
    rw [← Int32.toInt_inj, own_i64] at c
    have e : n = 64 := by omega
    subst e; simp [hi]
  · rw [if_neg c]
    rw [← Int32.toInt_inj, own_i64] at c
    exact own_mbit h (by omega) i hi
theorem own_X1_bit {bt : Int64} {ln : Int32} {x w : Int64} {B N : Nat} (hB : bt.toInt = (B : Int)) (hN : ln.toInt = (N : Int)) (h64 : N ≤ 64) (hx : ∀ j, N ≤ j → x.toBitVec.getLsbD j = false) (i : Nat) (hi : i < 64) :
    (own_X1 bt ln x w).toBitVec.getLsbD i = if B % 64 ≤ i ∧ i < B % 64 + N then x.toBitVec.getLsbD (i - B % 64) else w.toBitVec.getLsbD i := by
  have qo : (own_of bt).toInt = ((B % 64 : Nat) : Int) := by rw [own_of_val, hB]; omega
  unfold own_X1
  rw [Int64.toBitVec_or, Int64.toBitVec_and, Int64.toBitVec_xor, own_shl qo (by omega), own_shl qo (by omega)]
  simp only [BitVec.getLsbD_or, BitVec.getLsbD_and, BitVec.getLsbD_xor, BitVec.getLsbD_shiftLeft, own_m1bit i hi]
  by_cases c1 : B % 64 ≤ i
  · have c2 : ¬ i < B % 64 := by omega
    rw [own_mk_bit hN h64 (i - B % 64) (by omega)]
    by_cases c3 : i < B % 64 + N
    · have c4 : i - B % 64 < N := by omega
      simp [c1, c2, c3, c4, hi]
    · have c4 : ¬ i - B % 64 < N := by omega
      rw [hx (i - B % 64) (by omega)]
      simp [c1, c2, c3, c4, hi]
  · have c2 : i < B % 64 := by omega
    simp [c1, c2]
theorem own_X2_bit {bt : Int64} {ln : Int32} {x w : Int64} {B N : Nat} (hB : bt.toInt = (B : Int)) (hN : ln.toInt = (N : Int)) (h64 : N ≤ 64) (hc : 64 < B % 64 + N) (hx : ∀ j, N ≤ j → x.toBitVec.getLsbD j = false) (i : Nat) (hi : i < 64) :
    (own_X2 bt ln x w).toBitVec.getLsbD i = if i < B % 64 + N - 64 then x.toBitVec.getLsbD (64 - B % 64 + i) else w.toBitVec.getLsbD i := by
  have qo : (own_of bt).toInt = ((B % 64 : Nat) : Int) := by rw [own_of_val, hB]; omega
  have q1 := c_iadd (own_of bt) ln
  have r1 := rng32 ((own_of bt) + ln)
  have q2 := c_isub ((own_of bt) + ln) (64 : Int32)
  have r2 := rng32 (((own_of bt) + ln) - (64 : Int32))
  have q3 := c_isub (64 : Int32) (own_of bt)
  have r3 := rng32 ((64 : Int32) - (own_of bt))
  rw [own_i64] at q2 q3
  have qa : (((own_of bt) + ln) - (64 : Int32)).toInt = ((B % 64 + N - 64 : Nat) : Int) := by omega
  have qb : ((64 : Int32) - (own_of bt)).toInt = ((64 - B % 64 : Nat) : Int) := by omega
  unfold own_X2
  rw [Int64.toBitVec_or, Int64.toBitVec_and, Int64.toBitVec_xor, own_shr qb (by omega)]
  simp only [BitVec.getLsbD_or, BitVec.getLsbD_and, BitVec.getLsbD_xor, BitVec.getLsbD_ushiftRight, own_m1bit i hi, own_mbit qa (by omega) i hi]
  by_cases c1 : i < B % 64 + N - 64
  · simp [c1]
  · rw [hx (64 - B % 64 + i) (by omega)]
    simp [c1]
theorem own_ix_eq {bt : Int64} {ki : Int32} {B k : Nat} (hB : bt.toInt = (B : Int)) (hb : B ≤ 192) (hk : ki.toInt = (k : Int)) : (own_ix bt = ki) ↔ B / 64 = k := by
  rw [← Int32.toInt_inj, own_ix_val (by omega) (by omega), hB, hk]; omega
theorem own_A_bit {bt : Int64} {ln : Int32} {x w0 w1 w2 : Int64} {ki : Int32} {B N k : Nat} (hB : bt.toInt = (B : Int)) (hb : B ≤ 192) (hN : ln.toInt = (N : Int)) (h64 : N ≤ 64) (hk : ki.toInt = (k : Int)) (hx : ∀ j, N ≤ j → x.toBitVec.getLsbD j = false) (i : Nat) (hi : i < 64) :
    (own_A ki bt ln x w0 w1 w2 (own_w k w0 w1 w2)).toBitVec.getLsbD i = if B / 64 = k ∧ B % 64 ≤ i ∧ i < B % 64 + N then x.toBitVec.getLsbD (i - B % 64) else (own_w k w0 w1 w2).toBitVec.getLsbD i := by
  have qi : (own_ix bt).toInt = ((B / 64 : Nat) : Int) := by rw [own_ix_val (by omega) (by omega), hB]; omega
  unfold own_A own_up
  by_cases c : B / 64 = k
  · rw [if_pos ((own_ix_eq hB hb hk).mpr c), own_X1_bit hB hN h64 hx i hi, own_sel_w qi, c]
    simp
  · rw [if_neg (mt (own_ix_eq hB hb hk).mp c)]
    simp [c]
theorem own_A_eq {bt : Int64} {ln : Int32} {x w0 w1 w2 : Int64} {ki : Int32} {B N k : Nat} (hB : bt.toInt = (B : Int)) (hb : B ≤ 192) (hk : ki.toInt = (k : Int)) (hn : B / 64 ≠ k) (w : Int64) : own_A ki bt ln x w0 w1 w2 w = w := by
  unfold own_A own_up
  rw [if_neg (mt (own_ix_eq hB hb hk).mp hn)]
theorem own_pw_bit {bt : Int64} {ln : Int32} {x w0 w1 w2 : Int64} {ki : Int32} {B N k : Nat} (hB : bt.toInt = (B : Int)) (hN : ln.toInt = (N : Int)) (h64 : N ≤ 64) (hle : B + N ≤ 192) (hk : ki.toInt = (k : Int)) (hk2 : k ≤ 2) (hx : ∀ j, N ≤ j → x.toBitVec.getLsbD j = false) (i : Nat) (hi : i < 64) :
    (if ln = (0 : Int32) then (own_w k w0 w1 w2) else if (64 : Int32) < ((own_of bt) + ln) then own_B ki bt ln x w0 w1 w2 (own_w k w0 w1 w2) else own_A ki bt ln x w0 w1 w2 (own_w k w0 w1 w2)).toBitVec.getLsbD i = if B ≤ 64 * k + i ∧ 64 * k + i < B + N then x.toBitVec.getLsbD (64 * k + i - B) else (own_w k w0 w1 w2).toBitVec.getLsbD i := by
  by_cases z : ln = (0 : Int32)
  · rw [if_pos z]
    rw [← Int32.toInt_inj, own_i0] at z
    have e : ¬ (B ≤ 64 * k + i ∧ 64 * k + i < B + N) := by omega
    rw [if_neg e]
  · rw [if_neg z]
    have qo : (own_of bt).toInt = ((B % 64 : Nat) : Int) := by rw [own_of_val, hB]; omega
    have qs := c_iadd (own_of bt) ln
    have rs := rng32 ((own_of bt) + ln)
    by_cases c : (64 : Int32) < ((own_of bt) + ln)
    · rw [if_pos c]
      rw [Int32.lt_iff_toInt_lt, own_i64] at c
      have hc : 64 < B % 64 + N := by omega
      have qi : (own_ix bt).toInt = ((B / 64 : Nat) : Int) := by rw [own_ix_val (by omega) (by omega), hB]; omega
      have q1 := c_iadd (own_ix bt) (1 : Int32)
      rw [own_i1] at q1
      have r1 := rng32 ((own_ix bt) + (1 : Int32))
      have qi1 : ((own_ix bt) + (1 : Int32)).toInt = ((B / 64 + 1 : Nat) : Int) := by omega
      have eq1 : ((own_ix bt) + (1 : Int32) = ki) ↔ B / 64 + 1 = k := by rw [← Int32.toInt_inj, qi1, hk]; omega
      unfold own_B own_up
      by_cases d : B / 64 + 1 = k
      · rw [if_pos (eq1.mpr d), own_X2_bit hB hN h64 hc hx i hi, own_sel_w qi1]
        have e2 : (2 : Int32).toInt = ((2 : Nat) : Int) := by decide
        have es : own_w (B / 64 + 1) (own_A (0 : Int32) bt ln x w0 w1 w2 w0) (own_A (1 : Int32) bt ln x w0 w1 w2 w1) (own_A (2 : Int32) bt ln x w0 w1 w2 w2) = own_w k w0 w1 w2 := by
          rw [d]
          have hk' : k = 0 ∨ k = 1 ∨ k = 2 := by omega
          rcases hk' with rfl | rfl | rfl
          · omega
          · exact own_A_eq (N := N) (k := 1) hB (by omega) (by decide) (by omega) w1
          · exact own_A_eq (N := N) (k := 2) hB (by omega) (by decide) (by omega) w2
        rw [es]
        by_cases f : i < B % 64 + N - 64
        · have g : B ≤ 64 * k + i ∧ 64 * k + i < B + N := by omega
          have e : 64 * k + i - B = 64 - B % 64 + i := by omega
          rw [if_pos f, if_pos g, e]
        · have g : ¬ (B ≤ 64 * k + i ∧ 64 * k + i < B + N) := by omega
          rw [if_neg f, if_neg g]
      · rw [if_neg (mt eq1.mp d), own_A_bit hB (by omega) hN h64 hk hx i hi]
        by_cases f : B / 64 = k ∧ B % 64 ≤ i ∧ i < B % 64 + N
        · have g : B ≤ 64 * k + i ∧ 64 * k + i < B + N := by omega
          have e : 64 * k + i - B = i - B % 64 := by omega
          rw [if_pos f, if_pos g, e]
        · have g : ¬ (B ≤ 64 * k + i ∧ 64 * k + i < B + N) := by omega
          rw [if_neg f, if_neg g]
    · rw [if_neg c, own_A_bit hB (by omega) hN h64 hk hx i hi]
      rw [Int32.lt_iff_toInt_lt, own_i64] at c
      by_cases f : B / 64 = k ∧ B % 64 ≤ i ∧ i < B % 64 + N
      · have g : B ≤ 64 * k + i ∧ 64 * k + i < B + N := by omega
        have e : 64 * k + i - B = i - B % 64 := by omega
        rw [if_pos f, if_pos g, e]
      · have g : ¬ (B ≤ 64 * k + i ∧ 64 * k + i < B + N) := by omega
        rw [if_neg f, if_neg g]
theorem own_cl_val (d : Int64) : (own_cl d).toInt = if d.toInt < 0 then 0 else if 64 < d.toInt then 64 else d.toInt := by
  unfold own_cl own_max own_min
  have q := c_l2i (if (0 : Int64) < (if d < (64 : Int64) then d else (64 : Int64)) then (if d < (64 : Int64) then d else (64 : Int64)) else (0 : Int64))
  have r := rng32 ((if (0 : Int64) < (if d < (64 : Int64) then d else (64 : Int64)) then (if d < (64 : Int64) then d else (64 : Int64)) else (0 : Int64)).toInt32)
  have e : (if (0 : Int64) < (if d < (64 : Int64) then d else (64 : Int64)) then (if d < (64 : Int64) then d else (64 : Int64)) else (0 : Int64)).toInt = if d.toInt < 0 then 0 else if 64 < d.toInt then 64 else d.toInt := by
    by_cases a : d < (64 : Int64)
    · rw [if_pos a]
      rw [Int64.lt_iff_toInt_lt, own_j64] at a
      by_cases b : (0 : Int64) < d
      · rw [if_pos b]
        rw [Int64.lt_iff_toInt_lt, own_j0] at b
        rw [if_neg (by omega), if_neg (by omega)]
      · rw [if_neg b]
        rw [Int64.lt_iff_toInt_lt, own_j0] at b
        rw [own_j0]
        by_cases c : d.toInt < 0
        · rw [if_pos c]
        · rw [if_neg c, if_neg (by omega)]; omega
    · rw [if_neg a, if_pos (by decide), own_j64]
      rw [Int64.lt_iff_toInt_lt, own_j64] at a
      rw [if_neg (by omega)]
      by_cases c : 64 < d.toInt
      · rw [if_pos c]
      · rw [if_neg c]; omega
  rw [e] at q
  have b : 0 ≤ (if d.toInt < 0 then (0 : Int) else if 64 < d.toInt then 64 else d.toInt) ∧ (if d.toInt < 0 then (0 : Int) else if 64 < d.toInt then 64 else d.toInt) ≤ 64 := by
    by_cases c1 : d.toInt < 0
    · rw [if_pos c1]; omega
    · rw [if_neg c1]
      by_cases c2 : 64 < d.toInt
      · rw [if_pos c2]; omega
      · rw [if_neg c2]; omega
  generalize (if d.toInt < 0 then (0 : Int) else if 64 < d.toInt then 64 else d.toInt) = E at *
  omega
theorem own_cl_spec (d : Int64) : (d.toInt < 0 ∧ (own_cl d).toInt = 0) ∨ (64 < d.toInt ∧ (own_cl d).toInt = 64) ∨ (0 ≤ d.toInt ∧ d.toInt ≤ 64 ∧ (own_cl d).toInt = d.toInt) := by
  have q := own_cl_val d
  by_cases c1 : d.toInt < 0
  · rw [if_pos c1] at q; exact Or.inl ⟨c1, q⟩
  · rw [if_neg c1] at q
    by_cases c2 : 64 < d.toInt
    · rw [if_pos c2] at q; exact Or.inr (Or.inl ⟨c2, q⟩)
    · rw [if_neg c2] at q; exact Or.inr (Or.inr ⟨by omega, by omega, q⟩)
set_option maxHeartbeats 4000000 in
theorem own_exp_bit {old base bt en v : Int64} {B N k : Nat} (hB : bt.toInt = (B : Int)) (hE : en.toInt = ((B + N : Nat) : Int)) (h64 : N ≤ 64) (hle : B + N ≤ 192) (hbase : base.toInt = ((64 * k : Nat) : Int)) (hk : k ≤ 2) (i : Nat) (hi : i < 64) :
    (own_exp old base bt en v).toBitVec.getLsbD i = if B ≤ 64 * k + i ∧ 64 * k + i < B + N then v.toBitVec.getLsbD (64 * k + i - B) else old.toBitVec.getLsbD i := by
  have q1 := c_lsub bt base
  have r1 := rng64 (bt - base)
  have q2 := c_lsub en base
  have r2 := rng64 (en - base)
  have d1 : (bt - base).toInt = (B : Int) - 64 * k := by omega
  have d2 : (en - base).toInt = (B : Int) + N - 64 * k := by omega
  have l1 := own_cl_spec (bt - base)
  have l2 := own_cl_spec (en - base)
  rw [d1] at l1
  rw [d2] at l2
  obtain ⟨lo, hlo⟩ : ∃ lo : Nat, (own_cl (bt - base)).toInt = (lo : Int) := ⟨((own_cl (bt - base)).toInt).toNat, by omega⟩
  obtain ⟨hh, hhi⟩ : ∃ hh : Nat, (own_cl (en - base)).toInt = (hh : Int) := ⟨((own_cl (en - base)).toInt).toNat, by omega⟩
  rw [hlo] at l1
  rw [hhi] at l2
  have lo64 : lo ≤ 64 := by omega
  have hi64 : hh ≤ 64 := by omega
  have cond : (i < hh ∧ ¬ i < lo) ↔ (B ≤ 64 * k + i ∧ 64 * k + i < B + N) := by
    clear hlo hhi d1 d2 q1 q2 r1 r2
    omega
  unfold own_exp
  simp only [Int64.toBitVec_or, Int64.toBitVec_and, Int64.toBitVec_xor, BitVec.getLsbD_or, BitVec.getLsbD_and, BitVec.getLsbD_xor, own_m1bit i hi, own_lm_bit hlo lo64 i hi, own_lm_bit hhi hi64 i hi]
  by_cases g : B ≤ 64 * k + i ∧ 64 * k + i < B + N
  · have g2 := cond.mpr g
    rw [if_pos g]
    have sb : (own_shf v (bt - base)).toBitVec.getLsbD i = v.toBitVec.getLsbD (64 * k + i - B) := by
      unfold own_shf
      have e1 : (bt - base) < (64 : Int64) := by rw [Int64.lt_iff_toInt_lt, own_j64]; omega
      have em : (-64 : Int64).toInt = -64 := by decide
      have e2 : (-64 : Int64) < (bt - base) := by rw [Int64.lt_iff_toInt_lt, em]; omega
      rw [if_pos e1, if_pos e2]
      by_cases e3 : (bt - base) < (0 : Int64)
      · rw [if_pos e3]
        rw [Int64.lt_iff_toInt_lt, own_j0] at e3
        have qn := c_lneg (bt - base)
        have rn := rng64 (-(bt - base))
        have ql := c_l2i (-(bt - base))
        have rl := rng32 ((-(bt - base)).toInt32)
        have qv : ((-(bt - base)).toInt32).toInt = ((64 * k - B : Nat) : Int) := by omega
        rw [own_shr qv (by omega), BitVec.getLsbD_ushiftRight]
        congr 1; omega
      · rw [if_neg e3]
        rw [Int64.lt_iff_toInt_lt, own_j0] at e3
        have ql := c_l2i (bt - base)
        have rl := rng32 ((bt - base).toInt32)
        have qv : ((bt - base).toInt32).toInt = ((B - 64 * k : Nat) : Int) := by omega
        rw [own_shl qv (by omega), BitVec.getLsbD_shiftLeft]
        have e4 : ¬ i < B - 64 * k := by omega
        have e5 : i - (B - 64 * k) = 64 * k + i - B := by omega
        rw [e5]; simp [hi, e4]
    rw [sb]
    simp [g2.1, g2.2]
  · have g2 := mt cond.mp g
    rw [if_neg g]
    by_cases a : i < hh
    · have b : i < lo := by omega
      simp [a, b]
    · simp [a]
theorem own_vbits {x v : Int64} {n : Int32} {N : Nat} (hN : n.toInt = (N : Int)) (h64 : N ≤ 64) (hv : (x &&& (own_lm n)) = v) : ∀ j, N ≤ j → v.toBitVec.getLsbD j = false := by
  intro j hj
  by_cases c : j < 64
  · rw [← hv, Int64.toBitVec_and, BitVec.getLsbD_and, own_lm_bit hN h64 j c]
    have e : ¬ j < N := by omega
    simp [e]
  · exact BitVec.getLsbD_of_ge _ _ (by omega)
theorem own_fin {bt base v y old w0 w1 w2 : Int64} {n ki : Int32} {k : Nat} (rb : 0 ≤ bt.toInt ∧ bt.toInt ≤ 128) (rn : 0 ≤ n.toInt ∧ n.toInt ≤ 64) (hv : (y &&& (own_lm n)) = v) (hbase : base.toInt = ((64 * k : Nat) : Int)) (hk : k ≤ 2) (hki : ki.toInt = (k : Int)) (hold : old = own_w k w0 w1 w2) (p0 p1 p2 : Int64)
    (hp : own_w k p0 p1 p2 = (if n = (0 : Int32) then (own_w k w0 w1 w2) else if (64 : Int32) < ((own_of bt) + n) then own_B ki bt n v w0 w1 w2 (own_w k w0 w1 w2) else own_A ki bt n v w0 w1 w2 (own_w k w0 w1 w2))) : own_get base (64 : Int32) p0 p1 p2 = own_exp old base bt (bt + (n.toInt64)) v := by
  obtain ⟨B, hB⟩ := Int.eq_ofNat_of_zero_le rb.1
  obtain ⟨N, hN⟩ := Int.eq_ofNat_of_zero_le rn.1
  have q := c_ladd bt (n.toInt64)
  rw [c_i2l] at q
  have r := rng64 (bt + (n.toInt64))
  have hE : (bt + (n.toInt64)).toInt = ((B + N : Nat) : Int) := by omega
  apply own_ext
  intro i hi
  have e64 : (64 : Int32).toInt = ((64 : Nat) : Int) := by decide
  rw [own_get_bit p0 p1 p2 hbase e64 (by omega) (by omega) i hi, own_exp_bit hB hE (by omega) (by omega) hbase hk i hi]
  have a1 : (64 * k + i) / 64 = k := by omega
  have a2 : (64 * k + i) % 64 = i := by omega
  rw [a1, a2, hp, own_pw_bit hB hN (by omega) (by omega) hki hk (own_vbits hN (by omega) hv) i hi, hold]
  simp [hi]
theorem own_fin0 {bt v y w0 w1 w2 : Int64} {n : Int32} (rb : 0 ≤ bt.toInt ∧ bt.toInt ≤ 128) (rn : 0 ≤ n.toInt ∧ n.toInt ≤ 64) (hv : (y &&& (own_lm n)) = v) : own_get (0 : Int64) (64 : Int32) (own_pw0 bt n v w0 w1 w2) (own_pw1 bt n v w0 w1 w2) (own_pw2 bt n v w0 w1 w2) = own_exp w0 (0 : Int64) bt (bt + (n.toInt64)) v :=
  own_fin (k := 0) (ki := (0 : Int32)) (w0 := w0) (w1 := w1) (w2 := w2) rb rn hv (by decide) (by decide) (by decide) rfl _ _ _ rfl
theorem own_fin1 {bt v y w0 w1 w2 : Int64} {n : Int32} (rb : 0 ≤ bt.toInt ∧ bt.toInt ≤ 128) (rn : 0 ≤ n.toInt ∧ n.toInt ≤ 64) (hv : (y &&& (own_lm n)) = v) : own_get (64 : Int64) (64 : Int32) (own_pw0 bt n v w0 w1 w2) (own_pw1 bt n v w0 w1 w2) (own_pw2 bt n v w0 w1 w2) = own_exp w1 (64 : Int64) bt (bt + (n.toInt64)) v :=
  own_fin (k := 1) (ki := (1 : Int32)) (w0 := w0) (w1 := w1) (w2 := w2) rb rn hv (by decide) (by decide) (by decide) rfl _ _ _ rfl
theorem own_fin2 {bt v y w0 w1 w2 : Int64} {n : Int32} (rb : 0 ≤ bt.toInt ∧ bt.toInt ≤ 128) (rn : 0 ≤ n.toInt ∧ n.toInt ≤ 64) (hv : (y &&& (own_lm n)) = v) : own_get (128 : Int64) (64 : Int32) (own_pw0 bt n v w0 w1 w2) (own_pw1 bt n v w0 w1 w2) (own_pw2 bt n v w0 w1 w2) = own_exp w2 (128 : Int64) bt (bt + (n.toInt64)) v :=
  own_fin (k := 2) (ki := (2 : Int32)) (w0 := w0) (w1 := w1) (w2 := w2) rb rn hv (by decide) (by decide) (by decide) rfl _ _ _ rfl

theorem pn0 : plainName "com/example/paranhos/paranhos/BitArrayPutPinLaw" = true := by first | (simp [plainName, overriddenIn]; done) | decide +kernel
theorem pd_4 : parseMethodDescriptor "(J)V" = some ⟨[.long], none⟩ := by decide +kernel
theorem pd_5 : parseMethodDescriptor "(JIJ)V" = some ⟨[.long, .int, .long], none⟩ := by decide +kernel
theorem pd_6 : parseMethodDescriptor "(JI)J" = some ⟨[.long, .int], some .long⟩ := by decide +kernel
theorem pd_7 : parseMethodDescriptor "(JJJJJ)J" = some ⟨[.long, .long, .long, .long, .long], some .long⟩ := by decide +kernel
theorem ef0 (m : MethodId) (z0 : Int64) (z1 : Int64) (z2 : Int64) (z3 : Int64) (z4 : Int32) (z5 : Int64) : entryFrame m #[(.long z0), (.long z1), (.long z2), (.long z3), (.int z4), (.long z5)] maxLocals = mkF m 0 #[.val (.long z0), .second, .val (.long z1), .second, .val (.long z2), .second, .val (.long z3), .second, .val (.int z4), .val (.long z5), .second, .unset, .unset, .unset, .unset, .unset, .unset, .unset, .unset, .unset, .unset, .unset, .unset, .unset, .unset] [] := by first | (simp [entryFrame, mkF, argsToLocals, Value.category, maxLocals]; done) | rfl
def Q0 (Z : State) (x0 : Int64) (x1 : Int64) (x2 : Int64) (x3 : Int64) (x4 : Int32) (x5 : Int64) (h0 : Heap) (n0 : Nat) (v : Option Value) (h : Heap) (L : List Loc) : Prop := v = some (.int 1) ∧ Fr n0 L
set_option maxRecDepth 65536 in
set_option maxHeartbeats 40000000 in
theorem rm0 (l : Launch) (Z : State) (a0 : Array Value) (hw : ∀ d ∈ tables_1, d.before a0 Z = true) (ws : List Jvm.Cond) (x0 : Int64) (x1 : Int64) (x2 : Int64) (x3 : Int64) (x4 : Int32) (x5 : Int64) (h0 : Heap) (n0 : Nat) (Z0 : n0 ≤ h0.size) :
    MetFree l x (head1 (Jvm.Cond.code x code maxLocals ret :: ws) room_1) (fun a U => a = #[(.long x0), (.long x1), (.long x2), (.long x3), (.int x4), (.long x5)] ∧ Z.Warmed39 U.vm ∧ U.heap = h0) (fun _ _ _ _ _ => True) (fun _ U oc U' => ∃ v L, oc = .returned v ∧ Q0 Z x0 x1 x2 x3 x4 x5 h0 n0 v U'.heap L ∧ FrameEnd U oc U' L room_1.cells room_1.slots) := by
  refine MetFree.of_bodySF (plainFor_of_name pn0) hisR ?_
  intro p e s m args below meth c s₁ Bd hml0 hP hK
  obtain ⟨rfl, hZ, hh⟩ := hP
  have hx := Bd.exec
  have hby := Bd.bytes
  have hml : c.maxLocals = 25 := hml0
  have hown : s.vm.findClass "com/example/paranhos/paranhos/BitArrayPutPinLaw" = some m.cls := findClass_of_methodNamed Bd.named
  have hnm := (name_of_methodNamed Bd.named Bd.method).1
  have X0 : Stand p l e room_1 s m #[(.long x0), (.long x1), (.long x2), (.long x3), (.int x4), (.long x5)] below meth c s₁ [] 0 0 := Stand.of_body Bd
  have e0 : s₁.heap = h0 := by rw [← hh, Bd.state]; rfl
  have N0 := Fr.nil n0
  show own_Go p e below (fun s₂ oc => ∃ v L, oc = .returned v ∧ Q0 Z x0 x1 x2 x3 x4 x5 h0 n0 v s₂.heap L ∧ FrameEnd s oc s₂ L room_1.cells room_1.slots) s₁ (entryFrame m #[(.long x0), (.long x1), (.long x2), (.long x3), (.int x4), (.long x5)] maxLocals)
  refine own_Go.of (g' := mkF m 0 #[.val (.long x0), .second, .val (.long x1), .second, .val (.long x2), .second, .val (.long x3), .second, .val (.int x4), .val (.long x5), .second, .unset, .unset, .unset, .unset, .unset, .unset, .unset, .unset, .unset, .unset, .unset, .unset, .unset, .unset] []) (fun t k => castTop (ef0 m x0 x1 x2 x3 x4 x5) k) ?_
  refine og_lload (pc' := 2) X0 hx (hb hby at_0) rfl rfl ?_
  refine og_ldc2_w (pc' := 5) X0 hx (hb hby at_2) hown (mvT hZ (hw _ (List.mem_of_getElem? (i := 0) rfl))) rfl ?_
  refine og_land (pc' := 6) X0 hx (hb hby at_5) rfl ?_
  refine og_ldc2_w (pc' := 9) X0 hx (hb hby at_6) hown (mvT hZ (hw _ (List.mem_of_getElem? (i := 1) rfl))) rfl ?_
  refine og_lrem (pc' := 10) X0 hx (hb hby at_9) (by decide) rfl ?_
  refine og_lstore (pc' := 12) (L' := #[.val (.long x0), .second, .val (.long x1), .second, .val (.long x2), .second, .val (.long x3), .second, .val (.int x4), .val (.long x5), .second, .val (.long ((x3 &&& (9223372036854775807 : Int64)) - ((x3 &&& (9223372036854775807 : Int64)) / (129 : Int64)) * (129 : Int64))), .second, .unset, .unset, .unset, .unset, .unset, .unset, .unset, .unset, .unset, .unset, .unset, .unset]) X0 hx (hb hby at_10) rfl rfl ?_
  generalize hbt : ((x3 &&& (9223372036854775807 : Int64)) - ((x3 &&& (9223372036854775807 : Int64)) / (129 : Int64)) * (129 : Int64)) = bt
  have rb := own_b hbt
  refine og_iload (pc' := 14) X0 hx (hb hby at_12) rfl rfl ?_
  refine og_ldc (pc' := 16) X0 hx (hb hby at_14) hown (mvT hZ (hw _ (List.mem_of_getElem? (i := 2) rfl))) rfl ?_
  refine og_iand (pc' := 17) X0 hx (hb hby at_16) rfl ?_
  refine og_bipush (pc' := 19) (n := 65) X0 hx (hb hby at_17) rfl rfl ?_
  refine og_irem (pc' := 20) X0 hx (hb hby at_19) (by decide) rfl ?_
  refine og_istore (pc' := 22) (L' := #[.val (.long x0), .second, .val (.long x1), .second, .val (.long x2), .second, .val (.long x3), .second, .val (.int x4), .val (.long x5), .second, .val (.long bt), .second, .val (.int ((x4 &&& (2147483647 : Int32)) % (65 : Int32))), .unset, .unset, .unset, .unset, .unset, .unset, .unset, .unset, .unset, .unset, .unset]) X0 hx (hb hby at_20) rfl rfl ?_
  generalize hn : ((x4 &&& (2147483647 : Int32)) % (65 : Int32)) = n
  have rn := own_n hn
  have hok := own_okb rb rn
  refine og_lload (pc' := 24) X0 hx (hb hby at_22) rfl rfl ?_
  refine og_iload (pc' := 26) X0 hx (hb hby at_24) rfl rfl ?_
  obtain ⟨_, _, ⟨T1, L1, k1, n1⟩, -, X1, ⟨Lc1, hQ1, l1, y1, z1⟩, st1⟩ := Jvm.LawKit.callS X0 hx (y := (⟨"com/example/paranhos/paranhos/BitArrayPutPinLaw", "lowMask", "(I)J"⟩ : MethodName)) hown (mvT hZ (hw _ (List.mem_of_getElem? (i := 3) rfl))) (mvT hZ (hw _ (List.mem_of_getElem? (i := 4) rfl))) (mvT hZ (hw _ (List.mem_of_getElem? (i := 5) rfl))) (mvT hZ (hw _ (List.mem_of_getElem? (i := 6) rfl))) (by decide) (backOf (W := 2) (rmlm l Z a0 hw [] n h0 n0 Z0 ) hZ (hw _ (List.mem_of_getElem? (i := 6) rfl)) (hw _ (List.mem_of_getElem? (i := 5) rfl)) (by decide) (by decide)) (g := (mkF m 26 #[.val (.long x0), .second, .val (.long x1), .second, .val (.long x2), .second, .val (.long x3), .second, .val (.int x4), .val (.long x5), .second, .val (.long bt), .second, .val (.int n), .unset, .unset, .unset, .unset, .unset, .unset, .unset, .unset, .unset, .unset, .unset] [(.int n), (.long x5)])) rfl (by rw [hml]; rfl) (argsL := [(.int n)]) (rest := [(.long x5)]) (lenOf pd_3 rfl) rfl (by show 2 * 0 + _ ≤ _; exact Nat.le_of_eq rfl) (hb hby at_26) (fun _ _ => ⟨rfl, e0, (by decide : 0 + 0 ≤ _), (by decide : 0 + 0 ≤ _)⟩)
  dsimp only [Pt.U, Pt.locs, Pt.cells, Pt.slots] at X1 l1 y1 z1 st1 hQ1
  subst l1 y1 z1
  obtain ⟨rfl, N1q, e1⟩ := hQ1
  have N1 := Fr.app N0 N1q
  obtain ⟨J1, X1, N1⟩ := own_hide X1 N1
  refine own_Go.of (g' := (mkF m 29 #[.val (.long x0), .second, .val (.long x1), .second, .val (.long x2), .second, .val (.long x3), .second, .val (.int x4), .val (.long x5), .second, .val (.long bt), .second, .val (.int n), .unset, .unset, .unset, .unset, .unset, .unset, .unset, .unset, .unset, .unset, .unset] [(.long (own_lm n)), (.long x5)])) (fun t k => st1 _ k) ?_
  refine og_land (pc' := 30) X1 hx (hb hby at_29) rfl ?_
  refine og_lstore (pc' := 32) (L' := #[.val (.long x0), .second, .val (.long x1), .second, .val (.long x2), .second, .val (.long x3), .second, .val (.int x4), .val (.long x5), .second, .val (.long bt), .second, .val (.int n), .val (.long (x5 &&& (own_lm n))), .second, .unset, .unset, .unset, .unset, .unset, .unset, .unset, .unset, .unset]) X1 hx (hb hby at_30) rfl rfl ?_
  generalize hv : (x5 &&& (own_lm n)) = v
  obtain ⟨T2, h2, X2, e2, E2, A2, D2, -, st2⟩ := newO X1 hx hZ hown (hw _ (List.mem_of_getElem? (i := 7) rfl)) (hw _ (List.mem_of_getElem? (i := 8) rfl)) (hw _ (List.mem_of_getElem? (i := 9) rfl)) e1 (g := (mkF m 32 #[.val (.long x0), .second, .val (.long x1), .second, .val (.long x2), .second, .val (.long x3), .second, .val (.int x4), .val (.long x5), .second, .val (.long bt), .second, .val (.int n), .val (.long v), .second, .unset, .unset, .unset, .unset, .unset, .unset, .unset, .unset, .unset] [])) rfl (hb hby at_32) (by decide) (by decide)
  obtain ⟨b2, g2⟩ : ∃ z, z = h0.size := ⟨_, rfl⟩
  rw [← g2] at A2 D2 st2
  have g_b2 : n0 ≤ b2 := Nat.le_trans Z0 (Nat.le_of_eq g2.symm)
  have sz_b2 : h0.size ≤ b2 := Nat.le_trans (Keep.refl h0 []).1 (Nat.le_of_eq g2.symm)
  have F2_words : Fld Z h2 b2 "com/example/paranhos/paranhos/BitArray" "words" "[J" .null := D2 (Or.inr (hw _ (List.mem_of_getElem? (i := 26) rfl))) (ty := (.array .long)) (by decide)
  have F2_length : Fld Z h2 b2 "com/example/paranhos/paranhos/BitArray" "length" "J" (.long (0 : Int64)) := D2 (Or.inr (hw _ (List.mem_of_getElem? (i := 28) rfl))) (ty := .long) (by decide)
  have K2 : Keep h0 h2 [] := (Keep.refl h0 []).ext E2
  have Z2 : n0 ≤ h2.size := Nat.le_trans Z0 K2.1
  refine own_Go.of (g' := (mkF m 35 #[.val (.long x0), .second, .val (.long x1), .second, .val (.long x2), .second, .val (.long x3), .second, .val (.int x4), .val (.long x5), .second, .val (.long bt), .second, .val (.int n), .val (.long v), .second, .unset, .unset, .unset, .unset, .unset, .unset, .unset, .unset, .unset] [(.ref b2)])) (fun t k => st2 _ k) ?_
  refine og_dup (pc' := 36) X2 hx (hb hby at_35) rfl rfl ?_
  refine og_ldc2_w (pc' := 39) X2 hx (hb hby at_36) hown (mvT hZ (hw _ (List.mem_of_getElem? (i := 10) rfl))) rfl ?_
  obtain ⟨_, _, ⟨T3, L3, k3, n3⟩, -, X3, ⟨Lc3, hQ3, l3, y3, z3⟩, st3⟩ := X2.specialBack hx (y := (⟨"com/example/paranhos/paranhos/BitArray", "<init>", "(J)V"⟩ : MethodName)) rfl hown (mvT hZ (hw _ (List.mem_of_getElem? (i := 11) rfl))) (mvT hZ (hw _ (List.mem_of_getElem? (i := 12) rfl))) (mvT hZ (hw _ (List.mem_of_getElem? (i := 13) rfl))) (by decide) (backOf (W := 1) (rmi1 l Z a0 hw [] b2 .null (.long (0 : Int64)) h2 n0 Z2 A2 F2_words F2_length g_b2) hZ (hw _ (List.mem_of_getElem? (i := 13) rfl)) (hw _ (List.mem_of_getElem? (i := 9) rfl)) (by decide) (by decide)) (g := (mkF m 39 #[.val (.long x0), .second, .val (.long x1), .second, .val (.long x2), .second, .val (.long x3), .second, .val (.int x4), .val (.long x5), .second, .val (.long bt), .second, .val (.int n), .val (.long v), .second, .unset, .unset, .unset, .unset, .unset, .unset, .unset, .unset, .unset] [(.long (192 : Int64)), (.ref b2), (.ref b2)])) rfl (by rw [hml]; rfl) (Steps.refl _) (a := b2) (argsL := [(.long (192 : Int64))]) (rest := [(.ref b2)]) (lenOf pd_4 rfl) rfl (by show 2 * 0 + _ ≤ _; exact Nat.le_of_eq rfl) (hb hby at_39) (fun _ _ => ⟨rfl, e2, (by decide : 1 + 1 ≤ _), (by decide : 2 + 3 ≤ _)⟩)
  dsimp only [Pt.U, Pt.locs, Pt.cells, Pt.slots] at X3 l3 y3 z3 st3 hQ3
  subst l3 y3 z3
  obtain ⟨b_3, k_3, rfl, N3q, K3q, zz3_b, c3_0, c3_1, c3_2⟩ := hQ3
  have N3 := Fr.app N1 N3q
  obtain ⟨J3, X3, N3⟩ := own_hide X3 N3
  have g_b_3 : n0 ≤ b_3 := Nat.le_trans Z2 zz3_b
  have sz_b_3 : h0.size ≤ b_3 := Nat.le_trans K2.1 zz3_b
  have ne3_0 : b2 ≠ b_3 := Nat.ne_of_lt (Nat.lt_of_lt_of_le A2.lt zz3_b)
  have f3_0 := A2.keep K3q
  have K3 : Keep h0 T3.heap [] := K2.trans K3q (allS (Or.inr sz_b2) all0)
  have Z3 : n0 ≤ T3.heap.size := Nat.le_trans Z0 K3.1
  refine own_Go.of (g' := (mkF m 42 #[.val (.long x0), .second, .val (.long x1), .second, .val (.long x2), .second, .val (.long x3), .second, .val (.int x4), .val (.long x5), .second, .val (.long bt), .second, .val (.int n), .val (.long v), .second, .unset, .unset, .unset, .unset, .unset, .unset, .unset, .unset, .unset] [(.ref b2)])) (fun t k => st3.trans k) ?_
  refine og_astore (pc' := 44) (L' := #[.val (.long x0), .second, .val (.long x1), .second, .val (.long x2), .second, .val (.long x3), .second, .val (.int x4), .val (.long x5), .second, .val (.long bt), .second, .val (.int n), .val (.long v), .second, .val (.ref b2), .unset, .unset, .unset, .unset, .unset, .unset, .unset, .unset]) X3 hx (hb hby at_42) rfl rfl rfl ?_
  refine og_aload (pc' := 46) X3 hx (hb hby at_44) rfl rfl rfl ?_
  refine og_lconst0 (pc' := 47) X3 hx (hb hby at_46) rfl ?_
  refine og_bipush (pc' := 49) (n := 64) X3 hx (hb hby at_47) rfl rfl ?_
  refine og_lloadN (pc' := 50) X3 hx (hb hby at_49) rfl rfl ?_
  obtain ⟨cq4, kq4, q4a, q4b, q4c⟩ := isOf hZ rfl c3_0
  obtain ⟨_, _, ⟨T4, L4, k4, n4⟩, -, X4, ⟨Lc4, hQ4, l4, y4, z4⟩, st4⟩ := X3.virtualBack hx (y := (⟨"com/example/paranhos/paranhos/BitArray", "put", "(JIJ)V"⟩ : MethodName)) (z := (⟨"com/example/paranhos/paranhos/BitArray", "put", "(JIJ)V"⟩ : MethodName)) hown (mvT hZ (hw _ (List.mem_of_getElem? (i := 29) rfl))) (mvT hZ (hw _ (List.mem_of_getElem? (i := 30) rfl))) (notFace_of_selects (args := #[]) (mvT hZ (hw _ (List.mem_of_getElem? (i := 32) rfl)))) (mvT hZ (hw _ (List.mem_of_getElem? (i := 32) rfl))) (mvT hZ (hw _ (List.mem_of_getElem? (i := 31) rfl))) (by decide) (backOf (W := 0) (rmput0 l Z a0 hw [] b2 x0 b_3 k_3 (0 : Int64) (0 : Int64) (0 : Int64) T3.heap n0 Z3 c3_0 c3_1 c3_2 g_b_3 ne3_0) hZ (hw _ (List.mem_of_getElem? (i := 33) rfl)) (hw _ (List.mem_of_getElem? (i := 9) rfl)) (by decide) (by decide)) q4a q4c (g := (mkF m 50 #[.val (.long x0), .second, .val (.long x1), .second, .val (.long x2), .second, .val (.long x3), .second, .val (.int x4), .val (.long x5), .second, .val (.long bt), .second, .val (.int n), .val (.long v), .second, .val (.ref b2), .unset, .unset, .unset, .unset, .unset, .unset, .unset, .unset] [(.long x0), (.int (64 : Int32)), (.long (0 : Int64)), (.ref b2)])) rfl (by rw [hml]; rfl) (Steps.refl _) (argsL := [(.long (0 : Int64)), (.int (64 : Int32)), (.long x0)]) (rest := []) (lenOf pd_5 rfl) rfl (by show 2 * 0 + _ ≤ _; exact Nat.le_of_eq rfl) (hb hby at_50) (fun _ _ => ⟨rfl, rfl, (by decide : 2 + 0 ≤ _), (by decide : 5 + 0 ≤ _)⟩)
  dsimp only [Pt.U, Pt.locs, Pt.cells, Pt.slots] at X4 l4 y4 z4 st4 hQ4
  subst l4 y4 z4
  obtain ⟨rfl, N4q, K4q, c4_0, c4_1, c4_2⟩ := hQ4
  have N4 := Fr.app N3 N4q
  obtain ⟨J4, X4, N4⟩ := own_hide X4 N4
  have f4_0 := c3_0.keep K4q
  have f4_1 := c3_1.keep K4q (ninS ne3_0 nin0)
  have K4 : Keep h0 T4.heap [] := K3.trans K4q (allS (Or.inr sz_b_3) all0)
  have Z4 : n0 ≤ T4.heap.size := Nat.le_trans Z0 K4.1
  refine own_Go.of (g' := (mkF m 53 #[.val (.long x0), .second, .val (.long x1), .second, .val (.long x2), .second, .val (.long x3), .second, .val (.int x4), .val (.long x5), .second, .val (.long bt), .second, .val (.int n), .val (.long v), .second, .val (.ref b2), .unset, .unset, .unset, .unset, .unset, .unset, .unset, .unset] [])) (fun t k => st4.trans k) ?_
  refine og_aload (pc' := 55) X4 hx (hb hby at_53) rfl rfl rfl ?_
  refine og_ldc2_w (pc' := 58) X4 hx (hb hby at_55) hown (mvT hZ (hw _ (List.mem_of_getElem? (i := 36) rfl))) rfl ?_
  refine og_bipush (pc' := 60) (n := 64) X4 hx (hb hby at_58) rfl rfl ?_
  refine og_lloadN (pc' := 61) X4 hx (hb hby at_60) rfl rfl ?_
  obtain ⟨cq5, kq5, q5a, q5b, q5c⟩ := isOf hZ rfl c4_0
  obtain ⟨_, _, ⟨T5, L5, k5, n5⟩, -, X5, ⟨Lc5, hQ5, l5, y5, z5⟩, st5⟩ := X4.virtualBack hx (y := (⟨"com/example/paranhos/paranhos/BitArray", "put", "(JIJ)V"⟩ : MethodName)) (z := (⟨"com/example/paranhos/paranhos/BitArray", "put", "(JIJ)V"⟩ : MethodName)) hown (mvT hZ (hw _ (List.mem_of_getElem? (i := 29) rfl))) (mvT hZ (hw _ (List.mem_of_getElem? (i := 30) rfl))) (notFace_of_selects (args := #[]) (mvT hZ (hw _ (List.mem_of_getElem? (i := 32) rfl)))) (mvT hZ (hw _ (List.mem_of_getElem? (i := 32) rfl))) (mvT hZ (hw _ (List.mem_of_getElem? (i := 31) rfl))) (by decide) (backOf (W := 0) (rmput1 l Z a0 hw [] b2 x1 b_3 k_3 x0 (0 : Int64) (0 : Int64) T4.heap n0 Z4 c4_0 c4_1 c4_2 g_b_3 ne3_0) hZ (hw _ (List.mem_of_getElem? (i := 33) rfl)) (hw _ (List.mem_of_getElem? (i := 9) rfl)) (by decide) (by decide)) q5a q5c (g := (mkF m 61 #[.val (.long x0), .second, .val (.long x1), .second, .val (.long x2), .second, .val (.long x3), .second, .val (.int x4), .val (.long x5), .second, .val (.long bt), .second, .val (.int n), .val (.long v), .second, .val (.ref b2), .unset, .unset, .unset, .unset, .unset, .unset, .unset, .unset] [(.long x1), (.int (64 : Int32)), (.long (64 : Int64)), (.ref b2)])) rfl (by rw [hml]; rfl) (Steps.refl _) (argsL := [(.long (64 : Int64)), (.int (64 : Int32)), (.long x1)]) (rest := []) (lenOf pd_5 rfl) rfl (by show 2 * 0 + _ ≤ _; exact Nat.le_of_eq rfl) (hb hby at_61) (fun _ _ => ⟨rfl, rfl, (by decide : 2 + 0 ≤ _), (by decide : 5 + 0 ≤ _)⟩)
  dsimp only [Pt.U, Pt.locs, Pt.cells, Pt.slots] at X5 l5 y5 z5 st5 hQ5
  subst l5 y5 z5
  obtain ⟨rfl, N5q, K5q, c5_0, c5_1, c5_2⟩ := hQ5
  have N5 := Fr.app N4 N5q
  obtain ⟨J5, X5, N5⟩ := own_hide X5 N5
  have f5_0 := c4_0.keep K5q
  have f5_1 := c4_1.keep K5q (ninS ne3_0 nin0)
  have K5 : Keep h0 T5.heap [] := K4.trans K5q (allS (Or.inr sz_b_3) all0)
  have Z5 : n0 ≤ T5.heap.size := Nat.le_trans Z0 K5.1
  refine own_Go.of (g' := (mkF m 64 #[.val (.long x0), .second, .val (.long x1), .second, .val (.long x2), .second, .val (.long x3), .second, .val (.int x4), .val (.long x5), .second, .val (.long bt), .second, .val (.int n), .val (.long v), .second, .val (.ref b2), .unset, .unset, .unset, .unset, .unset, .unset, .unset, .unset] [])) (fun t k => st5.trans k) ?_
  refine og_aload (pc' := 66) X5 hx (hb hby at_64) rfl rfl rfl ?_
  refine og_ldc2_w (pc' := 69) X5 hx (hb hby at_66) hown (mvT hZ (hw _ (List.mem_of_getElem? (i := 37) rfl))) rfl ?_
  refine og_bipush (pc' := 71) (n := 64) X5 hx (hb hby at_69) rfl rfl ?_
  refine og_lload (pc' := 73) X5 hx (hb hby at_71) rfl rfl ?_
  obtain ⟨cq6, kq6, q6a, q6b, q6c⟩ := isOf hZ rfl c5_0
  obtain ⟨_, _, ⟨T6, L6, k6, n6⟩, -, X6, ⟨Lc6, hQ6, l6, y6, z6⟩, st6⟩ := X5.virtualBack hx (y := (⟨"com/example/paranhos/paranhos/BitArray", "put", "(JIJ)V"⟩ : MethodName)) (z := (⟨"com/example/paranhos/paranhos/BitArray", "put", "(JIJ)V"⟩ : MethodName)) hown (mvT hZ (hw _ (List.mem_of_getElem? (i := 29) rfl))) (mvT hZ (hw _ (List.mem_of_getElem? (i := 30) rfl))) (notFace_of_selects (args := #[]) (mvT hZ (hw _ (List.mem_of_getElem? (i := 32) rfl)))) (mvT hZ (hw _ (List.mem_of_getElem? (i := 32) rfl))) (mvT hZ (hw _ (List.mem_of_getElem? (i := 31) rfl))) (by decide) (backOf (W := 0) (rmput2 l Z a0 hw [] b2 x2 b_3 k_3 x0 x1 (0 : Int64) T5.heap n0 Z5 c5_0 c5_1 c5_2 g_b_3 ne3_0) hZ (hw _ (List.mem_of_getElem? (i := 33) rfl)) (hw _ (List.mem_of_getElem? (i := 9) rfl)) (by decide) (by decide)) q6a q6c (g := (mkF m 73 #[.val (.long x0), .second, .val (.long x1), .second, .val (.long x2), .second, .val (.long x3), .second, .val (.int x4), .val (.long x5), .second, .val (.long bt), .second, .val (.int n), .val (.long v), .second, .val (.ref b2), .unset, .unset, .unset, .unset, .unset, .unset, .unset, .unset] [(.long x2), (.int (64 : Int32)), (.long (128 : Int64)), (.ref b2)])) rfl (by rw [hml]; rfl) (Steps.refl _) (argsL := [(.long (128 : Int64)), (.int (64 : Int32)), (.long x2)]) (rest := []) (lenOf pd_5 rfl) rfl (by show 2 * 0 + _ ≤ _; exact Nat.le_of_eq rfl) (hb hby at_73) (fun _ _ => ⟨rfl, rfl, (by decide : 2 + 0 ≤ _), (by decide : 5 + 0 ≤ _)⟩)
  dsimp only [Pt.U, Pt.locs, Pt.cells, Pt.slots] at X6 l6 y6 z6 st6 hQ6
  subst l6 y6 z6
  obtain ⟨rfl, N6q, K6q, c6_0, c6_1, c6_2⟩ := hQ6
  have N6 := Fr.app N5 N6q
  obtain ⟨J6, X6, N6⟩ := own_hide X6 N6
  have f6_0 := c5_0.keep K6q
  have f6_1 := c5_1.keep K6q (ninS ne3_0 nin0)
  have K6 : Keep h0 T6.heap [] := K5.trans K6q (allS (Or.inr sz_b_3) all0)
  have Z6 : n0 ≤ T6.heap.size := Nat.le_trans Z0 K6.1
  refine own_Go.of (g' := (mkF m 76 #[.val (.long x0), .second, .val (.long x1), .second, .val (.long x2), .second, .val (.long x3), .second, .val (.int x4), .val (.long x5), .second, .val (.long bt), .second, .val (.int n), .val (.long v), .second, .val (.ref b2), .unset, .unset, .unset, .unset, .unset, .unset, .unset, .unset] [])) (fun t k => st6.trans k) ?_
  refine og_aload (pc' := 78) X6 hx (hb hby at_76) rfl rfl rfl ?_
  refine og_lload (pc' := 80) X6 hx (hb hby at_78) rfl rfl ?_
  refine og_iload (pc' := 82) X6 hx (hb hby at_80) rfl rfl ?_
  refine og_lload (pc' := 84) X6 hx (hb hby at_82) rfl rfl ?_
  obtain ⟨cq7, kq7, q7a, q7b, q7c⟩ := isOf hZ rfl c6_0
  obtain ⟨_, _, ⟨T7, L7, k7, n7⟩, -, X7, ⟨Lc7, hQ7, l7, y7, z7⟩, st7⟩ := X6.virtualBack hx (y := (⟨"com/example/paranhos/paranhos/BitArray", "put", "(JIJ)V"⟩ : MethodName)) (z := (⟨"com/example/paranhos/paranhos/BitArray", "put", "(JIJ)V"⟩ : MethodName)) hown (mvT hZ (hw _ (List.mem_of_getElem? (i := 29) rfl))) (mvT hZ (hw _ (List.mem_of_getElem? (i := 30) rfl))) (notFace_of_selects (args := #[]) (mvT hZ (hw _ (List.mem_of_getElem? (i := 32) rfl)))) (mvT hZ (hw _ (List.mem_of_getElem? (i := 32) rfl))) (mvT hZ (hw _ (List.mem_of_getElem? (i := 31) rfl))) (by decide) (backOf (W := 0) (rmput l Z a0 hw [] b2 bt n v b_3 k_3 x0 x1 x2 T6.heap n0 Z6 c6_0 c6_1 c6_2 g_b_3 ne3_0 hok) hZ (hw _ (List.mem_of_getElem? (i := 33) rfl)) (hw _ (List.mem_of_getElem? (i := 9) rfl)) (by decide) (by decide)) q7a q7c (g := (mkF m 84 #[.val (.long x0), .second, .val (.long x1), .second, .val (.long x2), .second, .val (.long x3), .second, .val (.int x4), .val (.long x5), .second, .val (.long bt), .second, .val (.int n), .val (.long v), .second, .val (.ref b2), .unset, .unset, .unset, .unset, .unset, .unset, .unset, .unset] [(.long v), (.int n), (.long bt), (.ref b2)])) rfl (by rw [hml]; rfl) (Steps.refl _) (argsL := [(.long bt), (.int n), (.long v)]) (rest := []) (lenOf pd_5 rfl) rfl (by show 2 * 0 + _ ≤ _; exact Nat.le_of_eq rfl) (hb hby at_84) (fun _ _ => ⟨rfl, rfl, (by decide : 2 + 0 ≤ _), (by decide : 5 + 0 ≤ _)⟩)
  dsimp only [Pt.U, Pt.locs, Pt.cells, Pt.slots] at X7 l7 y7 z7 st7 hQ7
  subst l7 y7 z7
  obtain ⟨rfl, N7q, K7q, c7_0, c7_1, c7_2⟩ := hQ7
  have N7 := Fr.app N6 N7q
  obtain ⟨J7, X7, N7⟩ := own_hide X7 N7
  have f7_0 := c6_0.keep K7q
  have f7_1 := c6_1.keep K7q (ninS ne3_0 nin0)
  have K7 : Keep h0 T7.heap [] := K6.trans K7q (allS (Or.inr sz_b_3) all0)
  have Z7 : n0 ≤ T7.heap.size := Nat.le_trans Z0 K7.1
  refine own_Go.of (g' := (mkF m 87 #[.val (.long x0), .second, .val (.long x1), .second, .val (.long x2), .second, .val (.long x3), .second, .val (.int x4), .val (.long x5), .second, .val (.long bt), .second, .val (.int n), .val (.long v), .second, .val (.ref b2), .unset, .unset, .unset, .unset, .unset, .unset, .unset, .unset] [])) (fun t k => st7.trans k) ?_
  refine og_lload (pc' := 89) X7 hx (hb hby at_87) rfl rfl ?_
  refine og_iload (pc' := 91) X7 hx (hb hby at_89) rfl rfl ?_
  refine og_i2l (pc' := 92) X7 hx (hb hby at_91) rfl ?_
  refine og_ladd (pc' := 93) X7 hx (hb hby at_92) rfl ?_
  refine og_lstore (pc' := 95) (L' := #[.val (.long x0), .second, .val (.long x1), .second, .val (.long x2), .second, .val (.long x3), .second, .val (.int x4), .val (.long x5), .second, .val (.long bt), .second, .val (.int n), .val (.long v), .second, .val (.ref b2), .val (.long (bt + (n.toInt64))), .second, .unset, .unset, .unset, .unset, .unset, .unset]) X7 hx (hb hby at_93) rfl rfl ?_
  refine og_aload (pc' := 97) X7 hx (hb hby at_95) rfl rfl rfl ?_
  refine og_lconst0 (pc' := 98) X7 hx (hb hby at_97) rfl ?_
  refine og_bipush (pc' := 100) (n := 64) X7 hx (hb hby at_98) rfl rfl ?_
  obtain ⟨cq8, kq8, q8a, q8b, q8c⟩ := isOf hZ rfl c7_0
  obtain ⟨_, _, ⟨T8, L8, k8, n8⟩, -, X8, ⟨Lc8, hQ8, l8, y8, z8⟩, st8⟩ := X7.virtualBack hx (y := (⟨"com/example/paranhos/paranhos/BitArray", "get", "(JI)J"⟩ : MethodName)) (z := (⟨"com/example/paranhos/paranhos/BitArray", "get", "(JI)J"⟩ : MethodName)) hown (mvT hZ (hw _ (List.mem_of_getElem? (i := 38) rfl))) (mvT hZ (hw _ (List.mem_of_getElem? (i := 39) rfl))) (notFace_of_selects (args := #[]) (mvT hZ (hw _ (List.mem_of_getElem? (i := 41) rfl)))) (mvT hZ (hw _ (List.mem_of_getElem? (i := 41) rfl))) (mvT hZ (hw _ (List.mem_of_getElem? (i := 40) rfl))) (by decide) (backOf (W := 0) (rmget l Z a0 hw [] b2 (0 : Int64) (64 : Int32) b_3 k_3 (own_pw0 bt n v x0 x1 x2) (own_pw1 bt n v x0 x1 x2) (own_pw2 bt n v x0 x1 x2) T7.heap n0 Z7 c7_1 c7_2 (by unfold own_ok; decide)) hZ (hw _ (List.mem_of_getElem? (i := 42) rfl)) (hw _ (List.mem_of_getElem? (i := 9) rfl)) (by decide) (by decide)) q8a q8c (g := (mkF m 100 #[.val (.long x0), .second, .val (.long x1), .second, .val (.long x2), .second, .val (.long x3), .second, .val (.int x4), .val (.long x5), .second, .val (.long bt), .second, .val (.int n), .val (.long v), .second, .val (.ref b2), .val (.long (bt + (n.toInt64))), .second, .unset, .unset, .unset, .unset, .unset, .unset] [(.int (64 : Int32)), (.long (0 : Int64)), (.ref b2)])) rfl (by rw [hml]; rfl) (Steps.refl _) (argsL := [(.long (0 : Int64)), (.int (64 : Int32))]) (rest := []) (lenOf pd_6 rfl) rfl (by show 2 * 0 + _ ≤ _; exact Nat.le_of_eq rfl) (hb hby at_100) (fun _ _ => ⟨rfl, rfl, (by decide : 2 + 0 ≤ _), (by decide : 5 + 0 ≤ _)⟩)
  dsimp only [Pt.U, Pt.locs, Pt.cells, Pt.slots] at X8 l8 y8 z8 st8 hQ8
  subst l8 y8 z8
  obtain ⟨rfl, N8q, e8⟩ := hQ8
  have N8 := Fr.app N7 N8q
  obtain ⟨J8, X8, N8⟩ := own_hide X8 N8
  refine own_Go.of (g' := (mkF m 103 #[.val (.long x0), .second, .val (.long x1), .second, .val (.long x2), .second, .val (.long x3), .second, .val (.int x4), .val (.long x5), .second, .val (.long bt), .second, .val (.int n), .val (.long v), .second, .val (.ref b2), .val (.long (bt + (n.toInt64))), .second, .unset, .unset, .unset, .unset, .unset, .unset] [(.long (own_get (0 : Int64) (64 : Int32) (own_pw0 bt n v x0 x1 x2) (own_pw1 bt n v x0 x1 x2) (own_pw2 bt n v x0 x1 x2)))])) (fun t k => st8.trans k) ?_
  refine og_lstore (pc' := 105) (L' := #[.val (.long x0), .second, .val (.long x1), .second, .val (.long x2), .second, .val (.long x3), .second, .val (.int x4), .val (.long x5), .second, .val (.long bt), .second, .val (.int n), .val (.long v), .second, .val (.ref b2), .val (.long (bt + (n.toInt64))), .second, .val (.long (own_get (0 : Int64) (64 : Int32) (own_pw0 bt n v x0 x1 x2) (own_pw1 bt n v x0 x1 x2) (own_pw2 bt n v x0 x1 x2))), .second, .unset, .unset, .unset, .unset]) X8 hx (hb hby at_103) rfl rfl ?_
  refine og_aload (pc' := 107) X8 hx (hb hby at_105) rfl rfl rfl ?_
  refine og_ldc2_w (pc' := 110) X8 hx (hb hby at_107) hown (mvT hZ (hw _ (List.mem_of_getElem? (i := 36) rfl))) rfl ?_
  refine og_bipush (pc' := 112) (n := 64) X8 hx (hb hby at_110) rfl rfl ?_
  obtain ⟨cq9, kq9, q9a, q9b, q9c⟩ := isOf hZ e8 c7_0
  obtain ⟨_, _, ⟨T9, L9, k9, n9⟩, -, X9, ⟨Lc9, hQ9, l9, y9, z9⟩, st9⟩ := X8.virtualBack hx (y := (⟨"com/example/paranhos/paranhos/BitArray", "get", "(JI)J"⟩ : MethodName)) (z := (⟨"com/example/paranhos/paranhos/BitArray", "get", "(JI)J"⟩ : MethodName)) hown (mvT hZ (hw _ (List.mem_of_getElem? (i := 38) rfl))) (mvT hZ (hw _ (List.mem_of_getElem? (i := 39) rfl))) (notFace_of_selects (args := #[]) (mvT hZ (hw _ (List.mem_of_getElem? (i := 41) rfl)))) (mvT hZ (hw _ (List.mem_of_getElem? (i := 41) rfl))) (mvT hZ (hw _ (List.mem_of_getElem? (i := 40) rfl))) (by decide) (backOf (W := 0) (rmget l Z a0 hw [] b2 (64 : Int64) (64 : Int32) b_3 k_3 (own_pw0 bt n v x0 x1 x2) (own_pw1 bt n v x0 x1 x2) (own_pw2 bt n v x0 x1 x2) T7.heap n0 Z7 c7_1 c7_2 (by unfold own_ok; decide)) hZ (hw _ (List.mem_of_getElem? (i := 42) rfl)) (hw _ (List.mem_of_getElem? (i := 9) rfl)) (by decide) (by decide)) q9a q9c (g := (mkF m 112 #[.val (.long x0), .second, .val (.long x1), .second, .val (.long x2), .second, .val (.long x3), .second, .val (.int x4), .val (.long x5), .second, .val (.long bt), .second, .val (.int n), .val (.long v), .second, .val (.ref b2), .val (.long (bt + (n.toInt64))), .second, .val (.long (own_get (0 : Int64) (64 : Int32) (own_pw0 bt n v x0 x1 x2) (own_pw1 bt n v x0 x1 x2) (own_pw2 bt n v x0 x1 x2))), .second, .unset, .unset, .unset, .unset] [(.int (64 : Int32)), (.long (64 : Int64)), (.ref b2)])) rfl (by rw [hml]; rfl) (Steps.refl _) (argsL := [(.long (64 : Int64)), (.int (64 : Int32))]) (rest := []) (lenOf pd_6 rfl) rfl (by show 2 * 0 + _ ≤ _; exact Nat.le_of_eq rfl) (hb hby at_112) (fun _ _ => ⟨rfl, e8, (by decide : 2 + 0 ≤ _), (by decide : 5 + 0 ≤ _)⟩)
  dsimp only [Pt.U, Pt.locs, Pt.cells, Pt.slots] at X9 l9 y9 z9 st9 hQ9
  subst l9 y9 z9
  obtain ⟨rfl, N9q, e9⟩ := hQ9
  have N9 := Fr.app N8 N9q
  obtain ⟨J9, X9, N9⟩ := own_hide X9 N9
  refine own_Go.of (g' := (mkF m 115 #[.val (.long x0), .second, .val (.long x1), .second, .val (.long x2), .second, .val (.long x3), .second, .val (.int x4), .val (.long x5), .second, .val (.long bt), .second, .val (.int n), .val (.long v), .second, .val (.ref b2), .val (.long (bt + (n.toInt64))), .second, .val (.long (own_get (0 : Int64) (64 : Int32) (own_pw0 bt n v x0 x1 x2) (own_pw1 bt n v x0 x1 x2) (own_pw2 bt n v x0 x1 x2))), .second, .unset, .unset, .unset, .unset] [(.long (own_get (64 : Int64) (64 : Int32) (own_pw0 bt n v x0 x1 x2) (own_pw1 bt n v x0 x1 x2) (own_pw2 bt n v x0 x1 x2)))])) (fun t k => st9.trans k) ?_
  refine og_lstore (pc' := 117) (L' := #[.val (.long x0), .second, .val (.long x1), .second, .val (.long x2), .second, .val (.long x3), .second, .val (.int x4), .val (.long x5), .second, .val (.long bt), .second, .val (.int n), .val (.long v), .second, .val (.ref b2), .val (.long (bt + (n.toInt64))), .second, .val (.long (own_get (0 : Int64) (64 : Int32) (own_pw0 bt n v x0 x1 x2) (own_pw1 bt n v x0 x1 x2) (own_pw2 bt n v x0 x1 x2))), .second, .val (.long (own_get (64 : Int64) (64 : Int32) (own_pw0 bt n v x0 x1 x2) (own_pw1 bt n v x0 x1 x2) (own_pw2 bt n v x0 x1 x2))), .second, .unset, .unset]) X9 hx (hb hby at_115) rfl rfl ?_
  refine og_aload (pc' := 119) X9 hx (hb hby at_117) rfl rfl rfl ?_
  refine og_ldc2_w (pc' := 122) X9 hx (hb hby at_119) hown (mvT hZ (hw _ (List.mem_of_getElem? (i := 37) rfl))) rfl ?_
  refine og_bipush (pc' := 124) (n := 64) X9 hx (hb hby at_122) rfl rfl ?_
  obtain ⟨cq10, kq10, q10a, q10b, q10c⟩ := isOf hZ e9 c7_0
  obtain ⟨_, _, ⟨T10, L10, k10, n10⟩, -, X10, ⟨Lc10, hQ10, l10, y10, z10⟩, st10⟩ := X9.virtualBack hx (y := (⟨"com/example/paranhos/paranhos/BitArray", "get", "(JI)J"⟩ : MethodName)) (z := (⟨"com/example/paranhos/paranhos/BitArray", "get", "(JI)J"⟩ : MethodName)) hown (mvT hZ (hw _ (List.mem_of_getElem? (i := 38) rfl))) (mvT hZ (hw _ (List.mem_of_getElem? (i := 39) rfl))) (notFace_of_selects (args := #[]) (mvT hZ (hw _ (List.mem_of_getElem? (i := 41) rfl)))) (mvT hZ (hw _ (List.mem_of_getElem? (i := 41) rfl))) (mvT hZ (hw _ (List.mem_of_getElem? (i := 40) rfl))) (by decide) (backOf (W := 0) (rmget l Z a0 hw [] b2 (128 : Int64) (64 : Int32) b_3 k_3 (own_pw0 bt n v x0 x1 x2) (own_pw1 bt n v x0 x1 x2) (own_pw2 bt n v x0 x1 x2) T7.heap n0 Z7 c7_1 c7_2 (by unfold own_ok; decide)) hZ (hw _ (List.mem_of_getElem? (i := 42) rfl)) (hw _ (List.mem_of_getElem? (i := 9) rfl)) (by decide) (by decide)) q10a q10c (g := (mkF m 124 #[.val (.long x0), .second, .val (.long x1), .second, .val (.long x2), .second, .val (.long x3), .second, .val (.int x4), .val (.long x5), .second, .val (.long bt), .second, .val (.int n), .val (.long v), .second, .val (.ref b2), .val (.long (bt + (n.toInt64))), .second, .val (.long (own_get (0 : Int64) (64 : Int32) (own_pw0 bt n v x0 x1 x2) (own_pw1 bt n v x0 x1 x2) (own_pw2 bt n v x0 x1 x2))), .second, .val (.long (own_get (64 : Int64) (64 : Int32) (own_pw0 bt n v x0 x1 x2) (own_pw1 bt n v x0 x1 x2) (own_pw2 bt n v x0 x1 x2))), .second, .unset, .unset] [(.int (64 : Int32)), (.long (128 : Int64)), (.ref b2)])) rfl (by rw [hml]; rfl) (Steps.refl _) (argsL := [(.long (128 : Int64)), (.int (64 : Int32))]) (rest := []) (lenOf pd_6 rfl) rfl (by show 2 * 0 + _ ≤ _; exact Nat.le_of_eq rfl) (hb hby at_124) (fun _ _ => ⟨rfl, e9, (by decide : 2 + 0 ≤ _), (by decide : 5 + 0 ≤ _)⟩)
  dsimp only [Pt.U, Pt.locs, Pt.cells, Pt.slots] at X10 l10 y10 z10 st10 hQ10
  subst l10 y10 z10
  obtain ⟨rfl, N10q, e10⟩ := hQ10
  have N10 := Fr.app N9 N10q
  obtain ⟨J10, X10, N10⟩ := own_hide X10 N10
  refine own_Go.of (g' := (mkF m 127 #[.val (.long x0), .second, .val (.long x1), .second, .val (.long x2), .second, .val (.long x3), .second, .val (.int x4), .val (.long x5), .second, .val (.long bt), .second, .val (.int n), .val (.long v), .second, .val (.ref b2), .val (.long (bt + (n.toInt64))), .second, .val (.long (own_get (0 : Int64) (64 : Int32) (own_pw0 bt n v x0 x1 x2) (own_pw1 bt n v x0 x1 x2) (own_pw2 bt n v x0 x1 x2))), .second, .val (.long (own_get (64 : Int64) (64 : Int32) (own_pw0 bt n v x0 x1 x2) (own_pw1 bt n v x0 x1 x2) (own_pw2 bt n v x0 x1 x2))), .second, .unset, .unset] [(.long (own_get (128 : Int64) (64 : Int32) (own_pw0 bt n v x0 x1 x2) (own_pw1 bt n v x0 x1 x2) (own_pw2 bt n v x0 x1 x2)))])) (fun t k => st10.trans k) ?_
  refine og_lstore (pc' := 129) (L' := #[.val (.long x0), .second, .val (.long x1), .second, .val (.long x2), .second, .val (.long x3), .second, .val (.int x4), .val (.long x5), .second, .val (.long bt), .second, .val (.int n), .val (.long v), .second, .val (.ref b2), .val (.long (bt + (n.toInt64))), .second, .val (.long (own_get (0 : Int64) (64 : Int32) (own_pw0 bt n v x0 x1 x2) (own_pw1 bt n v x0 x1 x2) (own_pw2 bt n v x0 x1 x2))), .second, .val (.long (own_get (64 : Int64) (64 : Int32) (own_pw0 bt n v x0 x1 x2) (own_pw1 bt n v x0 x1 x2) (own_pw2 bt n v x0 x1 x2))), .second, .val (.long (own_get (128 : Int64) (64 : Int32) (own_pw0 bt n v x0 x1 x2) (own_pw1 bt n v x0 x1 x2) (own_pw2 bt n v x0 x1 x2))), .second]) X10 hx (hb hby at_127) rfl rfl ?_
  refine og_lload (pc' := 131) X10 hx (hb hby at_129) rfl rfl ?_
  refine og_lloadN (pc' := 132) X10 hx (hb hby at_131) rfl rfl ?_
  refine og_lconst0 (pc' := 133) X10 hx (hb hby at_132) rfl ?_
  refine og_lload (pc' := 135) X10 hx (hb hby at_133) rfl rfl ?_
  refine og_lload (pc' := 137) X10 hx (hb hby at_135) rfl rfl ?_
  refine og_lload (pc' := 139) X10 hx (hb hby at_137) rfl rfl ?_
  obtain ⟨_, _, ⟨T11, L11, k11, n11⟩, -, X11, ⟨Lc11, hQ11, l11, y11, z11⟩, st11⟩ := Jvm.LawKit.callS X10 hx (y := (⟨"com/example/paranhos/paranhos/BitArrayPutPinLaw", "expected", "(JJJJJ)J"⟩ : MethodName)) hown (mvT hZ (hw _ (List.mem_of_getElem? (i := 43) rfl))) (mvT hZ (hw _ (List.mem_of_getElem? (i := 44) rfl))) (mvT hZ (hw _ (List.mem_of_getElem? (i := 5) rfl))) (mvT hZ (hw _ (List.mem_of_getElem? (i := 45) rfl))) (by decide) (backOf (W := 2) (rmxp l Z a0 hw [] x0 (0 : Int64) bt (bt + (n.toInt64)) v T7.heap n0 Z7 ) hZ (hw _ (List.mem_of_getElem? (i := 45) rfl)) (hw _ (List.mem_of_getElem? (i := 5) rfl)) (by decide) (by decide)) (g := (mkF m 139 #[.val (.long x0), .second, .val (.long x1), .second, .val (.long x2), .second, .val (.long x3), .second, .val (.int x4), .val (.long x5), .second, .val (.long bt), .second, .val (.int n), .val (.long v), .second, .val (.ref b2), .val (.long (bt + (n.toInt64))), .second, .val (.long (own_get (0 : Int64) (64 : Int32) (own_pw0 bt n v x0 x1 x2) (own_pw1 bt n v x0 x1 x2) (own_pw2 bt n v x0 x1 x2))), .second, .val (.long (own_get (64 : Int64) (64 : Int32) (own_pw0 bt n v x0 x1 x2) (own_pw1 bt n v x0 x1 x2) (own_pw2 bt n v x0 x1 x2))), .second, .val (.long (own_get (128 : Int64) (64 : Int32) (own_pw0 bt n v x0 x1 x2) (own_pw1 bt n v x0 x1 x2) (own_pw2 bt n v x0 x1 x2))), .second] [(.long v), (.long (bt + (n.toInt64))), (.long bt), (.long (0 : Int64)), (.long x0), (.long (own_get (0 : Int64) (64 : Int32) (own_pw0 bt n v x0 x1 x2) (own_pw1 bt n v x0 x1 x2) (own_pw2 bt n v x0 x1 x2)))])) rfl (by rw [hml]; rfl) (argsL := [(.long x0), (.long (0 : Int64)), (.long bt), (.long (bt + (n.toInt64))), (.long v)]) (rest := [(.long (own_get (0 : Int64) (64 : Int32) (own_pw0 bt n v x0 x1 x2) (own_pw1 bt n v x0 x1 x2) (own_pw2 bt n v x0 x1 x2)))]) (lenOf pd_7 rfl) rfl (by show 2 * 0 + _ ≤ _; exact Nat.le_of_eq rfl) (hb hby at_139) (fun _ _ => ⟨rfl, e10, (by decide : 2 + 0 ≤ _), (by decide : 5 + 0 ≤ _)⟩)
  dsimp only [Pt.U, Pt.locs, Pt.cells, Pt.slots] at X11 l11 y11 z11 st11 hQ11
  subst l11 y11 z11
  obtain ⟨rfl, N11q, e11⟩ := hQ11
  have N11 := Fr.app N10 N11q
  obtain ⟨J11, X11, N11⟩ := own_hide X11 N11
  refine own_Go.of (g' := (mkF m 142 #[.val (.long x0), .second, .val (.long x1), .second, .val (.long x2), .second, .val (.long x3), .second, .val (.int x4), .val (.long x5), .second, .val (.long bt), .second, .val (.int n), .val (.long v), .second, .val (.ref b2), .val (.long (bt + (n.toInt64))), .second, .val (.long (own_get (0 : Int64) (64 : Int32) (own_pw0 bt n v x0 x1 x2) (own_pw1 bt n v x0 x1 x2) (own_pw2 bt n v x0 x1 x2))), .second, .val (.long (own_get (64 : Int64) (64 : Int32) (own_pw0 bt n v x0 x1 x2) (own_pw1 bt n v x0 x1 x2) (own_pw2 bt n v x0 x1 x2))), .second, .val (.long (own_get (128 : Int64) (64 : Int32) (own_pw0 bt n v x0 x1 x2) (own_pw1 bt n v x0 x1 x2) (own_pw2 bt n v x0 x1 x2))), .second] [(.long (own_exp x0 (0 : Int64) bt (bt + (n.toInt64)) v)), (.long (own_get (0 : Int64) (64 : Int32) (own_pw0 bt n v x0 x1 x2) (own_pw1 bt n v x0 x1 x2) (own_pw2 bt n v x0 x1 x2)))])) (fun t k => st11 _ k) ?_
  refine og_lcmp (pc' := 143) X11 hx (hb hby at_142) rfl ?_
  refine og_ifNo (pc' := 146) X11 hx (hb hby at_143) ((if0 _ _).trans (teq ((lw_eq _ _).mpr (own_fin0 rb rn hv))).2) rfl ?_
  refine og_lload (pc' := 148) X11 hx (hb hby at_146) rfl rfl ?_
  refine og_lloadN (pc' := 149) X11 hx (hb hby at_148) rfl rfl ?_
  refine og_ldc2_w (pc' := 152) X11 hx (hb hby at_149) hown (mvT hZ (hw _ (List.mem_of_getElem? (i := 36) rfl))) rfl ?_
  refine og_lload (pc' := 154) X11 hx (hb hby at_152) rfl rfl ?_
  refine og_lload (pc' := 156) X11 hx (hb hby at_154) rfl rfl ?_
  refine og_lload (pc' := 158) X11 hx (hb hby at_156) rfl rfl ?_
  obtain ⟨_, _, ⟨T12, L12, k12, n12⟩, -, X12, ⟨Lc12, hQ12, l12, y12, z12⟩, st12⟩ := Jvm.LawKit.callS X11 hx (y := (⟨"com/example/paranhos/paranhos/BitArrayPutPinLaw", "expected", "(JJJJJ)J"⟩ : MethodName)) hown (mvT hZ (hw _ (List.mem_of_getElem? (i := 43) rfl))) (mvT hZ (hw _ (List.mem_of_getElem? (i := 44) rfl))) (mvT hZ (hw _ (List.mem_of_getElem? (i := 5) rfl))) (mvT hZ (hw _ (List.mem_of_getElem? (i := 45) rfl))) (by decide) (backOf (W := 2) (rmxp l Z a0 hw [] x1 (64 : Int64) bt (bt + (n.toInt64)) v T7.heap n0 Z7 ) hZ (hw _ (List.mem_of_getElem? (i := 45) rfl)) (hw _ (List.mem_of_getElem? (i := 5) rfl)) (by decide) (by decide)) (g := (mkF m 158 #[.val (.long x0), .second, .val (.long x1), .second, .val (.long x2), .second, .val (.long x3), .second, .val (.int x4), .val (.long x5), .second, .val (.long bt), .second, .val (.int n), .val (.long v), .second, .val (.ref b2), .val (.long (bt + (n.toInt64))), .second, .val (.long (own_get (0 : Int64) (64 : Int32) (own_pw0 bt n v x0 x1 x2) (own_pw1 bt n v x0 x1 x2) (own_pw2 bt n v x0 x1 x2))), .second, .val (.long (own_get (64 : Int64) (64 : Int32) (own_pw0 bt n v x0 x1 x2) (own_pw1 bt n v x0 x1 x2) (own_pw2 bt n v x0 x1 x2))), .second, .val (.long (own_get (128 : Int64) (64 : Int32) (own_pw0 bt n v x0 x1 x2) (own_pw1 bt n v x0 x1 x2) (own_pw2 bt n v x0 x1 x2))), .second] [(.long v), (.long (bt + (n.toInt64))), (.long bt), (.long (64 : Int64)), (.long x1), (.long (own_get (64 : Int64) (64 : Int32) (own_pw0 bt n v x0 x1 x2) (own_pw1 bt n v x0 x1 x2) (own_pw2 bt n v x0 x1 x2)))])) rfl (by rw [hml]; rfl) (argsL := [(.long x1), (.long (64 : Int64)), (.long bt), (.long (bt + (n.toInt64))), (.long v)]) (rest := [(.long (own_get (64 : Int64) (64 : Int32) (own_pw0 bt n v x0 x1 x2) (own_pw1 bt n v x0 x1 x2) (own_pw2 bt n v x0 x1 x2)))]) (lenOf pd_7 rfl) rfl (by show 2 * 0 + _ ≤ _; exact Nat.le_of_eq rfl) (hb hby at_158) (fun _ _ => ⟨rfl, e11, (by decide : 2 + 0 ≤ _), (by decide : 5 + 0 ≤ _)⟩)
  dsimp only [Pt.U, Pt.locs, Pt.cells, Pt.slots] at X12 l12 y12 z12 st12 hQ12
  subst l12 y12 z12
  obtain ⟨rfl, N12q, e12⟩ := hQ12
  have N12 := Fr.app N11 N12q
  obtain ⟨J12, X12, N12⟩ := own_hide X12 N12
  refine own_Go.of (g' := (mkF m 161 #[.val (.long x0), .second, .val (.long x1), .second, .val (.long x2), .second, .val (.long x3), .second, .val (.int x4), .val (.long x5), .second, .val (.long bt), .second, .val (.int n), .val (.long v), .second, .val (.ref b2), .val (.long (bt + (n.toInt64))), .second, .val (.long (own_get (0 : Int64) (64 : Int32) (own_pw0 bt n v x0 x1 x2) (own_pw1 bt n v x0 x1 x2) (own_pw2 bt n v x0 x1 x2))), .second, .val (.long (own_get (64 : Int64) (64 : Int32) (own_pw0 bt n v x0 x1 x2) (own_pw1 bt n v x0 x1 x2) (own_pw2 bt n v x0 x1 x2))), .second, .val (.long (own_get (128 : Int64) (64 : Int32) (own_pw0 bt n v x0 x1 x2) (own_pw1 bt n v x0 x1 x2) (own_pw2 bt n v x0 x1 x2))), .second] [(.long (own_exp x1 (64 : Int64) bt (bt + (n.toInt64)) v)), (.long (own_get (64 : Int64) (64 : Int32) (own_pw0 bt n v x0 x1 x2) (own_pw1 bt n v x0 x1 x2) (own_pw2 bt n v x0 x1 x2)))])) (fun t k => st12 _ k) ?_
  refine og_lcmp (pc' := 162) X12 hx (hb hby at_161) rfl ?_
  refine og_ifNo (pc' := 165) X12 hx (hb hby at_162) ((if0 _ _).trans (teq ((lw_eq _ _).mpr (own_fin1 rb rn hv))).2) rfl ?_
  refine og_lload (pc' := 167) X12 hx (hb hby at_165) rfl rfl ?_
  refine og_lload (pc' := 169) X12 hx (hb hby at_167) rfl rfl ?_
  refine og_ldc2_w (pc' := 172) X12 hx (hb hby at_169) hown (mvT hZ (hw _ (List.mem_of_getElem? (i := 37) rfl))) rfl ?_
  refine og_lload (pc' := 174) X12 hx (hb hby at_172) rfl rfl ?_
  refine og_lload (pc' := 176) X12 hx (hb hby at_174) rfl rfl ?_
  refine og_lload (pc' := 178) X12 hx (hb hby at_176) rfl rfl ?_
  obtain ⟨_, _, ⟨T13, L13, k13, n13⟩, -, X13, ⟨Lc13, hQ13, l13, y13, z13⟩, st13⟩ := Jvm.LawKit.callS X12 hx (y := (⟨"com/example/paranhos/paranhos/BitArrayPutPinLaw", "expected", "(JJJJJ)J"⟩ : MethodName)) hown (mvT hZ (hw _ (List.mem_of_getElem? (i := 43) rfl))) (mvT hZ (hw _ (List.mem_of_getElem? (i := 44) rfl))) (mvT hZ (hw _ (List.mem_of_getElem? (i := 5) rfl))) (mvT hZ (hw _ (List.mem_of_getElem? (i := 45) rfl))) (by decide) (backOf (W := 2) (rmxp l Z a0 hw [] x2 (128 : Int64) bt (bt + (n.toInt64)) v T7.heap n0 Z7 ) hZ (hw _ (List.mem_of_getElem? (i := 45) rfl)) (hw _ (List.mem_of_getElem? (i := 5) rfl)) (by decide) (by decide)) (g := (mkF m 178 #[.val (.long x0), .second, .val (.long x1), .second, .val (.long x2), .second, .val (.long x3), .second, .val (.int x4), .val (.long x5), .second, .val (.long bt), .second, .val (.int n), .val (.long v), .second, .val (.ref b2), .val (.long (bt + (n.toInt64))), .second, .val (.long (own_get (0 : Int64) (64 : Int32) (own_pw0 bt n v x0 x1 x2) (own_pw1 bt n v x0 x1 x2) (own_pw2 bt n v x0 x1 x2))), .second, .val (.long (own_get (64 : Int64) (64 : Int32) (own_pw0 bt n v x0 x1 x2) (own_pw1 bt n v x0 x1 x2) (own_pw2 bt n v x0 x1 x2))), .second, .val (.long (own_get (128 : Int64) (64 : Int32) (own_pw0 bt n v x0 x1 x2) (own_pw1 bt n v x0 x1 x2) (own_pw2 bt n v x0 x1 x2))), .second] [(.long v), (.long (bt + (n.toInt64))), (.long bt), (.long (128 : Int64)), (.long x2), (.long (own_get (128 : Int64) (64 : Int32) (own_pw0 bt n v x0 x1 x2) (own_pw1 bt n v x0 x1 x2) (own_pw2 bt n v x0 x1 x2)))])) rfl (by rw [hml]; rfl) (argsL := [(.long x2), (.long (128 : Int64)), (.long bt), (.long (bt + (n.toInt64))), (.long v)]) (rest := [(.long (own_get (128 : Int64) (64 : Int32) (own_pw0 bt n v x0 x1 x2) (own_pw1 bt n v x0 x1 x2) (own_pw2 bt n v x0 x1 x2)))]) (lenOf pd_7 rfl) rfl (by show 2 * 0 + _ ≤ _; exact Nat.le_of_eq rfl) (hb hby at_178) (fun _ _ => ⟨rfl, e12, (by decide : 2 + 0 ≤ _), (by decide : 5 + 0 ≤ _)⟩)
  dsimp only [Pt.U, Pt.locs, Pt.cells, Pt.slots] at X13 l13 y13 z13 st13 hQ13
  subst l13 y13 z13
  obtain ⟨rfl, N13q, e13⟩ := hQ13
  have N13 := Fr.app N12 N13q
  obtain ⟨J13, X13, N13⟩ := own_hide X13 N13
  refine own_Go.of (g' := (mkF m 181 #[.val (.long x0), .second, .val (.long x1), .second, .val (.long x2), .second, .val (.long x3), .second, .val (.int x4), .val (.long x5), .second, .val (.long bt), .second, .val (.int n), .val (.long v), .second, .val (.ref b2), .val (.long (bt + (n.toInt64))), .second, .val (.long (own_get (0 : Int64) (64 : Int32) (own_pw0 bt n v x0 x1 x2) (own_pw1 bt n v x0 x1 x2) (own_pw2 bt n v x0 x1 x2))), .second, .val (.long (own_get (64 : Int64) (64 : Int32) (own_pw0 bt n v x0 x1 x2) (own_pw1 bt n v x0 x1 x2) (own_pw2 bt n v x0 x1 x2))), .second, .val (.long (own_get (128 : Int64) (64 : Int32) (own_pw0 bt n v x0 x1 x2) (own_pw1 bt n v x0 x1 x2) (own_pw2 bt n v x0 x1 x2))), .second] [(.long (own_exp x2 (128 : Int64) bt (bt + (n.toInt64)) v)), (.long (own_get (128 : Int64) (64 : Int32) (own_pw0 bt n v x0 x1 x2) (own_pw1 bt n v x0 x1 x2) (own_pw2 bt n v x0 x1 x2)))])) (fun t k => st13 _ k) ?_
  refine og_lcmp (pc' := 182) X13 hx (hb hby at_181) rfl ?_
  refine og_ifNo (pc' := 185) X13 hx (hb hby at_182) ((if0 _ _).trans (teq ((lw_eq _ _).mpr (own_fin2 rb rn hv))).2) rfl ?_
  refine og_iconst (pc' := 186) (n := 1) X13 hx (hb hby at_185) rfl rfl ?_
  refine og_goto (pc' := 190) X13 hx (hb hby at_186) (by decide) (by decide) ?_
  obtain ⟨fs, hr, hrun, hended, hW, hsame⟩ := X13.leave (v := some (.int (1 : Int32))) (fun h => by rw [Bd.returns] at h; cases h) (BodyLoose.notSynchronized Bd)
  refine ⟨_, _, retN X13 hx (t := .boolean) Bd.returns (by simp) (hb hby at_190) hr, hrun, hended, some (.int (1 : Int32)), _, rfl, ?_, ⟨_, rfl⟩, hW, hsame.mono (by decide) (by decide)⟩
  show Q0 Z x0 x1 x2 x3 x4 x5 h0 n0 _ T13.heap _
  rw [e13]
  exact ⟨rfl, N13⟩

set_option maxRecDepth 65536 in
set_option maxHeartbeats 40000000 in
theorem comes_1 {Post : Tables → Env → Array Value → State → Outcome → State → Prop} (hpost : ∀ tb e args s v u, (limb_1_1.after args s (.returned v) u = true ∧ limb_1_2.after args s (.returned v) u = true ∧ True) → FrameEnd s (.returned v) u (Jvm.fieldLocs frame_1_writes args s ++ Jvm.arrayLocs frame_1_arrays args s ++ Jvm.staticLocs frame_1_statics s) 16 128 → Post tb e args s (.returned v) u) :
    ArmFor flags0 classFile x code maxLocals ret World_1 tables_1 room_1 Calls_1 rest_1 Pre_1 Post := by
  intro l hfl _ _ p e ha hc hk s m args below hf hA hF happ hP
  obtain ⟨hcalls, hrest, hpre⟩ := hP
  obtain ⟨-, -, -, hnamed, -, -, -, hat⟩ := (Spec.applies_iff hf).mp happ
  obtain ⟨hg, hn⟩ := and_e (Cond.before_iff.mp (show (Jvm.Cond.and given_1 narrow_1).before args s = true from hpre))
  obtain ⟨hcnt, hg0⟩ := and_e hg
  obtain ⟨a0, hg1⟩ := and_e hg0
  obtain ⟨a1, hg2⟩ := and_e hg1
  obtain ⟨a2, hg3⟩ := and_e hg2
  obtain ⟨a3, hg4⟩ := and_e hg3
  obtain ⟨a4, hg5⟩ := and_e hg4
  obtain ⟨w0, w1, w2, w3, w4, w5, rfl⟩ : ∃ w0 w1 w2 w3 w4 w5 : Value, args = #[w0, w1, w2, w3, w4, w5] := by
    have hs : args.size = 6 := by simpa [Cond.value, given_1] using hcnt
    obtain ⟨L⟩ := args
    match L, hs with
    | [w0, w1, w2, w3, w4, w5], _ => exact ⟨w0, w1, w2, w3, w4, w5, rfl⟩
  have hw := fun d (hd : d ∈ tables_1) => atoms_spec (ws := Jvm.Cond.code x code maxLocals ret :: tables_1) hat d (List.mem_cons_of_mem _ hd)
  have hfit : Fit s := fun {y c} hc i hi => by
    obtain ⟨ha, rfl⟩ := Array.getElem?_eq_some_iff.mp hc
    have q := List.all_eq_true.mp ((Array.all_eq_true_iff_forall_mem.mp hF) _ (Array.getElem_mem ha)) i (List.mem_range.mpr hi)
    simpa [Array.getElem?_eq_getElem hi] using q
  obtain ⟨i0, ei0⟩ := isL_v a0
  obtain rfl : w0 = (.long i0) := Option.some.inj ei0
  obtain ⟨i1, ei1⟩ := isL_v a1
  obtain rfl : w1 = (.long i1) := Option.some.inj ei1
  obtain ⟨i2, ei2⟩ := isL_v a2
  obtain rfl : w2 = (.long i2) := Option.some.inj ei2
  obtain ⟨i3, ei3⟩ := isL_v a3
  obtain rfl : w3 = (.long i3) := Option.some.inj ei3
  obtain ⟨i4, ei4⟩ := is_v a4
  obtain rfl : w4 = (.int i4) := Option.some.inj ei4
  obtain ⟨i5, ei5⟩ := isL_v hg5
  obtain rfl : w5 = (.long i5) := Option.some.inj ei5
  obtain ⟨n, o, h1, h2, h3, _, L, rfl, ⟨rfl, N⟩, hq⟩ := rm0 l s _ hw tables_1 i0 i1 i2 i3 i4 i5  s.heap s.heap.size (Nat.le_refl _)  p e ha hc hk s m _ below hf ((Spec.applies_iff_loose hf).mp happ).1 ⟨rfl, State.Warmed39.refl s, rfl⟩ trivial
  refine ⟨n, _, h1, h2, h3, hpost _ _ _ _ _ _ ⟨Cond.after_iff.mpr rfl, Cond.after_iff.mpr (eq_i res_at (Term.int_eval (1)) rfl), trivial⟩ ⟨hq.1, hq.2.1, (hq.2.2.sift fun y hy => Or.inr (N y hy)).mono (by decide) (by decide)⟩⟩
theorem main_1_1 : Claimed_1_1 := comes_1 fun _ _ _ _ _ _ h hF => ⟨h.1, hF⟩
theorem main_1_2 : Claimed_1_2 := comes_1 fun _ _ _ _ _ _ h hF => ⟨h.2.1, hF⟩

end Jvm.Pilot.@@N@@
namespace Jvm.Pilot.@@N@@
open Jvm Jvm.ClassFile Sem Op Lib Jvm.Free Jvm.Stand Jvm.Pilot.@@N@@.Jvm.D
/-! MADE BY PROGRAM (witnessworld.py) out of the Statement's table words and the real class files: 12 classes; the members and pool entries that the words name. The judged class is class 1, her method 1. -/
namespace start1
open Jvm.ClassFile
def u (s : String) : CpInfo := .utf8 (stringToUtf16 s)
/-- a pool by its gaps: so many unusable entries, then the entry; so many at the end -/
def gap : Nat → List CpInfo → List CpInfo
  | 0, r => r
  | n + 1, r => .unusable :: gap n r
def poolList (es : List (Nat × CpInfo)) (last : Nat) : List CpInfo := es.foldr (fun e r => gap e.1 (e.2 :: r)) (gap last [])
def pool (es : List (Nat × CpInfo)) (last : Nat) : Array CpInfo := ⟨poolList es last⟩
def fileOf (pool : Array CpInfo) (this : Nat) (attrs : Array Attribute := #[]) (ms : Array MethodInfo := #[]) (fl : Nat := 33) (sup : Nat := 0) (ifs : Array Nat := #[]) (fds : Array FieldInfo := #[]) : ClassFile where
  minorVersion := 0
  majorVersion := 65
  constantPool := pool
  accessFlags := fl
  thisClass := this
  superClass := sup
  interfaces := ifs
  fields := fds
  methods := ms
  attributes := attrs
def plain (name : String) (sup : Option ClassId) : Class where
  name := name
  kind := .ordinary
  loader := none
  accessFlags := 33
  super := sup
  interfaces := #[]
  cf := none
  fields := #[]
  methods := #[]
  instanceTypes := #[]
  staticTypes := #[]
  resolved := #[]
  callSites := []
  init := .initialized
  statics := none
  mirror := none

def pool0 : Array CpInfo := pool [(5, u "<init>"), (0, u "()V"), (1, .class_ 10), (1, u "java/lang/Object")] 113

def k0c0 : Code := { maxStack := 0, maxLocals := 1, code := object_method_1_code, exceptionTable := #[], attributes := #[] }
def k0m0 : Method := { name := "<init>", desc := "()V", sig := { parameters := [], returnType := none }, accessFlags := 1, code := some k0c0 }
/-- java/lang/Object -/
def k0 : Class := { plain "java/lang/Object" none with
  accessFlags := 33
  interfaces := #[]
  cf := some (fileOf pool0 8 #[] #[{ accessFlags := 1, nameIndex := 5, descriptorIndex := 6, attributes := #[] }] 33 0 #[] #[])
  fields := #[]
  methods := #[k0m0]
  instanceTypes := #[]
  staticTypes := #[]
  resolved := Array.replicate 124 none
  statics := none }

def pool1 : Array CpInfo := pool [(2, .class_ 4), (1, u "java/lang/Object"), (0, u "<init>"), (0, u "()V"), (0, .long 9223372036854775807), (1, .long 129), (1, .integer 2147483647), (0, .methodref 13 14), (0, .class_ 15), (0, .nameAndType 16 17), (0, u "com/example/paranhos/paranhos/BitArrayPutPinLaw"), (0, u "lowMask"), (0, u "(I)J"), (0, .class_ 19), (0, u "com/example/paranhos/paranhos/BitArray"), (0, .long 192), (1, .methodref 18 23), (0, .nameAndType 5 24), (0, u "(J)V"), (0, .methodref 18 26), (0, .nameAndType 27 28), (0, u "put"), (0, u "(JIJ)V"), (0, .long 64), (1, .long 128), (1, .methodref 18 34), (0, .nameAndType 35 36), (0, u "get"), (0, u "(JI)J"), (0, .methodref 13 38), (0, .nameAndType 39 40), (0, u "expected"), (0, u "(JJJJJ)J"), (0, .methodref 13 42), (0, .nameAndType 43 44), (0, u "clamp"), (0, u "(J)I"), (0, .long 18446744073709551615), (1, .methodref 13 48), (0, .nameAndType 49 50), (0, u "shifted"), (0, u "(JJ)J"), (0, .methodref 52 53), (0, .class_ 54), (0, .nameAndType 55 50), (0, u "java/lang/Math"), (0, u "min"), (0, .methodref 52 57), (0, .nameAndType 58 50), (0, u "max"), (0, .long 18446744073709551552), (3, u "law"), (0, u "(JJJJIJ)Z")] 3

def k1m0 : Method := { name := "<init>", desc := "()V", sig := { parameters := [], returnType := none }, accessFlags := 1, code := none }
def k1c1 : Code := { maxStack := 12, maxLocals := 25, code := code, exceptionTable := #[], attributes := #[] }
def k1m1 : Method := { name := "law", desc := "(JJJJIJ)Z", sig := { parameters := [.long, .long, .long, .long, .int, .long], returnType := some .boolean }, accessFlags := 9, code := some k1c1 }
def k1c2 : Code := { maxStack := 8, maxLocals := 14, code := method_3_code, exceptionTable := #[], attributes := #[] }
def k1m2 : Method := { name := "expected", desc := "(JJJJJ)J", sig := { parameters := [.long, .long, .long, .long, .long], returnType := some .long }, accessFlags := 10, code := some k1c2 }
def k1c3 : Code := { maxStack := 6, maxLocals := 2, code := method_4_code, exceptionTable := #[], attributes := #[] }
def k1m3 : Method := { name := "clamp", desc := "(J)I", sig := { parameters := [.long], returnType := some .int }, accessFlags := 10, code := some k1c3 }
def k1c4 : Code := { maxStack := 4, maxLocals := 1, code := method_5_code, exceptionTable := #[], attributes := #[] }
def k1m4 : Method := { name := "lowMask", desc := "(I)J", sig := { parameters := [.int], returnType := some .long }, accessFlags := 10, code := some k1c4 }
def k1c5 : Code := { maxStack := 4, maxLocals := 4, code := method_6_code, exceptionTable := #[], attributes := #[] }
def k1m5 : Method := { name := "shifted", desc := "(JJ)J", sig := { parameters := [.long, .long], returnType := some .long }, accessFlags := 10, code := some k1c5 }
/-- com/example/paranhos/paranhos/BitArrayPutPinLaw -/
def k1 : Class := { plain "com/example/paranhos/paranhos/BitArrayPutPinLaw" (some 0) with
  accessFlags := 49
  interfaces := #[]
  cf := some (fileOf pool1 13 #[] #[{ accessFlags := 1, nameIndex := 5, descriptorIndex := 6, attributes := #[] }, { accessFlags := 9, nameIndex := 63, descriptorIndex := 64, attributes := #[] }, { accessFlags := 10, nameIndex := 39, descriptorIndex := 40, attributes := #[] }, { accessFlags := 10, nameIndex := 43, descriptorIndex := 44, attributes := #[] }, { accessFlags := 10, nameIndex := 16, descriptorIndex := 17, attributes := #[] }, { accessFlags := 10, nameIndex := 49, descriptorIndex := 50, attributes := #[] }] 49 2 #[] #[])
  fields := #[]
  methods := #[k1m0, k1m1, k1m2, k1m3, k1m4, k1m5]
  instanceTypes := #[]
  staticTypes := #[]
  resolved := Array.replicate 68 none
  statics := none }

def pool2 : Array CpInfo := pool [(5, .methodref 6 7), (0, .class_ 8), (0, .nameAndType 9 10), (0, u "com/example/paranhos/paranhos/BitArray"), (0, u "wordsFor"), (0, u "(J)I"), (0, .methodref 6 12), (0, .nameAndType 13 14), (0, u "<init>"), (0, u "([JJ)V"), (0, .methodref 16 17), (0, .class_ 18), (0, .nameAndType 13 19), (0, u "java/lang/Object"), (0, u "()V"), (0, .fieldref 6 21), (0, .nameAndType 22 23), (0, u "words"), (0, u "[J"), (0, .fieldref 6 25), (0, .nameAndType 26 27), (0, u "length"), (0, u "J"), (12, .long 64), (5, .long 63), (1, .long 18446744073709551615), (9, u "get"), (0, u "(JI)J"), (8, u "put"), (0, u "(JIJ)V"), (0, u "MAX_BITS"), (3, u "(J)V")] 20

def k2c0 : Code := { maxStack := 4, maxLocals := 3, code := prog_1_method_1_code, exceptionTable := #[], attributes := #[] }
def k2m0 : Method := { name := "<init>", desc := "(J)V", sig := { parameters := [.long], returnType := none }, accessFlags := 0, code := some k2c0 }
def k2c1 : Code := { maxStack := 3, maxLocals := 4, code := prog_1_method_2_code, exceptionTable := #[], attributes := #[] }
def k2m1 : Method := { name := "<init>", desc := "([JJ)V", sig := { parameters := [(.array .long), .long], returnType := none }, accessFlags := 2, code := some k2c1 }
def k2c2 : Code := { maxStack := 4, maxLocals := 2, code := prog_1_method_5_code, exceptionTable := #[], attributes := #[] }
def k2m2 : Method := { name := "wordsFor", desc := "(J)I", sig := { parameters := [.long], returnType := some .int }, accessFlags := 8, code := some k2c2 }
def k2c3 : Code := { maxStack := 6, maxLocals := 8, code := prog_1_method_8_code, exceptionTable := #[], attributes := #[] }
def k2m3 : Method := { name := "get", desc := "(JI)J", sig := { parameters := [.long, .int], returnType := some .long }, accessFlags := 0, code := some k2c3 }
def k2c4 : Code := { maxStack := 8, maxLocals := 11, code := prog_1_method_9_code, exceptionTable := #[], attributes := #[] }
def k2m4 : Method := { name := "put", desc := "(JIJ)V", sig := { parameters := [.long, .int, .long], returnType := none }, accessFlags := 0, code := some k2c4 }
/-- com/example/paranhos/paranhos/BitArray -/
def k2 : Class := { plain "com/example/paranhos/paranhos/BitArray" (some 0) with
  accessFlags := 48
  interfaces := #[]
  cf := some (fileOf pool2 6 #[] #[{ accessFlags := 0, nameIndex := 13, descriptorIndex := 74, attributes := #[] }, { accessFlags := 2, nameIndex := 13, descriptorIndex := 14, attributes := #[] }, { accessFlags := 8, nameIndex := 9, descriptorIndex := 10, attributes := #[] }, { accessFlags := 0, nameIndex := 58, descriptorIndex := 59, attributes := #[] }, { accessFlags := 0, nameIndex := 68, descriptorIndex := 69, attributes := #[] }] 48 16 #[] #[{ accessFlags := 24, nameIndex := 70, descriptorIndex := 27, attributes := #[] }, { accessFlags := 18, nameIndex := 22, descriptorIndex := 23, attributes := #[] }, { accessFlags := 18, nameIndex := 26, descriptorIndex := 27, attributes := #[] }])
  fields := #[{ name := "MAX_BITS", type := .long, accessFlags := 24, slot := 0, constantValue := 0 }, { name := "words", type := (.array .long), accessFlags := 18, slot := 0, constantValue := 0 }, { name := "length", type := .long, accessFlags := 18, slot := 1, constantValue := 0 }]
  methods := #[k2m0, k2m1, k2m2, k2m3, k2m4]
  instanceTypes := #[(.array .long), .long]
  staticTypes := #[.long]
  resolved := Array.replicate 95 none
  statics := none }

def pool3 : Array CpInfo := pool [(1, .class_ 2), (0, u "java/lang/Math"), (1, .class_ 6), (1, u "java/lang/Object"), (0, u "<init>"), (0, u "()V"), (89, .class_ 100), (1, u "java/lang/Math$RandomNumberGeneratorHolder"), (20, u "(JJ)J"), (50, u "negativeZeroFloatBits"), (0, u "J"), (2, u "negativeZeroDoubleBits"), (21, u "max"), (2, u "min"), (43, u "$assertionsDisabled"), (0, u "Z"), (91, u "twoToTheDoubleScaleDown"), (0, u "D"), (4, u "twoToTheDoubleScaleUp"), (9, u "E"), (3, u "PI"), (2, u "TAU"), (2, u "DEGREES_TO_RADIANS"), (0, u "RADIANS_TO_DEGREES")] 94

def k3m0 : Method := { name := "<init>", desc := "()V", sig := { parameters := [], returnType := none }, accessFlags := 2, code := none }
def k3c1 : Code := { maxStack := 4, maxLocals := 4, code := jdk_29_method_66_code, exceptionTable := #[], attributes := #[] }
def k3m1 : Method := { name := "max", desc := "(JJ)J", sig := { parameters := [.long, .long], returnType := some .long }, accessFlags := 9, code := some k3c1 }
def k3c2 : Code := { maxStack := 4, maxLocals := 4, code := jdk_29_method_70_code, exceptionTable := #[], attributes := #[] }
def k3m2 : Method := { name := "min", desc := "(JJ)J", sig := { parameters := [.long, .long], returnType := some .long }, accessFlags := 9, code := some k3c2 }
/-- java/lang/Math -/
def k3 : Class := { plain "java/lang/Math" (some 0) with
  accessFlags := 49
  interfaces := #[]
  cf := some (fileOf pool3 1 #[.nestMembers #[98]] #[{ accessFlags := 2, nameIndex := 7, descriptorIndex := 8, attributes := #[] }, { accessFlags := 9, nameIndex := 198, descriptorIndex := 121, attributes := #[] }, { accessFlags := 9, nameIndex := 201, descriptorIndex := 121, attributes := #[] }] 49 4 #[] #[{ accessFlags := 25, nameIndex := 354, descriptorIndex := 339, attributes := #[] }, { accessFlags := 25, nameIndex := 358, descriptorIndex := 339, attributes := #[] }, { accessFlags := 25, nameIndex := 361, descriptorIndex := 339, attributes := #[] }, { accessFlags := 26, nameIndex := 364, descriptorIndex := 339, attributes := #[] }, { accessFlags := 26, nameIndex := 365, descriptorIndex := 339, attributes := #[] }, { accessFlags := 26, nameIndex := 172, descriptorIndex := 173, attributes := #[] }, { accessFlags := 26, nameIndex := 176, descriptorIndex := 173, attributes := #[] }, { accessFlags := 8, nameIndex := 344, descriptorIndex := 339, attributes := #[] }, { accessFlags := 8, nameIndex := 338, descriptorIndex := 339, attributes := #[] }, { accessFlags := 4120, nameIndex := 245, descriptorIndex := 246, attributes := #[] }])
  fields := #[{ name := "E", type := .double, accessFlags := 25, slot := 0, constantValue := 0 }, { name := "PI", type := .double, accessFlags := 25, slot := 1, constantValue := 0 }, { name := "TAU", type := .double, accessFlags := 25, slot := 2, constantValue := 0 }, { name := "DEGREES_TO_RADIANS", type := .double, accessFlags := 26, slot := 3, constantValue := 0 }, { name := "RADIANS_TO_DEGREES", type := .double, accessFlags := 26, slot := 4, constantValue := 0 }, { name := "negativeZeroFloatBits", type := .long, accessFlags := 26, slot := 5, constantValue := 0 }, { name := "negativeZeroDoubleBits", type := .long, accessFlags := 26, slot := 6, constantValue := 0 }, { name := "twoToTheDoubleScaleUp", type := .double, accessFlags := 8, slot := 7, constantValue := 0 }, { name := "twoToTheDoubleScaleDown", type := .double, accessFlags := 8, slot := 8, constantValue := 0 }, { name := "$assertionsDisabled", type := .boolean, accessFlags := 4120, slot := 9, constantValue := 0 }]
  methods := #[k3m0, k3m1, k3m2]
  instanceTypes := #[]
  staticTypes := #[.double, .double, .double, .double, .double, .long, .long, .double, .double, .boolean]
  resolved := Array.replicate 460 none
  statics := none }

def pool4 : Array CpInfo := pool [(1, u "java/lang/Cloneable"), (0, .class_ 1), (0, u "java/lang/Object"), (0, .class_ 3)] 3

/-- java/lang/Cloneable -/
def k4 : Class := { plain "java/lang/Cloneable" (some 0) with
  accessFlags := 1537
  interfaces := #[]
  cf := some (fileOf pool4 2 #[] #[] 1537 4 #[] #[])
  fields := #[]
  methods := #[]
  instanceTypes := #[]
  staticTypes := #[]
  resolved := Array.replicate 8 none
  statics := none }

def pool5 : Array CpInfo := pool [(1, u "java/io/Serializable"), (0, .class_ 1), (0, u "java/lang/Object"), (0, .class_ 3)] 3

/-- java/io/Serializable -/
def k5 : Class := { plain "java/io/Serializable" (some 0) with
  accessFlags := 1537
  interfaces := #[]
  cf := some (fileOf pool5 2 #[] #[] 1537 4 #[] #[])
  fields := #[]
  methods := #[]
  instanceTypes := #[]
  staticTypes := #[]
  resolved := Array.replicate 8 none
  statics := none }

/-- the primitive byte -/
def k6 : Class := { plain "byte" none with kind := .primitive 'B', accessFlags := 0x411 }
/-- [B -/
def k7 : Class := { plain "[B" (some 0) with kind := .array 6 .byte, interfaces := #[4, 5], accessFlags := 1041 }

/-- the primitive int -/
def k8 : Class := { plain "int" none with kind := .primitive 'I', accessFlags := 0x411 }
/-- [I -/
def k9 : Class := { plain "[I" (some 0) with kind := .array 8 .int, interfaces := #[4, 5], accessFlags := 1041 }

/-- the primitive long -/
def k10 : Class := { plain "long" none with kind := .primitive 'J', accessFlags := 0x411 }
/-- [J -/
def k11 : Class := { plain "[J" (some 0) with kind := .array 10 .long, interfaces := #[4, 5], accessFlags := 1041 }

def heap : Heap := #[]
def classes : Array Class := #[k0, k1, k2, k3, k4, k5, k6, k7, k8, k9, k10, k11]
def interned : List (Array UInt16 × Addr) := []
def slotsUsed : Nat := 0
def theMethod : MethodId := ⟨1, 1⟩
def args0 : Array Value := #[.long 5, .long 6, .long 7, .long 8, .int 9, .long 10]
def aboutOver (below : List Frame) : State where
  vm := { classes := classes, interned := interned.toArray }
  heap := heap
  slotsUsed := slotsUsed
  threads := #[{ frames := .invoking theMethod args0 :: below }]
def below0 : List Frame := [.native { method := ⟨0, 0⟩, args := #[] }]
def about1 : State := aboutOver below0
def p0 : Program := .bare "" "" ""
def e0 : Env := launch0.env 0 0 0
theorem w_frames : about1.frames = Frame.invoking theMethod args0 :: below0 := rfl
set_option maxRecDepth 65536 in
theorem w_args : argsFit about1.vm theMethod args0 = true := by decide +kernel
set_option maxRecDepth 65536 in
theorem w_heap : heapFits about1 = true := by decide +kernel
set_option maxRecDepth 65536 in
theorem w_runnable : about1.curStatus? = some .runnable := by decide +kernel
set_option maxRecDepth 65536 in
theorem w_alone : about1.alone = true := by decide +kernel
set_option maxRecDepth 65536 in
theorem w_named : about1.methodNamed? x = some theMethod := by decide +kernel
set_option maxRecDepth 65536 in
theorem w_hears : about1.hears theMethod below0 = true := by decide +kernel
set_option maxRecDepth 65536 in
theorem w_ripe : about1.ripe theMethod args0 below0 = true := by decide +kernel
theorem w_running : about1.status = .running := rfl
set_option maxRecDepth 65536 in
theorem w_room : about1.hasRoom e0.platform room_1 = true :=
  launch0.hasRoom_least _ room_1 (by decide +kernel) (by decide +kernel) (by decide +kernel) (by decide +kernel) (by decide +kernel) (by decide +kernel)
theorem allAtoms_all (ts : List Jvm.Cond) (a : Array Jvm.Value) (st : Jvm.State) : (allAtoms ts).before a st = ts.all (fun c => c.before a st) := by
  induction ts with
  | nil => rfl
  | cons c t ih =>
    show (Jvm.Cond.and c (allAtoms t)).before a st = _
    rw [Jvm.Cond.before_and, ih, List.all_cons]
def words1 : List Jvm.Cond := Jvm.Cond.code x code maxLocals ret :: tables_1
/-- a 'code' word, met by the world's own term for the bytes: nothing is compared byte by byte -/
theorem code_word {y : MethodName} {bytes : ByteArray} {mx : Nat} {rt : Option FieldType} {a : Array Value} {s : State} {m : MethodId} {meth : Method} {c : Code} (h1 : s.methodNamed? y = some m) (h2 : s.vm.method? m = some meth) (h3 : meth.code = some c) (h4 : c.code = bytes)
    (h5 : (c.maxLocals == mx && c.exceptionTable.isEmpty && decide (c.maxStack ≤ mostOperands) && decide (meth.sig.returnType = rt) && !meth.locks && decide (parseMethodDescriptor y.desc = some meth.sig)) = true) : (Jvm.Cond.code y bytes mx rt).before a s = true := by
  simp only [Bool.and_eq_true, beq_iff_eq, Bool.not_eq_true', decide_eq_true_eq] at h5
  obtain ⟨⟨⟨⟨⟨g1, g2⟩, g3⟩, g4⟩, g5⟩, g6⟩ := h5
  simp [Cond.before, Cond.holds, Cond.value, h1, h2, h3, h4, g1, g2, g3, g4, g5, g6]
def isCode : Jvm.Cond → Bool
  | .code _ _ _ _ => true
  | _ => false
theorem all_split {L : List Jvm.Cond} {P : Jvm.Cond → Bool} (h1 : L.all (fun c => isCode c || P c) = true) (h2 : ∀ c ∈ L.filter isCode, P c = true) : L.all P = true := by
  refine List.all_eq_true.mpr fun c hc => ?_
  have h := List.all_eq_true.mp h1 c hc
  rcases Bool.eq_false_or_eq_true (isCode c) with hi | hi
  · exact h2 c (List.mem_filter.mpr ⟨hc, hi⟩)
  · simpa [hi] using h
set_option maxRecDepth 65536 in
theorem w_c0 : (Jvm.Cond.code x code maxLocals ret).before args0 about1 = true := code_word (m := ⟨1, 1⟩) (meth := k1m1) (c := k1c1) (by decide +kernel) rfl rfl rfl (by decide +kernel)
set_option maxRecDepth 65536 in
theorem w_c1 : (Jvm.Cond.code ({ cls := "com/example/paranhos/paranhos/BitArrayPutPinLaw", name := "lowMask", desc := "(I)J" } : Jvm.MethodName) method_5_code (1 : Nat) (Option.some Jvm.ClassFile.FieldType.long)).before args0 about1 = true := code_word (m := ⟨1, 4⟩) (meth := k1m4) (c := k1c4) (by decide +kernel) rfl rfl rfl (by decide +kernel)
set_option maxRecDepth 65536 in
theorem w_c2 : (Jvm.Cond.code ({ cls := "com/example/paranhos/paranhos/BitArray", name := "<init>", desc := "(J)V" } : Jvm.MethodName) prog_1_method_1_code (3 : Nat) (Option.none : Option Jvm.ClassFile.FieldType)).before args0 about1 = true := code_word (m := ⟨2, 0⟩) (meth := k2m0) (c := k2c0) (by decide +kernel) rfl rfl rfl (by decide +kernel)
set_option maxRecDepth 65536 in
theorem w_c3 : (Jvm.Cond.code ({ cls := "com/example/paranhos/paranhos/BitArray", name := "wordsFor", desc := "(J)I" } : Jvm.MethodName) prog_1_method_5_code (2 : Nat) (Option.some Jvm.ClassFile.FieldType.int)).before args0 about1 = true := code_word (m := ⟨2, 2⟩) (meth := k2m2) (c := k2c2) (by decide +kernel) rfl rfl rfl (by decide +kernel)
set_option maxRecDepth 65536 in
theorem w_c4 : (Jvm.Cond.code ({ cls := "com/example/paranhos/paranhos/BitArray", name := "<init>", desc := "([JJ)V" } : Jvm.MethodName) prog_1_method_2_code (4 : Nat) (Option.none : Option Jvm.ClassFile.FieldType)).before args0 about1 = true := code_word (m := ⟨2, 1⟩) (meth := k2m1) (c := k2c1) (by decide +kernel) rfl rfl rfl (by decide +kernel)
set_option maxRecDepth 65536 in
theorem w_c5 : (Jvm.Cond.code ({ cls := "java/lang/Object", name := "<init>", desc := "()V" } : Jvm.MethodName) object_method_1_code (1 : Nat) (Option.none : Option Jvm.ClassFile.FieldType)).before args0 about1 = true := code_word (m := ⟨0, 0⟩) (meth := k0m0) (c := k0c0) (by decide +kernel) rfl rfl rfl (by decide +kernel)
set_option maxRecDepth 65536 in
theorem w_c6 : (Jvm.Cond.code ({ cls := "com/example/paranhos/paranhos/BitArray", name := "put", desc := "(JIJ)V" } : Jvm.MethodName) prog_1_method_9_code (11 : Nat) (Option.none : Option Jvm.ClassFile.FieldType)).before args0 about1 = true := code_word (m := ⟨2, 4⟩) (meth := k2m4) (c := k2c4) (by decide +kernel) rfl rfl rfl (by decide +kernel)
set_option maxRecDepth 65536 in
theorem w_c7 : (Jvm.Cond.code ({ cls := "com/example/paranhos/paranhos/BitArray", name := "get", desc := "(JI)J" } : Jvm.MethodName) prog_1_method_8_code (8 : Nat) (Option.some Jvm.ClassFile.FieldType.long)).before args0 about1 = true := code_word (m := ⟨2, 3⟩) (meth := k2m3) (c := k2c3) (by decide +kernel) rfl rfl rfl (by decide +kernel)
set_option maxRecDepth 65536 in
theorem w_c8 : (Jvm.Cond.code ({ cls := "com/example/paranhos/paranhos/BitArrayPutPinLaw", name := "expected", desc := "(JJJJJ)J" } : Jvm.MethodName) method_3_code (14 : Nat) (Option.some Jvm.ClassFile.FieldType.long)).before args0 about1 = true := code_word (m := ⟨1, 2⟩) (meth := k1m2) (c := k1c2) (by decide +kernel) rfl rfl rfl (by decide +kernel)
set_option maxRecDepth 65536 in
theorem w_c9 : (Jvm.Cond.code ({ cls := "com/example/paranhos/paranhos/BitArrayPutPinLaw", name := "clamp", desc := "(J)I" } : Jvm.MethodName) method_4_code (2 : Nat) (Option.some Jvm.ClassFile.FieldType.int)).before args0 about1 = true := code_word (m := ⟨1, 3⟩) (meth := k1m3) (c := k1c3) (by decide +kernel) rfl rfl rfl (by decide +kernel)
set_option maxRecDepth 65536 in
theorem w_c10 : (Jvm.Cond.code ({ cls := "java/lang/Math", name := "min", desc := "(JJ)J" } : Jvm.MethodName) jdk_29_method_70_code (4 : Nat) (Option.some Jvm.ClassFile.FieldType.long)).before args0 about1 = true := code_word (m := ⟨3, 2⟩) (meth := k3m2) (c := k3c2) (by decide +kernel) rfl rfl rfl (by decide +kernel)
set_option maxRecDepth 65536 in
theorem w_c11 : (Jvm.Cond.code ({ cls := "java/lang/Math", name := "max", desc := "(JJ)J" } : Jvm.MethodName) jdk_29_method_66_code (4 : Nat) (Option.some Jvm.ClassFile.FieldType.long)).before args0 about1 = true := code_word (m := ⟨3, 1⟩) (meth := k3m1) (c := k3c1) (by decide +kernel) rfl rfl rfl (by decide +kernel)
set_option maxRecDepth 65536 in
theorem w_c12 : (Jvm.Cond.code ({ cls := "com/example/paranhos/paranhos/BitArrayPutPinLaw", name := "shifted", desc := "(JJ)J" } : Jvm.MethodName) method_6_code (4 : Nat) (Option.some Jvm.ClassFile.FieldType.long)).before args0 about1 = true := code_word (m := ⟨1, 5⟩) (meth := k1m5) (c := k1c5) (by decide +kernel) rfl rfl rfl (by decide +kernel)
def codes1 : List Jvm.Cond := [Jvm.Cond.code x code maxLocals ret, Jvm.Cond.code ({ cls := "com/example/paranhos/paranhos/BitArrayPutPinLaw", name := "lowMask", desc := "(I)J" } : Jvm.MethodName) method_5_code (1 : Nat) (Option.some Jvm.ClassFile.FieldType.long), Jvm.Cond.code ({ cls := "com/example/paranhos/paranhos/BitArray", name := "<init>", desc := "(J)V" } : Jvm.MethodName) prog_1_method_1_code (3 : Nat) (Option.none : Option Jvm.ClassFile.FieldType), Jvm.Cond.code ({ cls := "com/example/paranhos/paranhos/BitArray", name := "wordsFor", desc := "(J)I" } : Jvm.MethodName) prog_1_method_5_code (2 : Nat) (Option.some Jvm.ClassFile.FieldType.int), Jvm.Cond.code ({ cls := "com/example/paranhos/paranhos/BitArray", name := "<init>", desc := "([JJ)V" } : Jvm.MethodName) prog_1_method_2_code (4 : Nat) (Option.none : Option Jvm.ClassFile.FieldType), Jvm.Cond.code ({ cls := "java/lang/Object", name := "<init>", desc := "()V" } : Jvm.MethodName) object_method_1_code (1 : Nat) (Option.none : Option Jvm.ClassFile.FieldType), Jvm.Cond.code ({ cls := "com/example/paranhos/paranhos/BitArray", name := "put", desc := "(JIJ)V" } : Jvm.MethodName) prog_1_method_9_code (11 : Nat) (Option.none : Option Jvm.ClassFile.FieldType), Jvm.Cond.code ({ cls := "com/example/paranhos/paranhos/BitArray", name := "get", desc := "(JI)J" } : Jvm.MethodName) prog_1_method_8_code (8 : Nat) (Option.some Jvm.ClassFile.FieldType.long), Jvm.Cond.code ({ cls := "com/example/paranhos/paranhos/BitArrayPutPinLaw", name := "expected", desc := "(JJJJJ)J" } : Jvm.MethodName) method_3_code (14 : Nat) (Option.some Jvm.ClassFile.FieldType.long), Jvm.Cond.code ({ cls := "com/example/paranhos/paranhos/BitArrayPutPinLaw", name := "clamp", desc := "(J)I" } : Jvm.MethodName) method_4_code (2 : Nat) (Option.some Jvm.ClassFile.FieldType.int), Jvm.Cond.code ({ cls := "java/lang/Math", name := "min", desc := "(JJ)J" } : Jvm.MethodName) jdk_29_method_70_code (4 : Nat) (Option.some Jvm.ClassFile.FieldType.long), Jvm.Cond.code ({ cls := "java/lang/Math", name := "max", desc := "(JJ)J" } : Jvm.MethodName) jdk_29_method_66_code (4 : Nat) (Option.some Jvm.ClassFile.FieldType.long), Jvm.Cond.code ({ cls := "com/example/paranhos/paranhos/BitArrayPutPinLaw", name := "shifted", desc := "(JJ)J" } : Jvm.MethodName) method_6_code (4 : Nat) (Option.some Jvm.ClassFile.FieldType.long)]
set_option maxRecDepth 65536 in
theorem codes_eq : words1.filter isCode = codes1 := rfl
theorem w_codes : ∀ c ∈ words1.filter isCode, c.before args0 about1 = true := by
  rw [codes_eq]
  intro c hc
  simp only [codes1, List.mem_cons, List.not_mem_nil, or_false] at hc
  rcases hc with rfl | rfl | rfl | rfl | rfl | rfl | rfl | rfl | rfl | rfl | rfl | rfl | rfl
  · exact w_c0
  · exact w_c1
  · exact w_c2
  · exact w_c3
  · exact w_c4
  · exact w_c5
  · exact w_c6
  · exact w_c7
  · exact w_c8
  · exact w_c9
  · exact w_c10
  · exact w_c11
  · exact w_c12
set_option maxRecDepth 65536 in
theorem w_t1 : (words1.take 24).all (fun c => isCode c || c.before args0 about1) = true := by decide +kernel
set_option maxRecDepth 65536 in
theorem w_t2 : ((words1.drop 24).take 24).all (fun c => isCode c || c.before args0 about1) = true := by decide +kernel
set_option maxRecDepth 65536 in
theorem w_t3 : ((words1.drop 24).drop 24).all (fun c => isCode c || c.before args0 about1) = true := by decide +kernel
theorem w_tables : (allAtoms (Jvm.Cond.code x code maxLocals ret :: tables_1)).before args0 about1 = true := by
  rw [allAtoms_all]
  show words1.all (fun c => c.before args0 about1) = true
  refine all_split ?_ w_codes
  rw [← List.take_append_drop 24 words1, List.all_append, w_t1, ← List.take_append_drop 24 (words1.drop 24), List.all_append, w_t2, w_t3]
  rfl
set_option maxRecDepth 65536 in
theorem w_case : (Jvm.Cond.and given_1 narrow_1).before args0 about1 = true := by decide +kernel
theorem w_applies : (headSpec (Jvm.Cond.code x code maxLocals ret :: tables_1) room_1).applies x e0.platform about1 = true :=
  (Spec.applies_iff w_frames).mpr ⟨w_running, w_runnable, w_alone, w_named, w_hears, w_ripe, w_room, w_tables⟩
theorem atStart : AtStart classFile x code maxLocals ret World_1 tables_1 room_1 Calls_1 rest_1 Pre_1 launch0 p0 e0 about1 theMethod args0 below0 :=
  ⟨lists_1, trivial, launch0.admits_env _ _ _, launch0.least_env, fairChoices_fair.cas, fairChoices_fair.clock, w_frames, w_args, w_heap, w_applies, trivial, trivial, w_case⟩
end start1
theorem witness_1 : WitnessClaimed_1 := ⟨start1.p0, start1.e0, start1.about1, start1.theMethod, start1.args0, start1.below0, start1.atStart⟩
end Jvm.Pilot.@@N@@
