import JvmDerived
import JvmDerived.Pilot.@@N@@Statement
import JvmDerived.Pilot.@@N@@Code
set_option linter.unusedVariables false
set_option linter.unusedSimpArgs false
namespace Jvm.Pilot.@@N@@
open Jvm Jvm.ClassFile Sem Op Lib Jvm.Free Jvm.Stand Jvm.LawKit Jvm.RoadKit Bundle Jvm.Pilot.@@N@@.Jvm.D
section OwnBase
def Gets (tb : Tables) (e : Env) (below : List Frame) (P : Outcome → State → Prop) (T : State) (g : JFrame) : Prop := ∃ t o, Steps tb e below (T.setTop g) t ∧ t.status = .running ∧ Ended t below o ∧ P o t
theorem Gets.by {tb : Tables} {e : Env} {below : List Frame} {P : Outcome → State → Prop} {T T' : State} {g g' : JFrame} (h : Gets tb e below P T' g') (k : ∀ t, Steps tb e below (T'.setTop g') t → Steps tb e below (T.setTop g) t) : Gets tb e below P T g := by
  obtain ⟨t, o, h1, h2⟩ := h
  exact ⟨t, o, k t h1, h2⟩
theorem g_iloadN {tb : Tables} [Ours tb] {e : Env} {below : List Frame} {T : State} {m : MethodId} {c : Code} {P : Outcome → State → Prop} {pc pc' : Nat} {Ls : Array Slot} {st : List Value} {j : Fin 4} {v : Int32} (H : At T m c below) (hx : tb.exec = Jvm.exec) (hd : decode c.code pc = .ok (.iload_n j, 1)) (hl : Ls[j.val]? = some (.val (.int v))) (hp : pc + 1 = pc')
    (k : Gets tb e below P T (mkF m pc' Ls (.int v :: st))) : Gets tb e below P T (mkF m pc Ls (st)) := by
  subst hp; refine k.by fun t qq => ?_; exact XS.iloadN H hx rfl hd hl qq
theorem g_iload {tb : Tables} [Ours tb] {e : Env} {below : List Frame} {T : State} {m : MethodId} {c : Code} {P : Outcome → State → Prop} {pc pc' : Nat} {Ls : Array Slot} {st : List Value} {j : Nat} {v : Int32} (H : At T m c below) (hx : tb.exec = Jvm.exec) (hd : decode c.code pc = .ok (.iload j, 2)) (hl : Ls[j]? = some (.val (.int v))) (hp : pc + 2 = pc')
    (k : Gets tb e below P T (mkF m pc' Ls (.int v :: st))) : Gets tb e below P T (mkF m pc Ls (st)) := by
  subst hp; refine k.by fun t qq => ?_; exact XS.iload H hx rfl hd hl qq
theorem g_istoreN {tb : Tables} [Ours tb] {e : Env} {below : List Frame} {T : State} {m : MethodId} {c : Code} {P : Outcome → State → Prop} {pc pc' : Nat} {Ls : Array Slot} {st : List Value} {j : Fin 4} {v : Int32} {Ls' : Array Slot} (H : At T m c below) (hx : tb.exec = Jvm.exec) (hd : decode c.code pc = .ok (.istore_n j, 1)) (hl : storeLocals Ls j.val (.int v) = some Ls') (hp : pc + 1 = pc')
    (k : Gets tb e below P T (mkF m pc' Ls' (st))) : Gets tb e below P T (mkF m pc Ls (.int v :: st)) := by
  subst hp; refine k.by fun t qq => ?_; exact XS.istoreN H hx rfl hd rfl hl qq
theorem g_istore {tb : Tables} [Ours tb] {e : Env} {below : List Frame} {T : State} {m : MethodId} {c : Code} {P : Outcome → State → Prop} {pc pc' : Nat} {Ls : Array Slot} {st : List Value} {j : Nat} {v : Int32} {Ls' : Array Slot} (H : At T m c below) (hx : tb.exec = Jvm.exec) (hd : decode c.code pc = .ok (.istore j, 2)) (hl : storeLocals Ls j (.int v) = some Ls') (hp : pc + 2 = pc')
    (k : Gets tb e below P T (mkF m pc' Ls' (st))) : Gets tb e below P T (mkF m pc Ls (.int v :: st)) := by
  subst hp; refine k.by fun t qq => ?_; exact XS.istore H hx rfl hd rfl hl qq
theorem g_lloadN {tb : Tables} [Ours tb] {e : Env} {below : List Frame} {T : State} {m : MethodId} {c : Code} {P : Outcome → State → Prop} {pc pc' : Nat} {Ls : Array Slot} {st : List Value} {j : Fin 4} {v : Int64} (H : At T m c below) (hx : tb.exec = Jvm.exec) (hd : decode c.code pc = .ok (.lload_n j, 1)) (hl : Ls[j.val]? = some (.val (.long v))) (hp : pc + 1 = pc')
    (k : Gets tb e below P T (mkF m pc' Ls (.long v :: st))) : Gets tb e below P T (mkF m pc Ls (st)) := by
  subst hp; refine k.by fun t qq => ?_; exact XS.lloadN H hx rfl hd hl qq
theorem g_lload {tb : Tables} [Ours tb] {e : Env} {below : List Frame} {T : State} {m : MethodId} {c : Code} {P : Outcome → State → Prop} {pc pc' : Nat} {Ls : Array Slot} {st : List Value} {j : Nat} {v : Int64} (H : At T m c below) (hx : tb.exec = Jvm.exec) (hd : decode c.code pc = .ok (.lload j, 2)) (hl : Ls[j]? = some (.val (.long v))) (hp : pc + 2 = pc')
    (k : Gets tb e below P T (mkF m pc' Ls (.long v :: st))) : Gets tb e below P T (mkF m pc Ls (st)) := by
  subst hp; refine k.by fun t qq => ?_; exact XS.lload H hx rfl hd hl qq
theorem g_lstoreN {tb : Tables} [Ours tb] {e : Env} {below : List Frame} {T : State} {m : MethodId} {c : Code} {P : Outcome → State → Prop} {pc pc' : Nat} {Ls : Array Slot} {st : List Value} {j : Fin 4} {v : Int64} {Ls' : Array Slot} (H : At T m c below) (hx : tb.exec = Jvm.exec) (hd : decode c.code pc = .ok (.lstore_n j, 1)) (hl : storeLocals Ls j.val (.long v) = some Ls') (hp : pc + 1 = pc')
    (k : Gets tb e below P T (mkF m pc' Ls' (st))) : Gets tb e below P T (mkF m pc Ls (.long v :: st)) := by
  subst hp; refine k.by fun t qq => ?_; exact XS.lstoreN H hx rfl hd rfl hl qq
theorem g_lstore {tb : Tables} [Ours tb] {e : Env} {below : List Frame} {T : State} {m : MethodId} {c : Code} {P : Outcome → State → Prop} {pc pc' : Nat} {Ls : Array Slot} {st : List Value} {j : Nat} {v : Int64} {Ls' : Array Slot} (H : At T m c below) (hx : tb.exec = Jvm.exec) (hd : decode c.code pc = .ok (.lstore j, 2)) (hl : storeLocals Ls j (.long v) = some Ls') (hp : pc + 2 = pc')
    (k : Gets tb e below P T (mkF m pc' Ls' (st))) : Gets tb e below P T (mkF m pc Ls (.long v :: st)) := by
  subst hp; refine k.by fun t qq => ?_; exact XS.lstore H hx rfl hd rfl hl qq
theorem g_aloadN {tb : Tables} [Ours tb] {e : Env} {below : List Frame} {T : State} {m : MethodId} {c : Code} {P : Outcome → State → Prop} {pc pc' : Nat} {Ls : Array Slot} {st : List Value} {j : Fin 4} {v : Value} (H : At T m c below) (hx : tb.exec = Jvm.exec) (hd : decode c.code pc = .ok (.aload_n j, 1)) (hl : Ls[j.val]? = some (.val v)) (hv : v.isRef = true) (hp : pc + 1 = pc')
    (k : Gets tb e below P T (mkF m pc' Ls (v :: st))) : Gets tb e below P T (mkF m pc Ls (st)) := by
  subst hp; refine k.by fun t qq => ?_; exact XS.aloadN H hx rfl hd hl hv qq
theorem g_aload {tb : Tables} [Ours tb] {e : Env} {below : List Frame} {T : State} {m : MethodId} {c : Code} {P : Outcome → State → Prop} {pc pc' : Nat} {Ls : Array Slot} {st : List Value} {j : Nat} {v : Value} (H : At T m c below) (hx : tb.exec = Jvm.exec) (hd : decode c.code pc = .ok (.aload j, 2)) (hl : Ls[j]? = some (.val v)) (hv : v.isRef = true) (hp : pc + 2 = pc')
    (k : Gets tb e below P T (mkF m pc' Ls (v :: st))) : Gets tb e below P T (mkF m pc Ls (st)) := by
  subst hp; refine k.by fun t qq => ?_; exact XS.aload H hx rfl hd hl hv qq
theorem g_astoreN {tb : Tables} [Ours tb] {e : Env} {below : List Frame} {T : State} {m : MethodId} {c : Code} {P : Outcome → State → Prop} {pc pc' : Nat} {Ls : Array Slot} {st : List Value} {j : Fin 4} {v : Value} {Ls' : Array Slot} (H : At T m c below) (hx : tb.exec = Jvm.exec) (hd : decode c.code pc = .ok (.astore_n j, 1)) (hv : v.isRef = true) (hl : storeLocals Ls j.val v = some Ls') (hp : pc + 1 = pc')
    (k : Gets tb e below P T (mkF m pc' Ls' (st))) : Gets tb e below P T (mkF m pc Ls (v :: st)) := by
  subst hp; refine k.by fun t qq => ?_; exact XS.astoreN H hx rfl hd rfl hv hl qq
theorem g_astore {tb : Tables} [Ours tb] {e : Env} {below : List Frame} {T : State} {m : MethodId} {c : Code} {P : Outcome → State → Prop} {pc pc' : Nat} {Ls : Array Slot} {st : List Value} {j : Nat} {v : Value} {Ls' : Array Slot} (H : At T m c below) (hx : tb.exec = Jvm.exec) (hd : decode c.code pc = .ok (.astore j, 2)) (hv : v.isRef = true) (hl : storeLocals Ls j v = some Ls') (hp : pc + 2 = pc')
    (k : Gets tb e below P T (mkF m pc' Ls' (st))) : Gets tb e below P T (mkF m pc Ls (v :: st)) := by
  subst hp; refine k.by fun t qq => ?_; exact XS.astore H hx rfl hd rfl hv hl qq
theorem g_iconst {tb : Tables} [Ours tb] {e : Env} {below : List Frame} {T : State} {m : MethodId} {c : Code} {P : Outcome → State → Prop} {pc pc' : Nat} {Ls : Array Slot} {st : List Value} {i : Int} (v : Int32) (H : At T m c below) (hx : tb.exec = Jvm.exec) (hd : decode c.code pc = .ok (.iconst i, 1)) (hv : Int32.ofInt i = v) (hp : pc + 1 = pc')
    (k : Gets tb e below P T (mkF m pc' Ls (.int v :: st))) : Gets tb e below P T (mkF m pc Ls st) := by
  subst hp; subst hv; refine k.by fun t qq => ?_; exact XS.iconst H hx rfl hd qq
theorem g_bipush {tb : Tables} [Ours tb] {e : Env} {below : List Frame} {T : State} {m : MethodId} {c : Code} {P : Outcome → State → Prop} {pc pc' : Nat} {Ls : Array Slot} {st : List Value} {i : Int} (v : Int32) (H : At T m c below) (hx : tb.exec = Jvm.exec) (hd : decode c.code pc = .ok (.bipush i, 2)) (hv : (Int8.ofInt i).toInt32 = v) (hp : pc + 2 = pc')
    (k : Gets tb e below P T (mkF m pc' Ls (.int v :: st))) : Gets tb e below P T (mkF m pc Ls st) := by
  subst hp; subst hv; refine k.by fun t qq => ?_; exact XS.bipush H hx rfl hd qq
theorem g_sipush {tb : Tables} [Ours tb] {e : Env} {below : List Frame} {T : State} {m : MethodId} {c : Code} {P : Outcome → State → Prop} {pc pc' : Nat} {Ls : Array Slot} {st : List Value} {i : Int} (v : Int32) (H : At T m c below) (hx : tb.exec = Jvm.exec) (hd : decode c.code pc = .ok (.sipush i, 3)) (hv : (Int16.ofInt i).toInt32 = v) (hp : pc + 3 = pc')
    (k : Gets tb e below P T (mkF m pc' Ls (.int v :: st))) : Gets tb e below P T (mkF m pc Ls st) := by
  subst hp; subst hv; refine k.by fun t qq => ?_; exact XS.sipush H hx rfl hd qq
theorem g_aconstNull {tb : Tables} [Ours tb] {e : Env} {below : List Frame} {T : State} {m : MethodId} {c : Code} {P : Outcome → State → Prop} {pc pc' : Nat} {Ls : Array Slot} {st : List Value}  (H : At T m c below) (hx : tb.exec = Jvm.exec) (hd : decode c.code pc = .ok (.aconst_null, 1))  (hp : pc + 1 = pc')
    (k : Gets tb e below P T (mkF m pc' Ls (.null :: st))) : Gets tb e below P T (mkF m pc Ls (st)) := by
  subst hp; refine k.by fun t qq => ?_; exact XS.aconstNull H hx rfl hd  qq
theorem g_iadd {tb : Tables} [Ours tb] {e : Env} {below : List Frame} {T : State} {m : MethodId} {c : Code} {P : Outcome → State → Prop} {pc pc' : Nat} {Ls : Array Slot} {st : List Value} {x y : Int32} (H : At T m c below) (hx : tb.exec = Jvm.exec) (hd : decode c.code pc = .ok (.iadd, 1))  (hp : pc + 1 = pc')
    (k : Gets tb e below P T (mkF m pc' Ls (.int (x + y) :: st))) : Gets tb e below P T (mkF m pc Ls (.int y :: .int x :: st)) := by
  subst hp; refine k.by fun t qq => ?_; exact XS.iadd H hx rfl hd rfl qq
theorem g_isub {tb : Tables} [Ours tb] {e : Env} {below : List Frame} {T : State} {m : MethodId} {c : Code} {P : Outcome → State → Prop} {pc pc' : Nat} {Ls : Array Slot} {st : List Value} {x y : Int32} (H : At T m c below) (hx : tb.exec = Jvm.exec) (hd : decode c.code pc = .ok (.isub, 1))  (hp : pc + 1 = pc')
    (k : Gets tb e below P T (mkF m pc' Ls (.int (x - y) :: st))) : Gets tb e below P T (mkF m pc Ls (.int y :: .int x :: st)) := by
  subst hp; refine k.by fun t qq => ?_; exact XS.isub H hx rfl hd rfl qq
theorem g_imul {tb : Tables} [Ours tb] {e : Env} {below : List Frame} {T : State} {m : MethodId} {c : Code} {P : Outcome → State → Prop} {pc pc' : Nat} {Ls : Array Slot} {st : List Value} {x y : Int32} (H : At T m c below) (hx : tb.exec = Jvm.exec) (hd : decode c.code pc = .ok (.imul, 1))  (hp : pc + 1 = pc')
    (k : Gets tb e below P T (mkF m pc' Ls (.int (x * y) :: st))) : Gets tb e below P T (mkF m pc Ls (.int y :: .int x :: st)) := by
  subst hp; refine k.by fun t qq => ?_; exact XS.imul H hx rfl hd rfl qq
theorem g_iand {tb : Tables} [Ours tb] {e : Env} {below : List Frame} {T : State} {m : MethodId} {c : Code} {P : Outcome → State → Prop} {pc pc' : Nat} {Ls : Array Slot} {st : List Value} {x y : Int32} (H : At T m c below) (hx : tb.exec = Jvm.exec) (hd : decode c.code pc = .ok (.iand, 1))  (hp : pc + 1 = pc')
    (k : Gets tb e below P T (mkF m pc' Ls (.int (x &&& y) :: st))) : Gets tb e below P T (mkF m pc Ls (.int y :: .int x :: st)) := by
  subst hp; refine k.by fun t qq => ?_; exact XS.iand H hx rfl hd rfl qq
theorem g_ior {tb : Tables} [Ours tb] {e : Env} {below : List Frame} {T : State} {m : MethodId} {c : Code} {P : Outcome → State → Prop} {pc pc' : Nat} {Ls : Array Slot} {st : List Value} {x y : Int32} (H : At T m c below) (hx : tb.exec = Jvm.exec) (hd : decode c.code pc = .ok (.ior, 1))  (hp : pc + 1 = pc')
    (k : Gets tb e below P T (mkF m pc' Ls (.int (x ||| y) :: st))) : Gets tb e below P T (mkF m pc Ls (.int y :: .int x :: st)) := by
  subst hp; refine k.by fun t qq => ?_; exact XS.ior H hx rfl hd rfl qq
theorem g_ixor {tb : Tables} [Ours tb] {e : Env} {below : List Frame} {T : State} {m : MethodId} {c : Code} {P : Outcome → State → Prop} {pc pc' : Nat} {Ls : Array Slot} {st : List Value} {x y : Int32} (H : At T m c below) (hx : tb.exec = Jvm.exec) (hd : decode c.code pc = .ok (.ixor, 1))  (hp : pc + 1 = pc')
    (k : Gets tb e below P T (mkF m pc' Ls (.int (x ^^^ y) :: st))) : Gets tb e below P T (mkF m pc Ls (.int y :: .int x :: st)) := by
  subst hp; refine k.by fun t qq => ?_; exact XS.ixor H hx rfl hd rfl qq
theorem g_ishl {tb : Tables} [Ours tb] {e : Env} {below : List Frame} {T : State} {m : MethodId} {c : Code} {P : Outcome → State → Prop} {pc pc' : Nat} {Ls : Array Slot} {st : List Value} {x y : Int32} (H : At T m c below) (hx : tb.exec = Jvm.exec) (hd : decode c.code pc = .ok (.ishl, 1))  (hp : pc + 1 = pc')
    (k : Gets tb e below P T (mkF m pc' Ls (.int (x <<< (y &&& 31)) :: st))) : Gets tb e below P T (mkF m pc Ls (.int y :: .int x :: st)) := by
  subst hp; refine k.by fun t qq => ?_; exact XS.ishl H hx rfl hd rfl qq
theorem g_ishr {tb : Tables} [Ours tb] {e : Env} {below : List Frame} {T : State} {m : MethodId} {c : Code} {P : Outcome → State → Prop} {pc pc' : Nat} {Ls : Array Slot} {st : List Value} {x y : Int32} (H : At T m c below) (hx : tb.exec = Jvm.exec) (hd : decode c.code pc = .ok (.ishr, 1))  (hp : pc + 1 = pc')
    (k : Gets tb e below P T (mkF m pc' Ls (.int (x >>> (y &&& 31)) :: st))) : Gets tb e below P T (mkF m pc Ls (.int y :: .int x :: st)) := by
  subst hp; refine k.by fun t qq => ?_; exact XS.ishr H hx rfl hd rfl qq
theorem g_iushr {tb : Tables} [Ours tb] {e : Env} {below : List Frame} {T : State} {m : MethodId} {c : Code} {P : Outcome → State → Prop} {pc pc' : Nat} {Ls : Array Slot} {st : List Value} {x y : Int32} (H : At T m c below) (hx : tb.exec = Jvm.exec) (hd : decode c.code pc = .ok (.iushr, 1))  (hp : pc + 1 = pc')
    (k : Gets tb e below P T (mkF m pc' Ls (.int ((x.toUInt32 >>> (y &&& 31).toUInt32).toInt32) :: st))) : Gets tb e below P T (mkF m pc Ls (.int y :: .int x :: st)) := by
  subst hp; refine k.by fun t qq => ?_; exact XS.iushr H hx rfl hd rfl qq
theorem g_ladd {tb : Tables} [Ours tb] {e : Env} {below : List Frame} {T : State} {m : MethodId} {c : Code} {P : Outcome → State → Prop} {pc pc' : Nat} {Ls : Array Slot} {st : List Value} {x y : Int64} (H : At T m c below) (hx : tb.exec = Jvm.exec) (hd : decode c.code pc = .ok (.ladd, 1))  (hp : pc + 1 = pc')
    (k : Gets tb e below P T (mkF m pc' Ls (.long (x + y) :: st))) : Gets tb e below P T (mkF m pc Ls (.long y :: .long x :: st)) := by
  subst hp; refine k.by fun t qq => ?_; exact XS.ladd H hx rfl hd rfl qq
theorem g_lsub {tb : Tables} [Ours tb] {e : Env} {below : List Frame} {T : State} {m : MethodId} {c : Code} {P : Outcome → State → Prop} {pc pc' : Nat} {Ls : Array Slot} {st : List Value} {x y : Int64} (H : At T m c below) (hx : tb.exec = Jvm.exec) (hd : decode c.code pc = .ok (.lsub, 1))  (hp : pc + 1 = pc')
    (k : Gets tb e below P T (mkF m pc' Ls (.long (x - y) :: st))) : Gets tb e below P T (mkF m pc Ls (.long y :: .long x :: st)) := by
  subst hp; refine k.by fun t qq => ?_; exact XS.lsub H hx rfl hd rfl qq
theorem g_lmul {tb : Tables} [Ours tb] {e : Env} {below : List Frame} {T : State} {m : MethodId} {c : Code} {P : Outcome → State → Prop} {pc pc' : Nat} {Ls : Array Slot} {st : List Value} {x y : Int64} (H : At T m c below) (hx : tb.exec = Jvm.exec) (hd : decode c.code pc = .ok (.lmul, 1))  (hp : pc + 1 = pc')
    (k : Gets tb e below P T (mkF m pc' Ls (.long (x * y) :: st))) : Gets tb e below P T (mkF m pc Ls (.long y :: .long x :: st)) := by
  subst hp; refine k.by fun t qq => ?_; exact XS.lmul H hx rfl hd rfl qq
theorem g_land {tb : Tables} [Ours tb] {e : Env} {below : List Frame} {T : State} {m : MethodId} {c : Code} {P : Outcome → State → Prop} {pc pc' : Nat} {Ls : Array Slot} {st : List Value} {x y : Int64} (H : At T m c below) (hx : tb.exec = Jvm.exec) (hd : decode c.code pc = .ok (.land, 1))  (hp : pc + 1 = pc')
    (k : Gets tb e below P T (mkF m pc' Ls (.long (x &&& y) :: st))) : Gets tb e below P T (mkF m pc Ls (.long y :: .long x :: st)) := by
  subst hp; refine k.by fun t qq => ?_; exact XS.land H hx rfl hd rfl qq
theorem g_lor {tb : Tables} [Ours tb] {e : Env} {below : List Frame} {T : State} {m : MethodId} {c : Code} {P : Outcome → State → Prop} {pc pc' : Nat} {Ls : Array Slot} {st : List Value} {x y : Int64} (H : At T m c below) (hx : tb.exec = Jvm.exec) (hd : decode c.code pc = .ok (.lor, 1))  (hp : pc + 1 = pc')
    (k : Gets tb e below P T (mkF m pc' Ls (.long (x ||| y) :: st))) : Gets tb e below P T (mkF m pc Ls (.long y :: .long x :: st)) := by
  subst hp; refine k.by fun t qq => ?_; exact XS.lor H hx rfl hd rfl qq
theorem g_lxor {tb : Tables} [Ours tb] {e : Env} {below : List Frame} {T : State} {m : MethodId} {c : Code} {P : Outcome → State → Prop} {pc pc' : Nat} {Ls : Array Slot} {st : List Value} {x y : Int64} (H : At T m c below) (hx : tb.exec = Jvm.exec) (hd : decode c.code pc = .ok (.lxor, 1))  (hp : pc + 1 = pc')
    (k : Gets tb e below P T (mkF m pc' Ls (.long (x ^^^ y) :: st))) : Gets tb e below P T (mkF m pc Ls (.long y :: .long x :: st)) := by
  subst hp; refine k.by fun t qq => ?_; exact XS.lxor H hx rfl hd rfl qq
theorem g_lshl {tb : Tables} [Ours tb] {e : Env} {below : List Frame} {T : State} {m : MethodId} {c : Code} {P : Outcome → State → Prop} {pc pc' : Nat} {Ls : Array Slot} {st : List Value} {x : Int64} {y : Int32} (H : At T m c below) (hx : tb.exec = Jvm.exec) (hd : decode c.code pc = .ok (.lshl, 1))  (hp : pc + 1 = pc')
    (k : Gets tb e below P T (mkF m pc' Ls (.long (x <<< (y &&& 0x3f).toInt64) :: st))) : Gets tb e below P T (mkF m pc Ls (.int y :: .long x :: st)) := by
  subst hp; refine k.by fun t qq => ?_; exact XS.lshl H hx rfl hd rfl qq
theorem g_lshr {tb : Tables} [Ours tb] {e : Env} {below : List Frame} {T : State} {m : MethodId} {c : Code} {P : Outcome → State → Prop} {pc pc' : Nat} {Ls : Array Slot} {st : List Value} {x : Int64} {y : Int32} (H : At T m c below) (hx : tb.exec = Jvm.exec) (hd : decode c.code pc = .ok (.lshr, 1))  (hp : pc + 1 = pc')
    (k : Gets tb e below P T (mkF m pc' Ls (.long (x >>> (y &&& 0x3f).toInt64) :: st))) : Gets tb e below P T (mkF m pc Ls (.int y :: .long x :: st)) := by
  subst hp; refine k.by fun t qq => ?_; exact XS.lshr H hx rfl hd rfl qq
theorem g_lushr {tb : Tables} [Ours tb] {e : Env} {below : List Frame} {T : State} {m : MethodId} {c : Code} {P : Outcome → State → Prop} {pc pc' : Nat} {Ls : Array Slot} {st : List Value} {x : Int64} {y : Int32} (H : At T m c below) (hx : tb.exec = Jvm.exec) (hd : decode c.code pc = .ok (.lushr, 1))  (hp : pc + 1 = pc')
    (k : Gets tb e below P T (mkF m pc' Ls (.long ((x.toUInt64 >>> (y &&& 0x3f).toInt64.toUInt64).toInt64) :: st))) : Gets tb e below P T (mkF m pc Ls (.int y :: .long x :: st)) := by
  subst hp; refine k.by fun t qq => ?_; exact XS.lushr H hx rfl hd rfl qq
theorem g_lcmp {tb : Tables} [Ours tb] {e : Env} {below : List Frame} {T : State} {m : MethodId} {c : Code} {P : Outcome → State → Prop} {pc pc' : Nat} {Ls : Array Slot} {st : List Value} {x y : Int64} (H : At T m c below) (hx : tb.exec = Jvm.exec) (hd : decode c.code pc = .ok (.lcmp, 1))  (hp : pc + 1 = pc')
    (k : Gets tb e below P T (mkF m pc' Ls (.int (lcmpW x y) :: st))) : Gets tb e below P T (mkF m pc Ls (.long y :: .long x :: st)) := by
  subst hp; refine k.by fun t qq => ?_; exact XS.lcmp H hx rfl hd rfl qq
theorem g_ineg {tb : Tables} [Ours tb] {e : Env} {below : List Frame} {T : State} {m : MethodId} {c : Code} {P : Outcome → State → Prop} {pc pc' : Nat} {Ls : Array Slot} {st : List Value} {x : Int32} (H : At T m c below) (hx : tb.exec = Jvm.exec) (hd : decode c.code pc = .ok (.ineg, 1))  (hp : pc + 1 = pc')
    (k : Gets tb e below P T (mkF m pc' Ls (.int (-x) :: st))) : Gets tb e below P T (mkF m pc Ls (.int x :: st)) := by
  subst hp; refine k.by fun t qq => ?_; exact XS.ineg H hx rfl hd rfl qq
theorem g_i2b {tb : Tables} [Ours tb] {e : Env} {below : List Frame} {T : State} {m : MethodId} {c : Code} {P : Outcome → State → Prop} {pc pc' : Nat} {Ls : Array Slot} {st : List Value} {x : Int32} (H : At T m c below) (hx : tb.exec = Jvm.exec) (hd : decode c.code pc = .ok (.i2b, 1))  (hp : pc + 1 = pc')
    (k : Gets tb e below P T (mkF m pc' Ls (.int (x.toInt8.toInt32) :: st))) : Gets tb e below P T (mkF m pc Ls (.int x :: st)) := by
  subst hp; refine k.by fun t qq => ?_; exact XS.i2b H hx rfl hd rfl qq
theorem g_i2s {tb : Tables} [Ours tb] {e : Env} {below : List Frame} {T : State} {m : MethodId} {c : Code} {P : Outcome → State → Prop} {pc pc' : Nat} {Ls : Array Slot} {st : List Value} {x : Int32} (H : At T m c below) (hx : tb.exec = Jvm.exec) (hd : decode c.code pc = .ok (.i2s, 1))  (hp : pc + 1 = pc')
    (k : Gets tb e below P T (mkF m pc' Ls (.int (x.toInt16.toInt32) :: st))) : Gets tb e below P T (mkF m pc Ls (.int x :: st)) := by
  subst hp; refine k.by fun t qq => ?_; exact XS.i2s H hx rfl hd rfl qq
theorem g_i2c {tb : Tables} [Ours tb] {e : Env} {below : List Frame} {T : State} {m : MethodId} {c : Code} {P : Outcome → State → Prop} {pc pc' : Nat} {Ls : Array Slot} {st : List Value} {x : Int32} (H : At T m c below) (hx : tb.exec = Jvm.exec) (hd : decode c.code pc = .ok (.i2c, 1))  (hp : pc + 1 = pc')
    (k : Gets tb e below P T (mkF m pc' Ls (.int (x.toUInt32.toUInt16.toUInt32.toInt32) :: st))) : Gets tb e below P T (mkF m pc Ls (.int x :: st)) := by
  subst hp; refine k.by fun t qq => ?_; exact XS.i2c H hx rfl hd rfl qq
theorem g_i2l {tb : Tables} [Ours tb] {e : Env} {below : List Frame} {T : State} {m : MethodId} {c : Code} {P : Outcome → State → Prop} {pc pc' : Nat} {Ls : Array Slot} {st : List Value} {x : Int32} (H : At T m c below) (hx : tb.exec = Jvm.exec) (hd : decode c.code pc = .ok (.i2l, 1))  (hp : pc + 1 = pc')
    (k : Gets tb e below P T (mkF m pc' Ls (.long x.toInt64 :: st))) : Gets tb e below P T (mkF m pc Ls (.int x :: st)) := by
  subst hp; refine k.by fun t qq => ?_; exact XS.i2l H hx rfl hd rfl qq
theorem g_l2i {tb : Tables} [Ours tb] {e : Env} {below : List Frame} {T : State} {m : MethodId} {c : Code} {P : Outcome → State → Prop} {pc pc' : Nat} {Ls : Array Slot} {st : List Value} {x : Int64} (H : At T m c below) (hx : tb.exec = Jvm.exec) (hd : decode c.code pc = .ok (.l2i, 1))  (hp : pc + 1 = pc')
    (k : Gets tb e below P T (mkF m pc' Ls (.int x.toInt32 :: st))) : Gets tb e below P T (mkF m pc Ls (.long x :: st)) := by
  subst hp; refine k.by fun t qq => ?_; exact XS.l2i H hx rfl hd rfl qq
theorem g_lneg {tb : Tables} [Ours tb] {e : Env} {below : List Frame} {T : State} {m : MethodId} {c : Code} {P : Outcome → State → Prop} {pc pc' : Nat} {Ls : Array Slot} {st : List Value} {x : Int64} (H : At T m c below) (hx : tb.exec = Jvm.exec) (hd : decode c.code pc = .ok (.lneg, 1))  (hp : pc + 1 = pc')
    (k : Gets tb e below P T (mkF m pc' Ls (.long (-x) :: st))) : Gets tb e below P T (mkF m pc Ls (.long x :: st)) := by
  subst hp; refine k.by fun t qq => ?_; exact XS.lneg H hx rfl hd rfl qq
theorem g_idiv {tb : Tables} [Ours tb] {e : Env} {below : List Frame} {T : State} {m : MethodId} {c : Code} {P : Outcome → State → Prop} {pc pc' : Nat} {Ls : Array Slot} {st : List Value} {x y : Int32} (H : At T m c below) (hx : tb.exec = Jvm.exec) (hd : decode c.code pc = .ok (.idiv, 1)) (hy : y ≠ 0) (hp : pc + 1 = pc')
    (k : Gets tb e below P T (mkF m pc' Ls (.int (x / y) :: st))) : Gets tb e below P T (mkF m pc Ls (.int y :: .int x :: st)) := by
  subst hp; refine k.by fun t qq => ?_; exact XS.idiv H hx rfl hd rfl hy qq
theorem g_dup {tb : Tables} [Ours tb] {e : Env} {below : List Frame} {T : State} {m : MethodId} {c : Code} {P : Outcome → State → Prop} {pc pc' : Nat} {Ls : Array Slot} {st : List Value} {v : Value} (H : At T m c below) (hx : tb.exec = Jvm.exec) (hd : decode c.code pc = .ok (.dup, 1)) (hv : v.category = 1) (hp : pc + 1 = pc')
    (k : Gets tb e below P T (mkF m pc' Ls (v :: v :: st))) : Gets tb e below P T (mkF m pc Ls (v :: st)) := by
  subst hp; refine k.by fun t qq => ?_; exact XS.dup H hx rfl hd rfl hv qq
theorem g_pop {tb : Tables} [Ours tb] {e : Env} {below : List Frame} {T : State} {m : MethodId} {c : Code} {P : Outcome → State → Prop} {pc pc' : Nat} {Ls : Array Slot} {st : List Value} {v : Value} (H : At T m c below) (hx : tb.exec = Jvm.exec) (hd : decode c.code pc = .ok (.pop, 1)) (hv : v.category = 1) (hp : pc + 1 = pc')
    (k : Gets tb e below P T (mkF m pc' Ls (st))) : Gets tb e below P T (mkF m pc Ls (v :: st)) := by
  subst hp; refine k.by fun t qq => ?_; exact XS.pop H hx rfl hd rfl hv qq
theorem g_dupX1 {tb : Tables} [Ours tb] {e : Env} {below : List Frame} {T : State} {m : MethodId} {c : Code} {P : Outcome → State → Prop} {pc pc' : Nat} {Ls : Array Slot} {st : List Value} {v w : Value} (H : At T m c below) (hx : tb.exec = Jvm.exec) (hd : decode c.code pc = .ok (.dup_x1, 1)) (hv : v.category = 1) (hw : w.category = 1) (hp : pc + 1 = pc')
    (k : Gets tb e below P T (mkF m pc' Ls (v :: w :: v :: st))) : Gets tb e below P T (mkF m pc Ls (v :: w :: st)) := by
  subst hp; refine k.by fun t qq => ?_; exact XS.dupX1 H hx rfl hd rfl hv hw qq
theorem g_iinc {tb : Tables} [Ours tb] {e : Env} {below : List Frame} {T : State} {m : MethodId} {c : Code} {P : Outcome → State → Prop} {pc pc' : Nat} {Ls : Array Slot} {st : List Value} {j : Nat} {cst : Int} {x : Int32} {Ls' : Array Slot} (H : At T m c below) (hx : tb.exec = Jvm.exec) (hd : decode c.code pc = .ok (.iinc j cst, 3)) (hl : Ls[j]? = some (.val (.int x))) (hs : storeLocals Ls j (.int (x + Int32.ofInt cst)) = some Ls') (hp : pc + 3 = pc')
    (k : Gets tb e below P T (mkF m pc' Ls' (st))) : Gets tb e below P T (mkF m pc Ls (st)) := by
  subst hp; refine k.by fun t qq => ?_; exact XS.iinc H hx rfl hd hl hs qq
theorem g_lconst {tb : Tables} [Ours tb] {e : Env} {below : List Frame} {T : State} {m : MethodId} {c : Code} {P : Outcome → State → Prop} {pc pc' : Nat} {Ls : Array Slot} {st : List Value} {j : Fin 2} (v : Int64) (H : At T m c below) (hx : tb.exec = Jvm.exec) (hd : decode c.code pc = .ok (.lconst j, 1)) (hv : Int64.ofNat j = v) (hp : pc + 1 = pc')
    (k : Gets tb e below P T (mkF m pc' Ls (.long v :: st))) : Gets tb e below P T (mkF m pc Ls st) := by
  subst hp; subst hv; refine k.by fun t qq => ?_; exact XS.lconst H hx rfl hd qq
theorem g_irem {tb : Tables} [Ours tb] {e : Env} {below : List Frame} {T : State} {m : MethodId} {c : Code} {P : Outcome → State → Prop} {pc pc' : Nat} {Ls : Array Slot} {st : List Value} {x y : Int32} (H : At T m c below) (hx : tb.exec = Jvm.exec) (hd : decode c.code pc = .ok (.irem, 1)) (hy : y ≠ 0) (hp : pc + 1 = pc')
    (k : Gets tb e below P T (mkF m pc' Ls (.int (x % y) :: st))) : Gets tb e below P T (mkF m pc Ls (.int y :: .int x :: st)) := by
  subst hp
  have q : x - x / y * y = x % y := irem_eq_mod x y
  rw [← q] at k
  refine k.by fun t qq => ?_; exact XS.irem H hx rfl hd rfl hy qq
theorem g_goto {tb : Tables} [Ours tb] {e : Env} {below : List Frame} {T : State} {m : MethodId} {c : Code} {P : Outcome → State → Prop} {pc pc' : Nat} {Ls : Array Slot} {st : List Value} {o : Int} (H : At T m c below) (hx : tb.exec = Jvm.exec) (hd : decode c.code pc = .ok (.goto o, 3)) (hp : (pc : Int) + o = (pc' : Int))
    (k : Gets tb e below P T (mkF m pc' Ls st)) : Gets tb e below P T (mkF m pc Ls st) := by
  refine k.by fun t qq => ?_
  exact XS.goto H hx rfl (pc0 := pc) (pc' := pc') rfl hd (by rw [hp]; exact Int.natCast_nonneg _) (by rw [hp]; rfl) qq
theorem g_ifY {tb : Tables} [Ours tb] {e : Env} {below : List Frame} {T : State} {m : MethodId} {c : Code} {P : Outcome → State → Prop} {pc pc' : Nat} {Ls : Array Slot} {st : List Value} {o : Int} {cd : ClassFile.Cond} {x : Int32} (H : At T m c below) (hx : tb.exec = Jvm.exec) (hd : decode c.code pc = .ok (.ifCond cd o, 3)) (hp : (pc : Int) + o = (pc' : Int)) (q : if_icmp.holds cd x 0 = true)
    (k : Gets tb e below P T (mkF m pc' Ls st)) : Gets tb e below P T (mkF m pc Ls (.int x :: st)) := by
  refine k.by fun t qq => ?_
  exact XS.ifYes H hx rfl (pc0 := pc) (pc' := pc') rfl hd rfl ((if0 _ _).trans q) (by rw [hp]; exact Int.natCast_nonneg _) (by rw [hp]; rfl) qq
theorem g_ifN {tb : Tables} [Ours tb] {e : Env} {below : List Frame} {T : State} {m : MethodId} {c : Code} {P : Outcome → State → Prop} {pc pc' : Nat} {Ls : Array Slot} {st : List Value} {o : Int} {cd : ClassFile.Cond} {x : Int32} (H : At T m c below) (hx : tb.exec = Jvm.exec) (hd : decode c.code pc = .ok (.ifCond cd o, 3)) (hp : pc + 3 = pc') (q : if_icmp.holds cd x 0 = false)
    (k : Gets tb e below P T (mkF m pc' Ls st)) : Gets tb e below P T (mkF m pc Ls (.int x :: st)) := by
  subst hp; refine k.by fun t qq => ?_; exact XS.ifNo H hx rfl hd rfl ((if0 _ _).trans q) qq
theorem g_icmpY {tb : Tables} [Ours tb] {e : Env} {below : List Frame} {T : State} {m : MethodId} {c : Code} {P : Outcome → State → Prop} {pc pc' : Nat} {Ls : Array Slot} {st : List Value} {o : Int} {cd : ClassFile.Cond} {x y : Int32} (H : At T m c below) (hx : tb.exec = Jvm.exec) (hd : decode c.code pc = .ok (.if_icmp cd o, 3)) (hp : (pc : Int) + o = (pc' : Int)) (q : if_icmp.holds cd x y = true)
    (k : Gets tb e below P T (mkF m pc' Ls st)) : Gets tb e below P T (mkF m pc Ls (.int y :: .int x :: st)) := by
  refine k.by fun t qq => ?_
  exact XS.icmpYes H hx rfl (pc0 := pc) (pc' := pc') rfl hd rfl q (by rw [hp]; exact Int.natCast_nonneg _) (by rw [hp]; rfl) qq
theorem g_icmpN {tb : Tables} [Ours tb] {e : Env} {below : List Frame} {T : State} {m : MethodId} {c : Code} {P : Outcome → State → Prop} {pc pc' : Nat} {Ls : Array Slot} {st : List Value} {o : Int} {cd : ClassFile.Cond} {x y : Int32} (H : At T m c below) (hx : tb.exec = Jvm.exec) (hd : decode c.code pc = .ok (.if_icmp cd o, 3)) (hp : pc + 3 = pc') (q : if_icmp.holds cd x y = false)
    (k : Gets tb e below P T (mkF m pc' Ls st)) : Gets tb e below P T (mkF m pc Ls (.int y :: .int x :: st)) := by
  subst hp; refine k.by fun t qq => ?_; exact XS.icmpNo H hx rfl hd rfl q qq
theorem g_nullY {tb : Tables} [Ours tb] {e : Env} {below : List Frame} {T : State} {m : MethodId} {c : Code} {P : Outcome → State → Prop} {pc pc' : Nat} {Ls : Array Slot} {st : List Value} {o : Int} (H : At T m c below) (hx : tb.exec = Jvm.exec) (hd : decode c.code pc = .ok (.ifnull o, 3)) (hp : (pc : Int) + o = (pc' : Int))
    (k : Gets tb e below P T (mkF m pc' Ls st)) : Gets tb e below P T (mkF m pc Ls (.null :: st)) := by
  refine k.by fun t qq => ?_
  exact XS.ifnullYes H hx rfl (pc0 := pc) (pc' := pc') rfl hd rfl (by rw [hp]; exact Int.natCast_nonneg _) (by rw [hp]; rfl) qq
theorem g_nullN {tb : Tables} [Ours tb] {e : Env} {below : List Frame} {T : State} {m : MethodId} {c : Code} {P : Outcome → State → Prop} {pc pc' : Nat} {Ls : Array Slot} {st : List Value} {o : Int} {b : Addr} (H : At T m c below) (hx : tb.exec = Jvm.exec) (hd : decode c.code pc = .ok (.ifnull o, 3)) (hp : pc + 3 = pc')
    (k : Gets tb e below P T (mkF m pc' Ls st)) : Gets tb e below P T (mkF m pc Ls (.ref b :: st)) := by
  subst hp; refine k.by fun t qq => ?_; exact XS.ifnullNo H hx rfl hd rfl qq
theorem g_nonnullY {tb : Tables} [Ours tb] {e : Env} {below : List Frame} {T : State} {m : MethodId} {c : Code} {P : Outcome → State → Prop} {pc pc' : Nat} {Ls : Array Slot} {st : List Value} {o : Int} {b : Addr} (H : At T m c below) (hx : tb.exec = Jvm.exec) (hd : decode c.code pc = .ok (.ifnonnull o, 3)) (hp : (pc : Int) + o = (pc' : Int))
    (k : Gets tb e below P T (mkF m pc' Ls st)) : Gets tb e below P T (mkF m pc Ls (.ref b :: st)) := by
  refine k.by fun t qq => ?_
  exact XS.ifnonnullYes H hx rfl (pc0 := pc) (pc' := pc') rfl hd rfl (by rw [hp]; exact Int.natCast_nonneg _) (by rw [hp]; rfl) qq
theorem g_nonnullN {tb : Tables} [Ours tb] {e : Env} {below : List Frame} {T : State} {m : MethodId} {c : Code} {P : Outcome → State → Prop} {pc pc' : Nat} {Ls : Array Slot} {st : List Value} {o : Int} (H : At T m c below) (hx : tb.exec = Jvm.exec) (hd : decode c.code pc = .ok (.ifnonnull o, 3)) (hp : pc + 3 = pc')
    (k : Gets tb e below P T (mkF m pc' Ls st)) : Gets tb e below P T (mkF m pc Ls (.null :: st)) := by
  subst hp; refine k.by fun t qq => ?_; exact XS.ifnonnullNo H hx rfl hd rfl qq
theorem g_tsw {tb : Tables} [Ours tb] {e : Env} {below : List Frame} {T : State} {m : MethodId} {c : Code} {P : Outcome → State → Prop} {pc pc' : Nat} {Ls : Array Slot} {st : List Value} {dflt low high : Int} {offs : Array Int} {len : Nat} {o : Int} {i : Int32} (H : At T m c below) (hx : tb.exec = Jvm.exec) (hd : decode c.code pc = .ok (.tableswitch dflt low high offs, len)) (hin : ¬ (i.toInt < low ∨ i.toInt > high)) (hoff : offs[(i.toInt - low).toNat]? = some o) (hp : (pc : Int) + o = (pc' : Int))
    (k : Gets tb e below P T (mkF m pc' Ls st)) : Gets tb e below P T (mkF m pc Ls (.int i :: st)) := by
  refine k.by fun t qq => ?_
  exact XS.tswIn H hx rfl (pc0 := pc) (pc' := pc') rfl hd rfl hin hoff (by rw [hp]; exact Int.natCast_nonneg _) (by rw [hp]; rfl) qq
theorem g_iincV {tb : Tables} [Ours tb] {e : Env} {below : List Frame} {T : State} {m : MethodId} {c : Code} {P : Outcome → State → Prop} {pc pc' : Nat} {Ls Ls' : Array Slot} {st : List Value} {j : Nat} {cst : Int} {x : Int32} (v : Int32) (H : At T m c below) (hx : tb.exec = Jvm.exec) (hd : decode c.code pc = .ok (.iinc j cst, 3)) (hv : x + Int32.ofInt cst = v) (hl : Ls[j]? = some (.val (.int x))) (hs : storeLocals Ls j (.int v) = some Ls') (hp : pc + 3 = pc')
    (k : Gets tb e below P T (mkF m pc' Ls' st)) : Gets tb e below P T (mkF m pc Ls st) := by
  subst hp; subst hv; refine k.by fun t qq => ?_; exact XS.iinc H hx rfl hd hl hs qq
/-- an array's exact content -/
def Ary (Z : State) (h : Heap) (a : Addr) (ty : FieldType) (vs : List Value) : Prop := ∃ cl : Cell, Arr Z h a cl ty ∧ cl.slots.toList = vs ∧ vs.length < 2 ^ 31 ∧ ∀ v ∈ vs, fits ty v = true
theorem Ary.lt {Z : State} {h : Heap} {a : Addr} {ty : FieldType} {vs : List Value} (F : Ary Z h a ty vs) : a < h.size := by obtain ⟨c, A, -⟩ := F; exact A.lt
theorem Ary.len {Z : State} {h : Heap} {a : Addr} {ty : FieldType} {vs : List Value} (F : Ary Z h a ty vs) : vs.length < 2 ^ 31 := by obtain ⟨c, A, -, q, -⟩ := F; exact q
theorem Ary.keep {Z : State} {h h' : Heap} {a : Addr} {ty : FieldType} {vs : List Value} {ws : List Addr} (F : Ary Z h a ty vs) (K : Keep h h' ws) (q : a ∉ ws) : Ary Z h' a ty vs := by obtain ⟨c, A, r⟩ := F; exact ⟨c, ⟨K.2.1 a c A.1 q, A.2⟩, r⟩
theorem Ary.ext {Z : State} {h h' : Heap} {a : Addr} {ty : FieldType} {vs : List Value} (F : Ary Z h a ty vs) (E : Ext h h') : Ary Z h' a ty vs := by obtain ⟨c, A, r⟩ := F; exact ⟨c, A.ext E, r⟩
theorem Ary.made {Z : State} {h : Heap} {a : Addr} {ty : FieldType} {k : ClassId} {n : Int32} (A : Arr Z h a (newA k ty n) ty) (hn : ¬ n < 0) (hf : fits ty (defaultValue ty) = true) : Ary Z h a ty (List.replicate n.toNatClampNeg (defaultValue ty)) :=
  ⟨_, A, by simp [newA], by rw [List.length_replicate]; exact (back32 hn).2, fun v hv => by rw [(List.mem_replicate.mp hv).2]; exact hf⟩
theorem Ary.of_arv {Z : State} {h : Heap} {a : Addr} {ty : FieldType} {k : ClassId} {z : Int32} {vs : List Value} {d : Value} (F : Arv Z h a k ty z vs d) (hl : z.toNatClampNeg = vs.length) : Ary Z h a ty vs := by
  obtain ⟨c, A, -, sz, hz, H, G⟩ := F
  have e : c.slots.toList = vs := by
    apply List.ext_getElem?
    intro i
    by_cases hi : i < c.slots.size
    · have q := H i hi
      have hi' : i < vs.length := by omega
      rw [Array.getElem?_toList, q]
      simp [List.getD_eq_getElem?_getD, hi']
    · have hi' : vs.length ≤ i := by omega
      rw [Array.getElem?_toList, Array.getElem?_eq_none (by omega), List.getElem?_eq_none hi']
  refine ⟨c, A, e, by rw [← hl]; exact (back32 hz).2, fun v hv => ?_⟩
  obtain ⟨i, hi, rfl⟩ := List.mem_iff_getElem.mp hv
  have q := G i (by omega)
  rwa [List.getD_eq_getElem?_getD, List.getElem?_eq_getElem hi] at q
theorem Ary.wrote {Z : State} {h h' : Heap} {a : Addr} {ty : FieldType} {vs : List Value} {cl : Cell} {v : Value} {i : Nat} (A : Arr Z h a cl ty) (e : cl.slots.toList = vs) (hl : vs.length < 2 ^ 31) (hf : ∀ w ∈ vs, fits ty w = true) (hv : fits ty v = true) (W : Wr h h' a i v) : Ary Z h' a ty (vs.set i v) := by
  refine ⟨cl.setSlot i v, A.same W, ?_, by rw [List.length_set]; exact hl, fun w hw => ?_⟩
  · rw [← e]; simp [Cell.setSlot]
  · rcases List.mem_or_eq_of_mem_set hw with q | q
    · exact hf w q
    · rw [q]; exact hv
theorem size_of_list {cl : Cell} {vs : List Value} (e : cl.slots.toList = vs) : cl.slots.size = vs.length := by rw [← e]; simp
theorem at_of_list {cl : Cell} {vs : List Value} (e : cl.slots.toList = vs) (i : Nat) : cl.slots[i]? = vs[i]? := by rw [← e]; simp
theorem i32_nat {n : Nat} (h : n < 2 ^ 31) : n.toInt32.toNatClampNeg = n := by simp only [Int32.toNatClampNeg, len_toInt h]; rfl
end OwnBase
section OwnWalk
variable {p : Program} {l : Launch} {e : Env} {R : Room} {s : State} {m : MethodId} {args : Array Value} {below : List Frame} {meth : Method} {c : Code} {T : State} {Z : State} {a0 : Array Value} {h : Heap} {EL : List (String × Nat)} {own : String} {cells slots : Nat} {ws nw : List Addr} {P : Outcome → State → Prop} {pc pc' : Nat} {Ls : Array Slot} {st : List Value}
/-- where a walk stands -/
def Wk (p : Program) (l : Launch) (e : Env) (R : Room) (s : State) (m : MethodId) (args : Array Value) (below : List Frame) (meth : Method) (c : Code) (Z : State) (EL : List (String × Nat)) (own : String) (ws nw : List Addr) (T : State) (h : Heap) (cells slots : Nat) : Prop :=
  ∃ (vm0 : Vm) (k0 : Nat) (locs : List Loc) (b0 : Array Value), Stand p l e R (s.setVm vm0) m args below meth c T locs cells slots ∧ T.heap = h ∧ s.Since vm0 k0 ∧ k0 ≤ h.size ∧ Z.Warmed39 vm0 ∧ vm0.findClass own = some m.cls ∧ EW Z b0 EL ∧ CHr Z EL s.vm s.heap vm0 h ∧ Fr Z.heap.size locs ∧ Ext Z.heap h ∧ Keep s.heap h ws ∧
    (∀ x : Nat, x ∈ ws → Z.heap.size ≤ x ∧ x < h.size ∧ Safe Z EL vm0 h x) ∧ (∀ x : Nat, x ∈ nw → s.heap.size ≤ x ∧ Z.heap.size ≤ x ∧ x < h.size ∧ Safe Z EL vm0 h x)
theorem Wk.here (W : Wk p l e R s m args below meth c Z EL own ws nw T h cells slots) : At T m c below := by obtain ⟨_, _, _, _, X, -⟩ := W; exact X.here
theorem Wk.old (W : Wk p l e R s m args below meth c Z EL own ws nw T h cells slots) : Ext Z.heap h := by obtain ⟨_, _, _, _, -, -, -, -, -, -, -, -, -, E, -⟩ := W; exact E
theorem Wk.lt (W : Wk p l e R s m args below meth c Z EL own ws nw T h cells slots) {x : Nat} (q : x ∈ nw) : x < h.size := by obtain ⟨_, _, _, _, -, -, -, -, -, -, -, -, -, -, -, -, n⟩ := W; exact (n x q).2.2.1
theorem Wk.kept (W : Wk p l e R s m args below meth c Z EL own ws nw T h cells slots) : Keep s.heap h ws := by obtain ⟨_, _, _, _, -, -, -, -, -, -, -, -, -, -, K, -⟩ := W; exact K
/-- a callee's contract: from the arguments as' and the heap h0 it returns a value v and a heap h' with Q v h'; of the cells of h0 at the most those at ws are written -/
def ConL (wl : List Cond) (l : Launch) (Z : State) (EL : List (String × Nat)) (y : MethodName) (bytes : ByteArray) (maxL : Nat) (ret : Option FieldType) (rm : Room) (as' : Array Value) (h0 : Heap) (ws : List Addr) (Q : Option Value → Heap → Prop) : Prop :=
  MetFree l y (head1 (Cond.code y bytes maxL ret :: wl) rm) (fun a U => a = as' ∧ Z.Warmed39 U.vm ∧ U.heap = h0 ∧ CHv Z EL U.vm h0 ∧ ∀ x ∈ ws, Safe Z EL U.vm h0 x) (fun _ _ _ _ _ => True)
    (fun _ U o U' => ∃ v L, o = .returned v ∧ (Q v U'.heap ∧ Fr Z.heap.size L ∧ Keep h0 U'.heap ws ∧ Ext Z.heap U'.heap) ∧ CHr Z EL U.vm U.heap U'.vm U'.heap ∧ ReturnedEndW U o U' L rm.cells rm.slots)
abbrev Con := ConL []
/-- what a contract's body is to come to -/
def Post (s : State) (Z : State) (EL : List (String × Nat)) (rm : Room) (h0 : Heap) (ws : List Addr) (Q : Option Value → Heap → Prop) (o : Outcome) (t : State) : Prop :=
  ∃ v L, o = .returned v ∧ (Q v t.heap ∧ Fr Z.heap.size L ∧ Keep h0 t.heap ws ∧ Ext Z.heap t.heap) ∧ CHr Z EL s.vm s.heap t.vm t.heap ∧ ReturnedEndW s o t L rm.cells rm.slots
theorem Con.of {wl : List Cond} {y : MethodName} {bytes : ByteArray} {maxL : Nat} {ret : Option FieldType} {rm : Room} {as' : Array Value} {h0 : Heap} {Q : Option Value → Heap → Prop} (Ls : Array Slot)
    (hy : plainFor y = true) (hE : EW Z a0 EL) (O : Ext Z.heap h0) (hws : ∀ x : Nat, x ∈ ws → Z.heap.size ≤ x ∧ x < h0.size) (hent : ∀ m, entryFrame m as' maxL = mkF m 0 Ls [])
    (body : ∀ (p : Program) (e : Env) (s : State) (m : MethodId) (below : List Frame) (meth : Method) (c : Code) (T : State), p.tables.exec = Jvm.exec → c.code = bytes → c.maxLocals = maxL → meth.name = y.name → meth.sig.returnType = ret → meth.locks = false → s.heap = h0 →
      Wk p l e rm s m as' below meth c Z EL y.cls ws [] T h0 0 0 → Gets p.tables e below (Post s Z EL rm h0 ws Q) T (mkF m 0 Ls [])) :
    ConL wl l Z EL y bytes maxL ret rm as' h0 ws Q := by
  refine MetFree.of_bodySF hy hisR ?_
  intro p e s m args below meth c s₁ Bd hml0 hP hK
  obtain ⟨rfl, hZ, hh, hC, hS⟩ := hP
  have hh' : s.heap = h0 := hh
  have hl : meth.locks = false := Bd.notSynchronized
  have e0 : s₁.heap = h0 := by rw [← hh, Bd.state]; rfl
  have X0 : Stand p l e rm s m args below meth c s₁ [] 0 0 := Stand.of_body Bd
  have W : Wk p l e rm s m args below meth c Z EL y.cls ws [] s₁ h0 0 0 :=
    ⟨s.vm, h0.size, [], a0, X0, e0, (State.WarmedH.refl s).since _, Nat.le_refl _, hZ, findClass_of_methodNamed Bd.named, hE, by rw [hh']; exact CHr.refl hC, Fr.nil _, O, by rw [hh']; exact Keep.refl _ _, fun x hx => ⟨(hws x hx).1, (hws x hx).2, hS x hx⟩, fun x hx => (nomatch hx)⟩
  obtain ⟨t, o, h1, h2, h3, h4⟩ := body p e s m below meth c s₁ Bd.exec Bd.bytes hml0 (name_of_methodNamed Bd.named Bd.method).1 Bd.returns hl hh' W
  exact ⟨t, o, by rw [hent m]; exact h1, h2, h3, h4⟩
/-! ends -/
theorem w_end {rm : Room} {h0 : Heap} {Q : Option Value → Heap → Prop} (W : Wk p l e R s m args below meth c Z EL own ws nw T h cells slots) (hh : s.heap = h0) {v : Option Value} {g : JFrame} (hl : meth.locks = false) (hv : meth.sig.returnType = none → v = none)
    (st : ∀ {vm0 : Vm} {locs : List Loc} {fs : List Frame}, Stand p l e R (s.setVm vm0) m args below meth c T locs cells slots → (∀ (f : JFrame) (acts : List Action), f.method = m → f.locked = none → f.entered = [] → (doReturn e (T.setTop f) acts v).1 = T.setFrames fs) → Steps p.tables e below (T.setTop g) (T.setFrames fs))
    (hc : cells ≤ rm.cells) (hs : slots ≤ rm.slots) (q : Q v h) : Gets p.tables e below (Post s Z EL rm h0 ws Q) T g := by
  obtain ⟨vm0, k0, locs, b0, X, eT, hS, hk, hZ, hown, hE, hC, hF, hO, hK, -, -⟩ := W
  obtain ⟨fs, h1, h2, h3, r1, r2, r3, r4⟩ := X.leaveW hS (by rw [eT]; exact hk) hv hl
  subst hh
  have hA := CHv.at X hZ hE hC.1
  refine ⟨_, _, st X h1, h2, h3, v, locs, rfl, ⟨?_, hF, ?_, ?_⟩, ?_, r1, r2, r3, r4.mono hc hs⟩
  · show Q v T.heap; rw [eT]; exact q
  · show Keep _ T.heap _; rw [eT]; exact hK
  · show Ext _ T.heap; rw [eT]; exact hO
  · show CHr Z EL s.vm s.heap T.vm T.heap
    rw [eT]
    exact hC.trans hA
theorem w_retI {rm : Room} {h0 : Heap} {Q : Option Value → Heap → Prop} {z : Int32} (W : Wk p l e R s m args below meth c Z EL own ws nw T h cells slots) (hx : p.tables.exec = Jvm.exec) (hh : s.heap = h0) (hl : meth.locks = false) (hret : meth.sig.returnType = some .int) (hd : decode c.code pc = .ok (.ireturn, 1)) (hc : cells ≤ rm.cells) (hs : slots ≤ rm.slots) (q : Q (some (.int z)) h) :
    Gets p.tables e below (Post s Z EL rm h0 ws Q) T (mkF m pc Ls (.int z :: st)) :=
  w_end W hh hl (fun q => by rw [hret] at q; cases q) (fun X hr => retOut X hx hret rfl (Or.inl ⟨rfl, Or.inl rfl, z, rfl⟩) hd hr) hc hs q
theorem w_retN {rm : Room} {h0 : Heap} {Q : Option Value → Heap → Prop} {z : Int32} {t : FieldType} (W : Wk p l e R s m args below meth c Z EL own ws nw T h cells slots) (hx : p.tables.exec = Jvm.exec) (hh : s.heap = h0) (hl : meth.locks = false) (hret : meth.sig.returnType = some t) (ht : t = .boolean ∨ t = .byte ∨ t = .char ∨ t = .short) (hd : decode c.code pc = .ok (.ireturn, 1)) (hc : cells ≤ rm.cells) (hs : slots ≤ rm.slots) (q : Q (some (.int (nar t z))) h) :
    Gets p.tables e below (Post s Z EL rm h0 ws Q) T (mkF m pc Ls (.int z :: st)) :=
  w_end W hh hl (fun q => by rw [hret] at q; cases q) (fun X hr => retN X hx hret ht hd hr) hc hs q
theorem w_retJ {rm : Room} {h0 : Heap} {Q : Option Value → Heap → Prop} {z : Int64} (W : Wk p l e R s m args below meth c Z EL own ws nw T h cells slots) (hx : p.tables.exec = Jvm.exec) (hh : s.heap = h0) (hl : meth.locks = false) (hret : meth.sig.returnType = some .long) (hd : decode c.code pc = .ok (.lreturn, 1)) (hc : cells ≤ rm.cells) (hs : slots ≤ rm.slots) (q : Q (some (.long z)) h) :
    Gets p.tables e below (Post s Z EL rm h0 ws Q) T (mkF m pc Ls (.long z :: st)) :=
  w_end W hh hl (fun q => by rw [hret] at q; cases q) (fun X hr => retOut X hx hret rfl (Or.inr (Or.inl ⟨rfl, rfl, z, rfl⟩)) hd hr) hc hs q
theorem w_retA {rm : Room} {h0 : Heap} {Q : Option Value → Heap → Prop} {w : Value} {t : FieldType} (W : Wk p l e R s m args below meth c Z EL own ws nw T h cells slots) (hx : p.tables.exec = Jvm.exec) (hh : s.heap = h0) (hl : meth.locks = false) (hret : meth.sig.returnType = some t) (ht : t.isReference = true) (hw : w.isRef = true) (hd : decode c.code pc = .ok (.areturn, 1)) (hc : cells ≤ rm.cells) (hs : slots ≤ rm.slots) (q : Q (some w) h) :
    Gets p.tables e below (Post s Z EL rm h0 ws Q) T (mkF m pc Ls (w :: st)) :=
  w_end W hh hl (fun q => by rw [hret] at q; cases q) (fun X hr => retOut X hx hret (by cases t <;> cases w <;> simp [FieldType.isReference, Value.isRef, narrow] at ht hw ⊢) (Or.inr (Or.inr (Or.inr (Or.inr ⟨rfl, ht, hw⟩)))) hd hr) hc hs q
theorem w_retV {rm : Room} {h0 : Heap} {Q : Option Value → Heap → Prop} (W : Wk p l e R s m args below meth c Z EL own ws nw T h cells slots) (hx : p.tables.exec = Jvm.exec) (hh : s.heap = h0) (hl : meth.locks = false) (hret : meth.sig.returnType = none) (hd : decode c.code pc = .ok (.return_, 1)) (hc : cells ≤ rm.cells) (hs : slots ≤ rm.slots) (q : Q none h) :
    Gets p.tables e below (Post s Z EL rm h0 ws Q) T (mkF m pc Ls []) :=
  w_end W hh hl (fun _ => rfl) (fun X hr => X.returnOut hx hret hd hr) hc hs q
/-! steps that leave the heap as it is -/
theorem w_get (W : Wk p l e R s m args below meth c Z EL own ws nw T h cells slots) (hx : p.tables.exec = Jvm.exec) {R0 O n d : String} {index : Nat} (w : (Cond.fieldLink own index R0 n d).before a0 Z = true) (via : Via Z R0 O n d) {a : Nat} {v : Value} (F : Fld Z h a O n d v) (hd : decode c.code pc = .ok (.getfield index, 3)) (hp : pc + 3 = pc')
    (k : ∀ T', Wk p l e R s m args below meth c Z EL own ws nw T' h cells slots → Gets p.tables e below P T' (mkF m pc' Ls (v :: st))) : Gets p.tables e below P T (mkF m pc Ls (.ref a :: st)) := by
  subst hp
  obtain ⟨vm0, k0, locs, b0, X, eT, hS, hk, hZ, hown, r⟩ := W
  obtain ⟨T', X', e', stp⟩ := getF X hx hZ hown (host := "") (Or.inl w) via eT F (g := mkF m pc Ls (.ref a :: st)) rfl rfl hd
  exact (k T' ⟨vm0, k0, locs, b0, X', e', hS, hk, hZ, hown, r⟩).by stp
theorem w_getS (W : Wk p l e R s m args below meth c Z EL own ws nw T h cells slots) (hx : p.tables.exec = Jvm.exec) {R0 O n d : String} {index : Nat} (w : (Cond.fieldLink own index R0 n d).before a0 Z = true) (via : Via Z R0 O n d) {v : Value} (F : Sta Z Z.heap O n d v) (hd : decode c.code pc = .ok (.getstatic index, 3)) (hp : pc + 3 = pc')
    (k : ∀ T', Wk p l e R s m args below meth c Z EL own ws nw T' h cells slots → Gets p.tables e below P T' (mkF m pc' Ls (v :: st))) : Gets p.tables e below P T (mkF m pc Ls st) := by
  subst hp
  have O := W.old
  obtain ⟨vm0, k0, locs, b0, X, eT, hS, hk, hZ, hown, r⟩ := W
  obtain ⟨T', X', e', stp⟩ := getS X hx hZ hown (host := "") w via eT (F.ext O) (g := mkF m pc Ls st) rfl hd
  exact (k T' ⟨vm0, k0, locs, b0, X', e', hS, hk, hZ, hown, r⟩).by stp
theorem w_ldcI (W : Wk p l e R s m args below meth c Z EL own ws nw T h cells slots) (hx : p.tables.exec = Jvm.exec) {index : Nat} {v : Int32} (w : (Cond.constant own index v).before a0 Z = true) (hd : decode c.code pc = .ok (.ldc index, 2)) (hp : pc + 2 = pc')
    (k : Gets p.tables e below P T (mkF m pc' Ls (.int v :: st))) : Gets p.tables e below P T (mkF m pc Ls st) := by
  subst hp
  obtain ⟨vm0, k0, locs, b0, X, eT, hS, hk, hZ, hown, r⟩ := W
  exact k.by fun t q => Jvm.Stand.ldcI X hx hown (mv (s := s.setVm vm0) hZ w) (g := mkF m pc Ls st) rfl hd q
theorem w_ldc2J (W : Wk p l e R s m args below meth c Z EL own ws nw T h cells slots) (hx : p.tables.exec = Jvm.exec) {index : Nat} {v : Int64} (w : (Cond.constantLong own index v).before a0 Z = true) (hd : decode c.code pc = .ok (.ldc2_w index, 3)) (hp : pc + 3 = pc')
    (k : Gets p.tables e below P T (mkF m pc' Ls (.long v :: st))) : Gets p.tables e below P T (mkF m pc Ls st) := by
  subst hp
  obtain ⟨vm0, k0, locs, b0, X, eT, hS, hk, hZ, hown, r⟩ := W
  exact k.by fun t q => Jvm.Stand.ldc2J X hx hown (mv (s := s.setVm vm0) hZ w) (g := mkF m pc Ls st) rfl hd q
theorem w_acmp (W : Wk p l e R s m args below meth c Z EL own ws nw T h cells slots) (hx : p.tables.exec = Jvm.exec) {cd : ACond} {x y : Value} {o : Int} (h1 : x.isRef = true) (h2 : y.isRef = true) (same : Bool) (hd : decode c.code pc = .ok (.if_acmp cd o, 3)) (hq : decide (x = y) = same) (ho : 0 ≤ (pc : Int) + o) (hp : pc' = if acV cd same = true then ((pc : Int) + o).toNat else pc + 3)
    (k : Gets p.tables e below P T (mkF m pc' Ls st)) : Gets p.tables e below P T (mkF m pc Ls (y :: x :: st)) := by
  obtain ⟨vm0, k0, locs, b0, X, r⟩ := W
  exact k.by fun t q => Jvm.RoadKit.acmp (g := mkF m pc Ls (y :: x :: st)) X hx rfl h1 h2 (pc0 := pc) (pc' := pc') rfl hd rfl hq ho hp q
theorem w_cast (W : Wk p l e R s m args below meth c Z EL own ws nw T h cells slots) (hx : p.tables.exec = Jvm.exec) {K : String} {index : Nat} (w : (Cond.classLink own index K).before a0 Z = true) {a : Nat} (F : Ins Z h a K true) (hd : decode c.code pc = .ok (.checkcast index, 3)) (hp : pc + 3 = pc')
    (k : ∀ T', Wk p l e R s m args below meth c Z EL own ws nw T' h cells slots → Gets p.tables e below P T' (mkF m pc' Ls (.ref a :: st))) : Gets p.tables e below P T (mkF m pc Ls (.ref a :: st)) := by
  subst hp
  obtain ⟨vm0, k0, locs, b0, X, eT, hS, hk, hZ, hown, r⟩ := W
  obtain ⟨T', X', e', stp⟩ := castY X hx hZ hown w eT F (g := mkF m pc Ls (.ref a :: st)) rfl rfl hd
  exact (k T' ⟨vm0, k0, locs, b0, X', e', hS, hk, hZ, hown, r⟩).by stp
theorem w_inst (W : Wk p l e R s m args below meth c Z EL own ws nw T h cells slots) (hx : p.tables.exec = Jvm.exec) {K : String} {index : Nat} (w : (Cond.classLink own index K).before a0 Z = true) {a : Nat} (F : Ins Z h a K true) (hd : decode c.code pc = .ok (.instanceof index, 3)) (hp : pc + 3 = pc')
    (k : ∀ T', Wk p l e R s m args below meth c Z EL own ws nw T' h cells slots → Gets p.tables e below P T' (mkF m pc' Ls (.int 1 :: st))) : Gets p.tables e below P T (mkF m pc Ls (.ref a :: st)) := by
  subst hp
  obtain ⟨vm0, k0, locs, b0, X, eT, hS, hk, hZ, hown, r⟩ := W
  obtain ⟨T', X', e', stp⟩ := instY X hx hZ hown w eT F (g := mkF m pc Ls (.ref a :: st)) rfl rfl hd
  exact (k T' ⟨vm0, k0, locs, b0, X', e', hS, hk, hZ, hown, r⟩).by stp
theorem w_len (W : Wk p l e R s m args below meth c Z EL own ws nw T h cells slots) (hx : p.tables.exec = Jvm.exec) {a : Nat} {ty : FieldType} {vs : List Value} (F : Ary Z h a ty vs) (hd : decode c.code pc = .ok (.arraylength, 1)) (hp : pc + 1 = pc')
    (k : Gets p.tables e below P T (mkF m pc' Ls (.int vs.length.toInt32 :: st))) : Gets p.tables e below P T (mkF m pc Ls (.ref a :: st)) := by
  subst hp
  obtain ⟨vm0, k0, locs, b0, X, eT, hS, hk, hZ, hown, r⟩ := W
  obtain ⟨cl, A, e1, -, -⟩ := F
  refine k.by fun t q => X.arraylength hx (by rw [eT]; exact A.1) (State.isArrayOf_alike hZ.alike A.2.1) (g := mkF m pc Ls (.ref a :: st)) rfl rfl hd t ?_
  rw [size_of_list e1]; exact q
theorem in_of {cl : Cell} {vs : List Value} {j : Int32} {v : Value} (e : cl.slots.toList = vs) (hj : ¬ j < 0) (hv : vs[j.toNatClampNeg]? = some v) : ¬ (j < 0 ∨ cl.slots.size ≤ j.toNatClampNeg) ∧ cl.slots[j.toNatClampNeg]? = some v := by
  refine ⟨fun q => q.elim hj fun q => ?_, by rw [at_of_list e]; exact hv⟩
  have := (List.getElem?_eq_some_iff.mp hv).1
  rw [size_of_list e] at q; omega
theorem w_caload (W : Wk p l e R s m args below meth c Z EL own ws nw T h cells slots) (hx : p.tables.exec = Jvm.exec) {a : Nat} {vs : List Value} {j : Int32} {v : Value} (F : Ary Z h a .char vs) (hj : ¬ j < 0) (hv : vs[j.toNatClampNeg]? = some v) (hd : decode c.code pc = .ok (.caload, 1)) (hp : pc + 1 = pc')
    (k : Gets p.tables e below P T (mkF m pc' Ls (v :: st))) : Gets p.tables e below P T (mkF m pc Ls (.int j :: .ref a :: st)) := by
  subst hp
  obtain ⟨vm0, k0, locs, b0, X, eT, hS, hk, hZ, hown, r⟩ := W
  obtain ⟨cl, A, e1, -, -⟩ := F
  obtain ⟨q1, q2⟩ := in_of e1 hj hv
  exact k.by fun t q => X.caload hx (by rw [eT]; exact A.1) (State.isArrayOf_alike hZ.alike A.2.1) A.2.2 q1 q2 (g := mkF m pc Ls (.int j :: .ref a :: st)) rfl rfl hd t q
theorem w_baload (W : Wk p l e R s m args below meth c Z EL own ws nw T h cells slots) (hx : p.tables.exec = Jvm.exec) {a : Nat} {vs : List Value} {j : Int32} {v : Value} (F : Ary Z h a .byte vs) (hj : ¬ j < 0) (hv : vs[j.toNatClampNeg]? = some v) (hd : decode c.code pc = .ok (.baload, 1)) (hp : pc + 1 = pc')
    (k : Gets p.tables e below P T (mkF m pc' Ls (v :: st))) : Gets p.tables e below P T (mkF m pc Ls (.int j :: .ref a :: st)) := by
  subst hp
  obtain ⟨vm0, k0, locs, b0, X, eT, hS, hk, hZ, hown, r⟩ := W
  obtain ⟨cl, A, e1, -, -⟩ := F
  obtain ⟨q1, q2⟩ := in_of e1 hj hv
  exact k.by fun t q => X.baloadBytes hx (by rw [eT]; exact A.1) (State.isArrayOf_alike hZ.alike A.2.1) A.2.2 q1 q2 (g := mkF m pc Ls (.int j :: .ref a :: st)) rfl rfl hd t q
theorem w_iaload (W : Wk p l e R s m args below meth c Z EL own ws nw T h cells slots) (hx : p.tables.exec = Jvm.exec) {a : Nat} {vs : List Value} {j : Int32} {v : Value} (F : Ary Z h a .int vs) (hj : ¬ j < 0) (hv : vs[j.toNatClampNeg]? = some v) (hd : decode c.code pc = .ok (.iaload, 1)) (hp : pc + 1 = pc')
    (k : Gets p.tables e below P T (mkF m pc' Ls (v :: st))) : Gets p.tables e below P T (mkF m pc Ls (.int j :: .ref a :: st)) := by
  subst hp
  obtain ⟨vm0, k0, locs, b0, X, eT, hS, hk, hZ, hown, r⟩ := W
  obtain ⟨cl, A, e1, -, -⟩ := F
  obtain ⟨q1, q2⟩ := in_of e1 hj hv
  exact k.by fun t q => X.iaload hx (by rw [eT]; exact A.1) (State.isArrayOf_alike hZ.alike A.2.1) A.2.2 q1 q2 (g := mkF m pc Ls (.int j :: .ref a :: st)) rfl rfl hd t q
theorem w_aaload (W : Wk p l e R s m args below meth c Z EL own ws nw T h cells slots) (hx : p.tables.exec = Jvm.exec) {a : Nat} {ty : FieldType} {vs : List Value} {j : Int32} {v : Value} (F : Ary Z h a ty vs) (hty : ty.isReference = true) (hj : ¬ j < 0) (hv : vs[j.toNatClampNeg]? = some v) (hd : decode c.code pc = .ok (.aaload, 1)) (hp : pc + 1 = pc')
    (k : Gets p.tables e below P T (mkF m pc' Ls (v :: st))) : Gets p.tables e below P T (mkF m pc Ls (.int j :: .ref a :: st)) := by
  subst hp
  obtain ⟨vm0, k0, locs, b0, X, eT, hS, hk, hZ, hown, r⟩ := W
  obtain ⟨cl, A, e1, -, -⟩ := F
  obtain ⟨q1, q2⟩ := in_of e1 hj hv
  exact k.by fun t q => X.aaload hx (by rw [eT]; exact A.1) (State.isArrayOf_alike hZ.alike A.2.1) hty A.2.2 q1 q2 (g := mkF m pc Ls (.int j :: .ref a :: st)) rfl rfl hd t q
theorem w_aaloadA (W : Wk p l e R s m args below meth c Z EL own ws nw T h cells slots) (hx : p.tables.exec = Jvm.exec) {a : Nat} {ty : FieldType} {cl : Cell} {j : Int32} {v : Value} (A : Arr Z h a cl ty) (hty : ty.isReference = true) (hin : ¬ (j < 0 ∨ cl.slots.size ≤ j.toNatClampNeg)) (hv : cl.slots[j.toNatClampNeg]? = some v) (hd : decode c.code pc = .ok (.aaload, 1)) (hp : pc + 1 = pc')
    (k : Gets p.tables e below P T (mkF m pc' Ls (v :: st))) : Gets p.tables e below P T (mkF m pc Ls (.int j :: .ref a :: st)) := by
  subst hp
  obtain ⟨vm0, k0, locs, b0, X, eT, hS, hk, hZ, hown, r⟩ := W
  exact k.by fun t q => X.aaload hx (by rw [eT]; exact A.1) (State.isArrayOf_alike hZ.alike A.2.1) hty A.2.2 hin hv (g := mkF m pc Ls (.int j :: .ref a :: st)) rfl rfl hd t q
theorem w_initO (W : Wk p l e R s m args below meth c Z EL own ws nw T h cells slots) (hx : p.tables.exec = Jvm.exec) {idx : Nat} (w1 : (Cond.methodLink own idx Lib.objectInit).before a0 Z = true) (w2 : (Cond.instanceMethod Lib.objectInit).before a0 Z = true) (w3 : (Cond.code Lib.objectInit ⟨#[0xb1]⟩ 1 none).before a0 Z = true) {a : Nat} (hsz : Ls.size = c.maxLocals) (hd : decode c.code pc = .ok (.invokespecial idx, 3)) (hf : 1 ≤ R.frames) (hW : (st.map fun v => v.category).sum + 12 ≤ R.locals) (hp : pc + 3 = pc')
    (k : ∀ T', Wk p l e R s m args below meth c Z EL own ws nw T' h cells slots → Gets p.tables e below P T' (mkF m pc' Ls st)) : Gets p.tables e below P T (mkF m pc Ls (.ref a :: st)) := by
  subst hp
  obtain ⟨vm0, k0, locs, b0, X, eT, hS, hk, hZ, hown, r⟩ := W
  obtain ⟨T', X', e', stp⟩ := initO X hx hZ hown w1 w2 w3 eT (g := mkF m pc Ls (.ref a :: st)) rfl hsz rfl hd hf (W := (st.map fun v => v.category).sum) (by show 2 * 0 + _ ≤ _; omega) hW
  exact (k T' ⟨vm0, k0, locs, b0, X', e', hS, hk, hZ, hown, r⟩).by stp
/-! steps that move the heap -/
theorem w_new (W : Wk p l e R s m args below meth c Z EL own ws nw T h cells slots) (hx : p.tables.exec = Jvm.exec) {C : String} {index n : Nat} (w : (Cond.classLink own index C).before a0 Z = true) (wi : (Cond.instantiable C n).before a0 Z = true) (wz : (Cond.initialized C).before a0 Z = true) (hd : decode c.code pc = .ok (.new index, 3)) (hc : cells + 1 ≤ R.cells) (hl : slots + n ≤ R.slots) (hp : pc + 3 = pc')
    (k : ∀ (T' : State) (h' : Heap) (b : Nat), b = h.size → Wk p l e R s m args below meth c Z EL own ws (b :: nw) T' h' (cells + 1) (slots + n) → Keep h h' [] → Exa Z h' b C → (∀ {O nm d : String} {ty : FieldType}, Laid Z a0 C O nm d → parseFieldDescriptor d = some ty → Fld Z h' b O nm d (defaultValue ty)) → Gets p.tables e below P T' (mkF m pc' Ls (.ref b :: st))) : Gets p.tables e below P T (mkF m pc Ls st) := by
  subst hp
  obtain ⟨vm0, k0, locs, b0, X, eT, hS, hk, hZ, hown, hE, hC, hF, hO, hK, n1, n2⟩ := W
  obtain ⟨T', h', X', e', E, A, D, -, stp⟩ := newO X hx hZ hown w wi wz eT (g := mkF m pc Ls st) rfl hd hc hl
  have hn : h.size < h'.size := A.lt
  have hs : s.heap.size ≤ h.size := hK.1
  refine (k T' h' h.size rfl ⟨vm0, k0, locs, b0, X', e', hS, Nat.le_trans hk E.1, hZ, hown, hE, hC.trans (CHr.ext E hC.1), hF, ⟨Nat.le_trans hO.1 E.1, fun a c q => E.2 a c (hO.2 a c q)⟩, hK.ext E, fun x hx => ?_, fun x hx => ?_⟩ ((Keep.refl h []).ext E) A D).by stp
  · obtain ⟨a, b, c⟩ := n1 x hx
    exact ⟨a, Nat.lt_of_lt_of_le b E.1, c.ext E hC.1⟩
  · rcases List.mem_cons.mp hx with rfl | hx
    · exact ⟨hs, hO.1, hn, Safe.ext E hC.1 (Safe.new (Nat.le_refl _))⟩
    · obtain ⟨a, b, c, d⟩ := n2 x hx
      exact ⟨a, b, Nat.lt_of_lt_of_le c E.1, d.ext E hC.1⟩
theorem w_newarr (W : Wk p l e R s m args below meth c Z EL own ws nw T h cells slots) (hx : p.tables.exec = Jvm.exec) {aty : ArrayType} (w : (Cond.arrayClass (newarray.typeOf aty)).before a0 Z = true) {n : Int32} (hd : decode c.code pc = .ok (.newarray aty, 2)) (hn : ¬ n < 0) {cap : Nat} (hcap : n.toNatClampNeg ≤ cap) (hb : cap * 8 ≤ 536870912) (hc : cells + 1 ≤ R.cells) (hl : slots + cap ≤ R.slots) (hf : fits (newarray.typeOf aty) (defaultValue (newarray.typeOf aty)) = true) (hp : pc + 2 = pc')
    (k : ∀ (T' : State) (h' : Heap) (b : Nat), b = h.size → Wk p l e R s m args below meth c Z EL own ws (b :: nw) T' h' (cells + 1) (slots + cap) → Keep h h' [] → Ary Z h' b (newarray.typeOf aty) (List.replicate n.toNatClampNeg (defaultValue (newarray.typeOf aty))) → Gets p.tables e below P T' (mkF m pc' Ls (.ref b :: st))) : Gets p.tables e below P T (mkF m pc Ls (.int n :: st)) := by
  subst hp
  obtain ⟨vm0, k0, locs, b0, X, eT, hS, hk, hZ, hown, hE, hC, hF, hO, hK, n1, n2⟩ := W
  obtain ⟨T', h', cA, X', e', E, A, stp⟩ := newP X hx hZ w eT (g := mkF m pc Ls (.int n :: st)) rfl hd rfl hn hcap hb hc hl
  have hn' : h.size < h'.size := A.lt
  have hs : s.heap.size ≤ h.size := hK.1
  refine (k T' h' h.size rfl ⟨vm0, k0, locs, b0, X', e', hS, Nat.le_trans hk E.1, hZ, hown, hE, hC.trans (CHr.ext E hC.1), hF, ⟨Nat.le_trans hO.1 E.1, fun a c q => E.2 a c (hO.2 a c q)⟩, hK.ext E, fun x hx => ?_, fun x hx => ?_⟩ ((Keep.refl h []).ext E) (Ary.made A hn hf)).by stp
  · obtain ⟨a, b, c⟩ := n1 x hx
    exact ⟨a, Nat.lt_of_lt_of_le b E.1, c.ext E hC.1⟩
  · rcases List.mem_cons.mp hx with rfl | hx
    · exact ⟨hs, hO.1, hn', Safe.ext E hC.1 (Safe.new (Nat.le_refl _))⟩
    · obtain ⟨a, b, c, d⟩ := n2 x hx
      exact ⟨a, b, Nat.lt_of_lt_of_le c E.1, d.ext E hC.1⟩
theorem Wk.wrote {vm0 : Vm} {k0 : Nat} {locs : List Loc} {b0 : Array Value} {T' : State} {h' : Heap} {a : Nat} {sl : Nat} {v : Value} (ha : a ∈ ws ++ nw) (WW : Wr h h' a sl v) (X' : Stand p l e R (s.setVm vm0) m args below meth c T' (locs ++ [⟨a, sl⟩]) cells slots) (e' : T'.heap = h')
    (r : s.Since vm0 k0 ∧ k0 ≤ h.size ∧ Z.Warmed39 vm0 ∧ vm0.findClass own = some m.cls ∧ EW Z b0 EL ∧ CHr Z EL s.vm s.heap vm0 h ∧ Fr Z.heap.size locs ∧ Ext Z.heap h ∧ Keep s.heap h ws ∧ (∀ x : Nat, x ∈ ws → Z.heap.size ≤ x ∧ x < h.size ∧ Safe Z EL vm0 h x) ∧ (∀ x : Nat, x ∈ nw → s.heap.size ≤ x ∧ Z.heap.size ≤ x ∧ x < h.size ∧ Safe Z EL vm0 h x)) :
    Wk p l e R s m args below meth c Z EL own ws nw T' h' cells slots := by
  obtain ⟨hS, hk, hZ, hown, hE, hC, hF, hO, hK, n1, n2⟩ := r
  have sz := WW.size
  have key : Z.heap.size ≤ a ∧ Safe Z EL vm0 h a ∧ (a ∈ ws ∨ s.heap.size ≤ a) := by
    rcases List.mem_append.mp ha with q | q
    · exact ⟨(n1 a q).1, (n1 a q).2.2, Or.inl q⟩
    · exact ⟨(n2 a q).2.1, (n2 a q).2.2.2, Or.inr (n2 a q).1⟩
  have K1 : Keep h h' [a] := Keep.of_wr WW
  refine ⟨vm0, k0, locs ++ [⟨a, sl⟩], b0, X', e', hS, by omega, hZ, hown, hE, hC.trans (CHr.wr WW key.2.1 hC.1), Fr.snoc X' hF key.1, ⟨by have := hO.1; omega, fun x cc q => K1.2.1 x cc (hO.2 x cc q) fun z => ?_⟩, hK.wr WW key.2.2, fun x hx => ?_, fun x hx => ?_⟩
  · cases List.mem_singleton.mp z
    have := (Array.getElem?_eq_some_iff.mp q).1
    omega
  · obtain ⟨q1, q2, q3⟩ := n1 x hx
    exact ⟨q1, by omega, Safe.wr WW key.2.1 hC.1 q3⟩
  · obtain ⟨q1, q2, q3, q4⟩ := n2 x hx
    exact ⟨q1, q2, by omega, Safe.wr WW key.2.1 hC.1 q4⟩
theorem w_put (W : Wk p l e R s m args below meth c Z EL own ws nw T h cells slots) (hx : p.tables.exec = Jvm.exec) {R0 O n d C : String} {index kk : Nat} {ty : FieldType} (w : (Cond.fieldLink own index R0 n d).before a0 Z = true) (via : Via Z R0 O n d) {a : Nat} {v old : Value} (F : Fld Z h a O n d old) (E : Exa Z h a C) (L : (Cond.lays C O n d).before a0 Z = true ∨ ((Cond.laysFinal C O n d).before a0 Z = true ∧ own = O ∧ meth.name = "<init>")) (wi : (Cond.instantiable C kk).before a0 Z = true)
    (hty : parseFieldDescriptor d = some ty) (hn : narrow ty v = v) (hf : fits ty v = true) (ha : a ∈ ws ++ nw) (hd : decode c.code pc = .ok (.putfield index, 3)) (hp : pc + 3 = pc')
    (k : ∀ T' h', Wk p l e R s m args below meth c Z EL own ws nw T' h' cells slots → Keep h h' [a] → Wr h h' a (Jvm.RoadKit.slotOf Z O n d) v → Fld Z h' a O n d v → Exa Z h' a C → Gets p.tables e below P T' (mkF m pc' Ls st)) : Gets p.tables e below P T (mkF m pc Ls (v :: .ref a :: st)) := by
  subst hp
  obtain ⟨vm0, k0, locs, b0, X, eT, r⟩ := W
  obtain ⟨T', h', X', e', WW, stp⟩ := putF X hx r.2.2.1 r.2.2.2.1 (host := "") (Or.inl w) via eT F E L wi hty hn hf (g := mkF m pc Ls (v :: .ref a :: st)) rfl rfl hd
  exact (k T' h' (Wk.wrote ha WW X' e' r) (Keep.of_wr WW) WW (F.same WW) (E.wr WW)).by stp
theorem w_putN (W : Wk p l e R s m args below meth c Z EL own ws nw T h cells slots) (hx : p.tables.exec = Jvm.exec) {R0 O n d C : String} {index kk : Nat} {ty : FieldType} (w : (Cond.fieldLink own index R0 n d).before a0 Z = true) (via : Via Z R0 O n d) {a : Nat} {v v' old : Value} (F : Fld Z h a O n d old) (E : Exa Z h a C) (L : (Cond.lays C O n d).before a0 Z = true ∨ ((Cond.laysFinal C O n d).before a0 Z = true ∧ own = O ∧ meth.name = "<init>")) (wi : (Cond.instantiable C kk).before a0 Z = true)
    (hty : parseFieldDescriptor d = some ty) (hn : narrow ty v = v') (hf : fits ty v' = true) (ha : a ∈ ws ++ nw) (hd : decode c.code pc = .ok (.putfield index, 3)) (hp : pc + 3 = pc')
    (k : ∀ T' h', Wk p l e R s m args below meth c Z EL own ws nw T' h' cells slots → Keep h h' [a] → Wr h h' a (Jvm.RoadKit.slotOf Z O n d) v' → Fld Z h' a O n d v' → Exa Z h' a C → Gets p.tables e below P T' (mkF m pc' Ls st)) : Gets p.tables e below P T (mkF m pc Ls (v :: .ref a :: st)) := by
  subst hp
  obtain ⟨vm0, k0, locs, b0, X, eT, r⟩ := W
  obtain ⟨T', h', X', e', WW, stp⟩ := putFN X hx r.2.2.1 r.2.2.2.1 w via eT F E L wi hty hn hf (g := mkF m pc Ls (v :: .ref a :: st)) rfl rfl hd
  exact (k T' h' (Wk.wrote ha WW X' e' r) (Keep.of_wr WW) WW (F.same WW) (E.wr WW)).by stp
theorem w_castore (W : Wk p l e R s m args below meth c Z EL own ws nw T h cells slots) (hx : p.tables.exec = Jvm.exec) {a : Nat} {vs : List Value} {j x : Int32} (F : Ary Z h a .char vs) (hj : ¬ j < 0) (hi : j.toNatClampNeg < vs.length) (ha : a ∈ ws ++ nw) {x' : Int32} (hq : nar .char x = x') (hd : decode c.code pc = .ok (.castore, 1)) (hp : pc + 1 = pc')
    (k : ∀ T' h', Wk p l e R s m args below meth c Z EL own ws nw T' h' cells slots → Keep h h' [a] → Ary Z h' a .char (vs.set j.toNatClampNeg (.int x')) → Gets p.tables e below P T' (mkF m pc' Ls st)) : Gets p.tables e below P T (mkF m pc Ls (.int x :: .int j :: .ref a :: st)) := by
  subst hp; subst hq
  obtain ⟨vm0, k0, locs, b0, X, eT, r⟩ := W
  obtain ⟨cl, A, e1, e2, e3⟩ := F
  obtain ⟨T', h', X', e', WW, stp⟩ := stC X hx r.2.2.1 eT A (j := j) (x := x) (fun q => q.elim hj fun q => by rw [size_of_list e1] at q; omega) (g := mkF m pc Ls (.int x :: .int j :: .ref a :: st)) rfl rfl hd
  exact (k T' h' (Wk.wrote ha WW X' e' r) (Keep.of_wr WW) (Ary.wrote A e1 e2 e3 (fits_nar_char x) WW)).by stp
theorem w_bastore (W : Wk p l e R s m args below meth c Z EL own ws nw T h cells slots) (hx : p.tables.exec = Jvm.exec) {a : Nat} {vs : List Value} {j x : Int32} (F : Ary Z h a .byte vs) (hj : ¬ j < 0) (hi : j.toNatClampNeg < vs.length) (ha : a ∈ ws ++ nw) {x' : Int32} (hq : x.toInt8.toInt32 = x') (hd : decode c.code pc = .ok (.bastore, 1)) (hp : pc + 1 = pc')
    (k : ∀ T' h', Wk p l e R s m args below meth c Z EL own ws nw T' h' cells slots → Keep h h' [a] → Ary Z h' a .byte (vs.set j.toNatClampNeg (.int x')) → Gets p.tables e below P T' (mkF m pc' Ls st)) : Gets p.tables e below P T (mkF m pc Ls (.int x :: .int j :: .ref a :: st)) := by
  subst hp; subst hq
  obtain ⟨vm0, k0, locs, b0, X, eT, r⟩ := W
  obtain ⟨cl, A, e1, e2, e3⟩ := F
  obtain ⟨T', h', X', e', WW, stp⟩ := stB X hx r.2.2.1 eT A (j := j) (x := x) (fun q => q.elim hj fun q => by rw [size_of_list e1] at q; omega) (g := mkF m pc Ls (.int x :: .int j :: .ref a :: st)) rfl rfl hd
  exact (k T' h' (Wk.wrote ha WW X' e' r) (Keep.of_wr WW) (Ary.wrote A e1 e2 e3 (fits_nar_byte x) WW)).by stp
theorem w_iastore (W : Wk p l e R s m args below meth c Z EL own ws nw T h cells slots) (hx : p.tables.exec = Jvm.exec) {a : Nat} {vs : List Value} {j x : Int32} (F : Ary Z h a .int vs) (hj : ¬ j < 0) (hi : j.toNatClampNeg < vs.length) (ha : a ∈ ws ++ nw) (hd : decode c.code pc = .ok (.iastore, 1)) (hp : pc + 1 = pc')
    (k : ∀ T' h', Wk p l e R s m args below meth c Z EL own ws nw T' h' cells slots → Keep h h' [a] → Ary Z h' a .int (vs.set j.toNatClampNeg (.int x)) → Gets p.tables e below P T' (mkF m pc' Ls st)) : Gets p.tables e below P T (mkF m pc Ls (.int x :: .int j :: .ref a :: st)) := by
  subst hp
  obtain ⟨vm0, k0, locs, b0, X, eT, r⟩ := W
  obtain ⟨cl, A, e1, e2, e3⟩ := F
  obtain ⟨T', h', X', e', WW, stp⟩ := stI X hx r.2.2.1 eT A (j := j) (x := x) (fun q => q.elim hj fun q => by rw [size_of_list e1] at q; omega) (g := mkF m pc Ls (.int x :: .int j :: .ref a :: st)) rfl rfl hd
  exact (k T' h' (Wk.wrote ha WW X' e' r) (Keep.of_wr WW) (Ary.wrote A e1 e2 e3 rfl WW)).by stp
/-! calls -/
theorem backC {y : MethodName} {bytes : ByteArray} {maxL : Nat} {ret : Option FieldType} {rm : Room} {len W : Nat} {as' : Array Value} {Q : Option Value → Heap → Prop} {vm0 : Vm} {wsc : List Addr}
    (hM : Con l Z EL y bytes maxL ret rm as' h wsc Q) (hZ : Z.Warmed39 vm0) (wc : (Cond.code y bytes maxL ret).before a0 Z = true) (wz : (Cond.initialized y.cls).before a0 Z = true) (hf : rm.frames + 1 ≤ R.frames) (hl : W + (maxL + 11) + rm.locals ≤ R.locals) {b0 : Array Value} (hEL : EW Z b0 EL) (H : CHv Z EL vm0 h) (hs : ∀ x : Nat, x ∈ wsc → x < h.size ∧ Safe Z EL vm0 h x) :
    BackS l R p e below (s.setVm vm0) args y len W (fun A a => a = as' ∧ A.U.heap = h ∧ A.cells + rm.cells ≤ R.cells ∧ A.slots + rm.slots ≤ R.slots)
      (fun A _ v B => ∃ L, (Q v B.U.heap ∧ Fr Z.heap.size L ∧ Keep h B.U.heap wsc ∧ Ext Z.heap B.U.heap) ∧ B.locs = A.locs ++ L ∧ B.cells = A.cells + rm.cells ∧ B.slots = A.slots + rm.slots ∧ CHr Z EL vm0 h B.U.vm B.U.heap) :=
  BackS.of_freeW (bytes := bytes) (maxL := maxL) (ret := ret) (E := fun _ first o t L k n => k = rm.cells ∧ n = rm.slots ∧ (∃ v, o = .returned v ∧ (Q v t.heap ∧ Fr Z.heap.size L ∧ Keep h t.heap wsc ∧ Ext Z.heap t.heap)) ∧ CHr Z EL first.vm first.heap t.vm t.heap) hM hf hl
    (fun m meth c A a Y hp => have hU : Z.Warmed39 A.U.vm := wtrans (s := s.setVm vm0) hZ Y.warmed
      ⟨by show (Cond.and _ .tt).before a A.U = true; rw [Cond.before_and, mv hU wc]; rfl, mv hU wc, mv hU wz, hp.2.2.1, hp.2.2.2⟩)
    (fun m meth c A a g mk Y hp => ⟨hp.1, wtrans (s := s.setVm vm0) hZ Y.warmed, hp.2.1, (CHv.at Y hZ hEL H).1, fun x hx => (CHv.at Y hZ hEL H).safe (hs x hx).1 (hs x hx).2⟩) (fun _ _ _ _ _ _ _ _ _ => trivial)
    (fun _ _ _ _ ⟨v, L, h1, h2, h3, h4⟩ => ⟨L, _, _, h4, rfl, rfl, ⟨v, h1, h2⟩, h3⟩)
    (fun m meth c A a g mk v t L k n Y hp _ _ ⟨e1, e2, ⟨v', e3, e4⟩, e5⟩ => by
      cases e3; subst e1 e2
      refine ⟨L, e4, rfl, rfl, rfl, (CHv.at Y hZ hEL H).trans ?_⟩
      rw [← hp.2.1]; exact e5)
theorem Wk.called {vm0 : Vm} {k0 : Nat} {locs L : List Loc} {b0 : Array Value} {T' : State} {h' : Heap} {wsc : List Addr} {n c' s' : Nat} (hw : ∀ x ∈ wsc, x ∈ ws ++ nw) (X' : Stand p l e R ((s.setVm vm0).setVm T'.vm) m args below meth c T' (locs ++ L) c' s') (e' : T'.heap = h') (h2 : (s.setVm vm0).Since T'.vm n) (hn : n ≤ h'.size) (hln : h.size ≤ n) (F : Fr Z.heap.size L) (K : Keep h h' wsc) (O' : Ext Z.heap h') (C' : CHr Z EL vm0 h T'.vm h')
    (r : s.Since vm0 k0 ∧ k0 ≤ h.size ∧ Z.Warmed39 vm0 ∧ vm0.findClass own = some m.cls ∧ EW Z b0 EL ∧ CHr Z EL s.vm s.heap vm0 h ∧ Fr Z.heap.size locs ∧ Ext Z.heap h ∧ Keep s.heap h ws ∧ (∀ x : Nat, x ∈ ws → Z.heap.size ≤ x ∧ x < h.size ∧ Safe Z EL vm0 h x) ∧ (∀ x : Nat, x ∈ nw → s.heap.size ≤ x ∧ Z.heap.size ≤ x ∧ x < h.size ∧ Safe Z EL vm0 h x)) :
    Wk p l e R s m args below meth c Z EL own ws nw T' h' c' s' := by
  obtain ⟨hS, hk, hZ, hown, hE, hC, hF, hO, hK, n1, n2⟩ := r
  have sz := K.1
  refine ⟨T'.vm, n, locs ++ L, b0, X', e', hS.trans h2 (by omega), hn, State.Warmed39.trans (t := s.setVm vm0) hZ h2.1, (h2.1.alike.findClass _ _).trans hown, hE, hC.trans C', Fr.app hF F, O', hK.trans K (fun x hx => ?_), fun x hx => ?_, fun x hx => ?_⟩
  · rcases List.mem_append.mp (hw x hx) with q | q
    · exact Or.inl q
    · exact Or.inr (n2 x q).1
  · obtain ⟨q1, q2, q3⟩ := n1 x hx
    exact ⟨q1, by omega, C'.safe q2 q3⟩
  · obtain ⟨q1, q2, q3, q4⟩ := n2 x hx
    exact ⟨q1, q2, by omega, C'.safe q3 q4⟩
theorem w_callS (W : Wk p l e R s m args below meth c Z EL own ws nw T h cells slots) (hx : p.tables.exec = Jvm.exec) {index : Nat} {y : MethodName} {bytes : ByteArray} {maxL : Nat} {ret : Option FieldType} {rm : Room} {Q : Option Value → Heap → Prop} {wsc : List Addr} (argsL : List Value)
    (w1 : (Cond.methodLink own index y).before a0 Z = true) (w2 : (Cond.static y).before a0 Z = true) (w3 : (Cond.initialized y.cls).before a0 Z = true) (w4 : (Cond.code y bytes maxL ret).before a0 Z = true) (hy : y.cls ≠ "java/lang/invoke/MethodHandle" ∧ y.cls ≠ "java/lang/invoke/VarHandle")
    (H : Con l Z EL y bytes maxL ret rm argsL.toArray h wsc Q) (hwc : ∀ x ∈ wsc, x ∈ ws ++ nw) (hsz : Ls.size = c.maxLocals) (hlen : ∀ sig, parseMethodDescriptor y.desc = some sig → argsL.length = sig.parameters.length) {stk : List Value} (hstk : stk = argsL.reverse ++ st) (hd : decode c.code pc = .ok (.invokestatic index, 3))
    (hf : rm.frames + 1 ≤ R.frames) (hl : (st.map fun v => v.category).sum + (maxL + 11) + rm.locals ≤ R.locals) (hc : cells + rm.cells ≤ R.cells) (hs : slots + rm.slots ≤ R.slots) (hp : pc + 3 = pc')
    (k : ∀ v T' h', Wk p l e R s m args below meth c Z EL own ws nw T' h' (cells + rm.cells) (slots + rm.slots) → Keep h h' wsc → Q v h' → Gets p.tables e below P T' (mkF m pc' Ls (v.toList ++ st))) : Gets p.tables e below P T (mkF m pc Ls stk) := by
  subst hp
  obtain ⟨vm0, k0, locs, b0, X, eT, r⟩ := W
  obtain ⟨hS, hk, hZ, hown, hE, hC, hF, hO, hK, n1, n2⟩ := id r
  have sf : ∀ x : Nat, x ∈ wsc → x < h.size ∧ Safe Z EL vm0 h x := fun x hx => by
    rcases List.mem_append.mp (hwc x hx) with q | q
    · exact (n1 x q).2
    · exact (n2 x q).2.2
  obtain ⟨v, vm1, ⟨T', L', c', s'⟩, -, X', hS2, hg2, ⟨L, ⟨q1, q2, q3, q4⟩, l1, l2, l3, C'⟩, stp⟩ := callSS X hx (y := y) hown (mv (s := s.setVm vm0) hZ w1) (mv (s := s.setVm vm0) hZ w2) (mv (s := s.setVm vm0) hZ w3) (mv (s := s.setVm vm0) hZ w4) hy (backC (W := (st.map fun v => v.category).sum) H hZ w4 w3 hf hl hE hC.1 sf) (g := mkF m pc Ls stk) rfl hsz (argsL := argsL) (rest := st) hlen hstk (by show 2 * 0 + _ ≤ _; omega) hd (fun _ _ => ⟨rfl, eT, hc, hs⟩)
  dsimp only [Pt.U, Pt.locs, Pt.cells, Pt.slots] at X' hS2 hg2 q1 q3 q4 l1 l2 l3 C' stp
  subst l1 l2 l3
  exact (k v T' _ (Wk.called (h' := T'.heap) hwc X' rfl hS2 (Nat.le_refl _) (by rw [← eT]; exact hg2) q2 q3 q4 C' r) q3 q1).by fun t q => stp.trans q
theorem w_special (W : Wk p l e R s m args below meth c Z EL own ws nw T h cells slots) (hx : p.tables.exec = Jvm.exec) {index : Nat} {y : MethodName} {bytes : ByteArray} {maxL : Nat} {rm : Room} {Q : Option Value → Heap → Prop} {wsc : List Addr} {a : Nat} (argsL : List Value) (hy1 : y.name = "<init>")
    (w1 : (Cond.methodLink own index y).before a0 Z = true) (w2 : (Cond.instanceMethod y).before a0 Z = true) (w3 : (Cond.initialized y.cls).before a0 Z = true) (w4 : (Cond.code y bytes maxL none).before a0 Z = true) (hy : y.cls ≠ "java/lang/invoke/MethodHandle" ∧ y.cls ≠ "java/lang/invoke/VarHandle")
    (H : Con l Z EL y bytes maxL none rm (.ref a :: argsL).toArray h wsc Q) (hwc : ∀ x ∈ wsc, x ∈ ws ++ nw) (hsz : Ls.size = c.maxLocals) (hlen : ∀ sig, parseMethodDescriptor y.desc = some sig → argsL.length = sig.parameters.length) {stk : List Value} (hstk : stk = argsL.reverse ++ .ref a :: st) (hd : decode c.code pc = .ok (.invokespecial index, 3))
    (hf : rm.frames + 1 ≤ R.frames) (hl : (st.map fun v => v.category).sum + (maxL + 11) + rm.locals ≤ R.locals) (hc : cells + rm.cells ≤ R.cells) (hs : slots + rm.slots ≤ R.slots) (hp : pc + 3 = pc')
    (k : ∀ v T' h', Wk p l e R s m args below meth c Z EL own ws nw T' h' (cells + rm.cells) (slots + rm.slots) → Keep h h' wsc → Q v h' → Gets p.tables e below P T' (mkF m pc' Ls (v.toList ++ st))) : Gets p.tables e below P T (mkF m pc Ls stk) := by
  subst hp
  obtain ⟨vm0, k0, locs, b0, X, eT, r⟩ := W
  obtain ⟨hS, hk, hZ, hown, hE, hC, hF, hO, hK, n1, n2⟩ := id r
  have sf : ∀ x : Nat, x ∈ wsc → x < h.size ∧ Safe Z EL vm0 h x := fun x hx => by
    rcases List.mem_append.mp (hwc x hx) with q | q
    · exact (n1 x q).2
    · exact (n2 x q).2.2
  obtain ⟨v, vm1, ⟨T', L', c', s'⟩, -, X', hS2, hg2, ⟨L, ⟨q1, q2, q3, q4⟩, l1, l2, l3, C'⟩, stp⟩ := X.specialBackS hx (y := y) hy1 hown (mv (s := s.setVm vm0) hZ w1) (mv (s := s.setVm vm0) hZ w2) (mv (s := s.setVm vm0) hZ w4) hy (backC (W := (st.map fun v => v.category).sum) H hZ w4 w3 hf hl hE hC.1 sf) (g := mkF m pc Ls stk) rfl hsz (Steps.refl _) (a := a) (argsL := argsL) (rest := st) hlen hstk (by show 2 * 0 + _ ≤ _; omega) hd (fun _ _ => ⟨rfl, eT, hc, hs⟩)
  dsimp only [Pt.U, Pt.locs, Pt.cells, Pt.slots] at X' hS2 hg2 q1 q3 q4 l1 l2 l3 C' stp
  subst l1 l2 l3
  exact (k v T' _ (Wk.called (h' := T'.heap) hwc X' rfl hS2 (Nat.le_refl _) (by rw [← eT]; exact hg2) q2 q3 q4 C' r) q3 q1).by fun t q => stp.trans q
theorem w_virtual (W : Wk p l e R s m args below meth c Z EL own ws nw T h cells slots) (hx : p.tables.exec = Jvm.exec) {index : Nat} {y z : MethodName} {C : String} {bytes : ByteArray} {maxL : Nat} {ret : Option FieldType} {rm : Room} {Q : Option Value → Heap → Prop} {wsc : List Addr} {a : Nat} (argsL : List Value)
    (w1 : (Cond.methodLink own index y).before a0 Z = true) (w2 : (Cond.declares y).before a0 Z = true) (hnf : ∀ {U : State}, Z.Warmed39 U.vm → NotFace U y) (w3 : (Cond.selects C y z).before a0 Z = true) (w5 : (Cond.instanceMethod z).before a0 Z = true) (w6 : (Cond.initialized z.cls).before a0 Z = true) (w4 : (Cond.code z bytes maxL ret).before a0 Z = true) (hy : y.cls ≠ "java/lang/invoke/MethodHandle" ∧ y.cls ≠ "java/lang/invoke/VarHandle")
    (H : Con l Z EL z bytes maxL ret rm (.ref a :: argsL).toArray h wsc Q) (E : Exa Z h a C) (hwc : ∀ x ∈ wsc, x ∈ ws ++ nw) (hsz : Ls.size = c.maxLocals) (hlen : ∀ sig, parseMethodDescriptor y.desc = some sig → argsL.length = sig.parameters.length) {stk : List Value} (hstk : stk = argsL.reverse ++ .ref a :: st) (hd : decode c.code pc = .ok (.invokevirtual index, 3))
    (hf : rm.frames + 1 ≤ R.frames) (hl : (st.map fun v => v.category).sum + (maxL + 11) + rm.locals ≤ R.locals) (hc : cells + rm.cells ≤ R.cells) (hs : slots + rm.slots ≤ R.slots) (hp : pc + 3 = pc')
    (k : ∀ v T' h', Wk p l e R s m args below meth c Z EL own ws nw T' h' (cells + rm.cells) (slots + rm.slots) → Keep h h' wsc → Q v h' → Gets p.tables e below P T' (mkF m pc' Ls (v.toList ++ st))) : Gets p.tables e below P T (mkF m pc Ls stk) := by
  subst hp
  obtain ⟨vm0, k0, locs, b0, X, eT, r⟩ := W
  obtain ⟨hS, hk, hZ, hown, hE, hC, hF, hO, hK, n1, n2⟩ := id r
  have sf : ∀ x : Nat, x ∈ wsc → x < h.size ∧ Safe Z EL vm0 h x := fun x hx => by
    rcases List.mem_append.mp (hwc x hx) with q | q
    · exact (n1 x q).2
    · exact (n2 x q).2.2
  obtain ⟨cq, kq, qa, qb, qc⟩ := isOf (s := s.setVm vm0) hZ eT E
  obtain ⟨v, vm1, ⟨T', L', c', s'⟩, -, X', hS2, hg2, ⟨L, ⟨q1, q2, q3, q4⟩, l1, l2, l3, C'⟩, stp⟩ := X.virtualBackS hx (y := y) (z := z) hown (mv (s := s.setVm vm0) hZ w1) (mv (s := s.setVm vm0) hZ w2) (hnf (U := s.setVm vm0) hZ) (mv (s := s.setVm vm0) hZ w3) (mv (s := s.setVm vm0) hZ w5) hy (backC (W := (st.map fun v => v.category).sum) H hZ w4 w6 hf hl hE hC.1 sf) qa qc (g := mkF m pc Ls stk) rfl hsz (Steps.refl _) (argsL := argsL) (rest := st) hlen hstk (by show 2 * 0 + _ ≤ _; omega) hd (fun _ _ => ⟨rfl, eT, hc, hs⟩)
  dsimp only [Pt.U, Pt.locs, Pt.cells, Pt.slots] at X' hS2 hg2 q1 q3 q4 l1 l2 l3 C' stp
  subst l1 l2 l3
  exact (k v T' _ (Wk.called (h' := T'.heap) hwc X' rfl hS2 (Nat.le_refl _) (by rw [← eT]; exact hg2) q2 q3 q4 C' r) q3 q1).by fun t q => stp.trans q
theorem w_virtualUp (W : Wk p l e R s m args below meth c Z EL own ws nw T h cells slots) (hx : p.tables.exec = Jvm.exec) {index : Nat} {y z : MethodName} {C owner : String} {bytes : ByteArray} {maxL : Nat} {ret : Option FieldType} {rm : Room} {Q : Option Value → Heap → Prop} {wsc : List Addr} {a : Nat} (argsL : List Value)
    (w1 : (Cond.methodLink own index y).before a0 Z = true) (w7 : (Cond.sameMethod y.cls owner y.name y.desc).before a0 Z = true) (w2 : (Cond.declares ⟨owner, y.name, y.desc⟩).before a0 Z = true) (w3 : (Cond.selects C y z).before a0 Z = true) (w5 : (Cond.instanceMethod z).before a0 Z = true) (w6 : (Cond.initialized z.cls).before a0 Z = true) (w4 : (Cond.code z bytes maxL ret).before a0 Z = true) (hy : owner ≠ "java/lang/invoke/MethodHandle" ∧ owner ≠ "java/lang/invoke/VarHandle")
    (H : Con l Z EL z bytes maxL ret rm (.ref a :: argsL).toArray h wsc Q) (E : Exa Z h a C) (hwc : ∀ x ∈ wsc, x ∈ ws ++ nw) (hsz : Ls.size = c.maxLocals) (hlen : ∀ sig, parseMethodDescriptor y.desc = some sig → argsL.length = sig.parameters.length) {stk : List Value} (hstk : stk = argsL.reverse ++ .ref a :: st) (hd : decode c.code pc = .ok (.invokevirtual index, 3))
    (hf : rm.frames + 1 ≤ R.frames) (hl : (st.map fun v => v.category).sum + (maxL + 11) + rm.locals ≤ R.locals) (hc : cells + rm.cells ≤ R.cells) (hs : slots + rm.slots ≤ R.slots) (hp : pc + 3 = pc')
    (k : ∀ v T' h', Wk p l e R s m args below meth c Z EL own ws nw T' h' (cells + rm.cells) (slots + rm.slots) → Keep h h' wsc → Q v h' → Gets p.tables e below P T' (mkF m pc' Ls (v.toList ++ st))) : Gets p.tables e below P T (mkF m pc Ls stk) := by
  subst hp
  obtain ⟨vm0, k0, locs, b0, X, eT, r⟩ := W
  obtain ⟨hS, hk, hZ, hown, hE, hC, hF, hO, hK, n1, n2⟩ := id r
  have sf : ∀ x : Nat, x ∈ wsc → x < h.size ∧ Safe Z EL vm0 h x := fun x hx => by
    rcases List.mem_append.mp (hwc x hx) with q | q
    · exact (n1 x q).2
    · exact (n2 x q).2.2
  obtain ⟨cq, kq, qa, qb, qc⟩ := isOf (s := s.setVm vm0) hZ eT E
  obtain ⟨v, vm1, ⟨T', L', c', s'⟩, -, X', hS2, hg2, ⟨L, ⟨q1, q2, q3, q4⟩, l1, l2, l3, C'⟩, stp⟩ := X.virtualBackUpS hx (x := y) (y := z) hown (mv (s := s.setVm vm0) hZ w1) (mv (s := s.setVm vm0) hZ w7) (mv (s := s.setVm vm0) hZ w2) hy (mv (s := s.setVm vm0) hZ w3) (mv (s := s.setVm vm0) hZ w5) (backC (W := (st.map fun v => v.category).sum) H hZ w4 w6 hf hl hE hC.1 sf) qa qc (g := mkF m pc Ls stk) rfl hsz (Steps.refl _) (argsL := argsL) (rest := st) hlen hstk (by show 2 * 0 + _ ≤ _; omega) hd (fun _ _ => ⟨rfl, eT, hc, hs⟩)
  dsimp only [Pt.U, Pt.locs, Pt.cells, Pt.slots] at X' hS2 hg2 q1 q3 q4 l1 l2 l3 C' stp
  subst l1 l2 l3
  exact (k v T' _ (Wk.called (h' := T'.heap) hwc X' rfl hS2 (Nat.le_refl _) (by rw [← eT]; exact hg2) q2 q3 q4 C' r) q3 q1).by fun t q => stp.trans q
theorem nfS {y z : MethodName} {C : String} (w : (Cond.selects C y y).before a0 Z = true) {U : State} (hZ : Z.Warmed39 U.vm) : NotFace U y := notFace_of_selects (args := #[]) (mv hZ w)
theorem w_iface (W : Wk p l e R s m args below meth c Z EL own ws nw T h cells slots) (hx : p.tables.exec = Jvm.exec) {index count : Nat} {y z : MethodName} {C : String} {bytes : ByteArray} {maxL : Nat} {ret : Option FieldType} {rm : Room} {Q : Option Value → Heap → Prop} {wsc : List Addr} {a : Nat} (argsL : List Value)
    (w1 : (Cond.methodLink own index y).before a0 Z = true) (w2 : (Cond.declares y).before a0 Z = true) (w7 : (Cond.interfaceMethod y.cls y.cls y.name y.desc).before a0 Z = true) (w3 : (Cond.selects C y z).before a0 Z = true) (w5 : (Cond.instanceMethod z).before a0 Z = true) (w8 : (Cond.publicMethod z).before a0 Z = true) (w9 : (Cond.unhidden C y.name y.desc).before a0 Z = true) (w10 : (Cond.castable C y.cls).before a0 Z = true) (w6 : (Cond.initialized z.cls).before a0 Z = true) (w4 : (Cond.code z bytes maxL ret).before a0 Z = true) (hy : y.cls ≠ "java/lang/invoke/MethodHandle" ∧ y.cls ≠ "java/lang/invoke/VarHandle")
    (H : Con l Z EL z bytes maxL ret rm (.ref a :: argsL).toArray h wsc Q) (E : Exa Z h a C) (hwc : ∀ x ∈ wsc, x ∈ ws ++ nw) (hsz : Ls.size = c.maxLocals) (hlen : ∀ sig, parseMethodDescriptor y.desc = some sig → argsL.length = sig.parameters.length) {stk : List Value} (hstk : stk = argsL.reverse ++ .ref a :: st) (hd : decode c.code pc = .ok (.invokeinterface index count, 5))
    (hf : rm.frames + 1 ≤ R.frames) (hl : (st.map fun v => v.category).sum + (maxL + 11) + rm.locals ≤ R.locals) (hc : cells + rm.cells ≤ R.cells) (hs : slots + rm.slots ≤ R.slots) (hp : pc + 5 = pc')
    (k : ∀ v T' h', Wk p l e R s m args below meth c Z EL own ws nw T' h' (cells + rm.cells) (slots + rm.slots) → Keep h h' wsc → Q v h' → Gets p.tables e below P T' (mkF m pc' Ls (v.toList ++ st))) : Gets p.tables e below P T (mkF m pc Ls stk) := by
  subst hp
  obtain ⟨vm0, k0, locs, b0, X, eT, r⟩ := W
  obtain ⟨hS, hk, hZ, hown, hE, hC, hF, hO, hK, n1, n2⟩ := id r
  have sf : ∀ x : Nat, x ∈ wsc → x < h.size ∧ Safe Z EL vm0 h x := fun x hx => by
    rcases List.mem_append.mp (hwc x hx) with q | q
    · exact (n1 x q).2
    · exact (n2 x q).2.2
  obtain ⟨cq, kq, qa, qb, qc⟩ := isOf (s := s.setVm vm0) hZ eT E
  obtain ⟨v, vm1, ⟨T', L', c', s'⟩, -, X', hS2, hg2, ⟨L, ⟨q1, q2, q3, q4⟩, l1, l2, l3, C'⟩, stp⟩ := X.interfaceBackS hx (xi := y) (y := z) hown (mv (s := s.setVm vm0) hZ w1) (mv (s := s.setVm vm0) hZ w2) (mv (s := s.setVm vm0) hZ w7 (by simp [Cond.onTables, Cond.keepsFace, Cond.keeps, Cond.steady, Cond.faceAtom, hy.1, hy.2])) (mv (s := s.setVm vm0) hZ w3) (mv (s := s.setVm vm0) hZ w5) (mv (s := s.setVm vm0) hZ w8) (mv (s := s.setVm vm0) hZ w9) (mv (s := s.setVm vm0) hZ w10) hy (backC (W := (st.map fun v => v.category).sum) H hZ w4 w6 hf hl hE hC.1 sf) qa qb qc (g := mkF m pc Ls stk) rfl hsz (Steps.refl _) (argsL := argsL) (rest := st) hlen hstk (by show 2 * 0 + _ ≤ _; omega) hd (fun _ _ => ⟨rfl, eT, hc, hs⟩)
  dsimp only [Pt.U, Pt.locs, Pt.cells, Pt.slots] at X' hS2 hg2 q1 q3 q4 l1 l2 l3 C' stp
  subst l1 l2 l3
  exact (k v T' _ (Wk.called (h' := T'.heap) hwc X' rfl hS2 (Nat.le_refl _) (by rw [← eT]; exact hg2) q2 q3 q4 C' r) q3 q1).by fun t q => stp.trans q
/-! String constants -/
theorem w_ldcS (W : Wk p l e R s m args below meth c Z EL own ws nw T h cells slots) (hx : p.tables.exec = Jvm.exec) {index : Nat} {text : String} (w : (Cond.stringLink own index text).before a0 Z = true) (wS : ∀ a ∈ Bundle.stringAtoms, a.before a0 Z = true) (hmem : (own, index) ∈ EL) {vs : List Value} {z : Int32} (ht : (∀ c ∈ text.toList, c.toNat < 256) ∧ text.toList.map (fun c => Value.int (Jvm.Lit.byteI c.toNat.toUInt16)) = vs) (hz : ¬ z < 0) (hzl : z.toNatClampNeg = vs.length)
    (hd : decode c.code pc = .ok (.ldc index, 2)) (n : Nat) (hn : 4 * text.toList.length ≤ n) (hbig : n ≤ 536870912) (hc : cells + 2 ≤ R.cells) (hl : slots + (n + 4) ≤ R.slots) (hp : pc + 2 = pc')
    (k : ∀ (T' : State) (h' : Heap) (a b : Nat), Wk p l e R s m args below meth c Z EL own ws nw T' h' (cells + 2) (slots + (n + 4)) → Keep h h' [] → Exa Z h' a "java/lang/String" → Fld Z h' a "java/lang/String" "coder" "B" (.int 0) → Fld Z h' a "java/lang/String" "value" "[B" (.ref b) → Ary Z h' b .byte vs → (∀ x ∈ ws ++ nw, x ≠ a ∧ x ≠ b) → Gets p.tables e below P T' (mkF m pc' Ls (.ref a :: st))) : Gets p.tables e below P T (mkF m pc Ls st) := by
  subst hp
  obtain ⟨vm0, k0, locs, b0, X, eT, hS, hk, hZ, hown, hE, hC, hF, hO, hK, n1, n2⟩ := W
  obtain ⟨a, T', h', k1, b, cb, X', e', E, hS2, hk2, hZ2, hown2, A, F1, F2, V, la, lb, C', -, hne, stp⟩ := ldcCH X hx hZ hown w wS eT hS hk hE hmem hC.1 ht hz hzl (g := mkF m pc Ls st) rfl hd hn hbig hc hl
  have sz := E.1
  have N1 : ∀ x : Nat, x ∈ ws → Z.heap.size ≤ x ∧ x < h'.size ∧ Safe Z EL T'.vm h' x := fun x hx => by
    obtain ⟨q1, q2, q3⟩ := n1 x hx
    exact ⟨q1, by omega, C'.safe q2 q3⟩
  have N2 : ∀ x : Nat, x ∈ nw → s.heap.size ≤ x ∧ Z.heap.size ≤ x ∧ x < h'.size ∧ Safe Z EL T'.vm h' x := fun x hx => by
    obtain ⟨q1, q2, q3, q4⟩ := n2 x hx
    exact ⟨q1, q2, by omega, C'.safe q3 q4⟩
  refine (k T' h' a b ⟨T'.vm, k1, locs, b0, X', e', hS2, hk2, hZ2, hown2, hE, hC.trans C', hF, ⟨Nat.le_trans hO.1 E.1, fun x cc q => E.2 x cc (hO.2 x cc q)⟩, hK.ext E, N1, N2⟩ ((Keep.refl h []).ext E) A F1 F2 (Ary.of_arv V hzl) fun x hx => ?_).by stp
  rcases List.mem_append.mp hx with q | q
  · exact hne x (N1 x q).2.2
  · exact hne x (N2 x q).2.2.2
theorem w_ldcO (W : Wk p l e R s m args below meth c Z EL own ws nw T h cells slots) (hx : p.tables.exec = Jvm.exec) {index : Nat} {text : String} (w : (Cond.stringLink own index text).before a0 Z = true) (wS : ∀ a ∈ Bundle.stringAtoms, a.before a0 Z = true)
    (hd : decode c.code pc = .ok (.ldc index, 2)) (n : Nat) (hn : 4 * text.toList.length ≤ n) (hbig : n ≤ 536870912) (hc : cells + 2 ≤ R.cells) (hl : slots + (n + 4) ≤ R.slots) (hp : pc + 2 = pc')
    (k : ∀ (T' : State) (h' : Heap) (a : Nat), Wk p l e R s m args below meth c Z EL own ws nw T' h' (cells + 2) (slots + (n + 4)) → Keep h h' [] → Gets p.tables e below P T' (mkF m pc' Ls (.ref a :: st))) : Gets p.tables e below P T (mkF m pc Ls st) := by
  subst hp
  obtain ⟨vm0, k0, locs, b0, X, eT, hS, hk, hZ, hown, hE, hC, hF, hO, hK, n1, n2⟩ := W
  obtain ⟨a, T', h', k1, X', e', E, hS2, hk2, hZ2, hown2, C', -, stp⟩ := ldcOH X hx hZ hown w wS eT hS hk hE hC.1 (g := mkF m pc Ls st) rfl hd hn hbig hc hl
  have sz := E.1
  refine (k T' h' a ⟨T'.vm, k1, locs, b0, X', e', hS2, hk2, hZ2, hown2, hE, hC.trans C', hF, ⟨Nat.le_trans hO.1 E.1, fun x cc q => E.2 x cc (hO.2 x cc q)⟩, hK.ext E, fun x hx => ?_, fun x hx => ?_⟩ ((Keep.refl h []).ext E)).by stp
  · obtain ⟨q1, q2, q3⟩ := n1 x hx
    exact ⟨q1, by omega, C'.safe q2 q3⟩
  · obtain ⟨q1, q2, q3, q4⟩ := n2 x hx
    exact ⟨q1, q2, by omega, C'.safe q3 q4⟩
end OwnWalk
section OwnPure
variable {p : Program} {l : Launch} {e : Env} {R : Room} {s : State} {m : MethodId} {args : Array Value} {below : List Frame} {meth : Method} {c : Code} {T : State} {Z : State} {a0 : Array Value} {h : Heap} {EL : List (String × Nat)} {own : String} {cells slots : Nat} {ws nw : List Addr} {P : Outcome → State → Prop} {pc pc' : Nat} {Ls : Array Slot} {st : List Value}
/-- it returns r and leaves the heap as it was -/
def pureQ (r : Option Value) (h : Heap) : Option Value → Heap → Prop := fun v h' => v = r ∧ h' = h
theorem w_callSp (W : Wk p l e R s m args below meth c Z EL own ws nw T h cells slots) (hx : p.tables.exec = Jvm.exec) {index : Nat} {y : MethodName} {bytes : ByteArray} {maxL : Nat} {ret : Option FieldType} {rm : Room} {r : Option Value} (argsL : List Value)
    (w1 : (Cond.methodLink own index y).before a0 Z = true) (w2 : (Cond.static y).before a0 Z = true) (w3 : (Cond.initialized y.cls).before a0 Z = true) (w4 : (Cond.code y bytes maxL ret).before a0 Z = true) (hy : y.cls ≠ "java/lang/invoke/MethodHandle" ∧ y.cls ≠ "java/lang/invoke/VarHandle")
    (H : Con l Z EL y bytes maxL ret rm argsL.toArray h [] (pureQ r h)) (hsz : Ls.size = c.maxLocals) (hlen : ∀ sig, parseMethodDescriptor y.desc = some sig → argsL.length = sig.parameters.length) {stk : List Value} (hstk : stk = argsL.reverse ++ st) (hd : decode c.code pc = .ok (.invokestatic index, 3))
    (hf : rm.frames + 1 ≤ R.frames) (hl : (st.map fun v => v.category).sum + (maxL + 11) + rm.locals ≤ R.locals) (hc : rm.cells = 0) (hs : rm.slots = 0) (hc' : cells ≤ R.cells) (hs' : slots ≤ R.slots) (hp : pc + 3 = pc')
    (k : ∀ T', Wk p l e R s m args below meth c Z EL own ws nw T' h cells slots → Gets p.tables e below P T' (mkF m pc' Ls (r.toList ++ st))) : Gets p.tables e below P T (mkF m pc Ls stk) :=
  w_callS W hx argsL w1 w2 w3 w4 hy H all0 hsz hlen hstk hd hf hl (by rw [hc]; exact hc') (by rw [hs]; exact hs') hp fun v T' h' W' K q => by
    obtain ⟨e1, e2⟩ := q
    subst e1; rw [e2] at W'; rw [hc, hs] at W'; exact k T' W'
theorem w_virtualp (W : Wk p l e R s m args below meth c Z EL own ws nw T h cells slots) (hx : p.tables.exec = Jvm.exec) {index : Nat} {y z : MethodName} {C : String} {bytes : ByteArray} {maxL : Nat} {ret : Option FieldType} {rm : Room} {r : Option Value} {a : Nat} (argsL : List Value)
    (w1 : (Cond.methodLink own index y).before a0 Z = true) (w2 : (Cond.declares y).before a0 Z = true) (hnf : ∀ {U : State}, Z.Warmed39 U.vm → NotFace U y) (w3 : (Cond.selects C y z).before a0 Z = true) (w5 : (Cond.instanceMethod z).before a0 Z = true) (w6 : (Cond.initialized z.cls).before a0 Z = true) (w4 : (Cond.code z bytes maxL ret).before a0 Z = true) (hy : y.cls ≠ "java/lang/invoke/MethodHandle" ∧ y.cls ≠ "java/lang/invoke/VarHandle")
    (H : Con l Z EL z bytes maxL ret rm (.ref a :: argsL).toArray h [] (pureQ r h)) (E : Exa Z h a C) (hsz : Ls.size = c.maxLocals) (hlen : ∀ sig, parseMethodDescriptor y.desc = some sig → argsL.length = sig.parameters.length) {stk : List Value} (hstk : stk = argsL.reverse ++ .ref a :: st) (hd : decode c.code pc = .ok (.invokevirtual index, 3))
    (hf : rm.frames + 1 ≤ R.frames) (hl : (st.map fun v => v.category).sum + (maxL + 11) + rm.locals ≤ R.locals) (hc : rm.cells = 0) (hs : rm.slots = 0) (hc' : cells ≤ R.cells) (hs' : slots ≤ R.slots) (hp : pc + 3 = pc')
    (k : ∀ T', Wk p l e R s m args below meth c Z EL own ws nw T' h cells slots → Gets p.tables e below P T' (mkF m pc' Ls (r.toList ++ st))) : Gets p.tables e below P T (mkF m pc Ls stk) :=
  w_virtual W hx argsL w1 w2 hnf w3 w5 w6 w4 hy H E all0 hsz hlen hstk hd hf hl (by rw [hc]; exact hc') (by rw [hs]; exact hs') hp fun v T' h' W' K q => by
    obtain ⟨e1, e2⟩ := q
    subst e1; rw [e2] at W'; rw [hc, hs] at W'; exact k T' W'
theorem w_virtualUpp (W : Wk p l e R s m args below meth c Z EL own ws nw T h cells slots) (hx : p.tables.exec = Jvm.exec) {index : Nat} {y z : MethodName} {C owner : String} {bytes : ByteArray} {maxL : Nat} {ret : Option FieldType} {rm : Room} {r : Option Value} {a : Nat} (argsL : List Value)
    (w1 : (Cond.methodLink own index y).before a0 Z = true) (w7 : (Cond.sameMethod y.cls owner y.name y.desc).before a0 Z = true) (w2 : (Cond.declares ⟨owner, y.name, y.desc⟩).before a0 Z = true) (w3 : (Cond.selects C y z).before a0 Z = true) (w5 : (Cond.instanceMethod z).before a0 Z = true) (w6 : (Cond.initialized z.cls).before a0 Z = true) (w4 : (Cond.code z bytes maxL ret).before a0 Z = true) (hy : owner ≠ "java/lang/invoke/MethodHandle" ∧ owner ≠ "java/lang/invoke/VarHandle")
    (H : Con l Z EL z bytes maxL ret rm (.ref a :: argsL).toArray h [] (pureQ r h)) (E : Exa Z h a C) (hsz : Ls.size = c.maxLocals) (hlen : ∀ sig, parseMethodDescriptor y.desc = some sig → argsL.length = sig.parameters.length) {stk : List Value} (hstk : stk = argsL.reverse ++ .ref a :: st) (hd : decode c.code pc = .ok (.invokevirtual index, 3))
    (hf : rm.frames + 1 ≤ R.frames) (hl : (st.map fun v => v.category).sum + (maxL + 11) + rm.locals ≤ R.locals) (hc : rm.cells = 0) (hs : rm.slots = 0) (hc' : cells ≤ R.cells) (hs' : slots ≤ R.slots) (hp : pc + 3 = pc')
    (k : ∀ T', Wk p l e R s m args below meth c Z EL own ws nw T' h cells slots → Gets p.tables e below P T' (mkF m pc' Ls (r.toList ++ st))) : Gets p.tables e below P T (mkF m pc Ls stk) :=
  w_virtualUp W hx argsL w1 w7 w2 w3 w5 w6 w4 hy H E all0 hsz hlen hstk hd hf hl (by rw [hc]; exact hc') (by rw [hs]; exact hs') hp fun v T' h' W' K q => by
    obtain ⟨e1, e2⟩ := q
    subst e1; rw [e2] at W'; rw [hc, hs] at W'; exact k T' W'
theorem w_ifacep (W : Wk p l e R s m args below meth c Z EL own ws nw T h cells slots) (hx : p.tables.exec = Jvm.exec) {index count : Nat} {y z : MethodName} {C : String} {bytes : ByteArray} {maxL : Nat} {ret : Option FieldType} {rm : Room} {r : Option Value} {a : Nat} (argsL : List Value)
    (w1 : (Cond.methodLink own index y).before a0 Z = true) (w2 : (Cond.declares y).before a0 Z = true) (w7 : (Cond.interfaceMethod y.cls y.cls y.name y.desc).before a0 Z = true) (w3 : (Cond.selects C y z).before a0 Z = true) (w5 : (Cond.instanceMethod z).before a0 Z = true) (w8 : (Cond.publicMethod z).before a0 Z = true) (w9 : (Cond.unhidden C y.name y.desc).before a0 Z = true) (w10 : (Cond.castable C y.cls).before a0 Z = true) (w6 : (Cond.initialized z.cls).before a0 Z = true) (w4 : (Cond.code z bytes maxL ret).before a0 Z = true) (hy : y.cls ≠ "java/lang/invoke/MethodHandle" ∧ y.cls ≠ "java/lang/invoke/VarHandle")
    (H : Con l Z EL z bytes maxL ret rm (.ref a :: argsL).toArray h [] (pureQ r h)) (E : Exa Z h a C) (hsz : Ls.size = c.maxLocals) (hlen : ∀ sig, parseMethodDescriptor y.desc = some sig → argsL.length = sig.parameters.length) {stk : List Value} (hstk : stk = argsL.reverse ++ .ref a :: st) (hd : decode c.code pc = .ok (.invokeinterface index count, 5))
    (hf : rm.frames + 1 ≤ R.frames) (hl : (st.map fun v => v.category).sum + (maxL + 11) + rm.locals ≤ R.locals) (hc : rm.cells = 0) (hs : rm.slots = 0) (hc' : cells ≤ R.cells) (hs' : slots ≤ R.slots) (hp : pc + 5 = pc')
    (k : ∀ T', Wk p l e R s m args below meth c Z EL own ws nw T' h cells slots → Gets p.tables e below P T' (mkF m pc' Ls (r.toList ++ st))) : Gets p.tables e below P T (mkF m pc Ls stk) :=
  w_iface W hx argsL w1 w2 w7 w3 w5 w8 w9 w10 w6 w4 hy H E all0 hsz hlen hstk hd hf hl (by rw [hc]; exact hc') (by rw [hs]; exact hs') hp fun v T' h' W' K q => by
    obtain ⟨e1, e2⟩ := q
    subst e1; rw [e2] at W'; rw [hc, hs] at W'; exact k T' W'
theorem g_name {tb : Tables} {v w : Value} (q : w = v) (k : Gets tb e below P T (mkF m pc Ls (w :: st))) : Gets tb e below P T (mkF m pc Ls (v :: st)) := q ▸ k
end OwnPure
theorem w_0 : tables_1[0]? = some (Jvm.Cond.constant "com/example/despatch/despatch/fhir/WholeNumberReadPinLaw" (7 : Nat) (2147483647 : Int32)) := rfl
theorem w_1 : tables_1[1]? = some (Jvm.Cond.arrayClass Jvm.ClassFile.FieldType.char) := rfl
theorem w_2 : tables_1[2]? = some (Jvm.Cond.methodLink "com/example/despatch/despatch/fhir/WholeNumberReadPinLaw" (8 : Nat) ({ cls := "com/example/despatch/despatch/fhir/WholeNumberReadPinLaw", name := "put", desc := "([CIJJII)V" } : Jvm.MethodName)) := rfl
theorem w_3 : tables_1[3]? = some (Jvm.Cond.static ({ cls := "com/example/despatch/despatch/fhir/WholeNumberReadPinLaw", name := "put", desc := "([CIJJII)V" } : Jvm.MethodName)) := rfl
theorem w_4 : tables_1[4]? = some (Jvm.Cond.initialized "com/example/despatch/despatch/fhir/WholeNumberReadPinLaw") := rfl
theorem w_5 : tables_1[5]? = some (Jvm.Cond.code ({ cls := "com/example/despatch/despatch/fhir/WholeNumberReadPinLaw", name := "put", desc := "([CIJJII)V" } : Jvm.MethodName) method_3_code (9 : Nat) (Option.none : Option Jvm.ClassFile.FieldType)) := rfl
theorem w_6 : tables_1[6]? = some (Jvm.Cond.classLink "com/example/despatch/despatch/fhir/WholeNumberReadPinLaw" (14 : Nat) "java/lang/String") := rfl
theorem w_7 : tables_1[7]? = some (Jvm.Cond.instantiable "java/lang/String" (4 : Nat)) := rfl
theorem w_8 : tables_1[8]? = some (Jvm.Cond.initialized "java/lang/String") := rfl
theorem w_9 : tables_1[9]? = some (Jvm.Cond.methodLink "com/example/despatch/despatch/fhir/WholeNumberReadPinLaw" (16 : Nat) ({ cls := "java/lang/String", name := "<init>", desc := "([C)V" } : Jvm.MethodName)) := rfl
theorem w_10 : tables_1[10]? = some (Jvm.Cond.instanceMethod ({ cls := "java/lang/String", name := "<init>", desc := "([C)V" } : Jvm.MethodName)) := rfl
theorem w_11 : tables_1[11]? = some (Jvm.Cond.code ({ cls := "java/lang/String", name := "<init>", desc := "([C)V" } : Jvm.MethodName) jdk_42_method_3_code (2 : Nat) (Option.none : Option Jvm.ClassFile.FieldType)) := rfl
theorem w_12 : tables_1[12]? = some (Jvm.Cond.methodLink "java/lang/String" (27 : Nat) ({ cls := "java/lang/String", name := "<init>", desc := "([CIILjava/lang/Void;)V" } : Jvm.MethodName)) := rfl
theorem w_13 : tables_1[13]? = some (Jvm.Cond.instanceMethod ({ cls := "java/lang/String", name := "<init>", desc := "([CIILjava/lang/Void;)V" } : Jvm.MethodName)) := rfl
theorem w_15 : tables_1[15]? = some (Jvm.Cond.code ({ cls := "java/lang/String", name := "<init>", desc := "([CIILjava/lang/Void;)V" } : Jvm.MethodName) jdk_42_method_149_code (6 : Nat) (Option.none : Option Jvm.ClassFile.FieldType)) := rfl
theorem w_16 : tables_1[16]? = some (Jvm.Cond.methodLink "java/lang/String" (1 : Nat) ({ cls := "java/lang/Object", name := "<init>", desc := "()V" } : Jvm.MethodName)) := rfl
theorem w_17 : tables_1[17]? = some (Jvm.Cond.instanceMethod ({ cls := "java/lang/Object", name := "<init>", desc := "()V" } : Jvm.MethodName)) := rfl
theorem w_18 : tables_1[18]? = some (Jvm.Cond.code ({ cls := "java/lang/Object", name := "<init>", desc := "()V" } : Jvm.MethodName) object_method_1_code (1 : Nat) (Option.none : Option Jvm.ClassFile.FieldType)) := rfl
theorem w_19 : tables_1[19]? = some (Jvm.Cond.stringLink "java/lang/String" (7 : Nat) "") := rfl
theorem w_20 : tables_1[20]? = some (Jvm.Cond.arrayClass Jvm.ClassFile.FieldType.byte) := rfl
theorem w_21 : tables_1[21]? = some (Jvm.Cond.laysFinal "java/lang/String" "java/lang/String" "value" "[B") := rfl
theorem w_22 : tables_1[22]? = some (Jvm.Cond.laysFinal "java/lang/String" "java/lang/String" "coder" "B") := rfl
theorem w_23 : tables_1[23]? = some (Jvm.Cond.soleField "java/lang/String" "value") := rfl
theorem w_24 : tables_1[24]? = some (Jvm.Cond.soleField "java/lang/String" "coder") := rfl
theorem w_25 : tables_1[25]? = some (Jvm.Cond.fieldLink "java/lang/String" (9 : Nat) "java/lang/String" "value" "[B") := rfl
theorem w_26 : tables_1[26]? = some (Jvm.Cond.fieldLink "java/lang/String" (15 : Nat) "java/lang/String" "coder" "B") := rfl
theorem w_27 : tables_1[27]? = some (Jvm.Cond.methodLink "com/example/despatch/despatch/fhir/WholeNumberReadPinLaw" (19 : Nat) ({ cls := "com/example/despatch/despatch/fhir/WholeNumber", name := "read", desc := "(Ljava/lang/String;)Ljava/util/OptionalInt;" } : Jvm.MethodName)) := rfl
theorem w_28 : tables_1[28]? = some (Jvm.Cond.static ({ cls := "com/example/despatch/despatch/fhir/WholeNumber", name := "read", desc := "(Ljava/lang/String;)Ljava/util/OptionalInt;" } : Jvm.MethodName)) := rfl
theorem w_29 : tables_1[29]? = some (Jvm.Cond.initialized "com/example/despatch/despatch/fhir/WholeNumber") := rfl
theorem w_30 : tables_1[30]? = some (Jvm.Cond.code ({ cls := "com/example/despatch/despatch/fhir/WholeNumber", name := "read", desc := "(Ljava/lang/String;)Ljava/util/OptionalInt;" } : Jvm.MethodName) prog_2_method_2_code (5 : Nat) (Option.some (Jvm.ClassFile.FieldType.object "java/util/OptionalInt"))) := rfl
theorem w_31 : tables_1[31]? = some (Jvm.Cond.methodLink "com/example/despatch/despatch/fhir/WholeNumber" (7 : Nat) ({ cls := "java/lang/String", name := "isEmpty", desc := "()Z" } : Jvm.MethodName)) := rfl
theorem w_32 : tables_1[32]? = some (Jvm.Cond.declares ({ cls := "java/lang/String", name := "isEmpty", desc := "()Z" } : Jvm.MethodName)) := rfl
theorem w_33 : tables_1[33]? = some (Jvm.Cond.instanceMethod ({ cls := "java/lang/String", name := "isEmpty", desc := "()Z" } : Jvm.MethodName)) := rfl
theorem w_34 : tables_1[34]? = some (Jvm.Cond.selects "java/lang/String" ({ cls := "java/lang/String", name := "isEmpty", desc := "()Z" } : Jvm.MethodName) ({ cls := "java/lang/String", name := "isEmpty", desc := "()Z" } : Jvm.MethodName)) := rfl
theorem w_35 : tables_1[35]? = some (Jvm.Cond.code ({ cls := "java/lang/String", name := "isEmpty", desc := "()Z" } : Jvm.MethodName) jdk_42_method_55_code (1 : Nat) (Option.some Jvm.ClassFile.FieldType.boolean)) := rfl
theorem w_36 : tables_1[36]? = some (Jvm.Cond.methodLink "com/example/despatch/despatch/fhir/WholeNumber" (13 : Nat) ({ cls := "java/util/OptionalInt", name := "empty", desc := "()Ljava/util/OptionalInt;" } : Jvm.MethodName)) := rfl
theorem w_37 : tables_1[37]? = some (Jvm.Cond.static ({ cls := "java/util/OptionalInt", name := "empty", desc := "()Ljava/util/OptionalInt;" } : Jvm.MethodName)) := rfl
theorem w_38 : tables_1[38]? = some (Jvm.Cond.initialized "java/util/OptionalInt") := rfl
theorem w_39 : tables_1[39]? = some (Jvm.Cond.code ({ cls := "java/util/OptionalInt", name := "empty", desc := "()Ljava/util/OptionalInt;" } : Jvm.MethodName) jdk_2649_method_2_code (0 : Nat) (Option.some (Jvm.ClassFile.FieldType.object "java/util/OptionalInt"))) := rfl
theorem w_40 : tables_1[40]? = some (Jvm.Cond.fieldLink "java/util/OptionalInt" (17 : Nat) "java/util/OptionalInt" "EMPTY" "Ljava/util/OptionalInt;") := rfl
theorem w_41 : tables_1[41]? = some (Jvm.Cond.methodLink "com/example/despatch/despatch/fhir/WholeNumberReadPinLaw" (25 : Nat) ({ cls := "java/util/OptionalInt", name := "orElse", desc := "(I)I" } : Jvm.MethodName)) := rfl
theorem w_42 : tables_1[42]? = some (Jvm.Cond.declares ({ cls := "java/util/OptionalInt", name := "orElse", desc := "(I)I" } : Jvm.MethodName)) := rfl
theorem w_43 : tables_1[43]? = some (Jvm.Cond.instanceMethod ({ cls := "java/util/OptionalInt", name := "orElse", desc := "(I)I" } : Jvm.MethodName)) := rfl
theorem w_44 : tables_1[44]? = some (Jvm.Cond.selects "java/util/OptionalInt" ({ cls := "java/util/OptionalInt", name := "orElse", desc := "(I)I" } : Jvm.MethodName) ({ cls := "java/util/OptionalInt", name := "orElse", desc := "(I)I" } : Jvm.MethodName)) := rfl
theorem w_45 : tables_1[45]? = some (Jvm.Cond.code ({ cls := "java/util/OptionalInt", name := "orElse", desc := "(I)I" } : Jvm.MethodName) jdk_2649_method_11_code (2 : Nat) (Option.some Jvm.ClassFile.FieldType.int)) := rfl
theorem w_46 : tables_1[46]? = some (Jvm.Cond.fieldLink "java/util/OptionalInt" (7 : Nat) "java/util/OptionalInt" "isPresent" "Z") := rfl
theorem w_47 : tables_1[47]? = some (Jvm.Cond.laysFinal "java/util/OptionalInt" "java/util/OptionalInt" "isPresent" "Z") := rfl
theorem w_48 : tables_1[48]? = some (Jvm.Cond.methodLink "com/example/despatch/despatch/fhir/WholeNumberReadPinLaw" (31 : Nat) ({ cls := "com/example/despatch/despatch/fhir/WholeNumberReadPinLaw", name := "expected", desc := "([C)I" } : Jvm.MethodName)) := rfl
theorem w_49 : tables_1[49]? = some (Jvm.Cond.static ({ cls := "com/example/despatch/despatch/fhir/WholeNumberReadPinLaw", name := "expected", desc := "([C)I" } : Jvm.MethodName)) := rfl
theorem w_50 : tables_1[50]? = some (Jvm.Cond.code ({ cls := "com/example/despatch/despatch/fhir/WholeNumberReadPinLaw", name := "expected", desc := "([C)I" } : Jvm.MethodName) method_7_code (6 : Nat) (Option.some Jvm.ClassFile.FieldType.int)) := rfl
theorem w_51 : tables_1[51]? = some (Jvm.Cond.constantLong "com/example/despatch/despatch/fhir/WholeNumberReadPinLaw" (35 : Nat) (255 : Int64)) := rfl
theorem w_52 : tables_1[52]? = some (Jvm.Cond.fieldLink "java/lang/String" (38 : Nat) "java/lang/String" "COMPACT_STRINGS" "Z") := rfl
theorem w_53 : tables_1[53]? = some (Jvm.Cond.methodLink "java/lang/String" (177 : Nat) ({ cls := "java/lang/StringUTF16", name := "compress", desc := "([CII)[B" } : Jvm.MethodName)) := rfl
theorem w_54 : tables_1[54]? = some (Jvm.Cond.static ({ cls := "java/lang/StringUTF16", name := "compress", desc := "([CII)[B" } : Jvm.MethodName)) := rfl
theorem w_55 : tables_1[55]? = some (Jvm.Cond.initialized "java/lang/StringUTF16") := rfl
theorem w_56 : tables_1[56]? = some (Jvm.Cond.code ({ cls := "java/lang/StringUTF16", name := "compress", desc := "([CII)[B" } : Jvm.MethodName) jdk_52_method_16_code (6 : Nat) (Option.some (Jvm.ClassFile.FieldType.array Jvm.ClassFile.FieldType.byte))) := rfl
theorem w_57 : tables_1[57]? = some (Jvm.Cond.methodLink "java/lang/StringUTF16" (115 : Nat) ({ cls := "java/lang/StringUTF16", name := "compress", desc := "([CI[BII)I" } : Jvm.MethodName)) := rfl
theorem w_58 : tables_1[58]? = some (Jvm.Cond.static ({ cls := "java/lang/StringUTF16", name := "compress", desc := "([CI[BII)I" } : Jvm.MethodName)) := rfl
theorem w_59 : tables_1[59]? = some (Jvm.Cond.code ({ cls := "java/lang/StringUTF16", name := "compress", desc := "([CI[BII)I" } : Jvm.MethodName) jdk_52_method_21_code (7 : Nat) (Option.some Jvm.ClassFile.FieldType.int)) := rfl
theorem w_60 : tables_1[60]? = some (Jvm.Cond.methodLink "java/lang/String" (47 : Nat) ({ cls := "java/lang/StringUTF16", name := "coderFromArrayLen", desc := "([BI)B" } : Jvm.MethodName)) := rfl
theorem w_61 : tables_1[61]? = some (Jvm.Cond.static ({ cls := "java/lang/StringUTF16", name := "coderFromArrayLen", desc := "([BI)B" } : Jvm.MethodName)) := rfl
theorem w_62 : tables_1[62]? = some (Jvm.Cond.code ({ cls := "java/lang/StringUTF16", name := "coderFromArrayLen", desc := "([BI)B" } : Jvm.MethodName) jdk_52_method_15_code (2 : Nat) (Option.some Jvm.ClassFile.FieldType.byte)) := rfl
theorem w_63 : tables_1[63]? = some (Jvm.Cond.methodLink "com/example/despatch/despatch/fhir/WholeNumber" (19 : Nat) ({ cls := "java/lang/String", name := "length", desc := "()I" } : Jvm.MethodName)) := rfl
theorem w_64 : tables_1[64]? = some (Jvm.Cond.declares ({ cls := "java/lang/String", name := "length", desc := "()I" } : Jvm.MethodName)) := rfl
theorem w_65 : tables_1[65]? = some (Jvm.Cond.instanceMethod ({ cls := "java/lang/String", name := "length", desc := "()I" } : Jvm.MethodName)) := rfl
theorem w_66 : tables_1[66]? = some (Jvm.Cond.selects "java/lang/String" ({ cls := "java/lang/String", name := "length", desc := "()I" } : Jvm.MethodName) ({ cls := "java/lang/String", name := "length", desc := "()I" } : Jvm.MethodName)) := rfl
theorem w_67 : tables_1[67]? = some (Jvm.Cond.code ({ cls := "java/lang/String", name := "length", desc := "()I" } : Jvm.MethodName) jdk_42_method_54_code (1 : Nat) (Option.some Jvm.ClassFile.FieldType.int)) := rfl
theorem w_68 : tables_1[68]? = some (Jvm.Cond.methodLink "java/lang/String" (335 : Nat) ({ cls := "java/lang/String", name := "coder", desc := "()B" } : Jvm.MethodName)) := rfl
theorem w_69 : tables_1[69]? = some (Jvm.Cond.declares ({ cls := "java/lang/String", name := "coder", desc := "()B" } : Jvm.MethodName)) := rfl
theorem w_70 : tables_1[70]? = some (Jvm.Cond.instanceMethod ({ cls := "java/lang/String", name := "coder", desc := "()B" } : Jvm.MethodName)) := rfl
theorem w_71 : tables_1[71]? = some (Jvm.Cond.selects "java/lang/String" ({ cls := "java/lang/String", name := "coder", desc := "()B" } : Jvm.MethodName) ({ cls := "java/lang/String", name := "coder", desc := "()B" } : Jvm.MethodName)) := rfl
theorem w_72 : tables_1[72]? = some (Jvm.Cond.code ({ cls := "java/lang/String", name := "coder", desc := "()B" } : Jvm.MethodName) jdk_42_method_152_code (1 : Nat) (Option.some Jvm.ClassFile.FieldType.byte)) := rfl
theorem w_73 : tables_1[73]? = some (Jvm.Cond.methodLink "com/example/despatch/despatch/fhir/WholeNumber" (23 : Nat) ({ cls := "java/lang/String", name := "charAt", desc := "(I)C" } : Jvm.MethodName)) := rfl
theorem w_74 : tables_1[74]? = some (Jvm.Cond.declares ({ cls := "java/lang/String", name := "charAt", desc := "(I)C" } : Jvm.MethodName)) := rfl
theorem w_75 : tables_1[75]? = some (Jvm.Cond.instanceMethod ({ cls := "java/lang/String", name := "charAt", desc := "(I)C" } : Jvm.MethodName)) := rfl
theorem w_76 : tables_1[76]? = some (Jvm.Cond.selects "java/lang/String" ({ cls := "java/lang/String", name := "charAt", desc := "(I)C" } : Jvm.MethodName) ({ cls := "java/lang/String", name := "charAt", desc := "(I)C" } : Jvm.MethodName)) := rfl
theorem w_77 : tables_1[77]? = some (Jvm.Cond.code ({ cls := "java/lang/String", name := "charAt", desc := "(I)C" } : Jvm.MethodName) jdk_42_method_56_code (2 : Nat) (Option.some Jvm.ClassFile.FieldType.char)) := rfl
theorem w_78 : tables_1[78]? = some (Jvm.Cond.methodLink "java/lang/String" (492 : Nat) ({ cls := "java/lang/String", name := "isLatin1", desc := "()Z" } : Jvm.MethodName)) := rfl
theorem w_79 : tables_1[79]? = some (Jvm.Cond.declares ({ cls := "java/lang/String", name := "isLatin1", desc := "()Z" } : Jvm.MethodName)) := rfl
theorem w_80 : tables_1[80]? = some (Jvm.Cond.instanceMethod ({ cls := "java/lang/String", name := "isLatin1", desc := "()Z" } : Jvm.MethodName)) := rfl
theorem w_81 : tables_1[81]? = some (Jvm.Cond.selects "java/lang/String" ({ cls := "java/lang/String", name := "isLatin1", desc := "()Z" } : Jvm.MethodName) ({ cls := "java/lang/String", name := "isLatin1", desc := "()Z" } : Jvm.MethodName)) := rfl
theorem w_82 : tables_1[82]? = some (Jvm.Cond.code ({ cls := "java/lang/String", name := "isLatin1", desc := "()Z" } : Jvm.MethodName) jdk_42_method_154_code (1 : Nat) (Option.some Jvm.ClassFile.FieldType.boolean)) := rfl
theorem w_83 : tables_1[83]? = some (Jvm.Cond.methodLink "java/lang/String" (495 : Nat) ({ cls := "java/lang/StringLatin1", name := "charAt", desc := "([BI)C" } : Jvm.MethodName)) := rfl
theorem w_84 : tables_1[84]? = some (Jvm.Cond.static ({ cls := "java/lang/StringLatin1", name := "charAt", desc := "([BI)C" } : Jvm.MethodName)) := rfl
theorem w_85 : tables_1[85]? = some (Jvm.Cond.initialized "java/lang/StringLatin1") := rfl
theorem w_86 : tables_1[86]? = some (Jvm.Cond.code ({ cls := "java/lang/StringLatin1", name := "charAt", desc := "([BI)C" } : Jvm.MethodName) jdk_43_method_2_code (2 : Nat) (Option.some Jvm.ClassFile.FieldType.char)) := rfl
theorem w_87 : tables_1[87]? = some (Jvm.Cond.methodLink "java/lang/StringLatin1" (9 : Nat) ({ cls := "java/lang/String", name := "checkIndex", desc := "(II)V" } : Jvm.MethodName)) := rfl
theorem w_88 : tables_1[88]? = some (Jvm.Cond.static ({ cls := "java/lang/String", name := "checkIndex", desc := "(II)V" } : Jvm.MethodName)) := rfl
theorem w_89 : tables_1[89]? = some (Jvm.Cond.code ({ cls := "java/lang/String", name := "checkIndex", desc := "(II)V" } : Jvm.MethodName) jdk_42_method_155_code (2 : Nat) (Option.none : Option Jvm.ClassFile.FieldType)) := rfl
theorem w_90 : tables_1[90]? = some (Jvm.Cond.fieldLink "java/lang/String" (1053 : Nat) "jdk/internal/util/Preconditions" "SIOOBE_FORMATTER" "Ljava/util/function/BiFunction;") := rfl
theorem w_91 : tables_1[91]? = some (Jvm.Cond.initialized "jdk/internal/util/Preconditions") := rfl
theorem w_92 : tables_1[92]? = some (Jvm.Cond.methodLink "java/lang/String" (1059 : Nat) ({ cls := "jdk/internal/util/Preconditions", name := "checkIndex", desc := "(IILjava/util/function/BiFunction;)I" } : Jvm.MethodName)) := rfl
theorem w_93 : tables_1[93]? = some (Jvm.Cond.static ({ cls := "jdk/internal/util/Preconditions", name := "checkIndex", desc := "(IILjava/util/function/BiFunction;)I" } : Jvm.MethodName)) := rfl
theorem w_94 : tables_1[94]? = some (Jvm.Cond.code ({ cls := "jdk/internal/util/Preconditions", name := "checkIndex", desc := "(IILjava/util/function/BiFunction;)I" } : Jvm.MethodName) jdk_41_method_11_code (3 : Nat) (Option.some Jvm.ClassFile.FieldType.int)) := rfl
theorem w_95 : tables_1[95]? = some (Jvm.Cond.methodLink "com/example/despatch/despatch/fhir/WholeNumberReadPinLaw" (37 : Nat) ({ cls := "com/example/despatch/despatch/fhir/WholeNumberReadPinLaw", name := "ok", desc := "([CI)Z" } : Jvm.MethodName)) := rfl
theorem w_96 : tables_1[96]? = some (Jvm.Cond.static ({ cls := "com/example/despatch/despatch/fhir/WholeNumberReadPinLaw", name := "ok", desc := "([CI)Z" } : Jvm.MethodName)) := rfl
theorem w_97 : tables_1[97]? = some (Jvm.Cond.code ({ cls := "com/example/despatch/despatch/fhir/WholeNumberReadPinLaw", name := "ok", desc := "([CI)Z" } : Jvm.MethodName) method_4_code (2 : Nat) (Option.some Jvm.ClassFile.FieldType.boolean)) := rfl
theorem w_98 : tables_1[98]? = some (Jvm.Cond.constantLong "com/example/despatch/despatch/fhir/WholeNumber" (27 : Nat) (10 : Int64)) := rfl
theorem w_99 : tables_1[99]? = some (Jvm.Cond.constantLong "com/example/despatch/despatch/fhir/WholeNumber" (31 : Nat) (2147483647 : Int64)) := rfl
theorem w_100 : tables_1[100]? = some (Jvm.Cond.methodLink "com/example/despatch/despatch/fhir/WholeNumber" (33 : Nat) ({ cls := "java/lang/Math", name := "min", desc := "(JJ)J" } : Jvm.MethodName)) := rfl
theorem w_101 : tables_1[101]? = some (Jvm.Cond.static ({ cls := "java/lang/Math", name := "min", desc := "(JJ)J" } : Jvm.MethodName)) := rfl
theorem w_102 : tables_1[102]? = some (Jvm.Cond.initialized "java/lang/Math") := rfl
theorem w_103 : tables_1[103]? = some (Jvm.Cond.code ({ cls := "java/lang/Math", name := "min", desc := "(JJ)J" } : Jvm.MethodName) jdk_29_method_70_code (4 : Nat) (Option.some Jvm.ClassFile.FieldType.long)) := rfl
theorem w_104 : tables_1[104]? = some (Jvm.Cond.methodLink "com/example/despatch/despatch/fhir/WholeNumber" (39 : Nat) ({ cls := "java/util/OptionalInt", name := "of", desc := "(I)Ljava/util/OptionalInt;" } : Jvm.MethodName)) := rfl
theorem w_105 : tables_1[105]? = some (Jvm.Cond.static ({ cls := "java/util/OptionalInt", name := "of", desc := "(I)Ljava/util/OptionalInt;" } : Jvm.MethodName)) := rfl
theorem w_106 : tables_1[106]? = some (Jvm.Cond.code ({ cls := "java/util/OptionalInt", name := "of", desc := "(I)Ljava/util/OptionalInt;" } : Jvm.MethodName) jdk_2649_method_4_code (1 : Nat) (Option.some (Jvm.ClassFile.FieldType.object "java/util/OptionalInt"))) := rfl
theorem w_107 : tables_1[107]? = some (Jvm.Cond.classLink "java/util/OptionalInt" (8 : Nat) "java/util/OptionalInt") := rfl
theorem w_108 : tables_1[108]? = some (Jvm.Cond.instantiable "java/util/OptionalInt" (2 : Nat)) := rfl
theorem w_109 : tables_1[109]? = some (Jvm.Cond.methodLink "java/util/OptionalInt" (21 : Nat) ({ cls := "java/util/OptionalInt", name := "<init>", desc := "(I)V" } : Jvm.MethodName)) := rfl
theorem w_110 : tables_1[110]? = some (Jvm.Cond.instanceMethod ({ cls := "java/util/OptionalInt", name := "<init>", desc := "(I)V" } : Jvm.MethodName)) := rfl
theorem w_112 : tables_1[112]? = some (Jvm.Cond.code ({ cls := "java/util/OptionalInt", name := "<init>", desc := "(I)V" } : Jvm.MethodName) jdk_2649_method_3_code (2 : Nat) (Option.none : Option Jvm.ClassFile.FieldType)) := rfl
theorem w_113 : tables_1[113]? = some (Jvm.Cond.methodLink "java/util/OptionalInt" (1 : Nat) ({ cls := "java/lang/Object", name := "<init>", desc := "()V" } : Jvm.MethodName)) := rfl
theorem w_114 : tables_1[114]? = some (Jvm.Cond.fieldLink "java/util/OptionalInt" (13 : Nat) "java/util/OptionalInt" "value" "I") := rfl
theorem w_115 : tables_1[115]? = some (Jvm.Cond.laysFinal "java/util/OptionalInt" "java/util/OptionalInt" "value" "I") := rfl
theorem w_116 : tables_1[116]? = some (Jvm.Cond.methodLink "com/example/despatch/despatch/fhir/WholeNumberReadPinLaw" (41 : Nat) ({ cls := "com/example/despatch/despatch/fhir/WholeNumberReadPinLaw", name := "d", desc := "([CI)I" } : Jvm.MethodName)) := rfl
theorem w_117 : tables_1[117]? = some (Jvm.Cond.static ({ cls := "com/example/despatch/despatch/fhir/WholeNumberReadPinLaw", name := "d", desc := "([CI)I" } : Jvm.MethodName)) := rfl
theorem w_118 : tables_1[118]? = some (Jvm.Cond.code ({ cls := "com/example/despatch/despatch/fhir/WholeNumberReadPinLaw", name := "d", desc := "([CI)I" } : Jvm.MethodName) method_5_code (2 : Nat) (Option.some Jvm.ClassFile.FieldType.int)) := rfl
theorem w_119 : tables_1[119]? = some (Jvm.Cond.constantLong "com/example/despatch/despatch/fhir/WholeNumberReadPinLaw" (45 : Nat) (1000000000 : Int64)) := rfl
theorem w_120 : tables_1[120]? = some (Jvm.Cond.constantLong "com/example/despatch/despatch/fhir/WholeNumberReadPinLaw" (47 : Nat) (100000000 : Int64)) := rfl
theorem w_121 : tables_1[121]? = some (Jvm.Cond.constantLong "com/example/despatch/despatch/fhir/WholeNumberReadPinLaw" (49 : Nat) (10000000 : Int64)) := rfl
theorem w_122 : tables_1[122]? = some (Jvm.Cond.constantLong "com/example/despatch/despatch/fhir/WholeNumberReadPinLaw" (51 : Nat) (1000000 : Int64)) := rfl
theorem w_123 : tables_1[123]? = some (Jvm.Cond.constantLong "com/example/despatch/despatch/fhir/WholeNumberReadPinLaw" (53 : Nat) (100000 : Int64)) := rfl
theorem w_124 : tables_1[124]? = some (Jvm.Cond.constantLong "com/example/despatch/despatch/fhir/WholeNumberReadPinLaw" (55 : Nat) (10000 : Int64)) := rfl
theorem w_125 : tables_1[125]? = some (Jvm.Cond.constantLong "com/example/despatch/despatch/fhir/WholeNumberReadPinLaw" (57 : Nat) (1000 : Int64)) := rfl
theorem w_126 : tables_1[126]? = some (Jvm.Cond.constantLong "com/example/despatch/despatch/fhir/WholeNumberReadPinLaw" (59 : Nat) (100 : Int64)) := rfl
theorem w_127 : tables_1[127]? = some (Jvm.Cond.constantLong "com/example/despatch/despatch/fhir/WholeNumberReadPinLaw" (61 : Nat) (10 : Int64)) := rfl
theorem w_128 : tables_1[128]? = some (Jvm.Cond.methodLink "com/example/despatch/despatch/fhir/WholeNumberReadPinLaw" (63 : Nat) ({ cls := "com/example/despatch/despatch/fhir/WholeNumberReadPinLaw", name := "nz", desc := "([CI)Z" } : Jvm.MethodName)) := rfl
theorem w_129 : tables_1[129]? = some (Jvm.Cond.static ({ cls := "com/example/despatch/despatch/fhir/WholeNumberReadPinLaw", name := "nz", desc := "([CI)Z" } : Jvm.MethodName)) := rfl
theorem w_130 : tables_1[130]? = some (Jvm.Cond.code ({ cls := "com/example/despatch/despatch/fhir/WholeNumberReadPinLaw", name := "nz", desc := "([CI)Z" } : Jvm.MethodName) method_6_code (2 : Nat) (Option.some Jvm.ClassFile.FieldType.boolean)) := rfl
theorem w_131 : tables_1[131]? = some (Jvm.Cond.constantLong "com/example/despatch/despatch/fhir/WholeNumberReadPinLaw" (68 : Nat) (2147483647 : Int64)) := rfl
theorem d_jdk_2649_11_0 : decode jdk_2649_method_11_code 0 = .ok (.aload_n 0, 1) := by decide +kernel
theorem d_jdk_2649_11_1 : decode jdk_2649_method_11_code 1 = .ok (.getfield 7, 3) := by decide +kernel
theorem d_jdk_2649_11_4 : decode jdk_2649_method_11_code 4 = .ok (.ifCond .eq 10, 3) := by decide +kernel
theorem d_jdk_2649_11_7 : decode jdk_2649_method_11_code 7 = .ok (.aload_n 0, 1) := by decide +kernel
theorem d_jdk_2649_11_8 : decode jdk_2649_method_11_code 8 = .ok (.getfield 13, 3) := by decide +kernel
theorem d_jdk_2649_11_11 : decode jdk_2649_method_11_code 11 = .ok (.goto 4, 3) := by decide +kernel
theorem d_jdk_2649_11_14 : decode jdk_2649_method_11_code 14 = .ok (.iload_n 1, 1) := by decide +kernel
theorem d_jdk_2649_11_15 : decode jdk_2649_method_11_code 15 = .ok (.ireturn, 1) := by decide +kernel
theorem d_jdk_2649_2_0 : decode jdk_2649_method_2_code 0 = .ok (.getstatic 17, 3) := by decide +kernel
theorem d_jdk_2649_2_3 : decode jdk_2649_method_2_code 3 = .ok (.areturn, 1) := by decide +kernel
theorem d_jdk_2649_3_0 : decode jdk_2649_method_3_code 0 = .ok (.aload_n 0, 1) := by decide +kernel
theorem d_jdk_2649_3_1 : decode jdk_2649_method_3_code 1 = .ok (.invokespecial 1, 3) := by decide +kernel
theorem d_jdk_2649_3_4 : decode jdk_2649_method_3_code 4 = .ok (.aload_n 0, 1) := by decide +kernel
theorem d_jdk_2649_3_5 : decode jdk_2649_method_3_code 5 = .ok (.iconst 1, 1) := by decide +kernel
theorem d_jdk_2649_3_6 : decode jdk_2649_method_3_code 6 = .ok (.putfield 7, 3) := by decide +kernel
theorem d_jdk_2649_3_9 : decode jdk_2649_method_3_code 9 = .ok (.aload_n 0, 1) := by decide +kernel
theorem d_jdk_2649_3_10 : decode jdk_2649_method_3_code 10 = .ok (.iload_n 1, 1) := by decide +kernel
theorem d_jdk_2649_3_11 : decode jdk_2649_method_3_code 11 = .ok (.putfield 13, 3) := by decide +kernel
theorem d_jdk_2649_3_14 : decode jdk_2649_method_3_code 14 = .ok (.return_, 1) := by decide +kernel
theorem d_jdk_2649_4_0 : decode jdk_2649_method_4_code 0 = .ok (.new 8, 3) := by decide +kernel
theorem d_jdk_2649_4_3 : decode jdk_2649_method_4_code 3 = .ok (.dup, 1) := by decide +kernel
theorem d_jdk_2649_4_4 : decode jdk_2649_method_4_code 4 = .ok (.iload_n 0, 1) := by decide +kernel
theorem d_jdk_2649_4_5 : decode jdk_2649_method_4_code 5 = .ok (.invokespecial 21, 3) := by decide +kernel
theorem d_jdk_2649_4_8 : decode jdk_2649_method_4_code 8 = .ok (.areturn, 1) := by decide +kernel
theorem d_jdk_29_70_0 : decode jdk_29_method_70_code 0 = .ok (.lload_n 0, 1) := by decide +kernel
theorem d_jdk_29_70_1 : decode jdk_29_method_70_code 1 = .ok (.lload_n 2, 1) := by decide +kernel
theorem d_jdk_29_70_2 : decode jdk_29_method_70_code 2 = .ok (.lcmp, 1) := by decide +kernel
theorem d_jdk_29_70_3 : decode jdk_29_method_70_code 3 = .ok (.ifCond .gt 7, 3) := by decide +kernel
theorem d_jdk_29_70_6 : decode jdk_29_method_70_code 6 = .ok (.lload_n 0, 1) := by decide +kernel
theorem d_jdk_29_70_7 : decode jdk_29_method_70_code 7 = .ok (.goto 4, 3) := by decide +kernel
theorem d_jdk_29_70_10 : decode jdk_29_method_70_code 10 = .ok (.lload_n 2, 1) := by decide +kernel
theorem d_jdk_29_70_11 : decode jdk_29_method_70_code 11 = .ok (.lreturn, 1) := by decide +kernel
theorem d_jdk_41_11_0 : decode jdk_41_method_11_code 0 = .ok (.iload_n 0, 1) := by decide +kernel
theorem d_jdk_41_11_1 : decode jdk_41_method_11_code 1 = .ok (.ifCond .lt 8, 3) := by decide +kernel
theorem d_jdk_41_11_4 : decode jdk_41_method_11_code 4 = .ok (.iload_n 0, 1) := by decide +kernel
theorem d_jdk_41_11_5 : decode jdk_41_method_11_code 5 = .ok (.iload_n 1, 1) := by decide +kernel
theorem d_jdk_41_11_6 : decode jdk_41_method_11_code 6 = .ok (.if_icmp .lt 10, 3) := by decide +kernel
theorem d_jdk_41_11_16 : decode jdk_41_method_11_code 16 = .ok (.iload_n 0, 1) := by decide +kernel
theorem d_jdk_41_11_17 : decode jdk_41_method_11_code 17 = .ok (.ireturn, 1) := by decide +kernel
theorem d_jdk_42_149_0 : decode jdk_42_method_149_code 0 = .ok (.aload_n 0, 1) := by decide +kernel
theorem d_jdk_42_149_1 : decode jdk_42_method_149_code 1 = .ok (.invokespecial 1, 3) := by decide +kernel
theorem d_jdk_42_149_4 : decode jdk_42_method_149_code 4 = .ok (.iload_n 3, 1) := by decide +kernel
theorem d_jdk_42_149_5 : decode jdk_42_method_149_code 5 = .ok (.ifCond .ne 22, 3) := by decide +kernel
theorem d_jdk_42_149_8 : decode jdk_42_method_149_code 8 = .ok (.aload_n 0, 1) := by decide +kernel
theorem d_jdk_42_149_9 : decode jdk_42_method_149_code 9 = .ok (.ldc 7, 2) := by decide +kernel
theorem d_jdk_42_149_11 : decode jdk_42_method_149_code 11 = .ok (.getfield 9, 3) := by decide +kernel
theorem d_jdk_42_149_14 : decode jdk_42_method_149_code 14 = .ok (.putfield 9, 3) := by decide +kernel
theorem d_jdk_42_149_17 : decode jdk_42_method_149_code 17 = .ok (.aload_n 0, 1) := by decide +kernel
theorem d_jdk_42_149_18 : decode jdk_42_method_149_code 18 = .ok (.ldc 7, 2) := by decide +kernel
theorem d_jdk_42_149_20 : decode jdk_42_method_149_code 20 = .ok (.getfield 15, 3) := by decide +kernel
theorem d_jdk_42_149_23 : decode jdk_42_method_149_code 23 = .ok (.putfield 15, 3) := by decide +kernel
theorem d_jdk_42_149_26 : decode jdk_42_method_149_code 26 = .ok (.return_, 1) := by decide +kernel
theorem d_jdk_42_149_27 : decode jdk_42_method_149_code 27 = .ok (.getstatic 38, 3) := by decide +kernel
theorem d_jdk_42_149_30 : decode jdk_42_method_149_code 30 = .ok (.ifCond .eq 28, 3) := by decide +kernel
theorem d_jdk_42_149_33 : decode jdk_42_method_149_code 33 = .ok (.aload_n 1, 1) := by decide +kernel
theorem d_jdk_42_149_34 : decode jdk_42_method_149_code 34 = .ok (.iload_n 2, 1) := by decide +kernel
theorem d_jdk_42_149_35 : decode jdk_42_method_149_code 35 = .ok (.iload_n 3, 1) := by decide +kernel
theorem d_jdk_42_149_36 : decode jdk_42_method_149_code 36 = .ok (.invokestatic 177, 3) := by decide +kernel
theorem d_jdk_42_149_39 : decode jdk_42_method_149_code 39 = .ok (.astore 5, 2) := by decide +kernel
theorem d_jdk_42_149_41 : decode jdk_42_method_149_code 41 = .ok (.aload_n 0, 1) := by decide +kernel
theorem d_jdk_42_149_42 : decode jdk_42_method_149_code 42 = .ok (.aload 5, 2) := by decide +kernel
theorem d_jdk_42_149_44 : decode jdk_42_method_149_code 44 = .ok (.iload_n 3, 1) := by decide +kernel
theorem d_jdk_42_149_45 : decode jdk_42_method_149_code 45 = .ok (.invokestatic 47, 3) := by decide +kernel
theorem d_jdk_42_149_48 : decode jdk_42_method_149_code 48 = .ok (.putfield 15, 3) := by decide +kernel
theorem d_jdk_42_149_51 : decode jdk_42_method_149_code 51 = .ok (.aload_n 0, 1) := by decide +kernel
theorem d_jdk_42_149_52 : decode jdk_42_method_149_code 52 = .ok (.aload 5, 2) := by decide +kernel
theorem d_jdk_42_149_54 : decode jdk_42_method_149_code 54 = .ok (.putfield 9, 3) := by decide +kernel
theorem d_jdk_42_149_57 : decode jdk_42_method_149_code 57 = .ok (.return_, 1) := by decide +kernel
theorem d_jdk_42_152_0 : decode jdk_42_method_152_code 0 = .ok (.getstatic 38, 3) := by decide +kernel
theorem d_jdk_42_152_3 : decode jdk_42_method_152_code 3 = .ok (.ifCond .eq 10, 3) := by decide +kernel
theorem d_jdk_42_152_6 : decode jdk_42_method_152_code 6 = .ok (.aload_n 0, 1) := by decide +kernel
theorem d_jdk_42_152_7 : decode jdk_42_method_152_code 7 = .ok (.getfield 15, 3) := by decide +kernel
theorem d_jdk_42_152_10 : decode jdk_42_method_152_code 10 = .ok (.goto 4, 3) := by decide +kernel
theorem d_jdk_42_152_14 : decode jdk_42_method_152_code 14 = .ok (.ireturn, 1) := by decide +kernel
theorem d_jdk_42_154_0 : decode jdk_42_method_154_code 0 = .ok (.getstatic 38, 3) := by decide +kernel
theorem d_jdk_42_154_3 : decode jdk_42_method_154_code 3 = .ok (.ifCond .eq 14, 3) := by decide +kernel
theorem d_jdk_42_154_6 : decode jdk_42_method_154_code 6 = .ok (.aload_n 0, 1) := by decide +kernel
theorem d_jdk_42_154_7 : decode jdk_42_method_154_code 7 = .ok (.getfield 15, 3) := by decide +kernel
theorem d_jdk_42_154_10 : decode jdk_42_method_154_code 10 = .ok (.ifCond .ne 7, 3) := by decide +kernel
theorem d_jdk_42_154_13 : decode jdk_42_method_154_code 13 = .ok (.iconst 1, 1) := by decide +kernel
theorem d_jdk_42_154_14 : decode jdk_42_method_154_code 14 = .ok (.goto 4, 3) := by decide +kernel
theorem d_jdk_42_154_18 : decode jdk_42_method_154_code 18 = .ok (.ireturn, 1) := by decide +kernel
theorem d_jdk_42_155_0 : decode jdk_42_method_155_code 0 = .ok (.iload_n 0, 1) := by decide +kernel
theorem d_jdk_42_155_1 : decode jdk_42_method_155_code 1 = .ok (.iload_n 1, 1) := by decide +kernel
theorem d_jdk_42_155_2 : decode jdk_42_method_155_code 2 = .ok (.getstatic 1053, 3) := by decide +kernel
theorem d_jdk_42_155_5 : decode jdk_42_method_155_code 5 = .ok (.invokestatic 1059, 3) := by decide +kernel
theorem d_jdk_42_155_8 : decode jdk_42_method_155_code 8 = .ok (.pop, 1) := by decide +kernel
theorem d_jdk_42_155_9 : decode jdk_42_method_155_code 9 = .ok (.return_, 1) := by decide +kernel
theorem d_jdk_42_3_0 : decode jdk_42_method_3_code 0 = .ok (.aload_n 0, 1) := by decide +kernel
theorem d_jdk_42_3_1 : decode jdk_42_method_3_code 1 = .ok (.aload_n 1, 1) := by decide +kernel
theorem d_jdk_42_3_2 : decode jdk_42_method_3_code 2 = .ok (.iconst 0, 1) := by decide +kernel
theorem d_jdk_42_3_3 : decode jdk_42_method_3_code 3 = .ok (.aload_n 1, 1) := by decide +kernel
theorem d_jdk_42_3_4 : decode jdk_42_method_3_code 4 = .ok (.arraylength, 1) := by decide +kernel
theorem d_jdk_42_3_5 : decode jdk_42_method_3_code 5 = .ok (.aconst_null, 1) := by decide +kernel
theorem d_jdk_42_3_6 : decode jdk_42_method_3_code 6 = .ok (.invokespecial 27, 3) := by decide +kernel
theorem d_jdk_42_3_9 : decode jdk_42_method_3_code 9 = .ok (.return_, 1) := by decide +kernel
theorem d_jdk_42_54_0 : decode jdk_42_method_54_code 0 = .ok (.aload_n 0, 1) := by decide +kernel
theorem d_jdk_42_54_1 : decode jdk_42_method_54_code 1 = .ok (.getfield 9, 3) := by decide +kernel
theorem d_jdk_42_54_4 : decode jdk_42_method_54_code 4 = .ok (.arraylength, 1) := by decide +kernel
theorem d_jdk_42_54_5 : decode jdk_42_method_54_code 5 = .ok (.aload_n 0, 1) := by decide +kernel
theorem d_jdk_42_54_6 : decode jdk_42_method_54_code 6 = .ok (.invokevirtual 335, 3) := by decide +kernel
theorem d_jdk_42_54_9 : decode jdk_42_method_54_code 9 = .ok (.ishr, 1) := by decide +kernel
theorem d_jdk_42_54_10 : decode jdk_42_method_54_code 10 = .ok (.ireturn, 1) := by decide +kernel
theorem d_jdk_42_55_0 : decode jdk_42_method_55_code 0 = .ok (.aload_n 0, 1) := by decide +kernel
theorem d_jdk_42_55_1 : decode jdk_42_method_55_code 1 = .ok (.getfield 9, 3) := by decide +kernel
theorem d_jdk_42_55_4 : decode jdk_42_method_55_code 4 = .ok (.arraylength, 1) := by decide +kernel
theorem d_jdk_42_55_5 : decode jdk_42_method_55_code 5 = .ok (.ifCond .ne 7, 3) := by decide +kernel
theorem d_jdk_42_55_8 : decode jdk_42_method_55_code 8 = .ok (.iconst 1, 1) := by decide +kernel
theorem d_jdk_42_55_9 : decode jdk_42_method_55_code 9 = .ok (.goto 4, 3) := by decide +kernel
theorem d_jdk_42_55_12 : decode jdk_42_method_55_code 12 = .ok (.iconst 0, 1) := by decide +kernel
theorem d_jdk_42_55_13 : decode jdk_42_method_55_code 13 = .ok (.ireturn, 1) := by decide +kernel
theorem d_jdk_42_56_0 : decode jdk_42_method_56_code 0 = .ok (.aload_n 0, 1) := by decide +kernel
theorem d_jdk_42_56_1 : decode jdk_42_method_56_code 1 = .ok (.invokevirtual 492, 3) := by decide +kernel
theorem d_jdk_42_56_4 : decode jdk_42_method_56_code 4 = .ok (.ifCond .eq 12, 3) := by decide +kernel
theorem d_jdk_42_56_7 : decode jdk_42_method_56_code 7 = .ok (.aload_n 0, 1) := by decide +kernel
theorem d_jdk_42_56_8 : decode jdk_42_method_56_code 8 = .ok (.getfield 9, 3) := by decide +kernel
theorem d_jdk_42_56_11 : decode jdk_42_method_56_code 11 = .ok (.iload_n 1, 1) := by decide +kernel
theorem d_jdk_42_56_12 : decode jdk_42_method_56_code 12 = .ok (.invokestatic 495, 3) := by decide +kernel
theorem d_jdk_42_56_15 : decode jdk_42_method_56_code 15 = .ok (.ireturn, 1) := by decide +kernel
theorem d_jdk_43_2_0 : decode jdk_43_method_2_code 0 = .ok (.iload_n 1, 1) := by decide +kernel
theorem d_jdk_43_2_1 : decode jdk_43_method_2_code 1 = .ok (.aload_n 0, 1) := by decide +kernel
theorem d_jdk_43_2_2 : decode jdk_43_method_2_code 2 = .ok (.arraylength, 1) := by decide +kernel
theorem d_jdk_43_2_3 : decode jdk_43_method_2_code 3 = .ok (.invokestatic 9, 3) := by decide +kernel
theorem d_jdk_43_2_6 : decode jdk_43_method_2_code 6 = .ok (.aload_n 0, 1) := by decide +kernel
theorem d_jdk_43_2_7 : decode jdk_43_method_2_code 7 = .ok (.iload_n 1, 1) := by decide +kernel
theorem d_jdk_43_2_8 : decode jdk_43_method_2_code 8 = .ok (.baload, 1) := by decide +kernel
theorem d_jdk_43_2_9 : decode jdk_43_method_2_code 9 = .ok (.sipush 255, 3) := by decide +kernel
theorem d_jdk_43_2_12 : decode jdk_43_method_2_code 12 = .ok (.iand, 1) := by decide +kernel
theorem d_jdk_43_2_13 : decode jdk_43_method_2_code 13 = .ok (.i2c, 1) := by decide +kernel
theorem d_jdk_43_2_14 : decode jdk_43_method_2_code 14 = .ok (.ireturn, 1) := by decide +kernel
theorem d_jdk_52_15_0 : decode jdk_52_method_15_code 0 = .ok (.iload_n 1, 1) := by decide +kernel
theorem d_jdk_52_15_1 : decode jdk_52_method_15_code 1 = .ok (.aload_n 0, 1) := by decide +kernel
theorem d_jdk_52_15_2 : decode jdk_52_method_15_code 2 = .ok (.arraylength, 1) := by decide +kernel
theorem d_jdk_52_15_3 : decode jdk_52_method_15_code 3 = .ok (.isub, 1) := by decide +kernel
theorem d_jdk_52_15_4 : decode jdk_52_method_15_code 4 = .ok (.bipush 31, 2) := by decide +kernel
theorem d_jdk_52_15_6 : decode jdk_52_method_15_code 6 = .ok (.iushr, 1) := by decide +kernel
theorem d_jdk_52_15_7 : decode jdk_52_method_15_code 7 = .ok (.i2b, 1) := by decide +kernel
theorem d_jdk_52_15_8 : decode jdk_52_method_15_code 8 = .ok (.ireturn, 1) := by decide +kernel
theorem d_jdk_52_16_0 : decode jdk_52_method_16_code 0 = .ok (.iload_n 2, 1) := by decide +kernel
theorem d_jdk_52_16_1 : decode jdk_52_method_16_code 1 = .ok (.newarray .byte, 2) := by decide +kernel
theorem d_jdk_52_16_3 : decode jdk_52_method_16_code 3 = .ok (.astore_n 3, 1) := by decide +kernel
theorem d_jdk_52_16_4 : decode jdk_52_method_16_code 4 = .ok (.aload_n 0, 1) := by decide +kernel
theorem d_jdk_52_16_5 : decode jdk_52_method_16_code 5 = .ok (.iload_n 1, 1) := by decide +kernel
theorem d_jdk_52_16_6 : decode jdk_52_method_16_code 6 = .ok (.aload_n 3, 1) := by decide +kernel
theorem d_jdk_52_16_7 : decode jdk_52_method_16_code 7 = .ok (.iconst 0, 1) := by decide +kernel
theorem d_jdk_52_16_8 : decode jdk_52_method_16_code 8 = .ok (.iload_n 2, 1) := by decide +kernel
theorem d_jdk_52_16_9 : decode jdk_52_method_16_code 9 = .ok (.invokestatic 115, 3) := by decide +kernel
theorem d_jdk_52_16_12 : decode jdk_52_method_16_code 12 = .ok (.istore 4, 2) := by decide +kernel
theorem d_jdk_52_16_14 : decode jdk_52_method_16_code 14 = .ok (.iload 4, 2) := by decide +kernel
theorem d_jdk_52_16_16 : decode jdk_52_method_16_code 16 = .ok (.iload_n 2, 1) := by decide +kernel
theorem d_jdk_52_16_17 : decode jdk_52_method_16_code 17 = .ok (.if_icmp .eq 40, 3) := by decide +kernel
theorem d_jdk_52_16_57 : decode jdk_52_method_16_code 57 = .ok (.aload_n 3, 1) := by decide +kernel
theorem d_jdk_52_16_58 : decode jdk_52_method_16_code 58 = .ok (.areturn, 1) := by decide +kernel
theorem d_jdk_52_21_0 : decode jdk_52_method_21_code 0 = .ok (.iconst 0, 1) := by decide +kernel
theorem d_jdk_52_21_1 : decode jdk_52_method_21_code 1 = .ok (.istore 5, 2) := by decide +kernel
theorem d_jdk_52_21_3 : decode jdk_52_method_21_code 3 = .ok (.iload 5, 2) := by decide +kernel
theorem d_jdk_52_21_5 : decode jdk_52_method_21_code 5 = .ok (.iload 4, 2) := by decide +kernel
theorem d_jdk_52_21_7 : decode jdk_52_method_21_code 7 = .ok (.if_icmp .ge 37, 3) := by decide +kernel
theorem d_jdk_52_21_10 : decode jdk_52_method_21_code 10 = .ok (.aload_n 0, 1) := by decide +kernel
theorem d_jdk_52_21_11 : decode jdk_52_method_21_code 11 = .ok (.iload_n 1, 1) := by decide +kernel
theorem d_jdk_52_21_12 : decode jdk_52_method_21_code 12 = .ok (.caload, 1) := by decide +kernel
theorem d_jdk_52_21_13 : decode jdk_52_method_21_code 13 = .ok (.istore 6, 2) := by decide +kernel
theorem d_jdk_52_21_15 : decode jdk_52_method_21_code 15 = .ok (.iload 6, 2) := by decide +kernel
theorem d_jdk_52_21_17 : decode jdk_52_method_21_code 17 = .ok (.sipush 255, 3) := by decide +kernel
theorem d_jdk_52_21_20 : decode jdk_52_method_21_code 20 = .ok (.if_icmp .le 6, 3) := by decide +kernel
theorem d_jdk_52_21_26 : decode jdk_52_method_21_code 26 = .ok (.aload_n 2, 1) := by decide +kernel
theorem d_jdk_52_21_27 : decode jdk_52_method_21_code 27 = .ok (.iload_n 3, 1) := by decide +kernel
theorem d_jdk_52_21_28 : decode jdk_52_method_21_code 28 = .ok (.iload 6, 2) := by decide +kernel
theorem d_jdk_52_21_30 : decode jdk_52_method_21_code 30 = .ok (.i2b, 1) := by decide +kernel
theorem d_jdk_52_21_31 : decode jdk_52_method_21_code 31 = .ok (.bastore, 1) := by decide +kernel
theorem d_jdk_52_21_32 : decode jdk_52_method_21_code 32 = .ok (.iinc 1 1, 3) := by decide +kernel
theorem d_jdk_52_21_35 : decode jdk_52_method_21_code 35 = .ok (.iinc 3 1, 3) := by decide +kernel
theorem d_jdk_52_21_38 : decode jdk_52_method_21_code 38 = .ok (.iinc 5 1, 3) := by decide +kernel
theorem d_jdk_52_21_41 : decode jdk_52_method_21_code 41 = .ok (.goto (-38), 3) := by decide +kernel
theorem d_jdk_52_21_44 : decode jdk_52_method_21_code 44 = .ok (.iload 4, 2) := by decide +kernel
theorem d_jdk_52_21_46 : decode jdk_52_method_21_code 46 = .ok (.ireturn, 1) := by decide +kernel
theorem d_method_3_0 : decode method_3_code 0 = .ok (.iload_n 1, 1) := by decide +kernel
theorem d_method_3_1 : decode method_3_code 1 = .ok (.aload_n 0, 1) := by decide +kernel
theorem d_method_3_2 : decode method_3_code 2 = .ok (.arraylength, 1) := by decide +kernel
theorem d_method_3_3 : decode method_3_code 3 = .ok (.if_icmp .lt 4, 3) := by decide +kernel
theorem d_method_3_6 : decode method_3_code 6 = .ok (.return_, 1) := by decide +kernel
theorem d_method_3_7 : decode method_3_code 7 = .ok (.iload_n 1, 1) := by decide +kernel
theorem d_method_3_8 : decode method_3_code 8 = .ok (.bipush 8, 2) := by decide +kernel
theorem d_method_3_10 : decode method_3_code 10 = .ok (.if_icmp .ge 19, 3) := by decide +kernel
theorem d_method_3_13 : decode method_3_code 13 = .ok (.lload_n 2, 1) := by decide +kernel
theorem d_method_3_14 : decode method_3_code 14 = .ok (.bipush 8, 2) := by decide +kernel
theorem d_method_3_16 : decode method_3_code 16 = .ok (.iload_n 1, 1) := by decide +kernel
theorem d_method_3_17 : decode method_3_code 17 = .ok (.imul, 1) := by decide +kernel
theorem d_method_3_18 : decode method_3_code 18 = .ok (.lushr, 1) := by decide +kernel
theorem d_method_3_19 : decode method_3_code 19 = .ok (.ldc2_w 35, 3) := by decide +kernel
theorem d_method_3_22 : decode method_3_code 22 = .ok (.land, 1) := by decide +kernel
theorem d_method_3_23 : decode method_3_code 23 = .ok (.l2i, 1) := by decide +kernel
theorem d_method_3_24 : decode method_3_code 24 = .ok (.istore 8, 2) := by decide +kernel
theorem d_method_3_26 : decode method_3_code 26 = .ok (.goto 45, 3) := by decide +kernel
theorem d_method_3_29 : decode method_3_code 29 = .ok (.iload_n 1, 1) := by decide +kernel
theorem d_method_3_30 : decode method_3_code 30 = .ok (.bipush 16, 2) := by decide +kernel
theorem d_method_3_32 : decode method_3_code 32 = .ok (.if_icmp .ge 23, 3) := by decide +kernel
theorem d_method_3_35 : decode method_3_code 35 = .ok (.lload 4, 2) := by decide +kernel
theorem d_method_3_37 : decode method_3_code 37 = .ok (.bipush 8, 2) := by decide +kernel
theorem d_method_3_39 : decode method_3_code 39 = .ok (.iload_n 1, 1) := by decide +kernel
theorem d_method_3_40 : decode method_3_code 40 = .ok (.bipush 8, 2) := by decide +kernel
theorem d_method_3_42 : decode method_3_code 42 = .ok (.isub, 1) := by decide +kernel
theorem d_method_3_43 : decode method_3_code 43 = .ok (.imul, 1) := by decide +kernel
theorem d_method_3_44 : decode method_3_code 44 = .ok (.lushr, 1) := by decide +kernel
theorem d_method_3_45 : decode method_3_code 45 = .ok (.ldc2_w 35, 3) := by decide +kernel
theorem d_method_3_48 : decode method_3_code 48 = .ok (.land, 1) := by decide +kernel
theorem d_method_3_49 : decode method_3_code 49 = .ok (.l2i, 1) := by decide +kernel
theorem d_method_3_50 : decode method_3_code 50 = .ok (.istore 8, 2) := by decide +kernel
theorem d_method_3_52 : decode method_3_code 52 = .ok (.goto 19, 3) := by decide +kernel
theorem d_method_3_55 : decode method_3_code 55 = .ok (.iload 6, 2) := by decide +kernel
theorem d_method_3_57 : decode method_3_code 57 = .ok (.bipush 8, 2) := by decide +kernel
theorem d_method_3_59 : decode method_3_code 59 = .ok (.iload_n 1, 1) := by decide +kernel
theorem d_method_3_60 : decode method_3_code 60 = .ok (.bipush 16, 2) := by decide +kernel
theorem d_method_3_62 : decode method_3_code 62 = .ok (.isub, 1) := by decide +kernel
theorem d_method_3_63 : decode method_3_code 63 = .ok (.imul, 1) := by decide +kernel
theorem d_method_3_64 : decode method_3_code 64 = .ok (.iushr, 1) := by decide +kernel
theorem d_method_3_65 : decode method_3_code 65 = .ok (.sipush 255, 3) := by decide +kernel
theorem d_method_3_68 : decode method_3_code 68 = .ok (.iand, 1) := by decide +kernel
theorem d_method_3_69 : decode method_3_code 69 = .ok (.istore 8, 2) := by decide +kernel
theorem d_method_3_71 : decode method_3_code 71 = .ok (.iload 7, 2) := by decide +kernel
theorem d_method_3_73 : decode method_3_code 73 = .ok (.iload_n 1, 1) := by decide +kernel
theorem d_method_3_74 : decode method_3_code 74 = .ok (.iushr, 1) := by decide +kernel
theorem d_method_3_75 : decode method_3_code 75 = .ok (.iconst 1, 1) := by decide +kernel
theorem d_method_3_76 : decode method_3_code 76 = .ok (.iand, 1) := by decide +kernel
theorem d_method_3_77 : decode method_3_code 77 = .ok (.ifCond .eq 12, 3) := by decide +kernel
theorem d_method_3_80 : decode method_3_code 80 = .ok (.aload_n 0, 1) := by decide +kernel
theorem d_method_3_81 : decode method_3_code 81 = .ok (.iload_n 1, 1) := by decide +kernel
theorem d_method_3_82 : decode method_3_code 82 = .ok (.iload 8, 2) := by decide +kernel
theorem d_method_3_84 : decode method_3_code 84 = .ok (.i2c, 1) := by decide +kernel
theorem d_method_3_85 : decode method_3_code 85 = .ok (.castore, 1) := by decide +kernel
theorem d_method_3_86 : decode method_3_code 86 = .ok (.goto 15, 3) := by decide +kernel
theorem d_method_3_89 : decode method_3_code 89 = .ok (.aload_n 0, 1) := by decide +kernel
theorem d_method_3_90 : decode method_3_code 90 = .ok (.iload_n 1, 1) := by decide +kernel
theorem d_method_3_91 : decode method_3_code 91 = .ok (.bipush 48, 2) := by decide +kernel
theorem d_method_3_93 : decode method_3_code 93 = .ok (.iload 8, 2) := by decide +kernel
theorem d_method_3_95 : decode method_3_code 95 = .ok (.bipush 10, 2) := by decide +kernel
theorem d_method_3_97 : decode method_3_code 97 = .ok (.irem, 1) := by decide +kernel
theorem d_method_3_98 : decode method_3_code 98 = .ok (.iadd, 1) := by decide +kernel
theorem d_method_3_99 : decode method_3_code 99 = .ok (.i2c, 1) := by decide +kernel
theorem d_method_3_100 : decode method_3_code 100 = .ok (.castore, 1) := by decide +kernel
theorem d_method_3_101 : decode method_3_code 101 = .ok (.return_, 1) := by decide +kernel
theorem d_method_4_0 : decode method_4_code 0 = .ok (.iload_n 1, 1) := by decide +kernel
theorem d_method_4_1 : decode method_4_code 1 = .ok (.aload_n 0, 1) := by decide +kernel
theorem d_method_4_2 : decode method_4_code 2 = .ok (.arraylength, 1) := by decide +kernel
theorem d_method_4_3 : decode method_4_code 3 = .ok (.if_icmp .ge 19, 3) := by decide +kernel
theorem d_method_4_6 : decode method_4_code 6 = .ok (.aload_n 0, 1) := by decide +kernel
theorem d_method_4_7 : decode method_4_code 7 = .ok (.iload_n 1, 1) := by decide +kernel
theorem d_method_4_8 : decode method_4_code 8 = .ok (.caload, 1) := by decide +kernel
theorem d_method_4_9 : decode method_4_code 9 = .ok (.bipush 48, 2) := by decide +kernel
theorem d_method_4_11 : decode method_4_code 11 = .ok (.if_icmp .lt 15, 3) := by decide +kernel
theorem d_method_4_14 : decode method_4_code 14 = .ok (.aload_n 0, 1) := by decide +kernel
theorem d_method_4_15 : decode method_4_code 15 = .ok (.iload_n 1, 1) := by decide +kernel
theorem d_method_4_16 : decode method_4_code 16 = .ok (.caload, 1) := by decide +kernel
theorem d_method_4_17 : decode method_4_code 17 = .ok (.bipush 57, 2) := by decide +kernel
theorem d_method_4_19 : decode method_4_code 19 = .ok (.if_icmp .gt 7, 3) := by decide +kernel
theorem d_method_4_22 : decode method_4_code 22 = .ok (.iconst 1, 1) := by decide +kernel
theorem d_method_4_23 : decode method_4_code 23 = .ok (.goto 4, 3) := by decide +kernel
theorem d_method_4_26 : decode method_4_code 26 = .ok (.iconst 0, 1) := by decide +kernel
theorem d_method_4_27 : decode method_4_code 27 = .ok (.ireturn, 1) := by decide +kernel
theorem d_method_5_0 : decode method_5_code 0 = .ok (.iload_n 1, 1) := by decide +kernel
theorem d_method_5_1 : decode method_5_code 1 = .ok (.ifCond .lt 16, 3) := by decide +kernel
theorem d_method_5_4 : decode method_5_code 4 = .ok (.iload_n 1, 1) := by decide +kernel
theorem d_method_5_5 : decode method_5_code 5 = .ok (.aload_n 0, 1) := by decide +kernel
theorem d_method_5_6 : decode method_5_code 6 = .ok (.arraylength, 1) := by decide +kernel
theorem d_method_5_7 : decode method_5_code 7 = .ok (.if_icmp .ge 10, 3) := by decide +kernel
theorem d_method_5_10 : decode method_5_code 10 = .ok (.aload_n 0, 1) := by decide +kernel
theorem d_method_5_11 : decode method_5_code 11 = .ok (.iload_n 1, 1) := by decide +kernel
theorem d_method_5_12 : decode method_5_code 12 = .ok (.caload, 1) := by decide +kernel
theorem d_method_5_13 : decode method_5_code 13 = .ok (.bipush 48, 2) := by decide +kernel
theorem d_method_5_15 : decode method_5_code 15 = .ok (.isub, 1) := by decide +kernel
theorem d_method_5_16 : decode method_5_code 16 = .ok (.ireturn, 1) := by decide +kernel
theorem d_method_5_17 : decode method_5_code 17 = .ok (.iconst 0, 1) := by decide +kernel
theorem d_method_5_18 : decode method_5_code 18 = .ok (.ireturn, 1) := by decide +kernel
theorem d_method_6_0 : decode method_6_code 0 = .ok (.iload_n 1, 1) := by decide +kernel
theorem d_method_6_1 : decode method_6_code 1 = .ok (.aload_n 0, 1) := by decide +kernel
theorem d_method_6_2 : decode method_6_code 2 = .ok (.arraylength, 1) := by decide +kernel
theorem d_method_6_3 : decode method_6_code 3 = .ok (.bipush 10, 2) := by decide +kernel
theorem d_method_6_5 : decode method_6_code 5 = .ok (.isub, 1) := by decide +kernel
theorem d_method_6_6 : decode method_6_code 6 = .ok (.if_icmp .ge 15, 3) := by decide +kernel
theorem d_method_6_9 : decode method_6_code 9 = .ok (.aload_n 0, 1) := by decide +kernel
theorem d_method_6_10 : decode method_6_code 10 = .ok (.iload_n 1, 1) := by decide +kernel
theorem d_method_6_11 : decode method_6_code 11 = .ok (.caload, 1) := by decide +kernel
theorem d_method_6_12 : decode method_6_code 12 = .ok (.bipush 48, 2) := by decide +kernel
theorem d_method_6_14 : decode method_6_code 14 = .ok (.if_icmp .eq 7, 3) := by decide +kernel
theorem d_method_6_17 : decode method_6_code 17 = .ok (.iconst 1, 1) := by decide +kernel
theorem d_method_6_18 : decode method_6_code 18 = .ok (.goto 4, 3) := by decide +kernel
theorem d_method_6_21 : decode method_6_code 21 = .ok (.iconst 0, 1) := by decide +kernel
theorem d_method_6_22 : decode method_6_code 22 = .ok (.ireturn, 1) := by decide +kernel
theorem d_method_7_0 : decode method_7_code 0 = .ok (.aload_n 0, 1) := by decide +kernel
theorem d_method_7_1 : decode method_7_code 1 = .ok (.arraylength, 1) := by decide +kernel
theorem d_method_7_2 : decode method_7_code 2 = .ok (.istore_n 1, 1) := by decide +kernel
theorem d_method_7_3 : decode method_7_code 3 = .ok (.iload_n 1, 1) := by decide +kernel
theorem d_method_7_4 : decode method_7_code 4 = .ok (.ifCond .ne 5, 3) := by decide +kernel
theorem d_method_7_7 : decode method_7_code 7 = .ok (.iconst (-1), 1) := by decide +kernel
theorem d_method_7_8 : decode method_7_code 8 = .ok (.ireturn, 1) := by decide +kernel
theorem d_method_7_9 : decode method_7_code 9 = .ok (.aload_n 0, 1) := by decide +kernel
theorem d_method_7_10 : decode method_7_code 10 = .ok (.iconst 0, 1) := by decide +kernel
theorem d_method_7_11 : decode method_7_code 11 = .ok (.invokestatic 37, 3) := by decide +kernel
theorem d_method_7_14 : decode method_7_code 14 = .ok (.ifCond .eq 173, 3) := by decide +kernel
theorem d_method_7_17 : decode method_7_code 17 = .ok (.aload_n 0, 1) := by decide +kernel
theorem d_method_7_18 : decode method_7_code 18 = .ok (.iconst 1, 1) := by decide +kernel
theorem d_method_7_19 : decode method_7_code 19 = .ok (.invokestatic 37, 3) := by decide +kernel
theorem d_method_7_22 : decode method_7_code 22 = .ok (.ifCond .eq 165, 3) := by decide +kernel
theorem d_method_7_25 : decode method_7_code 25 = .ok (.aload_n 0, 1) := by decide +kernel
theorem d_method_7_26 : decode method_7_code 26 = .ok (.iconst 2, 1) := by decide +kernel
theorem d_method_7_27 : decode method_7_code 27 = .ok (.invokestatic 37, 3) := by decide +kernel
theorem d_method_7_30 : decode method_7_code 30 = .ok (.ifCond .eq 157, 3) := by decide +kernel
theorem d_method_7_33 : decode method_7_code 33 = .ok (.aload_n 0, 1) := by decide +kernel
theorem d_method_7_34 : decode method_7_code 34 = .ok (.iconst 3, 1) := by decide +kernel
theorem d_method_7_35 : decode method_7_code 35 = .ok (.invokestatic 37, 3) := by decide +kernel
theorem d_method_7_38 : decode method_7_code 38 = .ok (.ifCond .eq 149, 3) := by decide +kernel
theorem d_method_7_41 : decode method_7_code 41 = .ok (.aload_n 0, 1) := by decide +kernel
theorem d_method_7_42 : decode method_7_code 42 = .ok (.iconst 4, 1) := by decide +kernel
theorem d_method_7_43 : decode method_7_code 43 = .ok (.invokestatic 37, 3) := by decide +kernel
theorem d_method_7_46 : decode method_7_code 46 = .ok (.ifCond .eq 141, 3) := by decide +kernel
theorem d_method_7_49 : decode method_7_code 49 = .ok (.aload_n 0, 1) := by decide +kernel
theorem d_method_7_50 : decode method_7_code 50 = .ok (.iconst 5, 1) := by decide +kernel
theorem d_method_7_51 : decode method_7_code 51 = .ok (.invokestatic 37, 3) := by decide +kernel
theorem d_method_7_54 : decode method_7_code 54 = .ok (.ifCond .eq 133, 3) := by decide +kernel
theorem d_method_7_57 : decode method_7_code 57 = .ok (.aload_n 0, 1) := by decide +kernel
theorem d_method_7_58 : decode method_7_code 58 = .ok (.bipush 6, 2) := by decide +kernel
theorem d_method_7_60 : decode method_7_code 60 = .ok (.invokestatic 37, 3) := by decide +kernel
theorem d_method_7_63 : decode method_7_code 63 = .ok (.ifCond .eq 124, 3) := by decide +kernel
theorem d_method_7_66 : decode method_7_code 66 = .ok (.aload_n 0, 1) := by decide +kernel
theorem d_method_7_67 : decode method_7_code 67 = .ok (.bipush 7, 2) := by decide +kernel
theorem d_method_7_69 : decode method_7_code 69 = .ok (.invokestatic 37, 3) := by decide +kernel
theorem d_method_7_72 : decode method_7_code 72 = .ok (.ifCond .eq 115, 3) := by decide +kernel
theorem d_method_7_75 : decode method_7_code 75 = .ok (.aload_n 0, 1) := by decide +kernel
theorem d_method_7_76 : decode method_7_code 76 = .ok (.bipush 8, 2) := by decide +kernel
theorem d_method_7_78 : decode method_7_code 78 = .ok (.invokestatic 37, 3) := by decide +kernel
theorem d_method_7_81 : decode method_7_code 81 = .ok (.ifCond .eq 106, 3) := by decide +kernel
theorem d_method_7_84 : decode method_7_code 84 = .ok (.aload_n 0, 1) := by decide +kernel
theorem d_method_7_85 : decode method_7_code 85 = .ok (.bipush 9, 2) := by decide +kernel
theorem d_method_7_87 : decode method_7_code 87 = .ok (.invokestatic 37, 3) := by decide +kernel
theorem d_method_7_90 : decode method_7_code 90 = .ok (.ifCond .eq 97, 3) := by decide +kernel
theorem d_method_7_93 : decode method_7_code 93 = .ok (.aload_n 0, 1) := by decide +kernel
theorem d_method_7_94 : decode method_7_code 94 = .ok (.bipush 10, 2) := by decide +kernel
theorem d_method_7_96 : decode method_7_code 96 = .ok (.invokestatic 37, 3) := by decide +kernel
theorem d_method_7_99 : decode method_7_code 99 = .ok (.ifCond .eq 88, 3) := by decide +kernel
theorem d_method_7_102 : decode method_7_code 102 = .ok (.aload_n 0, 1) := by decide +kernel
theorem d_method_7_103 : decode method_7_code 103 = .ok (.bipush 11, 2) := by decide +kernel
theorem d_method_7_105 : decode method_7_code 105 = .ok (.invokestatic 37, 3) := by decide +kernel
theorem d_method_7_108 : decode method_7_code 108 = .ok (.ifCond .eq 79, 3) := by decide +kernel
theorem d_method_7_111 : decode method_7_code 111 = .ok (.aload_n 0, 1) := by decide +kernel
theorem d_method_7_112 : decode method_7_code 112 = .ok (.bipush 12, 2) := by decide +kernel
theorem d_method_7_114 : decode method_7_code 114 = .ok (.invokestatic 37, 3) := by decide +kernel
theorem d_method_7_117 : decode method_7_code 117 = .ok (.ifCond .eq 70, 3) := by decide +kernel
theorem d_method_7_120 : decode method_7_code 120 = .ok (.aload_n 0, 1) := by decide +kernel
theorem d_method_7_121 : decode method_7_code 121 = .ok (.bipush 13, 2) := by decide +kernel
theorem d_method_7_123 : decode method_7_code 123 = .ok (.invokestatic 37, 3) := by decide +kernel
theorem d_method_7_126 : decode method_7_code 126 = .ok (.ifCond .eq 61, 3) := by decide +kernel
theorem d_method_7_129 : decode method_7_code 129 = .ok (.aload_n 0, 1) := by decide +kernel
theorem d_method_7_130 : decode method_7_code 130 = .ok (.bipush 14, 2) := by decide +kernel
theorem d_method_7_132 : decode method_7_code 132 = .ok (.invokestatic 37, 3) := by decide +kernel
theorem d_method_7_135 : decode method_7_code 135 = .ok (.ifCond .eq 52, 3) := by decide +kernel
theorem d_method_7_138 : decode method_7_code 138 = .ok (.aload_n 0, 1) := by decide +kernel
theorem d_method_7_139 : decode method_7_code 139 = .ok (.bipush 15, 2) := by decide +kernel
theorem d_method_7_141 : decode method_7_code 141 = .ok (.invokestatic 37, 3) := by decide +kernel
theorem d_method_7_144 : decode method_7_code 144 = .ok (.ifCond .eq 43, 3) := by decide +kernel
theorem d_method_7_147 : decode method_7_code 147 = .ok (.aload_n 0, 1) := by decide +kernel
theorem d_method_7_148 : decode method_7_code 148 = .ok (.bipush 16, 2) := by decide +kernel
theorem d_method_7_150 : decode method_7_code 150 = .ok (.invokestatic 37, 3) := by decide +kernel
theorem d_method_7_153 : decode method_7_code 153 = .ok (.ifCond .eq 34, 3) := by decide +kernel
theorem d_method_7_156 : decode method_7_code 156 = .ok (.aload_n 0, 1) := by decide +kernel
theorem d_method_7_157 : decode method_7_code 157 = .ok (.bipush 17, 2) := by decide +kernel
theorem d_method_7_159 : decode method_7_code 159 = .ok (.invokestatic 37, 3) := by decide +kernel
theorem d_method_7_162 : decode method_7_code 162 = .ok (.ifCond .eq 25, 3) := by decide +kernel
theorem d_method_7_165 : decode method_7_code 165 = .ok (.aload_n 0, 1) := by decide +kernel
theorem d_method_7_166 : decode method_7_code 166 = .ok (.bipush 18, 2) := by decide +kernel
theorem d_method_7_168 : decode method_7_code 168 = .ok (.invokestatic 37, 3) := by decide +kernel
theorem d_method_7_171 : decode method_7_code 171 = .ok (.ifCond .eq 16, 3) := by decide +kernel
theorem d_method_7_174 : decode method_7_code 174 = .ok (.aload_n 0, 1) := by decide +kernel
theorem d_method_7_175 : decode method_7_code 175 = .ok (.bipush 19, 2) := by decide +kernel
theorem d_method_7_177 : decode method_7_code 177 = .ok (.invokestatic 37, 3) := by decide +kernel
theorem d_method_7_180 : decode method_7_code 180 = .ok (.ifCond .eq 7, 3) := by decide +kernel
theorem d_method_7_183 : decode method_7_code 183 = .ok (.iconst 1, 1) := by decide +kernel
theorem d_method_7_184 : decode method_7_code 184 = .ok (.goto 4, 3) := by decide +kernel
theorem d_method_7_187 : decode method_7_code 187 = .ok (.iconst 0, 1) := by decide +kernel
theorem d_method_7_188 : decode method_7_code 188 = .ok (.istore_n 2, 1) := by decide +kernel
theorem d_method_7_189 : decode method_7_code 189 = .ok (.iload_n 2, 1) := by decide +kernel
theorem d_method_7_190 : decode method_7_code 190 = .ok (.ifCond .ne 5, 3) := by decide +kernel
theorem d_method_7_193 : decode method_7_code 193 = .ok (.iconst (-1), 1) := by decide +kernel
theorem d_method_7_194 : decode method_7_code 194 = .ok (.ireturn, 1) := by decide +kernel
theorem d_method_7_195 : decode method_7_code 195 = .ok (.aload_n 0, 1) := by decide +kernel
theorem d_method_7_196 : decode method_7_code 196 = .ok (.iload_n 1, 1) := by decide +kernel
theorem d_method_7_197 : decode method_7_code 197 = .ok (.bipush 10, 2) := by decide +kernel
theorem d_method_7_199 : decode method_7_code 199 = .ok (.isub, 1) := by decide +kernel
theorem d_method_7_200 : decode method_7_code 200 = .ok (.invokestatic 41, 3) := by decide +kernel
theorem d_method_7_203 : decode method_7_code 203 = .ok (.i2l, 1) := by decide +kernel
theorem d_method_7_204 : decode method_7_code 204 = .ok (.ldc2_w 45, 3) := by decide +kernel
theorem d_method_7_207 : decode method_7_code 207 = .ok (.lmul, 1) := by decide +kernel
theorem d_method_7_208 : decode method_7_code 208 = .ok (.aload_n 0, 1) := by decide +kernel
theorem d_method_7_209 : decode method_7_code 209 = .ok (.iload_n 1, 1) := by decide +kernel
theorem d_method_7_210 : decode method_7_code 210 = .ok (.bipush 9, 2) := by decide +kernel
theorem d_method_7_212 : decode method_7_code 212 = .ok (.isub, 1) := by decide +kernel
theorem d_method_7_213 : decode method_7_code 213 = .ok (.invokestatic 41, 3) := by decide +kernel
theorem d_method_7_216 : decode method_7_code 216 = .ok (.i2l, 1) := by decide +kernel
theorem d_method_7_217 : decode method_7_code 217 = .ok (.ldc2_w 47, 3) := by decide +kernel
theorem d_method_7_220 : decode method_7_code 220 = .ok (.lmul, 1) := by decide +kernel
theorem d_method_7_221 : decode method_7_code 221 = .ok (.ladd, 1) := by decide +kernel
theorem d_method_7_222 : decode method_7_code 222 = .ok (.aload_n 0, 1) := by decide +kernel
theorem d_method_7_223 : decode method_7_code 223 = .ok (.iload_n 1, 1) := by decide +kernel
theorem d_method_7_224 : decode method_7_code 224 = .ok (.bipush 8, 2) := by decide +kernel
theorem d_method_7_226 : decode method_7_code 226 = .ok (.isub, 1) := by decide +kernel
theorem d_method_7_227 : decode method_7_code 227 = .ok (.invokestatic 41, 3) := by decide +kernel
theorem d_method_7_230 : decode method_7_code 230 = .ok (.i2l, 1) := by decide +kernel
theorem d_method_7_231 : decode method_7_code 231 = .ok (.ldc2_w 49, 3) := by decide +kernel
theorem d_method_7_234 : decode method_7_code 234 = .ok (.lmul, 1) := by decide +kernel
theorem d_method_7_235 : decode method_7_code 235 = .ok (.ladd, 1) := by decide +kernel
theorem d_method_7_236 : decode method_7_code 236 = .ok (.aload_n 0, 1) := by decide +kernel
theorem d_method_7_237 : decode method_7_code 237 = .ok (.iload_n 1, 1) := by decide +kernel
theorem d_method_7_238 : decode method_7_code 238 = .ok (.bipush 7, 2) := by decide +kernel
theorem d_method_7_240 : decode method_7_code 240 = .ok (.isub, 1) := by decide +kernel
theorem d_method_7_241 : decode method_7_code 241 = .ok (.invokestatic 41, 3) := by decide +kernel
theorem d_method_7_244 : decode method_7_code 244 = .ok (.i2l, 1) := by decide +kernel
theorem d_method_7_245 : decode method_7_code 245 = .ok (.ldc2_w 51, 3) := by decide +kernel
theorem d_method_7_248 : decode method_7_code 248 = .ok (.lmul, 1) := by decide +kernel
theorem d_method_7_249 : decode method_7_code 249 = .ok (.ladd, 1) := by decide +kernel
theorem d_method_7_250 : decode method_7_code 250 = .ok (.aload_n 0, 1) := by decide +kernel
theorem d_method_7_251 : decode method_7_code 251 = .ok (.iload_n 1, 1) := by decide +kernel
theorem d_method_7_252 : decode method_7_code 252 = .ok (.bipush 6, 2) := by decide +kernel
theorem d_method_7_254 : decode method_7_code 254 = .ok (.isub, 1) := by decide +kernel
theorem d_method_7_255 : decode method_7_code 255 = .ok (.invokestatic 41, 3) := by decide +kernel
theorem d_method_7_258 : decode method_7_code 258 = .ok (.i2l, 1) := by decide +kernel
theorem d_method_7_259 : decode method_7_code 259 = .ok (.ldc2_w 53, 3) := by decide +kernel
theorem d_method_7_262 : decode method_7_code 262 = .ok (.lmul, 1) := by decide +kernel
theorem d_method_7_263 : decode method_7_code 263 = .ok (.ladd, 1) := by decide +kernel
theorem d_method_7_264 : decode method_7_code 264 = .ok (.aload_n 0, 1) := by decide +kernel
theorem d_method_7_265 : decode method_7_code 265 = .ok (.iload_n 1, 1) := by decide +kernel
theorem d_method_7_266 : decode method_7_code 266 = .ok (.iconst 5, 1) := by decide +kernel
theorem d_method_7_267 : decode method_7_code 267 = .ok (.isub, 1) := by decide +kernel
theorem d_method_7_268 : decode method_7_code 268 = .ok (.invokestatic 41, 3) := by decide +kernel
theorem d_method_7_271 : decode method_7_code 271 = .ok (.i2l, 1) := by decide +kernel
theorem d_method_7_272 : decode method_7_code 272 = .ok (.ldc2_w 55, 3) := by decide +kernel
theorem d_method_7_275 : decode method_7_code 275 = .ok (.lmul, 1) := by decide +kernel
theorem d_method_7_276 : decode method_7_code 276 = .ok (.ladd, 1) := by decide +kernel
theorem d_method_7_277 : decode method_7_code 277 = .ok (.aload_n 0, 1) := by decide +kernel
theorem d_method_7_278 : decode method_7_code 278 = .ok (.iload_n 1, 1) := by decide +kernel
theorem d_method_7_279 : decode method_7_code 279 = .ok (.iconst 4, 1) := by decide +kernel
theorem d_method_7_280 : decode method_7_code 280 = .ok (.isub, 1) := by decide +kernel
theorem d_method_7_281 : decode method_7_code 281 = .ok (.invokestatic 41, 3) := by decide +kernel
theorem d_method_7_284 : decode method_7_code 284 = .ok (.i2l, 1) := by decide +kernel
theorem d_method_7_285 : decode method_7_code 285 = .ok (.ldc2_w 57, 3) := by decide +kernel
theorem d_method_7_288 : decode method_7_code 288 = .ok (.lmul, 1) := by decide +kernel
theorem d_method_7_289 : decode method_7_code 289 = .ok (.ladd, 1) := by decide +kernel
theorem d_method_7_290 : decode method_7_code 290 = .ok (.aload_n 0, 1) := by decide +kernel
theorem d_method_7_291 : decode method_7_code 291 = .ok (.iload_n 1, 1) := by decide +kernel
theorem d_method_7_292 : decode method_7_code 292 = .ok (.iconst 3, 1) := by decide +kernel
theorem d_method_7_293 : decode method_7_code 293 = .ok (.isub, 1) := by decide +kernel
theorem d_method_7_294 : decode method_7_code 294 = .ok (.invokestatic 41, 3) := by decide +kernel
theorem d_method_7_297 : decode method_7_code 297 = .ok (.i2l, 1) := by decide +kernel
theorem d_method_7_298 : decode method_7_code 298 = .ok (.ldc2_w 59, 3) := by decide +kernel
theorem d_method_7_301 : decode method_7_code 301 = .ok (.lmul, 1) := by decide +kernel
theorem d_method_7_302 : decode method_7_code 302 = .ok (.ladd, 1) := by decide +kernel
theorem d_method_7_303 : decode method_7_code 303 = .ok (.aload_n 0, 1) := by decide +kernel
theorem d_method_7_304 : decode method_7_code 304 = .ok (.iload_n 1, 1) := by decide +kernel
theorem d_method_7_305 : decode method_7_code 305 = .ok (.iconst 2, 1) := by decide +kernel
theorem d_method_7_306 : decode method_7_code 306 = .ok (.isub, 1) := by decide +kernel
theorem d_method_7_307 : decode method_7_code 307 = .ok (.invokestatic 41, 3) := by decide +kernel
theorem d_method_7_310 : decode method_7_code 310 = .ok (.i2l, 1) := by decide +kernel
theorem d_method_7_311 : decode method_7_code 311 = .ok (.ldc2_w 61, 3) := by decide +kernel
theorem d_method_7_314 : decode method_7_code 314 = .ok (.lmul, 1) := by decide +kernel
theorem d_method_7_315 : decode method_7_code 315 = .ok (.ladd, 1) := by decide +kernel
theorem d_method_7_316 : decode method_7_code 316 = .ok (.aload_n 0, 1) := by decide +kernel
theorem d_method_7_317 : decode method_7_code 317 = .ok (.iload_n 1, 1) := by decide +kernel
theorem d_method_7_318 : decode method_7_code 318 = .ok (.iconst 1, 1) := by decide +kernel
theorem d_method_7_319 : decode method_7_code 319 = .ok (.isub, 1) := by decide +kernel
theorem d_method_7_320 : decode method_7_code 320 = .ok (.invokestatic 41, 3) := by decide +kernel
theorem d_method_7_323 : decode method_7_code 323 = .ok (.i2l, 1) := by decide +kernel
theorem d_method_7_324 : decode method_7_code 324 = .ok (.ladd, 1) := by decide +kernel
theorem d_method_7_325 : decode method_7_code 325 = .ok (.lstore_n 3, 1) := by decide +kernel
theorem d_method_7_326 : decode method_7_code 326 = .ok (.aload_n 0, 1) := by decide +kernel
theorem d_method_7_327 : decode method_7_code 327 = .ok (.iconst 0, 1) := by decide +kernel
theorem d_method_7_328 : decode method_7_code 328 = .ok (.invokestatic 63, 3) := by decide +kernel
theorem d_method_7_331 : decode method_7_code 331 = .ok (.ifCond .ne 79, 3) := by decide +kernel
theorem d_method_7_334 : decode method_7_code 334 = .ok (.aload_n 0, 1) := by decide +kernel
theorem d_method_7_335 : decode method_7_code 335 = .ok (.iconst 1, 1) := by decide +kernel
theorem d_method_7_336 : decode method_7_code 336 = .ok (.invokestatic 63, 3) := by decide +kernel
theorem d_method_7_339 : decode method_7_code 339 = .ok (.ifCond .ne 71, 3) := by decide +kernel
theorem d_method_7_342 : decode method_7_code 342 = .ok (.aload_n 0, 1) := by decide +kernel
theorem d_method_7_343 : decode method_7_code 343 = .ok (.iconst 2, 1) := by decide +kernel
theorem d_method_7_344 : decode method_7_code 344 = .ok (.invokestatic 63, 3) := by decide +kernel
theorem d_method_7_347 : decode method_7_code 347 = .ok (.ifCond .ne 63, 3) := by decide +kernel
theorem d_method_7_350 : decode method_7_code 350 = .ok (.aload_n 0, 1) := by decide +kernel
theorem d_method_7_351 : decode method_7_code 351 = .ok (.iconst 3, 1) := by decide +kernel
theorem d_method_7_352 : decode method_7_code 352 = .ok (.invokestatic 63, 3) := by decide +kernel
theorem d_method_7_355 : decode method_7_code 355 = .ok (.ifCond .ne 55, 3) := by decide +kernel
theorem d_method_7_358 : decode method_7_code 358 = .ok (.aload_n 0, 1) := by decide +kernel
theorem d_method_7_359 : decode method_7_code 359 = .ok (.iconst 4, 1) := by decide +kernel
theorem d_method_7_360 : decode method_7_code 360 = .ok (.invokestatic 63, 3) := by decide +kernel
theorem d_method_7_363 : decode method_7_code 363 = .ok (.ifCond .ne 47, 3) := by decide +kernel
theorem d_method_7_366 : decode method_7_code 366 = .ok (.aload_n 0, 1) := by decide +kernel
theorem d_method_7_367 : decode method_7_code 367 = .ok (.iconst 5, 1) := by decide +kernel
theorem d_method_7_368 : decode method_7_code 368 = .ok (.invokestatic 63, 3) := by decide +kernel
theorem d_method_7_371 : decode method_7_code 371 = .ok (.ifCond .ne 39, 3) := by decide +kernel
theorem d_method_7_374 : decode method_7_code 374 = .ok (.aload_n 0, 1) := by decide +kernel
theorem d_method_7_375 : decode method_7_code 375 = .ok (.bipush 6, 2) := by decide +kernel
theorem d_method_7_377 : decode method_7_code 377 = .ok (.invokestatic 63, 3) := by decide +kernel
theorem d_method_7_380 : decode method_7_code 380 = .ok (.ifCond .ne 30, 3) := by decide +kernel
theorem d_method_7_383 : decode method_7_code 383 = .ok (.aload_n 0, 1) := by decide +kernel
theorem d_method_7_384 : decode method_7_code 384 = .ok (.bipush 7, 2) := by decide +kernel
theorem d_method_7_386 : decode method_7_code 386 = .ok (.invokestatic 63, 3) := by decide +kernel
theorem d_method_7_389 : decode method_7_code 389 = .ok (.ifCond .ne 21, 3) := by decide +kernel
theorem d_method_7_392 : decode method_7_code 392 = .ok (.aload_n 0, 1) := by decide +kernel
theorem d_method_7_393 : decode method_7_code 393 = .ok (.bipush 8, 2) := by decide +kernel
theorem d_method_7_395 : decode method_7_code 395 = .ok (.invokestatic 63, 3) := by decide +kernel
theorem d_method_7_398 : decode method_7_code 398 = .ok (.ifCond .ne 12, 3) := by decide +kernel
theorem d_method_7_401 : decode method_7_code 401 = .ok (.aload_n 0, 1) := by decide +kernel
theorem d_method_7_402 : decode method_7_code 402 = .ok (.bipush 9, 2) := by decide +kernel
theorem d_method_7_404 : decode method_7_code 404 = .ok (.invokestatic 63, 3) := by decide +kernel
theorem d_method_7_407 : decode method_7_code 407 = .ok (.ifCond .eq 7, 3) := by decide +kernel
theorem d_method_7_410 : decode method_7_code 410 = .ok (.iconst 1, 1) := by decide +kernel
theorem d_method_7_411 : decode method_7_code 411 = .ok (.goto 4, 3) := by decide +kernel
theorem d_method_7_414 : decode method_7_code 414 = .ok (.iconst 0, 1) := by decide +kernel
theorem d_method_7_415 : decode method_7_code 415 = .ok (.istore 5, 2) := by decide +kernel
theorem d_method_7_417 : decode method_7_code 417 = .ok (.iload 5, 2) := by decide +kernel
theorem d_method_7_419 : decode method_7_code 419 = .ok (.ifCond .ne 11, 3) := by decide +kernel
theorem d_method_7_422 : decode method_7_code 422 = .ok (.lload_n 3, 1) := by decide +kernel
theorem d_method_7_423 : decode method_7_code 423 = .ok (.ldc2_w 68, 3) := by decide +kernel
theorem d_method_7_426 : decode method_7_code 426 = .ok (.lcmp, 1) := by decide +kernel
theorem d_method_7_427 : decode method_7_code 427 = .ok (.ifCond .le 6, 3) := by decide +kernel
theorem d_method_7_430 : decode method_7_code 430 = .ok (.ldc 7, 2) := by decide +kernel
theorem d_method_7_432 : decode method_7_code 432 = .ok (.ireturn, 1) := by decide +kernel
theorem d_method_7_433 : decode method_7_code 433 = .ok (.lload_n 3, 1) := by decide +kernel
theorem d_method_7_434 : decode method_7_code 434 = .ok (.l2i, 1) := by decide +kernel
theorem d_method_7_435 : decode method_7_code 435 = .ok (.ireturn, 1) := by decide +kernel
theorem d_prog_2_2_0 : decode prog_2_method_2_code 0 = .ok (.aload_n 0, 1) := by decide +kernel
theorem d_prog_2_2_1 : decode prog_2_method_2_code 1 = .ok (.invokevirtual 7, 3) := by decide +kernel
theorem d_prog_2_2_4 : decode prog_2_method_2_code 4 = .ok (.ifCond .eq 7, 3) := by decide +kernel
theorem d_prog_2_2_7 : decode prog_2_method_2_code 7 = .ok (.invokestatic 13, 3) := by decide +kernel
theorem d_prog_2_2_10 : decode prog_2_method_2_code 10 = .ok (.areturn, 1) := by decide +kernel
theorem d_prog_2_2_11 : decode prog_2_method_2_code 11 = .ok (.lconst 0, 1) := by decide +kernel
theorem d_prog_2_2_12 : decode prog_2_method_2_code 12 = .ok (.lstore_n 1, 1) := by decide +kernel
theorem d_prog_2_2_13 : decode prog_2_method_2_code 13 = .ok (.iconst 0, 1) := by decide +kernel
theorem d_prog_2_2_14 : decode prog_2_method_2_code 14 = .ok (.istore_n 3, 1) := by decide +kernel
theorem d_prog_2_2_15 : decode prog_2_method_2_code 15 = .ok (.iload_n 3, 1) := by decide +kernel
theorem d_prog_2_2_16 : decode prog_2_method_2_code 16 = .ok (.aload_n 0, 1) := by decide +kernel
theorem d_prog_2_2_17 : decode prog_2_method_2_code 17 = .ok (.invokevirtual 19, 3) := by decide +kernel
theorem d_prog_2_2_20 : decode prog_2_method_2_code 20 = .ok (.if_icmp .ge 53, 3) := by decide +kernel
theorem d_prog_2_2_23 : decode prog_2_method_2_code 23 = .ok (.aload_n 0, 1) := by decide +kernel
theorem d_prog_2_2_24 : decode prog_2_method_2_code 24 = .ok (.iload_n 3, 1) := by decide +kernel
theorem d_prog_2_2_25 : decode prog_2_method_2_code 25 = .ok (.invokevirtual 23, 3) := by decide +kernel
theorem d_prog_2_2_28 : decode prog_2_method_2_code 28 = .ok (.istore 4, 2) := by decide +kernel
theorem d_prog_2_2_30 : decode prog_2_method_2_code 30 = .ok (.iload 4, 2) := by decide +kernel
theorem d_prog_2_2_32 : decode prog_2_method_2_code 32 = .ok (.bipush 48, 2) := by decide +kernel
theorem d_prog_2_2_34 : decode prog_2_method_2_code 34 = .ok (.if_icmp .lt 10, 3) := by decide +kernel
theorem d_prog_2_2_37 : decode prog_2_method_2_code 37 = .ok (.iload 4, 2) := by decide +kernel
theorem d_prog_2_2_39 : decode prog_2_method_2_code 39 = .ok (.bipush 57, 2) := by decide +kernel
theorem d_prog_2_2_41 : decode prog_2_method_2_code 41 = .ok (.if_icmp .le 7, 3) := by decide +kernel
theorem d_prog_2_2_44 : decode prog_2_method_2_code 44 = .ok (.invokestatic 13, 3) := by decide +kernel
theorem d_prog_2_2_47 : decode prog_2_method_2_code 47 = .ok (.areturn, 1) := by decide +kernel
theorem d_prog_2_2_48 : decode prog_2_method_2_code 48 = .ok (.lload_n 1, 1) := by decide +kernel
theorem d_prog_2_2_49 : decode prog_2_method_2_code 49 = .ok (.ldc2_w 27, 3) := by decide +kernel
theorem d_prog_2_2_52 : decode prog_2_method_2_code 52 = .ok (.lmul, 1) := by decide +kernel
theorem d_prog_2_2_53 : decode prog_2_method_2_code 53 = .ok (.iload 4, 2) := by decide +kernel
theorem d_prog_2_2_55 : decode prog_2_method_2_code 55 = .ok (.bipush 48, 2) := by decide +kernel
theorem d_prog_2_2_57 : decode prog_2_method_2_code 57 = .ok (.isub, 1) := by decide +kernel
theorem d_prog_2_2_58 : decode prog_2_method_2_code 58 = .ok (.i2l, 1) := by decide +kernel
theorem d_prog_2_2_59 : decode prog_2_method_2_code 59 = .ok (.ladd, 1) := by decide +kernel
theorem d_prog_2_2_60 : decode prog_2_method_2_code 60 = .ok (.ldc2_w 31, 3) := by decide +kernel
theorem d_prog_2_2_63 : decode prog_2_method_2_code 63 = .ok (.invokestatic 33, 3) := by decide +kernel
theorem d_prog_2_2_66 : decode prog_2_method_2_code 66 = .ok (.lstore_n 1, 1) := by decide +kernel
theorem d_prog_2_2_67 : decode prog_2_method_2_code 67 = .ok (.iinc 3 1, 3) := by decide +kernel
theorem d_prog_2_2_70 : decode prog_2_method_2_code 70 = .ok (.goto (-55), 3) := by decide +kernel
theorem d_prog_2_2_73 : decode prog_2_method_2_code 73 = .ok (.lload_n 1, 1) := by decide +kernel
theorem d_prog_2_2_74 : decode prog_2_method_2_code 74 = .ok (.l2i, 1) := by decide +kernel
theorem d_prog_2_2_75 : decode prog_2_method_2_code 75 = .ok (.invokestatic 39, 3) := by decide +kernel
theorem d_prog_2_2_78 : decode prog_2_method_2_code 78 = .ok (.areturn, 1) := by decide +kernel
theorem pd_0 : parseMethodDescriptor "([CI[BII)I" = some ⟨[(.array .char), .int, (.array .byte), .int, .int], some .int⟩ := by decide +kernel
theorem pd_1 : parseMethodDescriptor "([CII)[B" = some ⟨[(.array .char), .int, .int], some (.array .byte)⟩ := by decide +kernel
theorem pd_2 : parseMethodDescriptor "([BI)B" = some ⟨[(.array .byte), .int], some .byte⟩ := by decide +kernel
theorem pd_3 : parseMethodDescriptor "([CIILjava/lang/Void;)V" = some ⟨[(.array .char), .int, .int, (.object "java/lang/Void")], none⟩ := by decide +kernel
theorem pd_4 : parseMethodDescriptor "()B" = some ⟨[], some .byte⟩ := by decide +kernel
theorem pd_5 : parseMethodDescriptor "(IILjava/util/function/BiFunction;)I" = some ⟨[.int, .int, (.object "java/util/function/BiFunction")], some .int⟩ := by decide +kernel
theorem pd_6 : parseMethodDescriptor "(II)V" = some ⟨[.int, .int], none⟩ := by decide +kernel
theorem pd_7 : parseMethodDescriptor "()Z" = some ⟨[], some .boolean⟩ := by decide +kernel
theorem pd_8 : parseMethodDescriptor "([BI)C" = some ⟨[(.array .byte), .int], some .char⟩ := by decide +kernel
theorem pd_9 : parseMethodDescriptor "([CI)Z" = some ⟨[(.array .char), .int], some .boolean⟩ := by decide +kernel
theorem pd_10 : parseMethodDescriptor "([CI)I" = some ⟨[(.array .char), .int], some .int⟩ := by decide +kernel
theorem pd_11 : parseMethodDescriptor "(I)V" = some ⟨[.int], none⟩ := by decide +kernel
theorem pd_12 : parseMethodDescriptor "()I" = some ⟨[], some .int⟩ := by decide +kernel
theorem pd_13 : parseMethodDescriptor "(I)Ljava/util/OptionalInt;" = some ⟨[.int], some (.object "java/util/OptionalInt")⟩ := by decide +kernel
theorem pd_14 : parseMethodDescriptor "(I)C" = some ⟨[.int], some .char⟩ := by decide +kernel
theorem pd_15 : parseMethodDescriptor "()Ljava/util/OptionalInt;" = some ⟨[], some (.object "java/util/OptionalInt")⟩ := by decide +kernel
theorem pd_16 : parseMethodDescriptor "(JJ)J" = some ⟨[.long, .long], some .long⟩ := by decide +kernel
theorem pd_17 : parseMethodDescriptor "([CIJJII)V" = some ⟨[(.array .char), .int, .long, .long, .int, .int], none⟩ := by decide +kernel
theorem pd_18 : parseMethodDescriptor "([C)V" = some ⟨[(.array .char)], none⟩ := by decide +kernel
theorem pd_19 : parseMethodDescriptor "(Ljava/lang/String;)Ljava/util/OptionalInt;" = some ⟨[(.object "java/lang/String")], some (.object "java/util/OptionalInt")⟩ := by decide +kernel
theorem pd_20 : parseMethodDescriptor "(I)I" = some ⟨[.int], some .int⟩ := by decide +kernel
theorem pd_21 : parseMethodDescriptor "([C)I" = some ⟨[(.array .char)], some .int⟩ := by decide +kernel
theorem pn_0 : plainName "java/lang/StringUTF16" = true := by first | (simp [plainName, overriddenIn]; done) | decide +kernel
theorem pn_1 : plainName "java/lang/String" = true := by first | (simp [plainName, overriddenIn]; done) | decide +kernel
theorem pn_2 : plainName "jdk/internal/util/Preconditions" = true := by first | (simp [plainName, overriddenIn]; done) | decide +kernel
theorem pn_3 : plainName "java/lang/StringLatin1" = true := by first | (simp [plainName, overriddenIn]; done) | decide +kernel
theorem pn_4 : plainName "com/example/despatch/despatch/fhir/WholeNumberReadPinLaw" = true := by first | (simp [plainName, overriddenIn]; done) | decide +kernel
theorem pn_5 : plainName "java/util/OptionalInt" = true := by first | (simp [plainName, overriddenIn]; done) | decide +kernel
theorem pn_6 : plainName "com/example/despatch/despatch/fhir/WholeNumber" = true := by first | (simp [plainName, overriddenIn]; done) | decide +kernel
theorem own_t0 : (0 : Int32).toInt = 0 := rfl
theorem own_t1 : (1 : Int32).toInt = 1 := rfl
theorem own_t8 : (8 : Int32).toInt = 8 := rfl
theorem own_t16 : (16 : Int32).toInt = 16 := rfl
theorem own_t10 : (10 : Int32).toInt = 10 := rfl
theorem own_t48 : (48 : Int32).toInt = 48 := rfl
theorem own_t57 : (57 : Int32).toInt = 57 := rfl
theorem own_t2147483647 : (2147483647 : Int32).toInt = 2147483647 := rfl
theorem own_all0 {P : Int32 → Prop} : ∀ c ∈ ([] : List Int32), P c := fun _ q => nomatch q
theorem own_allS {P : Int32 → Prop} {a : Int32} {L : List Int32} (q : P a) (r : ∀ c ∈ L, P c) : ∀ c ∈ a :: L, P c := fun x z => (List.mem_cons.mp z).elim (fun u => u ▸ q) (r x)
def latB (c : Int32) : Value := .int c.toInt8.toInt32
/-- the object at a is a Latin-1 String of the chars cs; its bytes lie at b -/
def SL (Z : State) (h : Heap) (a b : Nat) (cs : List Int32) : Prop := Exa Z h a "java/lang/String" ∧ Fld Z h a "java/lang/String" "coder" "B" (.int 0) ∧ Fld Z h a "java/lang/String" "value" "[B" (.ref b) ∧ Ary Z h b .byte (cs.map latB) ∧ ∀ c ∈ cs, 0 ≤ c.toInt ∧ c.toInt ≤ 255
theorem SL.keep {Z : State} {h h' : Heap} {a b : Addr} {cs : List Int32} {ws : List Addr} (S : SL Z h a b cs) (K : Keep h h' ws) (qa : a ∉ ws) (qb : b ∉ ws) : SL Z h' a b cs := by
  obtain ⟨E, F1, F2, V, q⟩ := S
  exact ⟨E.keep K, F1.keep K qa, F2.keep K qa, V.keep K qb, q⟩
theorem SL.lt {Z : State} {h : Heap} {a b : Addr} {cs : List Int32} (S : SL Z h a b cs) : a < h.size := S.1.lt
theorem SL.ltb {Z : State} {h : Heap} {a b : Addr} {cs : List Int32} (S : SL Z h a b cs) : b < h.size := S.2.2.2.1.lt
theorem own_b8 (c : Int32) : c.toInt8.toInt32.toInt8.toInt32 = c.toInt8.toInt32 := by simp
theorem own_toInt {n : Nat} (h : n < 2 ^ 31) : n.toInt32.toInt = n := len_toInt h
theorem own_ltn {i n : Nat} (h : i < n) (hn : n < 2 ^ 31) : i.toInt32 < n.toInt32 := by
  rw [Int32.lt_iff_toInt_lt, own_toInt (by omega), own_toInt hn]; omega
theorem own_nltn {i n : Nat} (h : n ≤ i) (hn : i < 2 ^ 31) : ¬ i.toInt32 < n.toInt32 := by
  rw [Int32.lt_iff_toInt_lt, own_toInt hn, own_toInt (by omega)]; omega
theorem own_nneg {n : Nat} (hn : n < 2 ^ 31) : ¬ n.toInt32 < 0 := by
  rw [Int32.lt_iff_toInt_lt, own_toInt hn]; simp
theorem own_succ (i : Nat) : i.toInt32 + Int32.ofInt 1 = (i + 1).toInt32 := by
  show Int32.ofNat i + Int32.ofInt 1 = Int32.ofNat (i + 1)
  rw [Int32.ofNat_add]; rfl
theorem own_fill {cs : List Int32} {bs : List Value} {i : Nat} {c : Int32} (hl : bs.length = cs.length) (hc : cs[i]? = some c) : ((cs.take i).map latB ++ bs.drop i).set i (latB c) = (cs.take (i + 1)).map latB ++ bs.drop (i + 1) := by
  have hi : i < cs.length := (List.getElem?_eq_some_iff.mp hc).1
  have e1 : ((cs.take i).map latB).length = i := by simp; omega
  have e2 : bs.drop i = bs[i] :: bs.drop (i + 1) := List.drop_eq_getElem_cons (by omega)
  have e3 : cs.take (i + 1) = cs.take i ++ [c] := by rw [List.take_add_one, hc]; rfl
  rw [List.set_append_right _ _ (by omega), e1, e2, e3, Nat.sub_self, List.set_cons_zero, List.map_append, List.append_assoc]
  rfl
theorem own_back (c : Int32) (h : 0 ≤ c.toInt ∧ c.toInt ≤ 255) : nar .char (c.toInt8.toInt32 &&& 255).toUInt32.toUInt16.toUInt32.toInt32 = c := by
  have e : ∀ n : Fin 256, nar .char ((Int32.ofNat n.1).toInt8.toInt32 &&& 255).toUInt32.toUInt16.toUInt32.toInt32 = Int32.ofNat n.1 := by decide +kernel
  have q : c = Int32.ofNat c.toInt.toNat := by
    apply Int32.toInt_inj.mp
    rw [show Int32.ofNat c.toInt.toNat = c.toInt.toNat.toInt32 from rfl, own_toInt (by omega)]; omega
  rw [q]
  exact e ⟨c.toInt.toNat, by omega⟩
theorem own_csub (n : Int32) : (((n - n).toUInt32 >>> ((31 : Int32) &&& 31).toUInt32).toInt32).toInt8.toInt32 = 0 := by
  rw [Int32.sub_self]; decide
theorem own_nchar {c : Int32} (h : 0 ≤ c.toInt ∧ c.toInt < 65536) : nar .char c = c := by
  have q := c_i2c c
  apply Int32.toInt_inj.mp
  show c.toUInt32.toUInt16.toUInt32.toInt32.toInt = c.toInt
  omega
/-- the JDK's statics that String's methods read -/
def SEnv (Z : State) (cc : Int32) (fm : Value) : Prop := Sta Z Z.heap "java/lang/String" "COMPACT_STRINGS" "Z" (.int cc) ∧ ¬ cc = 0 ∧ Sta Z Z.heap "jdk/internal/util/Preconditions" "SIOOBE_FORMATTER" "Ljava/util/function/BiFunction;" fm ∧ fm.isRef = true
set_option maxRecDepth 65536 in
set_option maxHeartbeats 40000000 in
theorem c_compr (l : Launch) (Z : State) (a0 : Array Value) (hw : ∀ d ∈ tables_1, d.before a0 Z = true) (hE : EW Z a0 consts_1) (ca ba : Nat) (cs : List Int32) (bs : List Value) (h0 : Heap) (O : Ext Z.heap h0) (hn : cs.length ≤ 20) (hch : ∀ c ∈ cs, 0 ≤ c.toInt ∧ c.toInt ≤ 255) (VA : Ary Z h0 ca .char (cs.map Value.int)) (VB : Ary Z h0 ba .byte bs) (hbl : bs.length = cs.length) (hne : ca ≠ ba) (hz : Z.heap.size ≤ ba) :
    Con l Z consts_1 (⟨"java/lang/StringUTF16", "compress", "([CI[BII)I"⟩ : MethodName) jdk_52_method_21_code 7 (Option.some Jvm.ClassFile.FieldType.int) ({ frames := 0, cells := 0, slots := 0, locals := 0 } : Room) #[(.ref ca), (.int (0 : Int32)), (.ref ba), (.int (0 : Int32)), (.int cs.length.toInt32)] h0 [ba] (fun v h => v = some (.int cs.length.toInt32) ∧ Ary Z h ba .byte (cs.map latB)) := by
  refine Con.of (a0 := a0) #[.val (.ref ca), .val (.int (0 : Int32)), .val (.ref ba), .val (.int (0 : Int32)), .val (.int cs.length.toInt32), .unset, .unset] (plainFor_of_name pn_0) hE O (allS ⟨hz, VB.lt⟩ all0) (fun m => by first | (simp [entryFrame, mkF, argsToLocals, Value.category]; done) | rfl) ?_
  intro p e s m below meth c T0 hx hby hml hnm hret hlk hh W0
  have hn31 : cs.length < 2 ^ 31 := by omega
  refine g_iconst (0 : Int32) (pc' := 1) W0.here hx (hb hby d_jdk_52_21_0) rfl rfl ?_
  refine g_istore (pc' := 3) (Ls' := #[.val (.ref ca), .val (.int (0 : Int32)), .val (.ref ba), .val (.int (0 : Int32)), .val (.int cs.length.toInt32), .val (.int (0 : Int32)), .unset]) W0.here hx (hb hby d_jdk_52_21_1) rfl rfl ?_
  have LOOP : ∀ (k i : Nat), i + k = cs.length → ∀ (TL : State) (hL : Heap) (o6 : Slot), One o6 → Wk p l e ({ frames := 0, cells := 0, slots := 0, locals := 0 } : Room) s m #[(.ref ca), (.int (0 : Int32)), (.ref ba), (.int (0 : Int32)), (.int cs.length.toInt32)] below meth c Z consts_1 "java/lang/StringUTF16" [ba] [] TL hL 0 0 → Keep h0 hL [ba] → Ary Z hL ba .byte ((cs.take i).map latB ++ bs.drop i) → Gets p.tables e below (Post s Z consts_1 ({ frames := 0, cells := 0, slots := 0, locals := 0 } : Room) h0 [ba] (fun v h => v = some (.int cs.length.toInt32) ∧ Ary Z h ba .byte (cs.map latB))) TL (mkF m 3 #[.val (.ref ca), .val (.int i.toInt32), .val (.ref ba), .val (.int i.toInt32), .val (.int cs.length.toInt32), .val (.int i.toInt32), o6] []) := by
    intro k
    induction k with
    | zero =>
      intro i hi TL hL o6 ho6 WL KL VBL
      have VAL := VA.keep KL (ninS hne nin0)
      refine g_iload (pc' := 5) WL.here hx (hb hby d_jdk_52_21_3) rfl rfl ?_
      refine g_iload (pc' := 7) WL.here hx (hb hby d_jdk_52_21_5) rfl rfl ?_
      refine g_icmpY (pc' := 44) WL.here hx (hb hby d_jdk_52_21_7) rfl (flt (show ¬ (i.toInt32 < cs.length.toInt32) from (own_nltn (by omega) (by omega)))).2.1 ?_
      refine g_iload (pc' := 46) WL.here hx (hb hby d_jdk_52_21_44) rfl rfl ?_
      refine w_retI WL hx hh hlk hret (hb hby d_jdk_52_21_46) (Nat.le_of_ble_eq_true rfl) (Nat.le_of_ble_eq_true rfl) ?_
      have e1 : i = cs.length := by omega
      subst e1
      rw [List.take_length, List.drop_eq_nil_of_le (by omega), List.append_nil] at VBL
      exact ⟨rfl, VBL⟩
    | succ k ih =>
      intro i hi TL hL o6 ho6 WL KL VBL
      have VAL := VA.keep KL (ninS hne nin0)
      have hi2 : i < cs.length := by omega
      obtain ⟨ci, hci⟩ : ∃ ci, cs[i]? = some ci := ⟨_, List.getElem?_eq_getElem hi2⟩
      have hcm : ci ∈ cs := List.mem_of_getElem? hci
      have hcr := hch ci hcm
      refine g_iload (pc' := 5) WL.here hx (hb hby d_jdk_52_21_3) rfl rfl ?_
      refine g_iload (pc' := 7) WL.here hx (hb hby d_jdk_52_21_5) rfl rfl ?_
      refine g_icmpN (pc' := 10) WL.here hx (hb hby d_jdk_52_21_7) rfl (tlt (show i.toInt32 < cs.length.toInt32 from (own_ltn hi2 hn31))).2.1 ?_
      refine g_aloadN (pc' := 11) WL.here hx (hb hby d_jdk_52_21_10) rfl rfl rfl ?_
      refine g_iloadN (pc' := 12) WL.here hx (hb hby d_jdk_52_21_11) rfl rfl ?_
      refine w_caload (pc' := 13) (v := (.int ci)) WL hx VAL (own_nneg (by omega)) (by rw [i32_nat (by omega), List.getElem?_map, hci]; rfl) (hb hby d_jdk_52_21_12) rfl ?_
      refine g_istore (pc' := 15) (Ls' := #[.val (.ref ca), .val (.int i.toInt32), .val (.ref ba), .val (.int i.toInt32), .val (.int cs.length.toInt32), .val (.int i.toInt32), .val (.int ci)]) WL.here hx (hb hby d_jdk_52_21_13) (XS.store1 (o := o6) rfl ho6 rfl) rfl ?_
      refine g_iload (pc' := 17) WL.here hx (hb hby d_jdk_52_21_15) rfl rfl ?_
      refine g_sipush (255 : Int32) (pc' := 20) WL.here hx (hb hby d_jdk_52_21_17) rfl rfl ?_
      refine g_icmpY (pc' := 26) WL.here hx (hb hby d_jdk_52_21_20) rfl (flt (show ¬ ((255 : Int32) < ci) from (by rw [Int32.lt_iff_toInt_lt]; have : (255 : Int32).toInt = 255 := rfl; omega))).2.2.2 ?_
      refine g_aloadN (pc' := 27) WL.here hx (hb hby d_jdk_52_21_26) rfl rfl rfl ?_
      refine g_iloadN (pc' := 28) WL.here hx (hb hby d_jdk_52_21_27) rfl rfl ?_
      refine g_iload (pc' := 30) WL.here hx (hb hby d_jdk_52_21_28) rfl rfl ?_
      refine g_i2b (pc' := 31) WL.here hx (hb hby d_jdk_52_21_30) rfl ?_
      refine w_bastore (pc' := 32) (x' := ci.toInt8.toInt32) WL hx VBL (own_nneg (by omega)) (by rw [i32_nat (by omega)]; simp; omega) (List.mem_of_getElem? (i := 0) rfl) (own_b8 ci) (hb hby d_jdk_52_21_31) rfl fun T1 h1 W1 K1 V1 => ?_
      have z_K1 : hL.size ≤ h1.size := K1.1
      have V1 : Ary Z h1 ba .byte ((cs.take (i + 1)).map latB ++ bs.drop (i + 1)) := by rw [i32_nat (by omega)] at V1; rw [← own_fill hbl hci]; exact V1
      refine g_iincV (i + 1).toInt32 (pc' := 35) (Ls' := #[.val (.ref ca), .val (.int (i + 1).toInt32), .val (.ref ba), .val (.int i.toInt32), .val (.int cs.length.toInt32), .val (.int i.toInt32), .val (.int ci)]) W1.here hx (hb hby d_jdk_52_21_32) (own_succ i) rfl rfl rfl ?_
      refine g_iincV (i + 1).toInt32 (pc' := 38) (Ls' := #[.val (.ref ca), .val (.int (i + 1).toInt32), .val (.ref ba), .val (.int (i + 1).toInt32), .val (.int cs.length.toInt32), .val (.int i.toInt32), .val (.int ci)]) W1.here hx (hb hby d_jdk_52_21_35) (own_succ i) rfl rfl rfl ?_
      refine g_iincV (i + 1).toInt32 (pc' := 41) (Ls' := #[.val (.ref ca), .val (.int (i + 1).toInt32), .val (.ref ba), .val (.int (i + 1).toInt32), .val (.int cs.length.toInt32), .val (.int (i + 1).toInt32), .val (.int ci)]) W1.here hx (hb hby d_jdk_52_21_38) (own_succ i) rfl rfl rfl ?_
      refine g_goto (pc' := 3) W1.here hx (hb hby d_jdk_52_21_41) rfl ?_
      exact ih (i + 1) (by omega) _ _ _ (One.val rfl) W1 (KL.trans K1 (fun x q => Or.inl q)) V1
  exact LOOP cs.length 0 (by omega) _ _ _ One.u W0 (Keep.refl _ _) (by simpa using VB)
set_option maxRecDepth 65536 in
set_option maxHeartbeats 40000000 in
theorem c_compress (l : Launch) (Z : State) (a0 : Array Value) (hw : ∀ d ∈ tables_1, d.before a0 Z = true) (hE : EW Z a0 consts_1) (ca : Nat) (cs : List Int32) (h0 : Heap) (O : Ext Z.heap h0) (hn : cs.length ≤ 20) (hch : ∀ c ∈ cs, 0 ≤ c.toInt ∧ c.toInt ≤ 255) (VA : Ary Z h0 ca .char (cs.map Value.int))  :
    Con l Z consts_1 (⟨"java/lang/StringUTF16", "compress", "([CII)[B"⟩ : MethodName) jdk_52_method_16_code 6 (Option.some (Jvm.ClassFile.FieldType.array Jvm.ClassFile.FieldType.byte)) ({ frames := 1, cells := 1, slots := 20, locals := 18 } : Room) #[(.ref ca), (.int (0 : Int32)), (.int cs.length.toInt32)] h0 [] (fun v h => ∃ ba : Nat, v = some (.ref ba) ∧ h0.size ≤ ba ∧ Ary Z h ba .byte (cs.map latB)) := by
  refine Con.of (a0 := a0) #[.val (.ref ca), .val (.int (0 : Int32)), .val (.int cs.length.toInt32), .unset, .unset, .unset] (plainFor_of_name pn_0) hE O all0 (fun m => by first | (simp [entryFrame, mkF, argsToLocals, Value.category]; done) | rfl) ?_
  intro p e s m below meth c T0 hx hby hml hnm hret hlk hh W0
  have hn31 : cs.length < 2 ^ 31 := by omega
  have lt_ca : ca < h0.size := VA.lt
  refine g_iloadN (pc' := 1) W0.here hx (hb hby d_jdk_52_16_0) rfl rfl ?_
  refine w_newarr (pc' := 3) (cap := 20) W0 hx (hw _ (List.mem_of_getElem? w_20)) (hb hby d_jdk_52_16_1) (own_nneg hn31) (by rw [i32_nat hn31]; exact hn) (Nat.le_of_ble_eq_true rfl) (Nat.le_of_ble_eq_true rfl) (Nat.le_of_ble_eq_true rfl) rfl rfl fun T2 h2 b2 g2 W2 K2 V2 => ?_
  have z_K2 : h0.size ≤ h2.size := K2.1
  have ne_ca_b2 : ca ≠ b2 := by omega
  have lt_b2 : b2 < h2.size := W2.lt (List.mem_cons_self ..)
  have V3 : Ary Z h2 b2 .byte (List.replicate cs.length (.int 0)) := by rw [i32_nat hn31] at V2; exact V2
  refine g_astoreN (pc' := 4) (Ls' := #[.val (.ref ca), .val (.int (0 : Int32)), .val (.int cs.length.toInt32), .val (.ref b2), .unset, .unset]) W2.here hx (hb hby d_jdk_52_16_3) rfl rfl rfl ?_
  refine g_aloadN (pc' := 5) W2.here hx (hb hby d_jdk_52_16_4) rfl rfl rfl ?_
  refine g_iloadN (pc' := 6) W2.here hx (hb hby d_jdk_52_16_5) rfl rfl ?_
  refine g_aloadN (pc' := 7) W2.here hx (hb hby d_jdk_52_16_6) rfl rfl rfl ?_
  refine g_iconst (0 : Int32) (pc' := 8) W2.here hx (hb hby d_jdk_52_16_7) rfl rfl ?_
  refine g_iloadN (pc' := 9) W2.here hx (hb hby d_jdk_52_16_8) rfl rfl ?_
  have c4 := (VA.keep K2 nin0)
  refine w_callS (pc' := 12) (st := []) (y := (⟨"java/lang/StringUTF16", "compress", "([CI[BII)I"⟩ : MethodName)) W2 hx [(.ref ca), (.int (0 : Int32)), (.ref b2), (.int (0 : Int32)), (.int cs.length.toInt32)] (hw _ (List.mem_of_getElem? w_57)) (hw _ (List.mem_of_getElem? w_58)) (hw _ (List.mem_of_getElem? w_55)) (hw _ (List.mem_of_getElem? w_59)) (by decide) (c_compr l Z a0 hw hE ca b2 cs _ h2 W2.old hn hch c4 V3 (by simp) ne_ca_b2 (by have := O.1; omega)) (allS (List.mem_of_getElem? (i := 0) rfl) all0) (by rw [hml]; rfl) (lenOf pd_0 rfl) rfl (hb hby d_jdk_52_16_9) (Nat.le_of_ble_eq_true rfl) (Nat.le_of_ble_eq_true rfl) (Nat.le_of_ble_eq_true rfl) (Nat.le_of_ble_eq_true rfl) rfl fun v5 T5 h5 W5 K5 Q5 => ?_
  have z_K5 : h2.size ≤ h5.size := K5.1
  obtain ⟨rfl, V6⟩ := Q5
  refine g_istore (pc' := 14) (Ls' := #[.val (.ref ca), .val (.int (0 : Int32)), .val (.int cs.length.toInt32), .val (.ref b2), .val (.int cs.length.toInt32), .unset]) W5.here hx (hb hby d_jdk_52_16_12) rfl rfl ?_
  refine g_iload (pc' := 16) W5.here hx (hb hby d_jdk_52_16_14) rfl rfl ?_
  refine g_iloadN (pc' := 17) W5.here hx (hb hby d_jdk_52_16_16) rfl rfl ?_
  refine g_icmpY (pc' := 57) W5.here hx (hb hby d_jdk_52_16_17) rfl (teq (show cs.length.toInt32 = cs.length.toInt32 from rfl)).1 ?_
  refine g_aloadN (pc' := 58) W5.here hx (hb hby d_jdk_52_16_57) rfl rfl rfl ?_
  refine w_retA W5 hx hh hlk hret rfl rfl (hb hby d_jdk_52_16_58) (Nat.le_of_ble_eq_true rfl) (Nat.le_of_ble_eq_true rfl) ?_
  exact ⟨_, rfl, by omega, V6⟩
set_option maxRecDepth 65536 in
set_option maxHeartbeats 40000000 in
theorem c_coderFrom (l : Launch) (Z : State) (a0 : Array Value) (hw : ∀ d ∈ tables_1, d.before a0 Z = true) (hE : EW Z a0 consts_1) (ba : Nat) (cs : List Int32) (bs : List Value) (h0 : Heap) (O : Ext Z.heap h0) (VB : Ary Z h0 ba .byte bs) (hbl : bs.length = cs.length) :
    Con l Z consts_1 (⟨"java/lang/StringUTF16", "coderFromArrayLen", "([BI)B"⟩ : MethodName) jdk_52_method_15_code 2 (Option.some Jvm.ClassFile.FieldType.byte) ({ frames := 0, cells := 0, slots := 0, locals := 0 } : Room) #[(.ref ba), (.int cs.length.toInt32)] h0 [] (pureQ (some (.int 0)) h0) := by
  refine Con.of (a0 := a0) #[.val (.ref ba), .val (.int cs.length.toInt32)] (plainFor_of_name pn_0) hE O all0 (fun m => by first | (simp [entryFrame, mkF, argsToLocals, Value.category]; done) | rfl) ?_
  intro p e s m below meth c T0 hx hby hml hnm hret hlk hh W0
  refine g_iloadN (pc' := 1) W0.here hx (hb hby d_jdk_52_15_0) rfl rfl ?_
  refine g_aloadN (pc' := 2) W0.here hx (hb hby d_jdk_52_15_1) rfl rfl rfl ?_
  refine w_len (pc' := 3) W0 hx VB (hb hby d_jdk_52_15_2) rfl ?_
  refine g_name (w := .int cs.length.toInt32) (congrArg Value.int (by rw [hbl])) ?_
  refine g_isub (pc' := 4) W0.here hx (hb hby d_jdk_52_15_3) rfl ?_
  refine g_bipush (31 : Int32) (pc' := 6) W0.here hx (hb hby d_jdk_52_15_4) rfl rfl ?_
  refine g_iushr (pc' := 7) W0.here hx (hb hby d_jdk_52_15_6) rfl ?_
  refine g_i2b (pc' := 8) W0.here hx (hb hby d_jdk_52_15_7) rfl ?_
  refine w_retN (t := .byte) W0 hx hh hlk hret (by simp) (hb hby d_jdk_52_15_8) (Nat.le_of_ble_eq_true rfl) (Nat.le_of_ble_eq_true rfl) ?_
  exact ⟨congrArg (fun z => some (Value.int z)) (by rw [own_csub]; rfl), rfl⟩
theorem own_pos0 {n : Nat} (h : 0 < n) (hn : n < 2 ^ 31) : ¬ n.toInt32 = 0 := fun q => by
  have := congrArg Int32.toInt q
  rw [own_toInt hn] at this
  simp at this; omega
theorem own_nil {cs : List Int32} (hn : cs.length < 2 ^ 31) (q : cs.length.toInt32 = (0 : Int32)) : cs = [] := by
  cases cs with
  | nil => rfl
  | cons a t => exact absurd q (own_pos0 (by simp) hn)
theorem own_atoms {Z : State} {a0 : Array Value} (hw : ∀ d ∈ tables_1, d.before a0 Z = true) : ∀ a ∈ Bundle.stringAtoms, a.before a0 Z = true := fun d hd => by
  simp only [Bundle.stringAtoms, Bundle.sN, List.mem_cons, List.not_mem_nil, or_false] at hd
  rcases hd with rfl | rfl | rfl | rfl | rfl | rfl | rfl
  · exact (hw _ (List.mem_of_getElem? w_8))
  · exact (hw _ (List.mem_of_getElem? w_7))
  · exact (hw _ (List.mem_of_getElem? w_20))
  · exact (hw _ (List.mem_of_getElem? w_21))
  · exact (hw _ (List.mem_of_getElem? w_22))
  · exact (hw _ (List.mem_of_getElem? w_23))
  · exact (hw _ (List.mem_of_getElem? w_24))
set_option maxRecDepth 65536 in
set_option maxHeartbeats 40000000 in
theorem c_str4 (l : Launch) (Z : State) (a0 : Array Value) (hw : ∀ d ∈ tables_1, d.before a0 Z = true) (hE : EW Z a0 consts_1) (cc : Int32) (fm : Value) (o ca : Nat) (cs : List Int32) (h0 : Heap) (O : Ext Z.heap h0) (G : SEnv Z cc fm) (hn : cs.length ≤ 20) (hch : ∀ c ∈ cs, 0 ≤ c.toInt ∧ c.toInt ≤ 255) (VA : Ary Z h0 ca .char (cs.map Value.int)) (hz : Z.heap.size ≤ o) (E0 : Exa Z h0 o "java/lang/String") (u1 u2 : Value) (F1 : Fld Z h0 o "java/lang/String" "coder" "B" u1) (F2 : Fld Z h0 o "java/lang/String" "value" "[B" u2) (hoc : o ≠ ca)  :
    Con l Z consts_1 (⟨"java/lang/String", "<init>", "([CIILjava/lang/Void;)V"⟩ : MethodName) jdk_42_method_149_code 6 (Option.none : Option Jvm.ClassFile.FieldType) ({ frames := 2, cells := 4, slots := 20, locals := 35 } : Room) #[(.ref o), (.ref ca), (.int (0 : Int32)), (.int cs.length.toInt32), .null] h0 [o] (fun v h => v = none ∧ ∃ b : Nat, SL Z h o b cs) := by
  refine Con.of (a0 := a0) #[.val (.ref o), .val (.ref ca), .val (.int (0 : Int32)), .val (.int cs.length.toInt32), .val .null, .unset] (plainFor_of_name pn_1) hE O (allS ⟨hz, E0.lt⟩ all0) (fun m => by first | (simp [entryFrame, mkF, argsToLocals, Value.category]; done) | rfl) ?_
  intro p e s m below meth c T0 hx hby hml hnm hret hlk hh W0
  have hn31 : cs.length < 2 ^ 31 := by omega
  have lt_ca : ca < h0.size := VA.lt
  have lt_o : o < h0.size := E0.lt
  refine g_aloadN (pc' := 1) W0.here hx (hb hby d_jdk_42_149_0) rfl rfl rfl ?_
  refine w_initO (pc' := 4) W0 hx (hw _ (List.mem_of_getElem? w_16)) (hw _ (List.mem_of_getElem? w_17)) (hw _ (List.mem_of_getElem? w_18)) (by rw [hml]; rfl) (hb hby d_jdk_42_149_1) (Nat.le_of_ble_eq_true rfl) (Nat.le_of_ble_eq_true rfl) rfl fun T7 W7 => ?_
  refine g_iloadN (pc' := 5) W7.here hx (hb hby d_jdk_42_149_4) rfl rfl ?_
  by_cases hc5_8 : cs.length.toInt32 = (0 : Int32)
  · refine g_ifN (pc' := 8) W7.here hx (hb hby d_jdk_42_149_5) rfl (teq hc5_8).2 ?_
    have e0 : cs = [] := own_nil hn31 hc5_8
    refine g_aloadN (pc' := 9) W7.here hx (hb hby d_jdk_42_149_8) rfl rfl rfl ?_
    refine w_ldcS (pc' := 11) (vs := []) (z := 0) W7 hx (hw _ (List.mem_of_getElem? w_19)) (own_atoms hw) (List.mem_of_getElem? (i := 0) rfl) ⟨fun _ q => (nomatch q), rfl⟩ (by decide) rfl (hb hby d_jdk_42_149_9) 0 (Nat.le_of_ble_eq_true rfl) (Nat.le_of_ble_eq_true rfl) (Nat.le_of_ble_eq_true rfl) (Nat.le_of_ble_eq_true rfl) rfl fun T9 h9 sa9 sb9 W9 K9 A9 C9 F9 V9 N9 => ?_
    have z_K9 : h0.size ≤ h9.size := K9.1
    obtain ⟨ne_o_sa9, ne_o_sb9⟩ := N9 o (List.mem_of_getElem? (i := 0) rfl)
    refine w_get (pc' := 14) W9 hx (hw _ (List.mem_of_getElem? w_25)) Via.refl F9 (hb hby d_jdk_42_149_11) rfl fun T10 W10 => ?_
    have c11 := (F2.keep K9 nin0)
    have c12 := (E0.keep K9)
    refine w_put (pc' := 17) W10 hx (hw _ (List.mem_of_getElem? w_25)) Via.refl c11 c12 (Or.inr ⟨(hw _ (List.mem_of_getElem? w_21)), rfl, hnm⟩) (hw _ (List.mem_of_getElem? w_7)) (ty := (.array .byte)) (by decide) rfl rfl (List.mem_of_getElem? (i := 0) rfl) (hb hby d_jdk_42_149_14) rfl fun T13 h13 W13 K13 R13 F13 A13 => ?_
    have c14 := (F1.keep K9 nin0)
    have z_K13 : h9.size ≤ h13.size := K13.1
    have c15 := (c14.other R13 (Or.inr (slot_ne (Or.inr (hw _ (List.mem_of_getElem? w_22))) (Or.inr (hw _ (List.mem_of_getElem? w_21))) (by decide) (t := .byte) (t' := (.array .byte)) (by decide) (by decide))))
    refine g_aloadN (pc' := 18) W13.here hx (hb hby d_jdk_42_149_17) rfl rfl rfl ?_
    refine w_ldcS (pc' := 20) (vs := []) (z := 0) W13 hx (hw _ (List.mem_of_getElem? w_19)) (own_atoms hw) (List.mem_of_getElem? (i := 0) rfl) ⟨fun _ q => (nomatch q), rfl⟩ (by decide) rfl (hb hby d_jdk_42_149_18) 0 (Nat.le_of_ble_eq_true rfl) (Nat.le_of_ble_eq_true rfl) (Nat.le_of_ble_eq_true rfl) (Nat.le_of_ble_eq_true rfl) rfl fun T16 h16 sa16 sb16 W16 K16 A16 C16 F16 V16 N16 => ?_
    have z_K16 : h13.size ≤ h16.size := K16.1
    obtain ⟨ne_o_sa16, ne_o_sb16⟩ := N16 o (List.mem_of_getElem? (i := 0) rfl)
    refine w_get (pc' := 23) W16 hx (hw _ (List.mem_of_getElem? w_26)) Via.refl C16 (hb hby d_jdk_42_149_20) rfl fun T17 W17 => ?_
    have c18 := (c15.keep K16 nin0)
    have c19 := (A13.keep K16)
    refine w_putN (pc' := 26) (v' := (.int (0 : Int32))) W17 hx (hw _ (List.mem_of_getElem? w_26)) Via.refl c18 c19 (Or.inr ⟨(hw _ (List.mem_of_getElem? w_22)), rfl, hnm⟩) (hw _ (List.mem_of_getElem? w_7)) (ty := .byte) (by decide) rfl rfl (List.mem_of_getElem? (i := 0) rfl) (hb hby d_jdk_42_149_23) rfl fun T20 h20 W20 K20 R20 F20 A20 => ?_
    have c21 := (F13.keep K16 nin0)
    have z_K20 : h16.size ≤ h20.size := K20.1
    have c22 := (c21.other R20 (Or.inr (slot_ne (Or.inr (hw _ (List.mem_of_getElem? w_21))) (Or.inr (hw _ (List.mem_of_getElem? w_22))) (by decide) (t := (.array .byte)) (t' := .byte) (by decide) (by decide))))
    have c23 := (((V9.keep K13 (ninS (Ne.symm ne_o_sb9) nin0)).keep K16 nin0).keep K20 (ninS (Ne.symm ne_o_sb9) nin0))
    refine w_retV W20 hx hh hlk hret (hb hby d_jdk_42_149_26) (Nat.le_of_ble_eq_true rfl) (Nat.le_of_ble_eq_true rfl) ?_
    refine ⟨rfl, sb9, A20, F20, c22, ?_, hch⟩
    rw [e0]; exact c23
  · refine g_ifY (pc' := 27) W7.here hx (hb hby d_jdk_42_149_5) rfl (feq hc5_8).2 ?_
    refine w_getS (pc' := 30) W7 hx (hw _ (List.mem_of_getElem? w_52)) Via.refl G.1 (hb hby d_jdk_42_149_27) rfl fun T24 W24 => ?_
    refine g_ifN (pc' := 33) W24.here hx (hb hby d_jdk_42_149_30) rfl (feq (show ¬ (cc = (0 : Int32)) from G.2.1)).1 ?_
    refine g_aloadN (pc' := 34) W24.here hx (hb hby d_jdk_42_149_33) rfl rfl rfl ?_
    refine g_iloadN (pc' := 35) W24.here hx (hb hby d_jdk_42_149_34) rfl rfl ?_
    refine g_iloadN (pc' := 36) W24.here hx (hb hby d_jdk_42_149_35) rfl rfl ?_
    refine w_callS (pc' := 39) (st := []) (y := (⟨"java/lang/StringUTF16", "compress", "([CII)[B"⟩ : MethodName)) W24 hx [(.ref ca), (.int (0 : Int32)), (.int cs.length.toInt32)] (hw _ (List.mem_of_getElem? w_53)) (hw _ (List.mem_of_getElem? w_54)) (hw _ (List.mem_of_getElem? w_55)) (hw _ (List.mem_of_getElem? w_56)) (by decide) (c_compress l Z a0 hw hE ca cs h0 W24.old hn hch VA) all0 (by rw [hml]; rfl) (lenOf pd_1 rfl) rfl (hb hby d_jdk_42_149_36) (Nat.le_of_ble_eq_true rfl) (Nat.le_of_ble_eq_true rfl) (Nat.le_of_ble_eq_true rfl) (Nat.le_of_ble_eq_true rfl) rfl fun v25 T25 h25 W25 K25 Q25 => ?_
    have z_K25 : h0.size ≤ h25.size := K25.1
    obtain ⟨ba26, rfl, gz26, V26⟩ := Q25
    have ne_ca_ba26 : ca ≠ ba26 := by omega
    have ne_o_ba26 : o ≠ ba26 := by omega
    have lt_ba26 : ba26 < h25.size := V26.lt
    refine g_astore (pc' := 41) (Ls' := #[.val (.ref o), .val (.ref ca), .val (.int (0 : Int32)), .val (.int cs.length.toInt32), .val .null, .val (.ref ba26)]) W25.here hx (hb hby d_jdk_42_149_39) rfl rfl rfl ?_
    refine g_aloadN (pc' := 42) W25.here hx (hb hby d_jdk_42_149_41) rfl rfl rfl ?_
    refine g_aload (pc' := 44) W25.here hx (hb hby d_jdk_42_149_42) rfl rfl rfl ?_
    refine g_iloadN (pc' := 45) W25.here hx (hb hby d_jdk_42_149_44) rfl rfl ?_
    refine w_callSp (pc' := 48) (st := [(.ref o)]) (y := (⟨"java/lang/StringUTF16", "coderFromArrayLen", "([BI)B"⟩ : MethodName)) W25 hx [(.ref ba26), (.int cs.length.toInt32)] (hw _ (List.mem_of_getElem? w_60)) (hw _ (List.mem_of_getElem? w_61)) (hw _ (List.mem_of_getElem? w_55)) (hw _ (List.mem_of_getElem? w_62)) (by decide) (c_coderFrom l Z a0 hw hE ba26 cs _ h25 W25.old V26 (by simp)) (by rw [hml]; rfl) (lenOf pd_2 rfl) rfl (hb hby d_jdk_42_149_45) (Nat.le_of_ble_eq_true rfl) (Nat.le_of_ble_eq_true rfl) rfl rfl (Nat.le_of_ble_eq_true rfl) (Nat.le_of_ble_eq_true rfl) rfl fun T27 W27 => ?_
    have c28 := (F1.keep K25 nin0)
    have c29 := (E0.keep K25)
    refine w_putN (pc' := 51) (v' := (.int (0 : Int32))) W27 hx (hw _ (List.mem_of_getElem? w_26)) Via.refl c28 c29 (Or.inr ⟨(hw _ (List.mem_of_getElem? w_22)), rfl, hnm⟩) (hw _ (List.mem_of_getElem? w_7)) (ty := .byte) (by decide) rfl rfl (List.mem_of_getElem? (i := 0) rfl) (hb hby d_jdk_42_149_48) rfl fun T30 h30 W30 K30 R30 F30 A30 => ?_
    have c31 := (F2.keep K25 nin0)
    have z_K30 : h25.size ≤ h30.size := K30.1
    have c32 := (c31.other R30 (Or.inr (slot_ne (Or.inr (hw _ (List.mem_of_getElem? w_21))) (Or.inr (hw _ (List.mem_of_getElem? w_22))) (by decide) (t := (.array .byte)) (t' := .byte) (by decide) (by decide))))
    refine g_aloadN (pc' := 52) W30.here hx (hb hby d_jdk_42_149_51) rfl rfl rfl ?_
    refine g_aload (pc' := 54) W30.here hx (hb hby d_jdk_42_149_52) rfl rfl rfl ?_
    refine w_put (pc' := 57) W30 hx (hw _ (List.mem_of_getElem? w_25)) Via.refl c32 A30 (Or.inr ⟨(hw _ (List.mem_of_getElem? w_21)), rfl, hnm⟩) (hw _ (List.mem_of_getElem? w_7)) (ty := (.array .byte)) (by decide) rfl rfl (List.mem_of_getElem? (i := 0) rfl) (hb hby d_jdk_42_149_54) rfl fun T33 h33 W33 K33 R33 F33 A33 => ?_
    have z_K33 : h30.size ≤ h33.size := K33.1
    have c34 := (F30.other R33 (Or.inr (slot_ne (Or.inr (hw _ (List.mem_of_getElem? w_22))) (Or.inr (hw _ (List.mem_of_getElem? w_21))) (by decide) (t := .byte) (t' := (.array .byte)) (by decide) (by decide))))
    have c35 := ((V26.keep K30 (ninS (Ne.symm ne_o_ba26) nin0)).keep K33 (ninS (Ne.symm ne_o_ba26) nin0))
    refine w_retV W33 hx hh hlk hret (hb hby d_jdk_42_149_57) (Nat.le_of_ble_eq_true rfl) (Nat.le_of_ble_eq_true rfl) ?_
    exact ⟨rfl, ba26, A33, c34, F33, c35, hch⟩
set_option maxRecDepth 65536 in
set_option maxHeartbeats 40000000 in
theorem c_strC (l : Launch) (Z : State) (a0 : Array Value) (hw : ∀ d ∈ tables_1, d.before a0 Z = true) (hE : EW Z a0 consts_1) (cc : Int32) (fm : Value) (o ca : Nat) (cs : List Int32) (h0 : Heap) (O : Ext Z.heap h0) (G : SEnv Z cc fm) (hn : cs.length ≤ 20) (hch : ∀ c ∈ cs, 0 ≤ c.toInt ∧ c.toInt ≤ 255) (VA : Ary Z h0 ca .char (cs.map Value.int)) (hz : Z.heap.size ≤ o) (E0 : Exa Z h0 o "java/lang/String") (u1 u2 : Value) (F1 : Fld Z h0 o "java/lang/String" "coder" "B" u1) (F2 : Fld Z h0 o "java/lang/String" "value" "[B" u2) (hoc : o ≠ ca)  :
    Con l Z consts_1 (⟨"java/lang/String", "<init>", "([C)V"⟩ : MethodName) jdk_42_method_3_code 2 (Option.none : Option Jvm.ClassFile.FieldType) ({ frames := 3, cells := 4, slots := 20, locals := 52 } : Room) #[(.ref o), (.ref ca)] h0 [o] (fun v h => v = none ∧ ∃ b : Nat, SL Z h o b cs) := by
  refine Con.of (a0 := a0) #[.val (.ref o), .val (.ref ca)] (plainFor_of_name pn_1) hE O (allS ⟨hz, E0.lt⟩ all0) (fun m => by first | (simp [entryFrame, mkF, argsToLocals, Value.category]; done) | rfl) ?_
  intro p e s m below meth c T0 hx hby hml hnm hret hlk hh W0
  have hn31 : cs.length < 2 ^ 31 := by omega
  have lt_ca : ca < h0.size := VA.lt
  have lt_o : o < h0.size := E0.lt
  refine g_aloadN (pc' := 1) W0.here hx (hb hby d_jdk_42_3_0) rfl rfl rfl ?_
  refine g_aloadN (pc' := 2) W0.here hx (hb hby d_jdk_42_3_1) rfl rfl rfl ?_
  refine g_iconst (0 : Int32) (pc' := 3) W0.here hx (hb hby d_jdk_42_3_2) rfl rfl ?_
  refine g_aloadN (pc' := 4) W0.here hx (hb hby d_jdk_42_3_3) rfl rfl rfl ?_
  refine w_len (pc' := 5) W0 hx VA (hb hby d_jdk_42_3_4) rfl ?_
  refine g_name (w := .int cs.length.toInt32) (congrArg Value.int (by rw [List.length_map])) ?_
  refine g_aconstNull (pc' := 6) W0.here hx (hb hby d_jdk_42_3_5) rfl ?_
  refine w_special (pc' := 9) (st := []) (y := (⟨"java/lang/String", "<init>", "([CIILjava/lang/Void;)V"⟩ : MethodName)) (a := o) W0 hx [(.ref ca), (.int (0 : Int32)), (.int cs.length.toInt32), .null] rfl (hw _ (List.mem_of_getElem? w_12)) (hw _ (List.mem_of_getElem? w_13)) (hw _ (List.mem_of_getElem? w_8)) (hw _ (List.mem_of_getElem? w_15)) (by decide) (c_str4 l Z a0 hw hE cc fm o ca cs h0 W0.old G hn hch VA (by have := O.1; omega) E0 _ _ F1 F2 hoc) (allS (List.mem_of_getElem? (i := 0) rfl) all0) (by rw [hml]; rfl) (lenOf pd_3 rfl) rfl (hb hby d_jdk_42_3_6) (Nat.le_of_ble_eq_true rfl) (Nat.le_of_ble_eq_true rfl) (Nat.le_of_ble_eq_true rfl) (Nat.le_of_ble_eq_true rfl) rfl fun v36 T36 h36 W36 K36 Q36 => ?_
  have z_K36 : h0.size ≤ h36.size := K36.1
  obtain ⟨rfl, sb37, S37⟩ := Q36
  have ES37 := S37.1
  have lt_sb37 : sb37 < h36.size := S37.ltb
  refine w_retV W36 hx hh hlk hret (hb hby d_jdk_42_3_9) (Nat.le_of_ble_eq_true rfl) (Nat.le_of_ble_eq_true rfl) ?_
  exact ⟨rfl, _, S37⟩
set_option maxRecDepth 65536 in
set_option maxHeartbeats 40000000 in
theorem c_isEmpty (l : Launch) (Z : State) (a0 : Array Value) (hw : ∀ d ∈ tables_1, d.before a0 Z = true) (hE : EW Z a0 consts_1) (cc : Int32) (fm : Value) (a b : Nat) (cs : List Int32)  (h0 : Heap) (O : Ext Z.heap h0) (G : SEnv Z cc fm) (S0 : SL Z h0 a b cs)  :
    Con l Z consts_1 (⟨"java/lang/String", "isEmpty", "()Z"⟩ : MethodName) jdk_42_method_55_code 1 (Option.some Jvm.ClassFile.FieldType.boolean) ({ frames := 0, cells := 0, slots := 0, locals := 0 } : Room) #[(.ref a)] h0 [] (pureQ (some (.int (if cs = [] then 1 else 0))) h0) := by
  refine Con.of (a0 := a0) #[.val (.ref a)] (plainFor_of_name pn_1) hE O all0 (fun m => by first | (simp [entryFrame, mkF, argsToLocals, Value.category]; done) | rfl) ?_
  intro p e s m below meth c T0 hx hby hml hnm hret hlk hh W0
  obtain ⟨E_a, FC_a, FV_a, V_b, L_a⟩ := id S0
  have hlen : cs.length < 2 ^ 31 := by have := V_b.len; simpa using this
  refine g_aloadN (pc' := 1) W0.here hx (hb hby d_jdk_42_55_0) rfl rfl rfl ?_
  refine w_get (pc' := 4) W0 hx (hw _ (List.mem_of_getElem? w_25)) Via.refl FV_a (hb hby d_jdk_42_55_1) rfl fun T38 W38 => ?_
  refine w_len (pc' := 5) W38 hx V_b (hb hby d_jdk_42_55_4) rfl ?_
  refine g_name (w := .int cs.length.toInt32) (congrArg Value.int (by rw [List.length_map])) ?_
  by_cases hc5_39 : cs.length.toInt32 = (0 : Int32)
  · refine g_ifN (pc' := 8) W38.here hx (hb hby d_jdk_42_55_5) rfl (teq hc5_39).2 ?_
    refine g_iconst (1 : Int32) (pc' := 9) W38.here hx (hb hby d_jdk_42_55_8) rfl rfl ?_
    refine g_goto (pc' := 13) W38.here hx (hb hby d_jdk_42_55_9) rfl ?_
    refine w_retN (t := .boolean) W38 hx hh hlk hret (by simp) (hb hby d_jdk_42_55_13) (Nat.le_of_ble_eq_true rfl) (Nat.le_of_ble_eq_true rfl) ?_
    exact ⟨by rw [if_pos (own_nil hlen hc5_39)]; rfl, rfl⟩
  · refine g_ifY (pc' := 12) W38.here hx (hb hby d_jdk_42_55_5) rfl (feq hc5_39).2 ?_
    refine g_iconst (0 : Int32) (pc' := 13) W38.here hx (hb hby d_jdk_42_55_12) rfl rfl ?_
    refine w_retN (t := .boolean) W38 hx hh hlk hret (by simp) (hb hby d_jdk_42_55_13) (Nat.le_of_ble_eq_true rfl) (Nat.le_of_ble_eq_true rfl) ?_
    exact ⟨by rw [if_neg (fun q => hc5_39 (by rw [q]; rfl))]; rfl, rfl⟩
set_option maxRecDepth 65536 in
set_option maxHeartbeats 40000000 in
theorem c_coder (l : Launch) (Z : State) (a0 : Array Value) (hw : ∀ d ∈ tables_1, d.before a0 Z = true) (hE : EW Z a0 consts_1) (cc : Int32) (fm : Value) (a b : Nat) (cs : List Int32)  (h0 : Heap) (O : Ext Z.heap h0) (G : SEnv Z cc fm) (S0 : SL Z h0 a b cs)  :
    Con l Z consts_1 (⟨"java/lang/String", "coder", "()B"⟩ : MethodName) jdk_42_method_152_code 1 (Option.some Jvm.ClassFile.FieldType.byte) ({ frames := 0, cells := 0, slots := 0, locals := 0 } : Room) #[(.ref a)] h0 [] (pureQ (some (.int 0)) h0) := by
  refine Con.of (a0 := a0) #[.val (.ref a)] (plainFor_of_name pn_1) hE O all0 (fun m => by first | (simp [entryFrame, mkF, argsToLocals, Value.category]; done) | rfl) ?_
  intro p e s m below meth c T0 hx hby hml hnm hret hlk hh W0
  obtain ⟨E_a, FC_a, FV_a, V_b, L_a⟩ := id S0
  have hlen : cs.length < 2 ^ 31 := by have := V_b.len; simpa using this
  refine w_getS (pc' := 3) W0 hx (hw _ (List.mem_of_getElem? w_52)) Via.refl G.1 (hb hby d_jdk_42_152_0) rfl fun T40 W40 => ?_
  refine g_ifN (pc' := 6) W40.here hx (hb hby d_jdk_42_152_3) rfl (feq (show ¬ (cc = (0 : Int32)) from G.2.1)).1 ?_
  refine g_aloadN (pc' := 7) W40.here hx (hb hby d_jdk_42_152_6) rfl rfl rfl ?_
  refine w_get (pc' := 10) W40 hx (hw _ (List.mem_of_getElem? w_26)) Via.refl FC_a (hb hby d_jdk_42_152_7) rfl fun T41 W41 => ?_
  refine g_goto (pc' := 14) W41.here hx (hb hby d_jdk_42_152_10) rfl ?_
  refine w_retN (t := .byte) W41 hx hh hlk hret (by simp) (hb hby d_jdk_42_152_14) (Nat.le_of_ble_eq_true rfl) (Nat.le_of_ble_eq_true rfl) ?_
  exact ⟨rfl, rfl⟩
theorem own_shr0 (x : Int32) : x >>> ((0 : Int32) &&& 31) = x := by
  apply Int32.toInt_inj.mp
  rw [c_ishr x 0 0 rfl]
  simp
set_option maxRecDepth 65536 in
set_option maxHeartbeats 40000000 in
theorem c_length (l : Launch) (Z : State) (a0 : Array Value) (hw : ∀ d ∈ tables_1, d.before a0 Z = true) (hE : EW Z a0 consts_1) (cc : Int32) (fm : Value) (a b : Nat) (cs : List Int32)  (h0 : Heap) (O : Ext Z.heap h0) (G : SEnv Z cc fm) (S0 : SL Z h0 a b cs)  :
    Con l Z consts_1 (⟨"java/lang/String", "length", "()I"⟩ : MethodName) jdk_42_method_54_code 1 (Option.some Jvm.ClassFile.FieldType.int) ({ frames := 1, cells := 0, slots := 0, locals := 13 } : Room) #[(.ref a)] h0 [] (pureQ (some (.int cs.length.toInt32)) h0) := by
  refine Con.of (a0 := a0) #[.val (.ref a)] (plainFor_of_name pn_1) hE O all0 (fun m => by first | (simp [entryFrame, mkF, argsToLocals, Value.category]; done) | rfl) ?_
  intro p e s m below meth c T0 hx hby hml hnm hret hlk hh W0
  obtain ⟨E_a, FC_a, FV_a, V_b, L_a⟩ := id S0
  have hlen : cs.length < 2 ^ 31 := by have := V_b.len; simpa using this
  refine g_aloadN (pc' := 1) W0.here hx (hb hby d_jdk_42_54_0) rfl rfl rfl ?_
  refine w_get (pc' := 4) W0 hx (hw _ (List.mem_of_getElem? w_25)) Via.refl FV_a (hb hby d_jdk_42_54_1) rfl fun T42 W42 => ?_
  refine w_len (pc' := 5) W42 hx V_b (hb hby d_jdk_42_54_4) rfl ?_
  refine g_name (w := .int cs.length.toInt32) (congrArg Value.int (by rw [List.length_map])) ?_
  refine g_aloadN (pc' := 6) W42.here hx (hb hby d_jdk_42_54_5) rfl rfl rfl ?_
  refine w_virtualp (pc' := 9) (st := [(.int cs.length.toInt32)]) (y := (⟨"java/lang/String", "coder", "()B"⟩ : MethodName)) (z := (⟨"java/lang/String", "coder", "()B"⟩ : MethodName)) (a := a) W42 hx [] (hw _ (List.mem_of_getElem? w_68)) (hw _ (List.mem_of_getElem? w_69)) (nfS (z := (⟨"java/lang/String", "coder", "()B"⟩ : MethodName)) (hw _ (List.mem_of_getElem? w_71))) (hw _ (List.mem_of_getElem? w_71)) (hw _ (List.mem_of_getElem? w_70)) (hw _ (List.mem_of_getElem? w_8)) (hw _ (List.mem_of_getElem? w_72)) (by decide) (c_coder l Z a0 hw hE cc fm a b cs h0 W42.old G S0) E_a (by rw [hml]; rfl) (lenOf pd_4 rfl) rfl (hb hby d_jdk_42_54_6) (Nat.le_of_ble_eq_true rfl) (Nat.le_of_ble_eq_true rfl) rfl rfl (Nat.le_of_ble_eq_true rfl) (Nat.le_of_ble_eq_true rfl) rfl fun T43 W43 => ?_
  refine g_ishr (pc' := 10) W43.here hx (hb hby d_jdk_42_54_9) rfl ?_
  refine w_retI W43 hx hh hlk hret (hb hby d_jdk_42_54_10) (Nat.le_of_ble_eq_true rfl) (Nat.le_of_ble_eq_true rfl) ?_
  exact ⟨congrArg (fun z => some (Value.int z)) (own_shr0 _), rfl⟩
set_option maxRecDepth 65536 in
set_option maxHeartbeats 40000000 in
theorem c_isLat (l : Launch) (Z : State) (a0 : Array Value) (hw : ∀ d ∈ tables_1, d.before a0 Z = true) (hE : EW Z a0 consts_1) (cc : Int32) (fm : Value) (a b : Nat) (cs : List Int32)  (h0 : Heap) (O : Ext Z.heap h0) (G : SEnv Z cc fm) (S0 : SL Z h0 a b cs)  :
    Con l Z consts_1 (⟨"java/lang/String", "isLatin1", "()Z"⟩ : MethodName) jdk_42_method_154_code 1 (Option.some Jvm.ClassFile.FieldType.boolean) ({ frames := 0, cells := 0, slots := 0, locals := 0 } : Room) #[(.ref a)] h0 [] (pureQ (some (.int 1)) h0) := by
  refine Con.of (a0 := a0) #[.val (.ref a)] (plainFor_of_name pn_1) hE O all0 (fun m => by first | (simp [entryFrame, mkF, argsToLocals, Value.category]; done) | rfl) ?_
  intro p e s m below meth c T0 hx hby hml hnm hret hlk hh W0
  obtain ⟨E_a, FC_a, FV_a, V_b, L_a⟩ := id S0
  have hlen : cs.length < 2 ^ 31 := by have := V_b.len; simpa using this
  refine w_getS (pc' := 3) W0 hx (hw _ (List.mem_of_getElem? w_52)) Via.refl G.1 (hb hby d_jdk_42_154_0) rfl fun T44 W44 => ?_
  refine g_ifN (pc' := 6) W44.here hx (hb hby d_jdk_42_154_3) rfl (feq (show ¬ (cc = (0 : Int32)) from G.2.1)).1 ?_
  refine g_aloadN (pc' := 7) W44.here hx (hb hby d_jdk_42_154_6) rfl rfl rfl ?_
  refine w_get (pc' := 10) W44 hx (hw _ (List.mem_of_getElem? w_26)) Via.refl FC_a (hb hby d_jdk_42_154_7) rfl fun T45 W45 => ?_
  refine g_ifN (pc' := 13) W45.here hx (hb hby d_jdk_42_154_10) rfl (teq (show (0 : Int32) = (0 : Int32) from (by decide))).2 ?_
  refine g_iconst (1 : Int32) (pc' := 14) W45.here hx (hb hby d_jdk_42_154_13) rfl rfl ?_
  refine g_goto (pc' := 18) W45.here hx (hb hby d_jdk_42_154_14) rfl ?_
  refine w_retN (t := .boolean) W45 hx hh hlk hret (by simp) (hb hby d_jdk_42_154_18) (Nat.le_of_ble_eq_true rfl) (Nat.le_of_ble_eq_true rfl) ?_
  exact ⟨rfl, rfl⟩
set_option maxRecDepth 65536 in
set_option maxHeartbeats 40000000 in
theorem c_chk3 (l : Launch) (Z : State) (a0 : Array Value) (hw : ∀ d ∈ tables_1, d.before a0 Z = true) (hE : EW Z a0 consts_1) (j n : Int32) (fm : Value) (h0 : Heap) (O : Ext Z.heap h0) (hfm : fm.isRef = true) (hj : ¬ j < 0) (hjn : j < n) :
    Con l Z consts_1 (⟨"jdk/internal/util/Preconditions", "checkIndex", "(IILjava/util/function/BiFunction;)I"⟩ : MethodName) jdk_41_method_11_code 3 (Option.some Jvm.ClassFile.FieldType.int) ({ frames := 0, cells := 0, slots := 0, locals := 0 } : Room) #[(.int j), (.int n), fm] h0 [] (pureQ (some (.int j)) h0) := by
  refine Con.of (a0 := a0) #[.val (.int j), .val (.int n), .val fm] (plainFor_of_name pn_2) hE O all0 (fun m => by rcases ref_cases hfm with rfl | ⟨_, rfl⟩ <;> rfl) ?_
  intro p e s m below meth c T0 hx hby hml hnm hret hlk hh W0
  refine g_iloadN (pc' := 1) W0.here hx (hb hby d_jdk_41_11_0) rfl rfl ?_
  refine g_ifN (pc' := 4) W0.here hx (hb hby d_jdk_41_11_1) rfl (flt (show ¬ (j < (0 : Int32)) from hj)).1 ?_
  refine g_iloadN (pc' := 5) W0.here hx (hb hby d_jdk_41_11_4) rfl rfl ?_
  refine g_iloadN (pc' := 6) W0.here hx (hb hby d_jdk_41_11_5) rfl rfl ?_
  refine g_icmpY (pc' := 16) W0.here hx (hb hby d_jdk_41_11_6) rfl (tlt (show j < n from hjn)).1 ?_
  refine g_iloadN (pc' := 17) W0.here hx (hb hby d_jdk_41_11_16) rfl rfl ?_
  refine w_retI W0 hx hh hlk hret (hb hby d_jdk_41_11_17) (Nat.le_of_ble_eq_true rfl) (Nat.le_of_ble_eq_true rfl) ?_
  exact ⟨rfl, rfl⟩
set_option maxRecDepth 65536 in
set_option maxHeartbeats 40000000 in
theorem c_chk2 (l : Launch) (Z : State) (a0 : Array Value) (hw : ∀ d ∈ tables_1, d.before a0 Z = true) (hE : EW Z a0 consts_1) (cc : Int32) (fm : Value) (j n : Int32) (h0 : Heap) (O : Ext Z.heap h0) (G : SEnv Z cc fm) (hj : ¬ j < 0) (hjn : j < n) :
    Con l Z consts_1 (⟨"java/lang/String", "checkIndex", "(II)V"⟩ : MethodName) jdk_42_method_155_code 2 (Option.none : Option Jvm.ClassFile.FieldType) ({ frames := 1, cells := 0, slots := 0, locals := 14 } : Room) #[(.int j), (.int n)] h0 [] (pureQ none h0) := by
  refine Con.of (a0 := a0) #[.val (.int j), .val (.int n)] (plainFor_of_name pn_1) hE O all0 (fun m => by first | (simp [entryFrame, mkF, argsToLocals, Value.category]; done) | rfl) ?_
  intro p e s m below meth c T0 hx hby hml hnm hret hlk hh W0
  refine g_iloadN (pc' := 1) W0.here hx (hb hby d_jdk_42_155_0) rfl rfl ?_
  refine g_iloadN (pc' := 2) W0.here hx (hb hby d_jdk_42_155_1) rfl rfl ?_
  refine w_getS (pc' := 5) W0 hx (hw _ (List.mem_of_getElem? w_90)) Via.refl G.2.2.1 (hb hby d_jdk_42_155_2) rfl fun T46 W46 => ?_
  refine w_callSp (pc' := 8) (st := []) (y := (⟨"jdk/internal/util/Preconditions", "checkIndex", "(IILjava/util/function/BiFunction;)I"⟩ : MethodName)) W46 hx [(.int j), (.int n), fm] (hw _ (List.mem_of_getElem? w_92)) (hw _ (List.mem_of_getElem? w_93)) (hw _ (List.mem_of_getElem? w_91)) (hw _ (List.mem_of_getElem? w_94)) (by decide) (c_chk3 l Z a0 hw hE j n fm h0 W46.old G.2.2.2 hj hjn) (by rw [hml]; rfl) (lenOf pd_5 rfl) rfl (hb hby d_jdk_42_155_5) (Nat.le_of_ble_eq_true rfl) (Nat.le_of_ble_eq_true rfl) rfl rfl (Nat.le_of_ble_eq_true rfl) (Nat.le_of_ble_eq_true rfl) rfl fun T47 W47 => ?_
  refine g_pop (pc' := 9) W47.here hx (hb hby d_jdk_42_155_8) rfl rfl ?_
  refine w_retV W47 hx hh hlk hret (hb hby d_jdk_42_155_9) (Nat.le_of_ble_eq_true rfl) (Nat.le_of_ble_eq_true rfl) ?_
  exact ⟨rfl, rfl⟩
set_option maxRecDepth 65536 in
set_option maxHeartbeats 40000000 in
theorem c_l1at (l : Launch) (Z : State) (a0 : Array Value) (hw : ∀ d ∈ tables_1, d.before a0 Z = true) (hE : EW Z a0 consts_1) (cc : Int32) (fm : Value) (a b : Nat) (cs : List Int32) (j cj : Int32)  (h0 : Heap) (O : Ext Z.heap h0) (G : SEnv Z cc fm) (S0 : SL Z h0 a b cs) (hj : ¬ j < 0) (hjn : j < cs.length.toInt32) (hcj : cs[j.toNatClampNeg]? = some cj) :
    Con l Z consts_1 (⟨"java/lang/StringLatin1", "charAt", "([BI)C"⟩ : MethodName) jdk_43_method_2_code 2 (Option.some Jvm.ClassFile.FieldType.char) ({ frames := 2, cells := 0, slots := 0, locals := 27 } : Room) #[(.ref b), (.int j)] h0 [] (pureQ (some (.int cj)) h0) := by
  refine Con.of (a0 := a0) #[.val (.ref b), .val (.int j)] (plainFor_of_name pn_3) hE O all0 (fun m => by first | (simp [entryFrame, mkF, argsToLocals, Value.category]; done) | rfl) ?_
  intro p e s m below meth c T0 hx hby hml hnm hret hlk hh W0
  obtain ⟨E_a, FC_a, FV_a, V_b, L_a⟩ := id S0
  have hlen : cs.length < 2 ^ 31 := by have := V_b.len; simpa using this
  refine g_iloadN (pc' := 1) W0.here hx (hb hby d_jdk_43_2_0) rfl rfl ?_
  refine g_aloadN (pc' := 2) W0.here hx (hb hby d_jdk_43_2_1) rfl rfl rfl ?_
  refine w_len (pc' := 3) W0 hx V_b (hb hby d_jdk_43_2_2) rfl ?_
  refine g_name (w := .int cs.length.toInt32) (congrArg Value.int (by rw [List.length_map])) ?_
  refine w_callSp (pc' := 6) (st := []) (y := (⟨"java/lang/String", "checkIndex", "(II)V"⟩ : MethodName)) W0 hx [(.int j), (.int cs.length.toInt32)] (hw _ (List.mem_of_getElem? w_87)) (hw _ (List.mem_of_getElem? w_88)) (hw _ (List.mem_of_getElem? w_8)) (hw _ (List.mem_of_getElem? w_89)) (by decide) (c_chk2 l Z a0 hw hE cc fm j cs.length.toInt32 h0 W0.old G hj hjn) (by rw [hml]; rfl) (lenOf pd_6 rfl) rfl (hb hby d_jdk_43_2_3) (Nat.le_of_ble_eq_true rfl) (Nat.le_of_ble_eq_true rfl) rfl rfl (Nat.le_of_ble_eq_true rfl) (Nat.le_of_ble_eq_true rfl) rfl fun T48 W48 => ?_
  refine g_aloadN (pc' := 7) W48.here hx (hb hby d_jdk_43_2_6) rfl rfl rfl ?_
  refine g_iloadN (pc' := 8) W48.here hx (hb hby d_jdk_43_2_7) rfl rfl ?_
  refine w_baload (pc' := 9) (v := (.int cj.toInt8.toInt32)) W48 hx V_b hj (by rw [List.getElem?_map, hcj]; rfl) (hb hby d_jdk_43_2_8) rfl ?_
  refine g_sipush (255 : Int32) (pc' := 12) W48.here hx (hb hby d_jdk_43_2_9) rfl rfl ?_
  refine g_iand (pc' := 13) W48.here hx (hb hby d_jdk_43_2_12) rfl ?_
  refine g_i2c (pc' := 14) W48.here hx (hb hby d_jdk_43_2_13) rfl ?_
  refine w_retN (t := .char) W48 hx hh hlk hret (by simp) (hb hby d_jdk_43_2_14) (Nat.le_of_ble_eq_true rfl) (Nat.le_of_ble_eq_true rfl) ?_
  exact ⟨congrArg (fun z => some (Value.int z)) (own_back cj (L_a cj (List.mem_of_getElem? hcj))), rfl⟩
set_option maxRecDepth 65536 in
set_option maxHeartbeats 40000000 in
theorem c_charAt (l : Launch) (Z : State) (a0 : Array Value) (hw : ∀ d ∈ tables_1, d.before a0 Z = true) (hE : EW Z a0 consts_1) (cc : Int32) (fm : Value) (a b : Nat) (cs : List Int32) (j cj : Int32)  (h0 : Heap) (O : Ext Z.heap h0) (G : SEnv Z cc fm) (S0 : SL Z h0 a b cs) (hj : ¬ j < 0) (hjn : j < cs.length.toInt32) (hcj : cs[j.toNatClampNeg]? = some cj) :
    Con l Z consts_1 (⟨"java/lang/String", "charAt", "(I)C"⟩ : MethodName) jdk_42_method_56_code 2 (Option.some Jvm.ClassFile.FieldType.char) ({ frames := 3, cells := 0, slots := 0, locals := 40 } : Room) #[(.ref a), (.int j)] h0 [] (pureQ (some (.int cj)) h0) := by
  refine Con.of (a0 := a0) #[.val (.ref a), .val (.int j)] (plainFor_of_name pn_1) hE O all0 (fun m => by first | (simp [entryFrame, mkF, argsToLocals, Value.category]; done) | rfl) ?_
  intro p e s m below meth c T0 hx hby hml hnm hret hlk hh W0
  obtain ⟨E_a, FC_a, FV_a, V_b, L_a⟩ := id S0
  have hlen : cs.length < 2 ^ 31 := by have := V_b.len; simpa using this
  refine g_aloadN (pc' := 1) W0.here hx (hb hby d_jdk_42_56_0) rfl rfl rfl ?_
  refine w_virtualp (pc' := 4) (st := []) (y := (⟨"java/lang/String", "isLatin1", "()Z"⟩ : MethodName)) (z := (⟨"java/lang/String", "isLatin1", "()Z"⟩ : MethodName)) (a := a) W0 hx [] (hw _ (List.mem_of_getElem? w_78)) (hw _ (List.mem_of_getElem? w_79)) (nfS (z := (⟨"java/lang/String", "isLatin1", "()Z"⟩ : MethodName)) (hw _ (List.mem_of_getElem? w_81))) (hw _ (List.mem_of_getElem? w_81)) (hw _ (List.mem_of_getElem? w_80)) (hw _ (List.mem_of_getElem? w_8)) (hw _ (List.mem_of_getElem? w_82)) (by decide) (c_isLat l Z a0 hw hE cc fm a b cs h0 W0.old G S0) E_a (by rw [hml]; rfl) (lenOf pd_7 rfl) rfl (hb hby d_jdk_42_56_1) (Nat.le_of_ble_eq_true rfl) (Nat.le_of_ble_eq_true rfl) rfl rfl (Nat.le_of_ble_eq_true rfl) (Nat.le_of_ble_eq_true rfl) rfl fun T49 W49 => ?_
  refine g_ifN (pc' := 7) W49.here hx (hb hby d_jdk_42_56_4) rfl (feq (show ¬ ((1 : Int32) = (0 : Int32)) from (by decide))).1 ?_
  refine g_aloadN (pc' := 8) W49.here hx (hb hby d_jdk_42_56_7) rfl rfl rfl ?_
  refine w_get (pc' := 11) W49 hx (hw _ (List.mem_of_getElem? w_25)) Via.refl FV_a (hb hby d_jdk_42_56_8) rfl fun T50 W50 => ?_
  refine g_iloadN (pc' := 12) W50.here hx (hb hby d_jdk_42_56_11) rfl rfl ?_
  refine w_callSp (pc' := 15) (st := []) (y := (⟨"java/lang/StringLatin1", "charAt", "([BI)C"⟩ : MethodName)) W50 hx [(.ref b), (.int j)] (hw _ (List.mem_of_getElem? w_83)) (hw _ (List.mem_of_getElem? w_84)) (hw _ (List.mem_of_getElem? w_85)) (hw _ (List.mem_of_getElem? w_86)) (by decide) (c_l1at l Z a0 hw hE cc fm a b cs j cj h0 W50.old G S0 hj hjn hcj) (by rw [hml]; rfl) (lenOf pd_8 rfl) rfl (hb hby d_jdk_42_56_12) (Nat.le_of_ble_eq_true rfl) (Nat.le_of_ble_eq_true rfl) rfl rfl (Nat.le_of_ble_eq_true rfl) (Nat.le_of_ble_eq_true rfl) rfl fun T51 W51 => ?_
  refine w_retN (t := .char) W51 hx hh hlk hret (by simp) (hb hby d_jdk_42_56_15) (Nat.le_of_ble_eq_true rfl) (Nat.le_of_ble_eq_true rfl) ?_
  exact ⟨congrArg (fun z => some (Value.int z)) (own_nchar (by have := L_a cj (List.mem_of_getElem? hcj); omega)), rfl⟩
theorem own_byte (x : Int32) : 0 ≤ ((x &&& (255 : Int32)).toUInt32.toUInt16.toUInt32.toInt32).toInt ∧ ((x &&& (255 : Int32)).toUInt32.toUInt16.toUInt32.toInt32).toInt ≤ 255 := by
  rw [i2c_mask, c_mask x 255 8 (by decide) (by decide)]
  omega
theorem own_c16 {c : Int32} (h : 0 ≤ c.toInt ∧ c.toInt ≤ 255) : 0 ≤ c.toInt ∧ c.toInt < 65536 := by omega
abbrev isd (c : Int32) : Prop := 48 ≤ c.toInt ∧ c.toInt ≤ 57
def val (cs : List Int32) : Nat := cs.foldl (fun v c => 10 * v + (c.toInt - 48).toNat) 0
def resI (cs : List Int32) : Int32 := if cs = [] ∨ ¬ (∀ c ∈ cs, isd c) then -1 else (min (val cs) 2147483647).toInt32
def accL (cs : List Int32) (i : Nat) : Int64 := Int64.ofInt (min (val (cs.take i)) 2147483647 : Nat)
def okI (cs : List Int32) (j : Int32) : Int32 := match cs[j.toNatClampNeg]? with | none => 1 | some c => if isd c then 1 else 0
def dI (cs : List Int32) (j : Int32) : Int32 := if j < 0 then 0 else match cs[j.toNatClampNeg]? with | none => 0 | some c => c - 48
def nzI (cs : List Int32) (j : Int32) : Int32 := if j < cs.length.toInt32 - 10 then (match cs[j.toNatClampNeg]? with | none => 0 | some c => if c = 48 then 0 else 1) else 0
theorem val_snoc (xs : List Int32) (c : Int32) : val (xs ++ [c]) = 10 * val xs + (c.toInt - 48).toNat := by simp [val]
theorem val_nil : val [] = 0 := rfl
theorem accL_toInt (cs : List Int32) (i : Nat) : (accL cs i).toInt = (min (val (cs.take i)) 2147483647 : Nat) := by
  unfold accL
  rw [Int64.toInt_ofInt]
  have sz : (Int64.size : Int) = 18446744073709551616 := rfl
  apply Int.bmod_eq_of_le <;> omega
theorem own_snoc {P : List Int32 → Prop} (h0 : P []) (h1 : ∀ xs a, P xs → P (xs ++ [a])) : ∀ xs, P xs := fun xs => by
  have k : ∀ ys : List Int32, P ys.reverse := by
    intro ys
    induction ys with
    | nil => exact h0
    | cons a t ih => rw [List.reverse_cons]; exact h1 _ _ ih
  have q := k xs.reverse
  rwa [List.reverse_reverse] at q
theorem own_nnj {j : Int32} (h : 0 ≤ j.toInt) : ¬ j < 0 := by rw [Int32.lt_iff_toInt_lt]; have := own_t0; omega
theorem own_tnc (j : Int32) : j.toNatClampNeg = j.toInt.toNat := rfl
theorem own_ltj {cs : List Int32} {j : Int32} (hn : cs.length ≤ 20) (h : j < cs.length.toInt32) (hj : ¬ j < 0) : ∃ c, cs[j.toNatClampNeg]? = some c := by
  rw [Int32.lt_iff_toInt_lt, own_toInt (by omega)] at h
  exact ⟨_, List.getElem?_eq_getElem (by rw [own_tnc]; rw [Int32.lt_iff_toInt_lt] at hj; have := own_t0; omega)⟩
theorem own_gej {cs : List Int32} {j : Int32} (hn : cs.length ≤ 20) (h : ¬ j < cs.length.toInt32) : cs[j.toNatClampNeg]? = none := by
  rw [Int32.lt_iff_toInt_lt, own_toInt (by omega)] at h
  exact List.getElem?_eq_none (by rw [own_tnc]; omega)
theorem own_bad {cs : List Int32} {j : Int32} (h : okI cs j = 0) : resI cs = -1 := by
  unfold okI at h
  split at h
  · exact absurd h (by decide)
  · rename_i c e
    split at h
    · exact absurd h (by decide)
    · rename_i nc
      unfold resI
      rw [if_pos (Or.inr fun q => nc (q c (List.mem_of_getElem? e)))]
theorem own_okd {cs : List Int32} {j c : Int32} (h : ¬ okI cs j = 0) (e : cs[j.toNatClampNeg]? = some c) : isd c := by
  unfold okI at h
  rw [e] at h
  by_cases q : isd c
  · exact q
  · simp [q] at h
theorem own_all20 {cs : List Int32} (hn : cs.length ≤ 20) (h0 : ¬ okI cs (0 : Int32) = 0) (h1 : ¬ okI cs (1 : Int32) = 0) (h2 : ¬ okI cs (2 : Int32) = 0) (h3 : ¬ okI cs (3 : Int32) = 0) (h4 : ¬ okI cs (4 : Int32) = 0) (h5 : ¬ okI cs (5 : Int32) = 0) (h6 : ¬ okI cs (6 : Int32) = 0) (h7 : ¬ okI cs (7 : Int32) = 0) (h8 : ¬ okI cs (8 : Int32) = 0) (h9 : ¬ okI cs (9 : Int32) = 0) (h10 : ¬ okI cs (10 : Int32) = 0) (h11 : ¬ okI cs (11 : Int32) = 0) (h12 : ¬ okI cs (12 : Int32) = 0) (h13 : ¬ okI cs (13 : Int32) = 0) (h14 : ¬ okI cs (14 : Int32) = 0) (h15 : ¬ okI cs (15 : Int32) = 0) (h16 : ¬ okI cs (16 : Int32) = 0) (h17 : ¬ okI cs (17 : Int32) = 0) (h18 : ¬ okI cs (18 : Int32) = 0) (h19 : ¬ okI cs (19 : Int32) = 0) : ∀ c ∈ cs, isd c := by
  have key : ∀ i < 20, ¬ okI cs i.toInt32 = 0 := by
    intro i hi
    match i, hi with
    | 0, _ => exact h0
    | 1, _ => exact h1
    | 2, _ => exact h2
    | 3, _ => exact h3
    | 4, _ => exact h4
    | 5, _ => exact h5
    | 6, _ => exact h6
    | 7, _ => exact h7
    | 8, _ => exact h8
    | 9, _ => exact h9
    | 10, _ => exact h10
    | 11, _ => exact h11
    | 12, _ => exact h12
    | 13, _ => exact h13
    | 14, _ => exact h14
    | 15, _ => exact h15
    | 16, _ => exact h16
    | 17, _ => exact h17
    | 18, _ => exact h18
    | 19, _ => exact h19
    | n + 20, h => exact absurd h (by omega)
  intro c hc
  obtain ⟨i, hi, e⟩ := List.mem_iff_getElem.mp hc
  exact own_okd (key i (by omega)) (by rw [i32_nat (by omega)]; rw [List.getElem?_eq_getElem hi, e])
def dgk (cs : List Int32) (m : Nat) : Nat := (dI cs (cs.length.toInt32 - (m + 1).toInt32)).toInt.toNat
def sumS (cs : List Int32) : Nat → Nat
  | 0 => 0
  | m + 1 => sumS cs m + dgk cs m * 10 ^ m
theorem own_subn {n m : Nat} (hn : n < 1000) (hm : m < 1000) : (n.toInt32 - m.toInt32).toInt = (n : Int) - m := by
  have q := c_isub n.toInt32 m.toInt32
  have r := rng32 (n.toInt32 - m.toInt32)
  rw [own_toInt (by omega), own_toInt (by omega)] at q
  omega
theorem own_dI9 {cs : List Int32} (hn : cs.length ≤ 20) (hd : ∀ c ∈ cs, isd c) (j : Int32) : 0 ≤ (dI cs j).toInt ∧ (dI cs j).toInt ≤ 9 := by
  unfold dI
  split
  · exact ⟨by decide, by decide⟩
  · split
    · exact ⟨by decide, by decide⟩
    · rename_i c e
      have q := hd c (List.mem_of_getElem? e)
      have a := c_isub c 48
      have r := rng32 (c - 48)
      have t := own_t48
      omega
theorem own_dgkp {cs : List Int32} {m t : Nat} {c : Int32} (hn : cs.length ≤ 20) (hm : cs.length = m + 1 + t) (e : cs[t]? = some c) (hd : isd c) : dgk cs m = (c.toInt - 48).toNat := by
  have a := own_subn (n := cs.length) (m := m + 1) (by omega) (by omega)
  have e1 : (cs.length.toInt32 - (m + 1).toInt32).toNatClampNeg = t := by rw [own_tnc]; omega
  unfold dgk dI
  rw [if_neg (own_nnj (by omega)), e1, e]
  have a := c_isub c 48
  have r := rng32 (c - 48)
  have t := own_t48
  show (c - 48).toInt.toNat = _
  omega
theorem own_dgkn {cs : List Int32} {m : Nat} (hn : cs.length ≤ 20) (hm : cs.length ≤ m) (hm2 : m < 100) : dgk cs m = 0 := by
  have a := own_subn (n := cs.length) (m := m + 1) (by omega) (by omega)
  unfold dgk dI
  rw [if_pos (by rw [Int32.lt_iff_toInt_lt]; have := own_t0; omega)]; rfl
theorem own_valm {cs : List Int32} (hn : cs.length ≤ 20) (hd : ∀ c ∈ cs, isd c) : ∀ m ≤ 20, val cs = sumS cs m + 10 ^ m * val (cs.take (cs.length - m))
  | 0, _ => by simp [sumS]
  | m + 1, h => by
    have ih := own_valm hn hd m (by omega)
    rw [ih, sumS]
    by_cases q : cs.length ≤ m
    · rw [own_dgkn hn q (by omega), show cs.length - m = 0 by omega, show cs.length - (m + 1) = 0 by omega]; simp [val_nil]
    · obtain ⟨c, e⟩ : ∃ c, cs[cs.length - (m + 1)]? = some c := ⟨_, List.getElem?_eq_getElem (by omega)⟩
      rw [own_dgkp (t := cs.length - (m + 1)) hn (by omega) e (hd c (List.mem_of_getElem? e)), show cs.length - m = cs.length - (m + 1) + 1 by omega, List.take_add_one, e]
      show _ + 10 ^ m * val (_ ++ [c]) = _
      rw [val_snoc, Nat.pow_succ]
      generalize val (List.take (cs.length - (m + 1)) cs) = v
      generalize (c.toInt - 48).toNat = w
      generalize 10 ^ m = P
      rw [Nat.mul_add, ← Nat.mul_assoc, Nat.mul_comm w P]
      omega
theorem own_valpos : ∀ (xs : List Int32) (i : Nat) (c : Int32), xs[i]? = some c → 48 < c.toInt → 1 ≤ val xs := by
  refine own_snoc (P := fun xs => ∀ (i : Nat) (c : Int32), xs[i]? = some c → 48 < c.toInt → 1 ≤ val xs) ?_ ?_
  · intro i c e; simp at e
  · intro xs a ih i c e hc
    rw [val_snoc]
    by_cases q : i < xs.length
    · rw [List.getElem?_append_left q] at e
      have := ih i c e hc
      omega
    · rw [List.getElem?_append_right (by omega)] at e
      have h0 : i - xs.length = 0 := by
        by_cases z : i - xs.length = 0
        · exact z
        · rw [List.getElem?_eq_none (by simp; omega)] at e; cases e
      rw [h0] at e
      cases e
      omega
theorem own_val0 : ∀ (xs : List Int32), (∀ c ∈ xs, c = 48) → val xs = 0 := by
  refine own_snoc (P := fun xs => (∀ c ∈ xs, c = 48) → val xs = 0) ?_ ?_
  · intro _; rfl
  · intro xs a ih h
    rw [val_snoc, ih (fun c hc => h c (by simp [hc])), h a (by simp)]; rfl
theorem own_nzp {cs : List Int32} {j : Int32} (hn : cs.length ≤ 20) (hd : ∀ c ∈ cs, isd c) (hj : 0 ≤ j.toInt) (h : ¬ nzI cs j = 0) : 1 ≤ val (cs.take (cs.length - 10)) := by
  unfold nzI at h
  split at h
  · rename_i q
    split at h
    · exact absurd rfl h
    · rename_i c e
      split at h
      · exact absurd rfl h
      · rename_i nc
        have a := own_subn (n := cs.length) (m := 10) (by omega) (by omega)
        have q' : j.toInt < (cs.length.toInt32 - (10 : Nat).toInt32).toInt := Int32.lt_iff_toInt_lt.mp q
        have d := hd c (List.mem_of_getElem? e)
        refine own_valpos _ j.toNatClampNeg c (by rw [List.getElem?_take, if_pos (by rw [own_tnc]; omega)]; exact e) ?_
        have nc' : ¬ c.toInt = 48 := fun z => nc (Int32.toInt_inj.mp z)
        omega
  · exact absurd rfl h
theorem own_nz0 {cs : List Int32} (hn : cs.length ≤ 20) (h0 : nzI cs (0 : Int32) = 0) (h1 : nzI cs (1 : Int32) = 0) (h2 : nzI cs (2 : Int32) = 0) (h3 : nzI cs (3 : Int32) = 0) (h4 : nzI cs (4 : Int32) = 0) (h5 : nzI cs (5 : Int32) = 0) (h6 : nzI cs (6 : Int32) = 0) (h7 : nzI cs (7 : Int32) = 0) (h8 : nzI cs (8 : Int32) = 0) (h9 : nzI cs (9 : Int32) = 0) : val (cs.take (cs.length - 10)) = 0 := by
  have key : ∀ i < 10, nzI cs i.toInt32 = 0 := by
    intro i hi
    match i, hi with
    | 0, _ => exact h0
    | 1, _ => exact h1
    | 2, _ => exact h2
    | 3, _ => exact h3
    | 4, _ => exact h4
    | 5, _ => exact h5
    | 6, _ => exact h6
    | 7, _ => exact h7
    | 8, _ => exact h8
    | 9, _ => exact h9
    | n + 10, h => exact absurd h (by omega)
  apply own_val0
  intro c hc
  obtain ⟨i, hi, e⟩ := List.mem_iff_getElem.mp hc
  rw [List.length_take] at hi
  rw [List.getElem_take] at e
  have k := key i (by omega)
  unfold nzI at k
  have a := own_subn (n := cs.length) (m := 10) (by omega) (by omega)
  rw [if_pos (by rw [Int32.lt_iff_toInt_lt, own_toInt (by omega)]; show _ < (cs.length.toInt32 - (10 : Nat).toInt32).toInt; omega), i32_nat (by omega), List.getElem?_eq_getElem (by omega), e] at k
  by_cases q : c = 48
  · exact q
  · simp [q] at k
theorem own_mulc (x : Int32) (k : Int64) (K : Int) (hk : k.toInt = K) (h : 0 ≤ x.toInt ∧ x.toInt ≤ 9) (hK : 0 ≤ K ∧ K ≤ 1000000000) : (x.toInt64 * k).toInt = x.toInt * K := by
  have a := c_lmul x.toInt64 k
  have r := rng64 (x.toInt64 * k)
  rw [c_i2l, hk] at a
  have b : 0 ≤ x.toInt * K ∧ x.toInt * K ≤ 9 * 1000000000 := ⟨Int.mul_nonneg h.1 hK.1, Int.le_trans (Int.mul_le_mul_of_nonneg_right h.2 hK.1) (Int.mul_le_mul_of_nonneg_left hK.2 (by decide))⟩
  omega
theorem own_addl (x y : Int64) (X Y : Int) (hx : x.toInt = X) (hy : y.toInt = Y) (h : 0 ≤ X ∧ X ≤ 100000000000) (h2 : 0 ≤ Y ∧ Y ≤ 100000000000) : (x + y).toInt = X + Y := by
  have a := c_ladd x y
  have r := rng64 (x + y)
  rw [hx, hy] at a
  omega
theorem own_lo {x9 x8 x7 x6 x5 x4 x3 x2 x1 x0 : Int32} (h9 : 0 ≤ x9.toInt ∧ x9.toInt ≤ 9) (h8 : 0 ≤ x8.toInt ∧ x8.toInt ≤ 9) (h7 : 0 ≤ x7.toInt ∧ x7.toInt ≤ 9) (h6 : 0 ≤ x6.toInt ∧ x6.toInt ≤ 9) (h5 : 0 ≤ x5.toInt ∧ x5.toInt ≤ 9) (h4 : 0 ≤ x4.toInt ∧ x4.toInt ≤ 9) (h3 : 0 ≤ x3.toInt ∧ x3.toInt ≤ 9) (h2 : 0 ≤ x2.toInt ∧ x2.toInt ≤ 9) (h1 : 0 ≤ x1.toInt ∧ x1.toInt ≤ 9) (h0 : 0 ≤ x0.toInt ∧ x0.toInt ≤ 9) : (x9.toInt64 * (1000000000 : Int64) + x8.toInt64 * (100000000 : Int64) + x7.toInt64 * (10000000 : Int64) + x6.toInt64 * (1000000 : Int64) + x5.toInt64 * (100000 : Int64) + x4.toInt64 * (10000 : Int64) + x3.toInt64 * (1000 : Int64) + x2.toInt64 * (100 : Int64) + x1.toInt64 * (10 : Int64) + x0.toInt64).toInt = x9.toInt * 1000000000 + x8.toInt * 100000000 + x7.toInt * 10000000 + x6.toInt * 1000000 + x5.toInt * 100000 + x4.toInt * 10000 + x3.toInt * 1000 + x2.toInt * 100 + x1.toInt * 10 + x0.toInt := by
  have m9 := own_mulc x9 (1000000000 : Int64) 1000000000 rfl h9 (by omega)
  have m8 := own_mulc x8 (100000000 : Int64) 100000000 rfl h8 (by omega)
  have m7 := own_mulc x7 (10000000 : Int64) 10000000 rfl h7 (by omega)
  have m6 := own_mulc x6 (1000000 : Int64) 1000000 rfl h6 (by omega)
  have m5 := own_mulc x5 (100000 : Int64) 100000 rfl h5 (by omega)
  have m4 := own_mulc x4 (10000 : Int64) 10000 rfl h4 (by omega)
  have m3 := own_mulc x3 (1000 : Int64) 1000 rfl h3 (by omega)
  have m2 := own_mulc x2 (100 : Int64) 100 rfl h2 (by omega)
  have m1 := own_mulc x1 (10 : Int64) 10 rfl h1 (by omega)
  refine own_addl _ _ _ _ ?_ (c_i2l x0) (by omega) (by omega)
  refine own_addl _ _ _ _ ?_ m1 (by omega) (by omega)
  refine own_addl _ _ _ _ ?_ m2 (by omega) (by omega)
  refine own_addl _ _ _ _ ?_ m3 (by omega) (by omega)
  refine own_addl _ _ _ _ ?_ m4 (by omega) (by omega)
  refine own_addl _ _ _ _ ?_ m5 (by omega) (by omega)
  refine own_addl _ _ _ _ ?_ m6 (by omega) (by omega)
  refine own_addl _ _ _ _ ?_ m7 (by omega) (by omega)
  refine own_addl _ _ _ _ ?_ m8 (by omega) (by omega)
  exact m9
theorem own_sum10 (cs : List Int32) : sumS cs 10 = dgk cs 0 * 1 + dgk cs 1 * 10 + dgk cs 2 * 100 + dgk cs 3 * 1000 + dgk cs 4 * 10000 + dgk cs 5 * 100000 + dgk cs 6 * 1000000 + dgk cs 7 * 10000000 + dgk cs 8 * 100000000 + dgk cs 9 * 1000000000 := by
  simp only [sumS]; omega
theorem own_min1 {cs : List Int32} {i : Nat} {ci : Int32} {z : Int64} (hc : cs[i]? = some ci) (hd : isd ci) (hz : z = accL cs i * 10 + (ci - 48).toInt64) : (if (2147483647 : Int64).toInt < z.toInt then (2147483647 : Int64) else z) = accL cs (i + 1) := by
  have a := accL_toInt cs i
  have b := accL_toInt cs (i + 1)
  rw [List.take_add_one, hc] at b
  have b' : (accL cs (i + 1)).toInt = (min (10 * val (cs.take i) + (ci.toInt - 48).toNat) 2147483647 : Nat) := by rw [b, ← val_snoc]; rfl
  have c1 := c_lmul (accL cs i) 10
  have c2 := c_ladd (accL cs i * 10) (ci - 48).toInt64
  have c3 := c_i2l (ci - 48)
  have c4 := c_isub ci 48
  have r1 := rng64 (accL cs i * 10)
  have r2 := rng64 (accL cs i * 10 + (ci - 48).toInt64)
  have r3 := rng32 (ci - 48)
  have t1 : (10 : Int64).toInt = 10 := rfl
  have t2 : (2147483647 : Int64).toInt = 2147483647 := rfl
  have t3 := own_t48
  rw [t1] at c1
  have p1 : (accL cs i * 10).toInt = (accL cs i).toInt * 10 := by omega
  have p2 : (ci - 48).toInt = ci.toInt - 48 := by omega
  have p3 : (accL cs i * 10 + (ci - 48).toInt64).toInt = (accL cs i).toInt * 10 + (ci.toInt - 48) := by omega
  rw [hz]
  apply Int64.toInt_inj.mp
  split <;> omega
theorem own_fin {cs : List Int32} (hn : cs.length ≤ 20) (h0 : ¬ cs = []) (hd : ∀ c ∈ cs, isd c) : resI cs = (min (val cs) 2147483647).toInt32 := by
  unfold resI; rw [if_neg (fun q => q.elim h0 fun z => z hd)]
theorem own_l255 (x : Int64) : 0 ≤ (x &&& (255 : Int64)).toInt32.toInt ∧ (x &&& (255 : Int64)).toInt32.toInt ≤ 255 := by
  have a := c_maskL x 255 8 (by decide) (by decide)
  have b := c_l2i (x &&& 255)
  have r := rng32 (x &&& 255).toInt32
  omega
theorem own_i255 (x : Int32) : 0 ≤ (x &&& (255 : Int32)).toInt ∧ (x &&& (255 : Int32)).toInt ≤ 255 := by
  have a := c_mask x 255 8 (by decide) (by decide)
  omega
theorem own_n8 {z : Int32} (h : 0 ≤ z.toInt ∧ z.toInt ≤ 255) : 0 ≤ (nar .char z.toUInt32.toUInt16.toUInt32.toInt32).toInt ∧ (nar .char z.toUInt32.toUInt16.toUInt32.toInt32).toInt ≤ 255 := by
  have q := c_i2c z
  have e : z.toUInt32.toUInt16.toUInt32.toInt32 = z := by apply Int32.toInt_inj.mp; omega
  rw [e, own_nchar (by omega)]; exact h
theorem own_d48 {r : Int32} (h : 0 ≤ r.toInt ∧ r.toInt ≤ 255) : 0 ≤ ((48 : Int32) + r % 10).toInt ∧ ((48 : Int32) + r % 10).toInt ≤ 255 := by
  have a := (c_irem r 10 10 rfl).1 h.1
  have b := c_iadd 48 (r % 10)
  have q := rng32 (48 + r % 10)
  have t := own_t48
  omega
theorem own_setL {ts : List Int32} {i : Nat} {q : Int32} (h : ∀ c ∈ ts, 0 ≤ c.toInt ∧ c.toInt ≤ 255) (hq : 0 ≤ q.toInt ∧ q.toInt ≤ 255) : ∀ c ∈ ts.set i q, 0 ≤ c.toInt ∧ c.toInt ≤ 255 := fun c hc => by
  rcases List.mem_or_eq_of_mem_set hc with z | z
  · exact h c z
  · rw [z]; exact hq
set_option maxRecDepth 65536 in
set_option maxHeartbeats 40000000 in
theorem c_put (l : Launch) (Z : State) (a0 : Array Value) (hw : ∀ d ∈ tables_1, d.before a0 Z = true) (hE : EW Z a0 consts_1) (ca n : Nat) (ii : Int32) (xa xb : Int64) (xc xm : Int32) (cs : List Int32) (h0 : Heap) (O : Ext Z.heap h0) (hz : Z.heap.size ≤ ca) (hi : 0 ≤ ii.toInt ∧ ii.toInt ≤ 19) (hl : cs.length = n) (hn : n ≤ 20) (hch : (∀ c ∈ cs, 0 ≤ c.toInt ∧ c.toInt ≤ 255)) (VA : Ary Z h0 ca .char (cs.map Value.int)) :
    Con l Z consts_1 (⟨"com/example/despatch/despatch/fhir/WholeNumberReadPinLaw", "put", "([CIJJII)V"⟩ : MethodName) method_3_code 9 (Option.none : Option Jvm.ClassFile.FieldType) ({ frames := 0, cells := 0, slots := 0, locals := 0 } : Room) #[(.ref ca), (.int ii), (.long xa), (.long xb), (.int xc), (.int xm)] h0 [ca] (fun v h => v = none ∧ ∃ cs' : List Int32, cs'.length = n ∧ (∀ c ∈ cs', 0 ≤ c.toInt ∧ c.toInt ≤ 255) ∧ Ary Z h ca .char (cs'.map Value.int)) := by
  refine Con.of (a0 := a0) #[.val (.ref ca), .val (.int ii), .val (.long xa), .second, .val (.long xb), .second, .val (.int xc), .val (.int xm), .unset] (plainFor_of_name pn_4) hE O (allS ⟨hz, VA.lt⟩ all0) (fun m => by first | (simp [entryFrame, mkF, argsToLocals, Value.category]; done) | rfl) ?_
  intro p e s m below meth c T0 hx hby hml hnm hret hlk hh W0
  have hjj : ¬ ii < 0 := own_nnj hi.1
  refine g_iloadN (pc' := 1) W0.here hx (hb hby d_method_3_0) rfl rfl ?_
  refine g_aloadN (pc' := 2) W0.here hx (hb hby d_method_3_1) rfl rfl rfl ?_
  refine w_len (pc' := 3) W0 hx VA (hb hby d_method_3_2) rfl ?_
  refine g_name (w := .int cs.length.toInt32) (congrArg Value.int (by rw [List.length_map])) ?_
  by_cases hc3_52 : ii < cs.length.toInt32
  · refine g_icmpY (pc' := 7) W0.here hx (hb hby d_method_3_3) rfl (tlt hc3_52).1 ?_
    refine g_iloadN (pc' := 8) W0.here hx (hb hby d_method_3_7) rfl rfl ?_
    refine g_bipush (8 : Int32) (pc' := 10) W0.here hx (hb hby d_method_3_8) rfl rfl ?_
    by_cases hc10_53 : ii < (8 : Int32)
    · refine g_icmpN (pc' := 13) W0.here hx (hb hby d_method_3_10) rfl (tlt hc10_53).2.1 ?_
      refine g_lloadN (pc' := 14) W0.here hx (hb hby d_method_3_13) rfl rfl ?_
      refine g_bipush (8 : Int32) (pc' := 16) W0.here hx (hb hby d_method_3_14) rfl rfl ?_
      refine g_iloadN (pc' := 17) W0.here hx (hb hby d_method_3_16) rfl rfl ?_
      refine g_imul (pc' := 18) W0.here hx (hb hby d_method_3_17) rfl ?_
      refine g_lushr (pc' := 19) W0.here hx (hb hby d_method_3_18) rfl ?_
      refine w_ldc2J (pc' := 22) W0 hx (hw _ (List.mem_of_getElem? w_51)) (hb hby d_method_3_19) rfl ?_
      refine g_land (pc' := 23) W0.here hx (hb hby d_method_3_22) rfl ?_
      refine g_l2i (pc' := 24) W0.here hx (hb hby d_method_3_23) rfl ?_
      obtain ⟨raw, hraw⟩ : ∃ zz_ : Int32, zz_ = ((((xa.toUInt64 >>> (((8 : Int32) * ii) &&& 0x3f).toInt64.toUInt64).toInt64) &&& (255 : Int64)).toInt32) := ⟨_, rfl⟩
      refine g_name (congrArg Value.int hraw) ?_
      have r_raw : 0 ≤ raw.toInt ∧ raw.toInt ≤ 255 := by rw [hraw]; exact own_l255 _
      refine g_istore (pc' := 26) (Ls' := #[.val (.ref ca), .val (.int ii), .val (.long xa), .second, .val (.long xb), .second, .val (.int xc), .val (.int xm), .val (.int raw)]) W0.here hx (hb hby d_method_3_24) rfl rfl ?_
      refine g_goto (pc' := 71) W0.here hx (hb hby d_method_3_26) rfl ?_
      refine g_iload (pc' := 73) W0.here hx (hb hby d_method_3_71) rfl rfl ?_
      refine g_iloadN (pc' := 74) W0.here hx (hb hby d_method_3_73) rfl rfl ?_
      refine g_iushr (pc' := 75) W0.here hx (hb hby d_method_3_74) rfl ?_
      refine g_iconst (1 : Int32) (pc' := 76) W0.here hx (hb hby d_method_3_75) rfl rfl ?_
      refine g_iand (pc' := 77) W0.here hx (hb hby d_method_3_76) rfl ?_
      by_cases hc77_54 : (((xm.toUInt32 >>> (ii &&& 31).toUInt32).toInt32) &&& (1 : Int32)) = (0 : Int32)
      · refine g_ifY (pc' := 89) W0.here hx (hb hby d_method_3_77) rfl (teq hc77_54).1 ?_
        refine g_aloadN (pc' := 90) W0.here hx (hb hby d_method_3_89) rfl rfl rfl ?_
        refine g_iloadN (pc' := 91) W0.here hx (hb hby d_method_3_90) rfl rfl ?_
        refine g_bipush (48 : Int32) (pc' := 93) W0.here hx (hb hby d_method_3_91) rfl rfl ?_
        refine g_iload (pc' := 95) W0.here hx (hb hby d_method_3_93) rfl rfl ?_
        refine g_bipush (10 : Int32) (pc' := 97) W0.here hx (hb hby d_method_3_95) rfl rfl ?_
        refine g_irem (pc' := 98) W0.here hx (hb hby d_method_3_97) (by decide) rfl ?_
        refine g_iadd (pc' := 99) W0.here hx (hb hby d_method_3_98) rfl ?_
        refine g_i2c (pc' := 100) W0.here hx (hb hby d_method_3_99) rfl ?_
        obtain ⟨cv, hcv⟩ : ∃ zz_ : Int32, zz_ = (((48 : Int32) + (raw % (10 : Int32))).toUInt32.toUInt16.toUInt32.toInt32) := ⟨_, rfl⟩
        refine g_name (congrArg Value.int hcv) ?_
        have r_cv : 0 ≤ (nar .char cv).toInt ∧ (nar .char cv).toInt ≤ 255 := by rw [hcv]; exact own_n8 (own_d48 r_raw)
        refine w_castore (pc' := 101) (x' := nar .char cv) W0 hx VA hjj (by rw [List.length_map]; have q := hc3_52; rw [Int32.lt_iff_toInt_lt, own_toInt (by omega)] at q; rw [own_tnc]; omega) (List.mem_of_getElem? (i := 0) rfl) rfl (hb hby d_method_3_100) rfl fun T55 h55 W55 K55 V55 => ?_
        have z_K55 : h0.size ≤ h55.size := K55.1
        have V55 : Ary Z h55 ca .char ((cs.set ii.toNatClampNeg (nar .char cv)).map Value.int) := by rw [List.map_set]; exact V55
        refine w_retV W55 hx hh hlk hret (hb hby d_method_3_101) (Nat.le_of_ble_eq_true rfl) (Nat.le_of_ble_eq_true rfl) ?_
        exact ⟨rfl, _, by rw [List.length_set]; exact hl, own_setL hch r_cv, V55⟩
      · refine g_ifN (pc' := 80) W0.here hx (hb hby d_method_3_77) rfl (feq hc77_54).1 ?_
        refine g_aloadN (pc' := 81) W0.here hx (hb hby d_method_3_80) rfl rfl rfl ?_
        refine g_iloadN (pc' := 82) W0.here hx (hb hby d_method_3_81) rfl rfl ?_
        refine g_iload (pc' := 84) W0.here hx (hb hby d_method_3_82) rfl rfl ?_
        refine g_i2c (pc' := 85) W0.here hx (hb hby d_method_3_84) rfl ?_
        obtain ⟨cv, hcv⟩ : ∃ zz_ : Int32, zz_ = (raw.toUInt32.toUInt16.toUInt32.toInt32) := ⟨_, rfl⟩
        refine g_name (congrArg Value.int hcv) ?_
        have r_cv : 0 ≤ (nar .char cv).toInt ∧ (nar .char cv).toInt ≤ 255 := by rw [hcv]; exact own_n8 r_raw
        refine w_castore (pc' := 86) (x' := nar .char cv) W0 hx VA hjj (by rw [List.length_map]; have q := hc3_52; rw [Int32.lt_iff_toInt_lt, own_toInt (by omega)] at q; rw [own_tnc]; omega) (List.mem_of_getElem? (i := 0) rfl) rfl (hb hby d_method_3_85) rfl fun T56 h56 W56 K56 V56 => ?_
        have z_K56 : h0.size ≤ h56.size := K56.1
        have V56 : Ary Z h56 ca .char ((cs.set ii.toNatClampNeg (nar .char cv)).map Value.int) := by rw [List.map_set]; exact V56
        refine g_goto (pc' := 101) W56.here hx (hb hby d_method_3_86) rfl ?_
        refine w_retV W56 hx hh hlk hret (hb hby d_method_3_101) (Nat.le_of_ble_eq_true rfl) (Nat.le_of_ble_eq_true rfl) ?_
        exact ⟨rfl, _, by rw [List.length_set]; exact hl, own_setL hch r_cv, V56⟩
    · refine g_icmpY (pc' := 29) W0.here hx (hb hby d_method_3_10) rfl (flt hc10_53).2.1 ?_
      refine g_iloadN (pc' := 30) W0.here hx (hb hby d_method_3_29) rfl rfl ?_
      refine g_bipush (16 : Int32) (pc' := 32) W0.here hx (hb hby d_method_3_30) rfl rfl ?_
      by_cases hc32_57 : ii < (16 : Int32)
      · refine g_icmpN (pc' := 35) W0.here hx (hb hby d_method_3_32) rfl (tlt hc32_57).2.1 ?_
        refine g_lload (pc' := 37) W0.here hx (hb hby d_method_3_35) rfl rfl ?_
        refine g_bipush (8 : Int32) (pc' := 39) W0.here hx (hb hby d_method_3_37) rfl rfl ?_
        refine g_iloadN (pc' := 40) W0.here hx (hb hby d_method_3_39) rfl rfl ?_
        refine g_bipush (8 : Int32) (pc' := 42) W0.here hx (hb hby d_method_3_40) rfl rfl ?_
        refine g_isub (pc' := 43) W0.here hx (hb hby d_method_3_42) rfl ?_
        refine g_imul (pc' := 44) W0.here hx (hb hby d_method_3_43) rfl ?_
        refine g_lushr (pc' := 45) W0.here hx (hb hby d_method_3_44) rfl ?_
        refine w_ldc2J (pc' := 48) W0 hx (hw _ (List.mem_of_getElem? w_51)) (hb hby d_method_3_45) rfl ?_
        refine g_land (pc' := 49) W0.here hx (hb hby d_method_3_48) rfl ?_
        refine g_l2i (pc' := 50) W0.here hx (hb hby d_method_3_49) rfl ?_
        obtain ⟨raw, hraw⟩ : ∃ zz_ : Int32, zz_ = ((((xb.toUInt64 >>> (((8 : Int32) * (ii - (8 : Int32))) &&& 0x3f).toInt64.toUInt64).toInt64) &&& (255 : Int64)).toInt32) := ⟨_, rfl⟩
        refine g_name (congrArg Value.int hraw) ?_
        have r_raw : 0 ≤ raw.toInt ∧ raw.toInt ≤ 255 := by rw [hraw]; exact own_l255 _
        refine g_istore (pc' := 52) (Ls' := #[.val (.ref ca), .val (.int ii), .val (.long xa), .second, .val (.long xb), .second, .val (.int xc), .val (.int xm), .val (.int raw)]) W0.here hx (hb hby d_method_3_50) rfl rfl ?_
        refine g_goto (pc' := 71) W0.here hx (hb hby d_method_3_52) rfl ?_
        refine g_iload (pc' := 73) W0.here hx (hb hby d_method_3_71) rfl rfl ?_
        refine g_iloadN (pc' := 74) W0.here hx (hb hby d_method_3_73) rfl rfl ?_
        refine g_iushr (pc' := 75) W0.here hx (hb hby d_method_3_74) rfl ?_
        refine g_iconst (1 : Int32) (pc' := 76) W0.here hx (hb hby d_method_3_75) rfl rfl ?_
        refine g_iand (pc' := 77) W0.here hx (hb hby d_method_3_76) rfl ?_
        by_cases hc77_58 : (((xm.toUInt32 >>> (ii &&& 31).toUInt32).toInt32) &&& (1 : Int32)) = (0 : Int32)
        · refine g_ifY (pc' := 89) W0.here hx (hb hby d_method_3_77) rfl (teq hc77_58).1 ?_
          refine g_aloadN (pc' := 90) W0.here hx (hb hby d_method_3_89) rfl rfl rfl ?_
          refine g_iloadN (pc' := 91) W0.here hx (hb hby d_method_3_90) rfl rfl ?_
          refine g_bipush (48 : Int32) (pc' := 93) W0.here hx (hb hby d_method_3_91) rfl rfl ?_
          refine g_iload (pc' := 95) W0.here hx (hb hby d_method_3_93) rfl rfl ?_
          refine g_bipush (10 : Int32) (pc' := 97) W0.here hx (hb hby d_method_3_95) rfl rfl ?_
          refine g_irem (pc' := 98) W0.here hx (hb hby d_method_3_97) (by decide) rfl ?_
          refine g_iadd (pc' := 99) W0.here hx (hb hby d_method_3_98) rfl ?_
          refine g_i2c (pc' := 100) W0.here hx (hb hby d_method_3_99) rfl ?_
          obtain ⟨cv, hcv⟩ : ∃ zz_ : Int32, zz_ = (((48 : Int32) + (raw % (10 : Int32))).toUInt32.toUInt16.toUInt32.toInt32) := ⟨_, rfl⟩
          refine g_name (congrArg Value.int hcv) ?_
          have r_cv : 0 ≤ (nar .char cv).toInt ∧ (nar .char cv).toInt ≤ 255 := by rw [hcv]; exact own_n8 (own_d48 r_raw)
          refine w_castore (pc' := 101) (x' := nar .char cv) W0 hx VA hjj (by rw [List.length_map]; have q := hc3_52; rw [Int32.lt_iff_toInt_lt, own_toInt (by omega)] at q; rw [own_tnc]; omega) (List.mem_of_getElem? (i := 0) rfl) rfl (hb hby d_method_3_100) rfl fun T59 h59 W59 K59 V59 => ?_
          have z_K59 : h0.size ≤ h59.size := K59.1
          have V59 : Ary Z h59 ca .char ((cs.set ii.toNatClampNeg (nar .char cv)).map Value.int) := by rw [List.map_set]; exact V59
          refine w_retV W59 hx hh hlk hret (hb hby d_method_3_101) (Nat.le_of_ble_eq_true rfl) (Nat.le_of_ble_eq_true rfl) ?_
          exact ⟨rfl, _, by rw [List.length_set]; exact hl, own_setL hch r_cv, V59⟩
        · refine g_ifN (pc' := 80) W0.here hx (hb hby d_method_3_77) rfl (feq hc77_58).1 ?_
          refine g_aloadN (pc' := 81) W0.here hx (hb hby d_method_3_80) rfl rfl rfl ?_
          refine g_iloadN (pc' := 82) W0.here hx (hb hby d_method_3_81) rfl rfl ?_
          refine g_iload (pc' := 84) W0.here hx (hb hby d_method_3_82) rfl rfl ?_
          refine g_i2c (pc' := 85) W0.here hx (hb hby d_method_3_84) rfl ?_
          obtain ⟨cv, hcv⟩ : ∃ zz_ : Int32, zz_ = (raw.toUInt32.toUInt16.toUInt32.toInt32) := ⟨_, rfl⟩
          refine g_name (congrArg Value.int hcv) ?_
          have r_cv : 0 ≤ (nar .char cv).toInt ∧ (nar .char cv).toInt ≤ 255 := by rw [hcv]; exact own_n8 r_raw
          refine w_castore (pc' := 86) (x' := nar .char cv) W0 hx VA hjj (by rw [List.length_map]; have q := hc3_52; rw [Int32.lt_iff_toInt_lt, own_toInt (by omega)] at q; rw [own_tnc]; omega) (List.mem_of_getElem? (i := 0) rfl) rfl (hb hby d_method_3_85) rfl fun T60 h60 W60 K60 V60 => ?_
          have z_K60 : h0.size ≤ h60.size := K60.1
          have V60 : Ary Z h60 ca .char ((cs.set ii.toNatClampNeg (nar .char cv)).map Value.int) := by rw [List.map_set]; exact V60
          refine g_goto (pc' := 101) W60.here hx (hb hby d_method_3_86) rfl ?_
          refine w_retV W60 hx hh hlk hret (hb hby d_method_3_101) (Nat.le_of_ble_eq_true rfl) (Nat.le_of_ble_eq_true rfl) ?_
          exact ⟨rfl, _, by rw [List.length_set]; exact hl, own_setL hch r_cv, V60⟩
      · refine g_icmpY (pc' := 55) W0.here hx (hb hby d_method_3_32) rfl (flt hc32_57).2.1 ?_
        refine g_iload (pc' := 57) W0.here hx (hb hby d_method_3_55) rfl rfl ?_
        refine g_bipush (8 : Int32) (pc' := 59) W0.here hx (hb hby d_method_3_57) rfl rfl ?_
        refine g_iloadN (pc' := 60) W0.here hx (hb hby d_method_3_59) rfl rfl ?_
        refine g_bipush (16 : Int32) (pc' := 62) W0.here hx (hb hby d_method_3_60) rfl rfl ?_
        refine g_isub (pc' := 63) W0.here hx (hb hby d_method_3_62) rfl ?_
        refine g_imul (pc' := 64) W0.here hx (hb hby d_method_3_63) rfl ?_
        refine g_iushr (pc' := 65) W0.here hx (hb hby d_method_3_64) rfl ?_
        refine g_sipush (255 : Int32) (pc' := 68) W0.here hx (hb hby d_method_3_65) rfl rfl ?_
        refine g_iand (pc' := 69) W0.here hx (hb hby d_method_3_68) rfl ?_
        obtain ⟨raw, hraw⟩ : ∃ zz_ : Int32, zz_ = (((xc.toUInt32 >>> (((8 : Int32) * (ii - (16 : Int32))) &&& 31).toUInt32).toInt32) &&& (255 : Int32)) := ⟨_, rfl⟩
        refine g_name (congrArg Value.int hraw) ?_
        have r_raw : 0 ≤ raw.toInt ∧ raw.toInt ≤ 255 := by rw [hraw]; exact own_i255 _
        refine g_istore (pc' := 71) (Ls' := #[.val (.ref ca), .val (.int ii), .val (.long xa), .second, .val (.long xb), .second, .val (.int xc), .val (.int xm), .val (.int raw)]) W0.here hx (hb hby d_method_3_69) rfl rfl ?_
        refine g_iload (pc' := 73) W0.here hx (hb hby d_method_3_71) rfl rfl ?_
        refine g_iloadN (pc' := 74) W0.here hx (hb hby d_method_3_73) rfl rfl ?_
        refine g_iushr (pc' := 75) W0.here hx (hb hby d_method_3_74) rfl ?_
        refine g_iconst (1 : Int32) (pc' := 76) W0.here hx (hb hby d_method_3_75) rfl rfl ?_
        refine g_iand (pc' := 77) W0.here hx (hb hby d_method_3_76) rfl ?_
        by_cases hc77_61 : (((xm.toUInt32 >>> (ii &&& 31).toUInt32).toInt32) &&& (1 : Int32)) = (0 : Int32)
        · refine g_ifY (pc' := 89) W0.here hx (hb hby d_method_3_77) rfl (teq hc77_61).1 ?_
          refine g_aloadN (pc' := 90) W0.here hx (hb hby d_method_3_89) rfl rfl rfl ?_
          refine g_iloadN (pc' := 91) W0.here hx (hb hby d_method_3_90) rfl rfl ?_
          refine g_bipush (48 : Int32) (pc' := 93) W0.here hx (hb hby d_method_3_91) rfl rfl ?_
          refine g_iload (pc' := 95) W0.here hx (hb hby d_method_3_93) rfl rfl ?_
          refine g_bipush (10 : Int32) (pc' := 97) W0.here hx (hb hby d_method_3_95) rfl rfl ?_
          refine g_irem (pc' := 98) W0.here hx (hb hby d_method_3_97) (by decide) rfl ?_
          refine g_iadd (pc' := 99) W0.here hx (hb hby d_method_3_98) rfl ?_
          refine g_i2c (pc' := 100) W0.here hx (hb hby d_method_3_99) rfl ?_
          obtain ⟨cv, hcv⟩ : ∃ zz_ : Int32, zz_ = (((48 : Int32) + (raw % (10 : Int32))).toUInt32.toUInt16.toUInt32.toInt32) := ⟨_, rfl⟩
          refine g_name (congrArg Value.int hcv) ?_
          have r_cv : 0 ≤ (nar .char cv).toInt ∧ (nar .char cv).toInt ≤ 255 := by rw [hcv]; exact own_n8 (own_d48 r_raw)
          refine w_castore (pc' := 101) (x' := nar .char cv) W0 hx VA hjj (by rw [List.length_map]; have q := hc3_52; rw [Int32.lt_iff_toInt_lt, own_toInt (by omega)] at q; rw [own_tnc]; omega) (List.mem_of_getElem? (i := 0) rfl) rfl (hb hby d_method_3_100) rfl fun T62 h62 W62 K62 V62 => ?_
          have z_K62 : h0.size ≤ h62.size := K62.1
          have V62 : Ary Z h62 ca .char ((cs.set ii.toNatClampNeg (nar .char cv)).map Value.int) := by rw [List.map_set]; exact V62
          refine w_retV W62 hx hh hlk hret (hb hby d_method_3_101) (Nat.le_of_ble_eq_true rfl) (Nat.le_of_ble_eq_true rfl) ?_
          exact ⟨rfl, _, by rw [List.length_set]; exact hl, own_setL hch r_cv, V62⟩
        · refine g_ifN (pc' := 80) W0.here hx (hb hby d_method_3_77) rfl (feq hc77_61).1 ?_
          refine g_aloadN (pc' := 81) W0.here hx (hb hby d_method_3_80) rfl rfl rfl ?_
          refine g_iloadN (pc' := 82) W0.here hx (hb hby d_method_3_81) rfl rfl ?_
          refine g_iload (pc' := 84) W0.here hx (hb hby d_method_3_82) rfl rfl ?_
          refine g_i2c (pc' := 85) W0.here hx (hb hby d_method_3_84) rfl ?_
          obtain ⟨cv, hcv⟩ : ∃ zz_ : Int32, zz_ = (raw.toUInt32.toUInt16.toUInt32.toInt32) := ⟨_, rfl⟩
          refine g_name (congrArg Value.int hcv) ?_
          have r_cv : 0 ≤ (nar .char cv).toInt ∧ (nar .char cv).toInt ≤ 255 := by rw [hcv]; exact own_n8 r_raw
          refine w_castore (pc' := 86) (x' := nar .char cv) W0 hx VA hjj (by rw [List.length_map]; have q := hc3_52; rw [Int32.lt_iff_toInt_lt, own_toInt (by omega)] at q; rw [own_tnc]; omega) (List.mem_of_getElem? (i := 0) rfl) rfl (hb hby d_method_3_85) rfl fun T63 h63 W63 K63 V63 => ?_
          have z_K63 : h0.size ≤ h63.size := K63.1
          have V63 : Ary Z h63 ca .char ((cs.set ii.toNatClampNeg (nar .char cv)).map Value.int) := by rw [List.map_set]; exact V63
          refine g_goto (pc' := 101) W63.here hx (hb hby d_method_3_86) rfl ?_
          refine w_retV W63 hx hh hlk hret (hb hby d_method_3_101) (Nat.le_of_ble_eq_true rfl) (Nat.le_of_ble_eq_true rfl) ?_
          exact ⟨rfl, _, by rw [List.length_set]; exact hl, own_setL hch r_cv, V63⟩
  · refine g_icmpN (pc' := 6) W0.here hx (hb hby d_method_3_3) rfl (flt hc3_52).1 ?_
    refine w_retV W0 hx hh hlk hret (hb hby d_method_3_6) (Nat.le_of_ble_eq_true rfl) (Nat.le_of_ble_eq_true rfl) ?_
    exact ⟨rfl, cs, hl, hch, VA⟩
set_option maxRecDepth 65536 in
set_option maxHeartbeats 40000000 in
theorem c_ok (l : Launch) (Z : State) (a0 : Array Value) (hw : ∀ d ∈ tables_1, d.before a0 Z = true) (hE : EW Z a0 consts_1) (ca : Nat) (j : Int32) (cs : List Int32) (h0 : Heap) (O : Ext Z.heap h0) (hn : cs.length ≤ 20) (VA : Ary Z h0 ca .char (cs.map Value.int)) (hj : ¬ j < 0) :
    Con l Z consts_1 (⟨"com/example/despatch/despatch/fhir/WholeNumberReadPinLaw", "ok", "([CI)Z"⟩ : MethodName) method_4_code 2 (Option.some Jvm.ClassFile.FieldType.boolean) ({ frames := 0, cells := 0, slots := 0, locals := 0 } : Room) #[(.ref ca), (.int j)] h0 [] (pureQ (some (.int (okI cs j))) h0) := by
  refine Con.of (a0 := a0) #[.val (.ref ca), .val (.int j)] (plainFor_of_name pn_4) hE O all0 (fun m => by first | (simp [entryFrame, mkF, argsToLocals, Value.category]; done) | rfl) ?_
  intro p e s m below meth c T0 hx hby hml hnm hret hlk hh W0
  refine g_iloadN (pc' := 1) W0.here hx (hb hby d_method_4_0) rfl rfl ?_
  refine g_aloadN (pc' := 2) W0.here hx (hb hby d_method_4_1) rfl rfl rfl ?_
  refine w_len (pc' := 3) W0 hx VA (hb hby d_method_4_2) rfl ?_
  refine g_name (w := .int cs.length.toInt32) (congrArg Value.int (by rw [List.length_map])) ?_
  by_cases hc3_64 : j < cs.length.toInt32
  · refine g_icmpN (pc' := 6) W0.here hx (hb hby d_method_4_3) rfl (tlt hc3_64).2.1 ?_
    obtain ⟨cj, hcj⟩ := own_ltj hn hc3_64 hj
    refine g_aloadN (pc' := 7) W0.here hx (hb hby d_method_4_6) rfl rfl rfl ?_
    refine g_iloadN (pc' := 8) W0.here hx (hb hby d_method_4_7) rfl rfl ?_
    refine w_caload (pc' := 9) (v := (.int cj)) W0 hx VA hj (by rw [List.getElem?_map, hcj]; rfl) (hb hby d_method_4_8) rfl ?_
    refine g_bipush (48 : Int32) (pc' := 11) W0.here hx (hb hby d_method_4_9) rfl rfl ?_
    by_cases hc11_65 : cj < (48 : Int32)
    · refine g_icmpY (pc' := 26) W0.here hx (hb hby d_method_4_11) rfl (tlt hc11_65).1 ?_
      refine g_iconst (0 : Int32) (pc' := 27) W0.here hx (hb hby d_method_4_26) rfl rfl ?_
      refine w_retN (t := .boolean) W0 hx hh hlk hret (by simp) (hb hby d_method_4_27) (Nat.le_of_ble_eq_true rfl) (Nat.le_of_ble_eq_true rfl) ?_
      refine ⟨congrArg (fun z => some (Value.int z)) ?_, rfl⟩
      simp only [Int32.lt_iff_toInt_lt, own_t0, own_t1, own_t8, own_t16, own_t10, own_t48, own_t57, own_t2147483647] at hc11_65
      show _ = okI cs j
      unfold okI
      rw [hcj]
      show _ = if isd cj then (1 : Int32) else 0
      rw [if_neg (by simp only [isd]; omega)]; rfl
    · refine g_icmpN (pc' := 14) W0.here hx (hb hby d_method_4_11) rfl (flt hc11_65).1 ?_
      refine g_aloadN (pc' := 15) W0.here hx (hb hby d_method_4_14) rfl rfl rfl ?_
      refine g_iloadN (pc' := 16) W0.here hx (hb hby d_method_4_15) rfl rfl ?_
      refine w_caload (pc' := 17) (v := (.int cj)) W0 hx VA hj (by rw [List.getElem?_map, hcj]; rfl) (hb hby d_method_4_16) rfl ?_
      refine g_bipush (57 : Int32) (pc' := 19) W0.here hx (hb hby d_method_4_17) rfl rfl ?_
      by_cases hc19_66 : (57 : Int32) < cj
      · refine g_icmpY (pc' := 26) W0.here hx (hb hby d_method_4_19) rfl (tlt hc19_66).2.2.1 ?_
        refine g_iconst (0 : Int32) (pc' := 27) W0.here hx (hb hby d_method_4_26) rfl rfl ?_
        refine w_retN (t := .boolean) W0 hx hh hlk hret (by simp) (hb hby d_method_4_27) (Nat.le_of_ble_eq_true rfl) (Nat.le_of_ble_eq_true rfl) ?_
        refine ⟨congrArg (fun z => some (Value.int z)) ?_, rfl⟩
        simp only [Int32.lt_iff_toInt_lt, own_t0, own_t1, own_t8, own_t16, own_t10, own_t48, own_t57, own_t2147483647] at hc11_65 hc19_66
        show _ = okI cs j
        unfold okI
        rw [hcj]
        show _ = if isd cj then (1 : Int32) else 0
        rw [if_neg (by simp only [isd]; omega)]; rfl
      · refine g_icmpN (pc' := 22) W0.here hx (hb hby d_method_4_19) rfl (flt hc19_66).2.2.1 ?_
        refine g_iconst (1 : Int32) (pc' := 23) W0.here hx (hb hby d_method_4_22) rfl rfl ?_
        refine g_goto (pc' := 27) W0.here hx (hb hby d_method_4_23) rfl ?_
        refine w_retN (t := .boolean) W0 hx hh hlk hret (by simp) (hb hby d_method_4_27) (Nat.le_of_ble_eq_true rfl) (Nat.le_of_ble_eq_true rfl) ?_
        refine ⟨congrArg (fun z => some (Value.int z)) ?_, rfl⟩
        simp only [Int32.lt_iff_toInt_lt, own_t0, own_t1, own_t8, own_t16, own_t10, own_t48, own_t57, own_t2147483647] at hc11_65 hc19_66
        show _ = okI cs j
        unfold okI
        rw [hcj]
        show _ = if isd cj then (1 : Int32) else 0
        rw [if_pos (by simp only [isd]; omega)]; rfl
  · refine g_icmpY (pc' := 22) W0.here hx (hb hby d_method_4_3) rfl (flt hc3_64).2.1 ?_
    refine g_iconst (1 : Int32) (pc' := 23) W0.here hx (hb hby d_method_4_22) rfl rfl ?_
    refine g_goto (pc' := 27) W0.here hx (hb hby d_method_4_23) rfl ?_
    refine w_retN (t := .boolean) W0 hx hh hlk hret (by simp) (hb hby d_method_4_27) (Nat.le_of_ble_eq_true rfl) (Nat.le_of_ble_eq_true rfl) ?_
    refine ⟨congrArg (fun z => some (Value.int z)) ?_, rfl⟩
    show _ = okI cs j
    unfold okI
    rw [own_gej hn hc3_64]; rfl
set_option maxRecDepth 65536 in
set_option maxHeartbeats 40000000 in
theorem c_d (l : Launch) (Z : State) (a0 : Array Value) (hw : ∀ d ∈ tables_1, d.before a0 Z = true) (hE : EW Z a0 consts_1) (ca : Nat) (j : Int32) (cs : List Int32) (h0 : Heap) (O : Ext Z.heap h0) (hn : cs.length ≤ 20) (VA : Ary Z h0 ca .char (cs.map Value.int))  :
    Con l Z consts_1 (⟨"com/example/despatch/despatch/fhir/WholeNumberReadPinLaw", "d", "([CI)I"⟩ : MethodName) method_5_code 2 (Option.some Jvm.ClassFile.FieldType.int) ({ frames := 0, cells := 0, slots := 0, locals := 0 } : Room) #[(.ref ca), (.int j)] h0 [] (pureQ (some (.int (dI cs j))) h0) := by
  refine Con.of (a0 := a0) #[.val (.ref ca), .val (.int j)] (plainFor_of_name pn_4) hE O all0 (fun m => by first | (simp [entryFrame, mkF, argsToLocals, Value.category]; done) | rfl) ?_
  intro p e s m below meth c T0 hx hby hml hnm hret hlk hh W0
  refine g_iloadN (pc' := 1) W0.here hx (hb hby d_method_5_0) rfl rfl ?_
  by_cases hc1_67 : j < (0 : Int32)
  · refine g_ifY (pc' := 17) W0.here hx (hb hby d_method_5_1) rfl (tlt hc1_67).1 ?_
    refine g_iconst (0 : Int32) (pc' := 18) W0.here hx (hb hby d_method_5_17) rfl rfl ?_
    refine w_retI W0 hx hh hlk hret (hb hby d_method_5_18) (Nat.le_of_ble_eq_true rfl) (Nat.le_of_ble_eq_true rfl) ?_
    refine ⟨congrArg (fun z => some (Value.int z)) ?_, rfl⟩
    show _ = dI cs j
    unfold dI
    rw [if_pos hc1_67]
  · refine g_ifN (pc' := 4) W0.here hx (hb hby d_method_5_1) rfl (flt hc1_67).1 ?_
    refine g_iloadN (pc' := 5) W0.here hx (hb hby d_method_5_4) rfl rfl ?_
    refine g_aloadN (pc' := 6) W0.here hx (hb hby d_method_5_5) rfl rfl rfl ?_
    refine w_len (pc' := 7) W0 hx VA (hb hby d_method_5_6) rfl ?_
    refine g_name (w := .int cs.length.toInt32) (congrArg Value.int (by rw [List.length_map])) ?_
    by_cases hc7_68 : j < cs.length.toInt32
    · refine g_icmpN (pc' := 10) W0.here hx (hb hby d_method_5_7) rfl (tlt hc7_68).2.1 ?_
      have hj := hc1_67
      obtain ⟨cj, hcj⟩ := own_ltj hn hc7_68 hj
      refine g_aloadN (pc' := 11) W0.here hx (hb hby d_method_5_10) rfl rfl rfl ?_
      refine g_iloadN (pc' := 12) W0.here hx (hb hby d_method_5_11) rfl rfl ?_
      refine w_caload (pc' := 13) (v := (.int cj)) W0 hx VA hj (by rw [List.getElem?_map, hcj]; rfl) (hb hby d_method_5_12) rfl ?_
      refine g_bipush (48 : Int32) (pc' := 15) W0.here hx (hb hby d_method_5_13) rfl rfl ?_
      refine g_isub (pc' := 16) W0.here hx (hb hby d_method_5_15) rfl ?_
      refine w_retI W0 hx hh hlk hret (hb hby d_method_5_16) (Nat.le_of_ble_eq_true rfl) (Nat.le_of_ble_eq_true rfl) ?_
      refine ⟨congrArg (fun z => some (Value.int z)) ?_, rfl⟩
      show _ = dI cs j
      unfold dI
      rw [if_neg hj, hcj]
    · refine g_icmpY (pc' := 17) W0.here hx (hb hby d_method_5_7) rfl (flt hc7_68).2.1 ?_
      refine g_iconst (0 : Int32) (pc' := 18) W0.here hx (hb hby d_method_5_17) rfl rfl ?_
      refine w_retI W0 hx hh hlk hret (hb hby d_method_5_18) (Nat.le_of_ble_eq_true rfl) (Nat.le_of_ble_eq_true rfl) ?_
      refine ⟨congrArg (fun z => some (Value.int z)) ?_, rfl⟩
      show _ = dI cs j
      unfold dI
      rw [if_neg hc1_67, own_gej hn hc7_68]
theorem own_nzl {cs : List Int32} {j : Int32} (hn : cs.length ≤ 20) (h : j < cs.length.toInt32 - 10) : j < cs.length.toInt32 := by
  have q := c_isub cs.length.toInt32 10
  have r := rng32 (cs.length.toInt32 - 10)
  have t := own_t10
  rw [Int32.lt_iff_toInt_lt] at *
  rw [own_toInt (by omega)] at *
  omega
set_option maxRecDepth 65536 in
set_option maxHeartbeats 40000000 in
theorem c_nz (l : Launch) (Z : State) (a0 : Array Value) (hw : ∀ d ∈ tables_1, d.before a0 Z = true) (hE : EW Z a0 consts_1) (ca : Nat) (j : Int32) (cs : List Int32) (h0 : Heap) (O : Ext Z.heap h0) (hn : cs.length ≤ 20) (VA : Ary Z h0 ca .char (cs.map Value.int)) (hj : ¬ j < 0) :
    Con l Z consts_1 (⟨"com/example/despatch/despatch/fhir/WholeNumberReadPinLaw", "nz", "([CI)Z"⟩ : MethodName) method_6_code 2 (Option.some Jvm.ClassFile.FieldType.boolean) ({ frames := 0, cells := 0, slots := 0, locals := 0 } : Room) #[(.ref ca), (.int j)] h0 [] (pureQ (some (.int (nzI cs j))) h0) := by
  refine Con.of (a0 := a0) #[.val (.ref ca), .val (.int j)] (plainFor_of_name pn_4) hE O all0 (fun m => by first | (simp [entryFrame, mkF, argsToLocals, Value.category]; done) | rfl) ?_
  intro p e s m below meth c T0 hx hby hml hnm hret hlk hh W0
  refine g_iloadN (pc' := 1) W0.here hx (hb hby d_method_6_0) rfl rfl ?_
  refine g_aloadN (pc' := 2) W0.here hx (hb hby d_method_6_1) rfl rfl rfl ?_
  refine w_len (pc' := 3) W0 hx VA (hb hby d_method_6_2) rfl ?_
  refine g_name (w := .int cs.length.toInt32) (congrArg Value.int (by rw [List.length_map])) ?_
  refine g_bipush (10 : Int32) (pc' := 5) W0.here hx (hb hby d_method_6_3) rfl rfl ?_
  refine g_isub (pc' := 6) W0.here hx (hb hby d_method_6_5) rfl ?_
  by_cases hc6_69 : j < (cs.length.toInt32 - (10 : Int32))
  · refine g_icmpN (pc' := 9) W0.here hx (hb hby d_method_6_6) rfl (tlt hc6_69).2.1 ?_
    obtain ⟨cj, hcj⟩ := own_ltj hn (own_nzl hn hc6_69) hj
    refine g_aloadN (pc' := 10) W0.here hx (hb hby d_method_6_9) rfl rfl rfl ?_
    refine g_iloadN (pc' := 11) W0.here hx (hb hby d_method_6_10) rfl rfl ?_
    refine w_caload (pc' := 12) (v := (.int cj)) W0 hx VA hj (by rw [List.getElem?_map, hcj]; rfl) (hb hby d_method_6_11) rfl ?_
    refine g_bipush (48 : Int32) (pc' := 14) W0.here hx (hb hby d_method_6_12) rfl rfl ?_
    by_cases hc14_70 : cj = (48 : Int32)
    · refine g_icmpY (pc' := 21) W0.here hx (hb hby d_method_6_14) rfl (teq hc14_70).1 ?_
      refine g_iconst (0 : Int32) (pc' := 22) W0.here hx (hb hby d_method_6_21) rfl rfl ?_
      refine w_retN (t := .boolean) W0 hx hh hlk hret (by simp) (hb hby d_method_6_22) (Nat.le_of_ble_eq_true rfl) (Nat.le_of_ble_eq_true rfl) ?_
      refine ⟨congrArg (fun z => some (Value.int z)) ?_, rfl⟩
      show _ = nzI cs j
      unfold nzI
      rw [if_pos hc6_69, hcj]
      show _ = if cj = 48 then (0 : Int32) else 1
      rw [if_pos hc14_70]; rfl
    · refine g_icmpN (pc' := 17) W0.here hx (hb hby d_method_6_14) rfl (feq hc14_70).1 ?_
      refine g_iconst (1 : Int32) (pc' := 18) W0.here hx (hb hby d_method_6_17) rfl rfl ?_
      refine g_goto (pc' := 22) W0.here hx (hb hby d_method_6_18) rfl ?_
      refine w_retN (t := .boolean) W0 hx hh hlk hret (by simp) (hb hby d_method_6_22) (Nat.le_of_ble_eq_true rfl) (Nat.le_of_ble_eq_true rfl) ?_
      refine ⟨congrArg (fun z => some (Value.int z)) ?_, rfl⟩
      show _ = nzI cs j
      unfold nzI
      rw [if_pos hc6_69, hcj]
      show _ = if cj = 48 then (0 : Int32) else 1
      rw [if_neg hc14_70]; rfl
  · refine g_icmpY (pc' := 21) W0.here hx (hb hby d_method_6_6) rfl (flt hc6_69).2.1 ?_
    refine g_iconst (0 : Int32) (pc' := 22) W0.here hx (hb hby d_method_6_21) rfl rfl ?_
    refine w_retN (t := .boolean) W0 hx hh hlk hret (by simp) (hb hby d_method_6_22) (Nat.le_of_ble_eq_true rfl) (Nat.le_of_ble_eq_true rfl) ?_
    refine ⟨congrArg (fun z => some (Value.int z)) ?_, rfl⟩
    show _ = nzI cs j
    unfold nzI
    rw [if_neg hc6_69]; rfl
set_option maxRecDepth 65536 in
set_option maxHeartbeats 40000000 in
theorem c_exp (l : Launch) (Z : State) (a0 : Array Value) (hw : ∀ d ∈ tables_1, d.before a0 Z = true) (hE : EW Z a0 consts_1) (ca : Nat) (cs : List Int32) (h0 : Heap) (O : Ext Z.heap h0) (hn : cs.length ≤ 20) (VA : Ary Z h0 ca .char (cs.map Value.int))  :
    Con l Z consts_1 (⟨"com/example/despatch/despatch/fhir/WholeNumberReadPinLaw", "expected", "([C)I"⟩ : MethodName) method_7_code 6 (Option.some Jvm.ClassFile.FieldType.int) ({ frames := 1, cells := 0, slots := 0, locals := 15 } : Room) #[(.ref ca)] h0 [] (pureQ (some (.int (resI cs))) h0) := by
  refine Con.of (a0 := a0) #[.val (.ref ca), .unset, .unset, .unset, .unset, .unset] (plainFor_of_name pn_4) hE O all0 (fun m => by first | (simp [entryFrame, mkF, argsToLocals, Value.category]; done) | rfl) ?_
  intro p e s m below meth c T0 hx hby hml hnm hret hlk hh W0
  refine g_aloadN (pc' := 1) W0.here hx (hb hby d_method_7_0) rfl rfl rfl ?_
  refine w_len (pc' := 2) W0 hx VA (hb hby d_method_7_1) rfl ?_
  refine g_name (w := .int cs.length.toInt32) (congrArg Value.int (by rw [List.length_map])) ?_
  refine g_istoreN (pc' := 3) (Ls' := #[.val (.ref ca), .val (.int cs.length.toInt32), .unset, .unset, .unset, .unset]) W0.here hx (hb hby d_method_7_2) rfl rfl ?_
  refine g_iloadN (pc' := 4) W0.here hx (hb hby d_method_7_3) rfl rfl ?_
  by_cases hc4_71 : cs.length.toInt32 = (0 : Int32)
  · refine g_ifN (pc' := 7) W0.here hx (hb hby d_method_7_4) rfl (teq hc4_71).2 ?_
    refine g_iconst (-1 : Int32) (pc' := 8) W0.here hx (hb hby d_method_7_7) rfl rfl ?_
    refine w_retI W0 hx hh hlk hret (hb hby d_method_7_8) (Nat.le_of_ble_eq_true rfl) (Nat.le_of_ble_eq_true rfl) ?_
    refine ⟨congrArg (fun z => some (Value.int z)) ?_, rfl⟩
    show _ = resI cs
    unfold resI
    rw [if_pos (Or.inl (own_nil (by omega) hc4_71))]
  · refine g_ifY (pc' := 9) W0.here hx (hb hby d_method_7_4) rfl (feq hc4_71).2 ?_
    refine g_aloadN (pc' := 10) W0.here hx (hb hby d_method_7_9) rfl rfl rfl ?_
    refine g_iconst (0 : Int32) (pc' := 11) W0.here hx (hb hby d_method_7_10) rfl rfl ?_
    refine w_callSp (pc' := 14) (st := []) (y := (⟨"com/example/despatch/despatch/fhir/WholeNumberReadPinLaw", "ok", "([CI)Z"⟩ : MethodName)) W0 hx [(.ref ca), (.int (0 : Int32))] (hw _ (List.mem_of_getElem? w_95)) (hw _ (List.mem_of_getElem? w_96)) (hw _ (List.mem_of_getElem? w_4)) (hw _ (List.mem_of_getElem? w_97)) (by decide) (c_ok l Z a0 hw hE ca (0 : Int32) cs h0 W0.old hn VA (by decide)) (by rw [hml]; rfl) (lenOf pd_9 rfl) rfl (hb hby d_method_7_11) (Nat.le_of_ble_eq_true rfl) (Nat.le_of_ble_eq_true rfl) rfl rfl (Nat.le_of_ble_eq_true rfl) (Nat.le_of_ble_eq_true rfl) rfl fun T72 W72 => ?_
    by_cases hc14_73 : (okI cs (0 : Int32)) = (0 : Int32)
    · refine g_ifY (pc' := 187) W72.here hx (hb hby d_method_7_14) rfl (teq hc14_73).1 ?_
      refine g_iconst (0 : Int32) (pc' := 188) W72.here hx (hb hby d_method_7_187) rfl rfl ?_
      refine g_istoreN (pc' := 189) (Ls' := #[.val (.ref ca), .val (.int cs.length.toInt32), .val (.int (0 : Int32)), .unset, .unset, .unset]) W72.here hx (hb hby d_method_7_188) rfl rfl ?_
      refine g_iloadN (pc' := 190) W72.here hx (hb hby d_method_7_189) rfl rfl ?_
      refine g_ifN (pc' := 193) W72.here hx (hb hby d_method_7_190) rfl (teq (show (0 : Int32) = (0 : Int32) from (by decide))).2 ?_
      refine g_iconst (-1 : Int32) (pc' := 194) W72.here hx (hb hby d_method_7_193) rfl rfl ?_
      refine w_retI W72 hx hh hlk hret (hb hby d_method_7_194) (Nat.le_of_ble_eq_true rfl) (Nat.le_of_ble_eq_true rfl) ?_
      refine ⟨congrArg (fun z => some (Value.int z)) ?_, rfl⟩
      exact (own_bad hc14_73).symm
    · refine g_ifN (pc' := 17) W72.here hx (hb hby d_method_7_14) rfl (feq hc14_73).1 ?_
      refine g_aloadN (pc' := 18) W72.here hx (hb hby d_method_7_17) rfl rfl rfl ?_
      refine g_iconst (1 : Int32) (pc' := 19) W72.here hx (hb hby d_method_7_18) rfl rfl ?_
      refine w_callSp (pc' := 22) (st := []) (y := (⟨"com/example/despatch/despatch/fhir/WholeNumberReadPinLaw", "ok", "([CI)Z"⟩ : MethodName)) W72 hx [(.ref ca), (.int (1 : Int32))] (hw _ (List.mem_of_getElem? w_95)) (hw _ (List.mem_of_getElem? w_96)) (hw _ (List.mem_of_getElem? w_4)) (hw _ (List.mem_of_getElem? w_97)) (by decide) (c_ok l Z a0 hw hE ca (1 : Int32) cs h0 W72.old hn VA (by decide)) (by rw [hml]; rfl) (lenOf pd_9 rfl) rfl (hb hby d_method_7_19) (Nat.le_of_ble_eq_true rfl) (Nat.le_of_ble_eq_true rfl) rfl rfl (Nat.le_of_ble_eq_true rfl) (Nat.le_of_ble_eq_true rfl) rfl fun T74 W74 => ?_
      by_cases hc22_75 : (okI cs (1 : Int32)) = (0 : Int32)
      · refine g_ifY (pc' := 187) W74.here hx (hb hby d_method_7_22) rfl (teq hc22_75).1 ?_
        refine g_iconst (0 : Int32) (pc' := 188) W74.here hx (hb hby d_method_7_187) rfl rfl ?_
        refine g_istoreN (pc' := 189) (Ls' := #[.val (.ref ca), .val (.int cs.length.toInt32), .val (.int (0 : Int32)), .unset, .unset, .unset]) W74.here hx (hb hby d_method_7_188) rfl rfl ?_
        refine g_iloadN (pc' := 190) W74.here hx (hb hby d_method_7_189) rfl rfl ?_
        refine g_ifN (pc' := 193) W74.here hx (hb hby d_method_7_190) rfl (teq (show (0 : Int32) = (0 : Int32) from (by decide))).2 ?_
        refine g_iconst (-1 : Int32) (pc' := 194) W74.here hx (hb hby d_method_7_193) rfl rfl ?_
        refine w_retI W74 hx hh hlk hret (hb hby d_method_7_194) (Nat.le_of_ble_eq_true rfl) (Nat.le_of_ble_eq_true rfl) ?_
        refine ⟨congrArg (fun z => some (Value.int z)) ?_, rfl⟩
        exact (own_bad hc22_75).symm
      · refine g_ifN (pc' := 25) W74.here hx (hb hby d_method_7_22) rfl (feq hc22_75).1 ?_
        refine g_aloadN (pc' := 26) W74.here hx (hb hby d_method_7_25) rfl rfl rfl ?_
        refine g_iconst (2 : Int32) (pc' := 27) W74.here hx (hb hby d_method_7_26) rfl rfl ?_
        refine w_callSp (pc' := 30) (st := []) (y := (⟨"com/example/despatch/despatch/fhir/WholeNumberReadPinLaw", "ok", "([CI)Z"⟩ : MethodName)) W74 hx [(.ref ca), (.int (2 : Int32))] (hw _ (List.mem_of_getElem? w_95)) (hw _ (List.mem_of_getElem? w_96)) (hw _ (List.mem_of_getElem? w_4)) (hw _ (List.mem_of_getElem? w_97)) (by decide) (c_ok l Z a0 hw hE ca (2 : Int32) cs h0 W74.old hn VA (by decide)) (by rw [hml]; rfl) (lenOf pd_9 rfl) rfl (hb hby d_method_7_27) (Nat.le_of_ble_eq_true rfl) (Nat.le_of_ble_eq_true rfl) rfl rfl (Nat.le_of_ble_eq_true rfl) (Nat.le_of_ble_eq_true rfl) rfl fun T76 W76 => ?_
        by_cases hc30_77 : (okI cs (2 : Int32)) = (0 : Int32)
        · refine g_ifY (pc' := 187) W76.here hx (hb hby d_method_7_30) rfl (teq hc30_77).1 ?_
          refine g_iconst (0 : Int32) (pc' := 188) W76.here hx (hb hby d_method_7_187) rfl rfl ?_
          refine g_istoreN (pc' := 189) (Ls' := #[.val (.ref ca), .val (.int cs.length.toInt32), .val (.int (0 : Int32)), .unset, .unset, .unset]) W76.here hx (hb hby d_method_7_188) rfl rfl ?_
          refine g_iloadN (pc' := 190) W76.here hx (hb hby d_method_7_189) rfl rfl ?_
          refine g_ifN (pc' := 193) W76.here hx (hb hby d_method_7_190) rfl (teq (show (0 : Int32) = (0 : Int32) from (by decide))).2 ?_
          refine g_iconst (-1 : Int32) (pc' := 194) W76.here hx (hb hby d_method_7_193) rfl rfl ?_
          refine w_retI W76 hx hh hlk hret (hb hby d_method_7_194) (Nat.le_of_ble_eq_true rfl) (Nat.le_of_ble_eq_true rfl) ?_
          refine ⟨congrArg (fun z => some (Value.int z)) ?_, rfl⟩
          exact (own_bad hc30_77).symm
        · refine g_ifN (pc' := 33) W76.here hx (hb hby d_method_7_30) rfl (feq hc30_77).1 ?_
          refine g_aloadN (pc' := 34) W76.here hx (hb hby d_method_7_33) rfl rfl rfl ?_
          refine g_iconst (3 : Int32) (pc' := 35) W76.here hx (hb hby d_method_7_34) rfl rfl ?_
          refine w_callSp (pc' := 38) (st := []) (y := (⟨"com/example/despatch/despatch/fhir/WholeNumberReadPinLaw", "ok", "([CI)Z"⟩ : MethodName)) W76 hx [(.ref ca), (.int (3 : Int32))] (hw _ (List.mem_of_getElem? w_95)) (hw _ (List.mem_of_getElem? w_96)) (hw _ (List.mem_of_getElem? w_4)) (hw _ (List.mem_of_getElem? w_97)) (by decide) (c_ok l Z a0 hw hE ca (3 : Int32) cs h0 W76.old hn VA (by decide)) (by rw [hml]; rfl) (lenOf pd_9 rfl) rfl (hb hby d_method_7_35) (Nat.le_of_ble_eq_true rfl) (Nat.le_of_ble_eq_true rfl) rfl rfl (Nat.le_of_ble_eq_true rfl) (Nat.le_of_ble_eq_true rfl) rfl fun T78 W78 => ?_
          by_cases hc38_79 : (okI cs (3 : Int32)) = (0 : Int32)
          · refine g_ifY (pc' := 187) W78.here hx (hb hby d_method_7_38) rfl (teq hc38_79).1 ?_
            refine g_iconst (0 : Int32) (pc' := 188) W78.here hx (hb hby d_method_7_187) rfl rfl ?_
            refine g_istoreN (pc' := 189) (Ls' := #[.val (.ref ca), .val (.int cs.length.toInt32), .val (.int (0 : Int32)), .unset, .unset, .unset]) W78.here hx (hb hby d_method_7_188) rfl rfl ?_
            refine g_iloadN (pc' := 190) W78.here hx (hb hby d_method_7_189) rfl rfl ?_
            refine g_ifN (pc' := 193) W78.here hx (hb hby d_method_7_190) rfl (teq (show (0 : Int32) = (0 : Int32) from (by decide))).2 ?_
            refine g_iconst (-1 : Int32) (pc' := 194) W78.here hx (hb hby d_method_7_193) rfl rfl ?_
            refine w_retI W78 hx hh hlk hret (hb hby d_method_7_194) (Nat.le_of_ble_eq_true rfl) (Nat.le_of_ble_eq_true rfl) ?_
            refine ⟨congrArg (fun z => some (Value.int z)) ?_, rfl⟩
            exact (own_bad hc38_79).symm
          · refine g_ifN (pc' := 41) W78.here hx (hb hby d_method_7_38) rfl (feq hc38_79).1 ?_
            refine g_aloadN (pc' := 42) W78.here hx (hb hby d_method_7_41) rfl rfl rfl ?_
            refine g_iconst (4 : Int32) (pc' := 43) W78.here hx (hb hby d_method_7_42) rfl rfl ?_
            refine w_callSp (pc' := 46) (st := []) (y := (⟨"com/example/despatch/despatch/fhir/WholeNumberReadPinLaw", "ok", "([CI)Z"⟩ : MethodName)) W78 hx [(.ref ca), (.int (4 : Int32))] (hw _ (List.mem_of_getElem? w_95)) (hw _ (List.mem_of_getElem? w_96)) (hw _ (List.mem_of_getElem? w_4)) (hw _ (List.mem_of_getElem? w_97)) (by decide) (c_ok l Z a0 hw hE ca (4 : Int32) cs h0 W78.old hn VA (by decide)) (by rw [hml]; rfl) (lenOf pd_9 rfl) rfl (hb hby d_method_7_43) (Nat.le_of_ble_eq_true rfl) (Nat.le_of_ble_eq_true rfl) rfl rfl (Nat.le_of_ble_eq_true rfl) (Nat.le_of_ble_eq_true rfl) rfl fun T80 W80 => ?_
            by_cases hc46_81 : (okI cs (4 : Int32)) = (0 : Int32)
            · refine g_ifY (pc' := 187) W80.here hx (hb hby d_method_7_46) rfl (teq hc46_81).1 ?_
              refine g_iconst (0 : Int32) (pc' := 188) W80.here hx (hb hby d_method_7_187) rfl rfl ?_
              refine g_istoreN (pc' := 189) (Ls' := #[.val (.ref ca), .val (.int cs.length.toInt32), .val (.int (0 : Int32)), .unset, .unset, .unset]) W80.here hx (hb hby d_method_7_188) rfl rfl ?_
              refine g_iloadN (pc' := 190) W80.here hx (hb hby d_method_7_189) rfl rfl ?_
              refine g_ifN (pc' := 193) W80.here hx (hb hby d_method_7_190) rfl (teq (show (0 : Int32) = (0 : Int32) from (by decide))).2 ?_
              refine g_iconst (-1 : Int32) (pc' := 194) W80.here hx (hb hby d_method_7_193) rfl rfl ?_
              refine w_retI W80 hx hh hlk hret (hb hby d_method_7_194) (Nat.le_of_ble_eq_true rfl) (Nat.le_of_ble_eq_true rfl) ?_
              refine ⟨congrArg (fun z => some (Value.int z)) ?_, rfl⟩
              exact (own_bad hc46_81).symm
            · refine g_ifN (pc' := 49) W80.here hx (hb hby d_method_7_46) rfl (feq hc46_81).1 ?_
              refine g_aloadN (pc' := 50) W80.here hx (hb hby d_method_7_49) rfl rfl rfl ?_
              refine g_iconst (5 : Int32) (pc' := 51) W80.here hx (hb hby d_method_7_50) rfl rfl ?_
              refine w_callSp (pc' := 54) (st := []) (y := (⟨"com/example/despatch/despatch/fhir/WholeNumberReadPinLaw", "ok", "([CI)Z"⟩ : MethodName)) W80 hx [(.ref ca), (.int (5 : Int32))] (hw _ (List.mem_of_getElem? w_95)) (hw _ (List.mem_of_getElem? w_96)) (hw _ (List.mem_of_getElem? w_4)) (hw _ (List.mem_of_getElem? w_97)) (by decide) (c_ok l Z a0 hw hE ca (5 : Int32) cs h0 W80.old hn VA (by decide)) (by rw [hml]; rfl) (lenOf pd_9 rfl) rfl (hb hby d_method_7_51) (Nat.le_of_ble_eq_true rfl) (Nat.le_of_ble_eq_true rfl) rfl rfl (Nat.le_of_ble_eq_true rfl) (Nat.le_of_ble_eq_true rfl) rfl fun T82 W82 => ?_
              by_cases hc54_83 : (okI cs (5 : Int32)) = (0 : Int32)
              · refine g_ifY (pc' := 187) W82.here hx (hb hby d_method_7_54) rfl (teq hc54_83).1 ?_
                refine g_iconst (0 : Int32) (pc' := 188) W82.here hx (hb hby d_method_7_187) rfl rfl ?_
                refine g_istoreN (pc' := 189) (Ls' := #[.val (.ref ca), .val (.int cs.length.toInt32), .val (.int (0 : Int32)), .unset, .unset, .unset]) W82.here hx (hb hby d_method_7_188) rfl rfl ?_
                refine g_iloadN (pc' := 190) W82.here hx (hb hby d_method_7_189) rfl rfl ?_
                refine g_ifN (pc' := 193) W82.here hx (hb hby d_method_7_190) rfl (teq (show (0 : Int32) = (0 : Int32) from (by decide))).2 ?_
                refine g_iconst (-1 : Int32) (pc' := 194) W82.here hx (hb hby d_method_7_193) rfl rfl ?_
                refine w_retI W82 hx hh hlk hret (hb hby d_method_7_194) (Nat.le_of_ble_eq_true rfl) (Nat.le_of_ble_eq_true rfl) ?_
                refine ⟨congrArg (fun z => some (Value.int z)) ?_, rfl⟩
                exact (own_bad hc54_83).symm
              · refine g_ifN (pc' := 57) W82.here hx (hb hby d_method_7_54) rfl (feq hc54_83).1 ?_
                refine g_aloadN (pc' := 58) W82.here hx (hb hby d_method_7_57) rfl rfl rfl ?_
                refine g_bipush (6 : Int32) (pc' := 60) W82.here hx (hb hby d_method_7_58) rfl rfl ?_
                refine w_callSp (pc' := 63) (st := []) (y := (⟨"com/example/despatch/despatch/fhir/WholeNumberReadPinLaw", "ok", "([CI)Z"⟩ : MethodName)) W82 hx [(.ref ca), (.int (6 : Int32))] (hw _ (List.mem_of_getElem? w_95)) (hw _ (List.mem_of_getElem? w_96)) (hw _ (List.mem_of_getElem? w_4)) (hw _ (List.mem_of_getElem? w_97)) (by decide) (c_ok l Z a0 hw hE ca (6 : Int32) cs h0 W82.old hn VA (by decide)) (by rw [hml]; rfl) (lenOf pd_9 rfl) rfl (hb hby d_method_7_60) (Nat.le_of_ble_eq_true rfl) (Nat.le_of_ble_eq_true rfl) rfl rfl (Nat.le_of_ble_eq_true rfl) (Nat.le_of_ble_eq_true rfl) rfl fun T84 W84 => ?_
                by_cases hc63_85 : (okI cs (6 : Int32)) = (0 : Int32)
                · refine g_ifY (pc' := 187) W84.here hx (hb hby d_method_7_63) rfl (teq hc63_85).1 ?_
                  refine g_iconst (0 : Int32) (pc' := 188) W84.here hx (hb hby d_method_7_187) rfl rfl ?_
                  refine g_istoreN (pc' := 189) (Ls' := #[.val (.ref ca), .val (.int cs.length.toInt32), .val (.int (0 : Int32)), .unset, .unset, .unset]) W84.here hx (hb hby d_method_7_188) rfl rfl ?_
                  refine g_iloadN (pc' := 190) W84.here hx (hb hby d_method_7_189) rfl rfl ?_
                  refine g_ifN (pc' := 193) W84.here hx (hb hby d_method_7_190) rfl (teq (show (0 : Int32) = (0 : Int32) from (by decide))).2 ?_
                  refine g_iconst (-1 : Int32) (pc' := 194) W84.here hx (hb hby d_method_7_193) rfl rfl ?_
                  refine w_retI W84 hx hh hlk hret (hb hby d_method_7_194) (Nat.le_of_ble_eq_true rfl) (Nat.le_of_ble_eq_true rfl) ?_
                  refine ⟨congrArg (fun z => some (Value.int z)) ?_, rfl⟩
                  exact (own_bad hc63_85).symm
                · refine g_ifN (pc' := 66) W84.here hx (hb hby d_method_7_63) rfl (feq hc63_85).1 ?_
                  refine g_aloadN (pc' := 67) W84.here hx (hb hby d_method_7_66) rfl rfl rfl ?_
                  refine g_bipush (7 : Int32) (pc' := 69) W84.here hx (hb hby d_method_7_67) rfl rfl ?_
                  refine w_callSp (pc' := 72) (st := []) (y := (⟨"com/example/despatch/despatch/fhir/WholeNumberReadPinLaw", "ok", "([CI)Z"⟩ : MethodName)) W84 hx [(.ref ca), (.int (7 : Int32))] (hw _ (List.mem_of_getElem? w_95)) (hw _ (List.mem_of_getElem? w_96)) (hw _ (List.mem_of_getElem? w_4)) (hw _ (List.mem_of_getElem? w_97)) (by decide) (c_ok l Z a0 hw hE ca (7 : Int32) cs h0 W84.old hn VA (by decide)) (by rw [hml]; rfl) (lenOf pd_9 rfl) rfl (hb hby d_method_7_69) (Nat.le_of_ble_eq_true rfl) (Nat.le_of_ble_eq_true rfl) rfl rfl (Nat.le_of_ble_eq_true rfl) (Nat.le_of_ble_eq_true rfl) rfl fun T86 W86 => ?_
                  by_cases hc72_87 : (okI cs (7 : Int32)) = (0 : Int32)
                  · refine g_ifY (pc' := 187) W86.here hx (hb hby d_method_7_72) rfl (teq hc72_87).1 ?_
                    refine g_iconst (0 : Int32) (pc' := 188) W86.here hx (hb hby d_method_7_187) rfl rfl ?_
                    refine g_istoreN (pc' := 189) (Ls' := #[.val (.ref ca), .val (.int cs.length.toInt32), .val (.int (0 : Int32)), .unset, .unset, .unset]) W86.here hx (hb hby d_method_7_188) rfl rfl ?_
                    refine g_iloadN (pc' := 190) W86.here hx (hb hby d_method_7_189) rfl rfl ?_
                    refine g_ifN (pc' := 193) W86.here hx (hb hby d_method_7_190) rfl (teq (show (0 : Int32) = (0 : Int32) from (by decide))).2 ?_
                    refine g_iconst (-1 : Int32) (pc' := 194) W86.here hx (hb hby d_method_7_193) rfl rfl ?_
                    refine w_retI W86 hx hh hlk hret (hb hby d_method_7_194) (Nat.le_of_ble_eq_true rfl) (Nat.le_of_ble_eq_true rfl) ?_
                    refine ⟨congrArg (fun z => some (Value.int z)) ?_, rfl⟩
                    exact (own_bad hc72_87).symm
                  · refine g_ifN (pc' := 75) W86.here hx (hb hby d_method_7_72) rfl (feq hc72_87).1 ?_
                    refine g_aloadN (pc' := 76) W86.here hx (hb hby d_method_7_75) rfl rfl rfl ?_
                    refine g_bipush (8 : Int32) (pc' := 78) W86.here hx (hb hby d_method_7_76) rfl rfl ?_
                    refine w_callSp (pc' := 81) (st := []) (y := (⟨"com/example/despatch/despatch/fhir/WholeNumberReadPinLaw", "ok", "([CI)Z"⟩ : MethodName)) W86 hx [(.ref ca), (.int (8 : Int32))] (hw _ (List.mem_of_getElem? w_95)) (hw _ (List.mem_of_getElem? w_96)) (hw _ (List.mem_of_getElem? w_4)) (hw _ (List.mem_of_getElem? w_97)) (by decide) (c_ok l Z a0 hw hE ca (8 : Int32) cs h0 W86.old hn VA (by decide)) (by rw [hml]; rfl) (lenOf pd_9 rfl) rfl (hb hby d_method_7_78) (Nat.le_of_ble_eq_true rfl) (Nat.le_of_ble_eq_true rfl) rfl rfl (Nat.le_of_ble_eq_true rfl) (Nat.le_of_ble_eq_true rfl) rfl fun T88 W88 => ?_
                    by_cases hc81_89 : (okI cs (8 : Int32)) = (0 : Int32)
                    · refine g_ifY (pc' := 187) W88.here hx (hb hby d_method_7_81) rfl (teq hc81_89).1 ?_
                      refine g_iconst (0 : Int32) (pc' := 188) W88.here hx (hb hby d_method_7_187) rfl rfl ?_
                      refine g_istoreN (pc' := 189) (Ls' := #[.val (.ref ca), .val (.int cs.length.toInt32), .val (.int (0 : Int32)), .unset, .unset, .unset]) W88.here hx (hb hby d_method_7_188) rfl rfl ?_
                      refine g_iloadN (pc' := 190) W88.here hx (hb hby d_method_7_189) rfl rfl ?_
                      refine g_ifN (pc' := 193) W88.here hx (hb hby d_method_7_190) rfl (teq (show (0 : Int32) = (0 : Int32) from (by decide))).2 ?_
                      refine g_iconst (-1 : Int32) (pc' := 194) W88.here hx (hb hby d_method_7_193) rfl rfl ?_
                      refine w_retI W88 hx hh hlk hret (hb hby d_method_7_194) (Nat.le_of_ble_eq_true rfl) (Nat.le_of_ble_eq_true rfl) ?_
                      refine ⟨congrArg (fun z => some (Value.int z)) ?_, rfl⟩
                      exact (own_bad hc81_89).symm
                    · refine g_ifN (pc' := 84) W88.here hx (hb hby d_method_7_81) rfl (feq hc81_89).1 ?_
                      refine g_aloadN (pc' := 85) W88.here hx (hb hby d_method_7_84) rfl rfl rfl ?_
                      refine g_bipush (9 : Int32) (pc' := 87) W88.here hx (hb hby d_method_7_85) rfl rfl ?_
                      refine w_callSp (pc' := 90) (st := []) (y := (⟨"com/example/despatch/despatch/fhir/WholeNumberReadPinLaw", "ok", "([CI)Z"⟩ : MethodName)) W88 hx [(.ref ca), (.int (9 : Int32))] (hw _ (List.mem_of_getElem? w_95)) (hw _ (List.mem_of_getElem? w_96)) (hw _ (List.mem_of_getElem? w_4)) (hw _ (List.mem_of_getElem? w_97)) (by decide) (c_ok l Z a0 hw hE ca (9 : Int32) cs h0 W88.old hn VA (by decide)) (by rw [hml]; rfl) (lenOf pd_9 rfl) rfl (hb hby d_method_7_87) (Nat.le_of_ble_eq_true rfl) (Nat.le_of_ble_eq_true rfl) rfl rfl (Nat.le_of_ble_eq_true rfl) (Nat.le_of_ble_eq_true rfl) rfl fun T90 W90 => ?_
                      by_cases hc90_91 : (okI cs (9 : Int32)) = (0 : Int32)
                      · refine g_ifY (pc' := 187) W90.here hx (hb hby d_method_7_90) rfl (teq hc90_91).1 ?_
                        refine g_iconst (0 : Int32) (pc' := 188) W90.here hx (hb hby d_method_7_187) rfl rfl ?_
                        refine g_istoreN (pc' := 189) (Ls' := #[.val (.ref ca), .val (.int cs.length.toInt32), .val (.int (0 : Int32)), .unset, .unset, .unset]) W90.here hx (hb hby d_method_7_188) rfl rfl ?_
                        refine g_iloadN (pc' := 190) W90.here hx (hb hby d_method_7_189) rfl rfl ?_
                        refine g_ifN (pc' := 193) W90.here hx (hb hby d_method_7_190) rfl (teq (show (0 : Int32) = (0 : Int32) from (by decide))).2 ?_
                        refine g_iconst (-1 : Int32) (pc' := 194) W90.here hx (hb hby d_method_7_193) rfl rfl ?_
                        refine w_retI W90 hx hh hlk hret (hb hby d_method_7_194) (Nat.le_of_ble_eq_true rfl) (Nat.le_of_ble_eq_true rfl) ?_
                        refine ⟨congrArg (fun z => some (Value.int z)) ?_, rfl⟩
                        exact (own_bad hc90_91).symm
                      · refine g_ifN (pc' := 93) W90.here hx (hb hby d_method_7_90) rfl (feq hc90_91).1 ?_
                        refine g_aloadN (pc' := 94) W90.here hx (hb hby d_method_7_93) rfl rfl rfl ?_
                        refine g_bipush (10 : Int32) (pc' := 96) W90.here hx (hb hby d_method_7_94) rfl rfl ?_
                        refine w_callSp (pc' := 99) (st := []) (y := (⟨"com/example/despatch/despatch/fhir/WholeNumberReadPinLaw", "ok", "([CI)Z"⟩ : MethodName)) W90 hx [(.ref ca), (.int (10 : Int32))] (hw _ (List.mem_of_getElem? w_95)) (hw _ (List.mem_of_getElem? w_96)) (hw _ (List.mem_of_getElem? w_4)) (hw _ (List.mem_of_getElem? w_97)) (by decide) (c_ok l Z a0 hw hE ca (10 : Int32) cs h0 W90.old hn VA (by decide)) (by rw [hml]; rfl) (lenOf pd_9 rfl) rfl (hb hby d_method_7_96) (Nat.le_of_ble_eq_true rfl) (Nat.le_of_ble_eq_true rfl) rfl rfl (Nat.le_of_ble_eq_true rfl) (Nat.le_of_ble_eq_true rfl) rfl fun T92 W92 => ?_
                        by_cases hc99_93 : (okI cs (10 : Int32)) = (0 : Int32)
                        · refine g_ifY (pc' := 187) W92.here hx (hb hby d_method_7_99) rfl (teq hc99_93).1 ?_
                          refine g_iconst (0 : Int32) (pc' := 188) W92.here hx (hb hby d_method_7_187) rfl rfl ?_
                          refine g_istoreN (pc' := 189) (Ls' := #[.val (.ref ca), .val (.int cs.length.toInt32), .val (.int (0 : Int32)), .unset, .unset, .unset]) W92.here hx (hb hby d_method_7_188) rfl rfl ?_
                          refine g_iloadN (pc' := 190) W92.here hx (hb hby d_method_7_189) rfl rfl ?_
                          refine g_ifN (pc' := 193) W92.here hx (hb hby d_method_7_190) rfl (teq (show (0 : Int32) = (0 : Int32) from (by decide))).2 ?_
                          refine g_iconst (-1 : Int32) (pc' := 194) W92.here hx (hb hby d_method_7_193) rfl rfl ?_
                          refine w_retI W92 hx hh hlk hret (hb hby d_method_7_194) (Nat.le_of_ble_eq_true rfl) (Nat.le_of_ble_eq_true rfl) ?_
                          refine ⟨congrArg (fun z => some (Value.int z)) ?_, rfl⟩
                          exact (own_bad hc99_93).symm
                        · refine g_ifN (pc' := 102) W92.here hx (hb hby d_method_7_99) rfl (feq hc99_93).1 ?_
                          refine g_aloadN (pc' := 103) W92.here hx (hb hby d_method_7_102) rfl rfl rfl ?_
                          refine g_bipush (11 : Int32) (pc' := 105) W92.here hx (hb hby d_method_7_103) rfl rfl ?_
                          refine w_callSp (pc' := 108) (st := []) (y := (⟨"com/example/despatch/despatch/fhir/WholeNumberReadPinLaw", "ok", "([CI)Z"⟩ : MethodName)) W92 hx [(.ref ca), (.int (11 : Int32))] (hw _ (List.mem_of_getElem? w_95)) (hw _ (List.mem_of_getElem? w_96)) (hw _ (List.mem_of_getElem? w_4)) (hw _ (List.mem_of_getElem? w_97)) (by decide) (c_ok l Z a0 hw hE ca (11 : Int32) cs h0 W92.old hn VA (by decide)) (by rw [hml]; rfl) (lenOf pd_9 rfl) rfl (hb hby d_method_7_105) (Nat.le_of_ble_eq_true rfl) (Nat.le_of_ble_eq_true rfl) rfl rfl (Nat.le_of_ble_eq_true rfl) (Nat.le_of_ble_eq_true rfl) rfl fun T94 W94 => ?_
                          by_cases hc108_95 : (okI cs (11 : Int32)) = (0 : Int32)
                          · refine g_ifY (pc' := 187) W94.here hx (hb hby d_method_7_108) rfl (teq hc108_95).1 ?_
                            refine g_iconst (0 : Int32) (pc' := 188) W94.here hx (hb hby d_method_7_187) rfl rfl ?_
                            refine g_istoreN (pc' := 189) (Ls' := #[.val (.ref ca), .val (.int cs.length.toInt32), .val (.int (0 : Int32)), .unset, .unset, .unset]) W94.here hx (hb hby d_method_7_188) rfl rfl ?_
                            refine g_iloadN (pc' := 190) W94.here hx (hb hby d_method_7_189) rfl rfl ?_
                            refine g_ifN (pc' := 193) W94.here hx (hb hby d_method_7_190) rfl (teq (show (0 : Int32) = (0 : Int32) from (by decide))).2 ?_
                            refine g_iconst (-1 : Int32) (pc' := 194) W94.here hx (hb hby d_method_7_193) rfl rfl ?_
                            refine w_retI W94 hx hh hlk hret (hb hby d_method_7_194) (Nat.le_of_ble_eq_true rfl) (Nat.le_of_ble_eq_true rfl) ?_
                            refine ⟨congrArg (fun z => some (Value.int z)) ?_, rfl⟩
                            exact (own_bad hc108_95).symm
                          · refine g_ifN (pc' := 111) W94.here hx (hb hby d_method_7_108) rfl (feq hc108_95).1 ?_
                            refine g_aloadN (pc' := 112) W94.here hx (hb hby d_method_7_111) rfl rfl rfl ?_
                            refine g_bipush (12 : Int32) (pc' := 114) W94.here hx (hb hby d_method_7_112) rfl rfl ?_
                            refine w_callSp (pc' := 117) (st := []) (y := (⟨"com/example/despatch/despatch/fhir/WholeNumberReadPinLaw", "ok", "([CI)Z"⟩ : MethodName)) W94 hx [(.ref ca), (.int (12 : Int32))] (hw _ (List.mem_of_getElem? w_95)) (hw _ (List.mem_of_getElem? w_96)) (hw _ (List.mem_of_getElem? w_4)) (hw _ (List.mem_of_getElem? w_97)) (by decide) (c_ok l Z a0 hw hE ca (12 : Int32) cs h0 W94.old hn VA (by decide)) (by rw [hml]; rfl) (lenOf pd_9 rfl) rfl (hb hby d_method_7_114) (Nat.le_of_ble_eq_true rfl) (Nat.le_of_ble_eq_true rfl) rfl rfl (Nat.le_of_ble_eq_true rfl) (Nat.le_of_ble_eq_true rfl) rfl fun T96 W96 => ?_
                            by_cases hc117_97 : (okI cs (12 : Int32)) = (0 : Int32)
                            · refine g_ifY (pc' := 187) W96.here hx (hb hby d_method_7_117) rfl (teq hc117_97).1 ?_
                              refine g_iconst (0 : Int32) (pc' := 188) W96.here hx (hb hby d_method_7_187) rfl rfl ?_
                              refine g_istoreN (pc' := 189) (Ls' := #[.val (.ref ca), .val (.int cs.length.toInt32), .val (.int (0 : Int32)), .unset, .unset, .unset]) W96.here hx (hb hby d_method_7_188) rfl rfl ?_
                              refine g_iloadN (pc' := 190) W96.here hx (hb hby d_method_7_189) rfl rfl ?_
                              refine g_ifN (pc' := 193) W96.here hx (hb hby d_method_7_190) rfl (teq (show (0 : Int32) = (0 : Int32) from (by decide))).2 ?_
                              refine g_iconst (-1 : Int32) (pc' := 194) W96.here hx (hb hby d_method_7_193) rfl rfl ?_
                              refine w_retI W96 hx hh hlk hret (hb hby d_method_7_194) (Nat.le_of_ble_eq_true rfl) (Nat.le_of_ble_eq_true rfl) ?_
                              refine ⟨congrArg (fun z => some (Value.int z)) ?_, rfl⟩
                              exact (own_bad hc117_97).symm
                            · refine g_ifN (pc' := 120) W96.here hx (hb hby d_method_7_117) rfl (feq hc117_97).1 ?_
                              refine g_aloadN (pc' := 121) W96.here hx (hb hby d_method_7_120) rfl rfl rfl ?_
                              refine g_bipush (13 : Int32) (pc' := 123) W96.here hx (hb hby d_method_7_121) rfl rfl ?_
                              refine w_callSp (pc' := 126) (st := []) (y := (⟨"com/example/despatch/despatch/fhir/WholeNumberReadPinLaw", "ok", "([CI)Z"⟩ : MethodName)) W96 hx [(.ref ca), (.int (13 : Int32))] (hw _ (List.mem_of_getElem? w_95)) (hw _ (List.mem_of_getElem? w_96)) (hw _ (List.mem_of_getElem? w_4)) (hw _ (List.mem_of_getElem? w_97)) (by decide) (c_ok l Z a0 hw hE ca (13 : Int32) cs h0 W96.old hn VA (by decide)) (by rw [hml]; rfl) (lenOf pd_9 rfl) rfl (hb hby d_method_7_123) (Nat.le_of_ble_eq_true rfl) (Nat.le_of_ble_eq_true rfl) rfl rfl (Nat.le_of_ble_eq_true rfl) (Nat.le_of_ble_eq_true rfl) rfl fun T98 W98 => ?_
                              by_cases hc126_99 : (okI cs (13 : Int32)) = (0 : Int32)
                              · refine g_ifY (pc' := 187) W98.here hx (hb hby d_method_7_126) rfl (teq hc126_99).1 ?_
                                refine g_iconst (0 : Int32) (pc' := 188) W98.here hx (hb hby d_method_7_187) rfl rfl ?_
                                refine g_istoreN (pc' := 189) (Ls' := #[.val (.ref ca), .val (.int cs.length.toInt32), .val (.int (0 : Int32)), .unset, .unset, .unset]) W98.here hx (hb hby d_method_7_188) rfl rfl ?_
                                refine g_iloadN (pc' := 190) W98.here hx (hb hby d_method_7_189) rfl rfl ?_
                                refine g_ifN (pc' := 193) W98.here hx (hb hby d_method_7_190) rfl (teq (show (0 : Int32) = (0 : Int32) from (by decide))).2 ?_
                                refine g_iconst (-1 : Int32) (pc' := 194) W98.here hx (hb hby d_method_7_193) rfl rfl ?_
                                refine w_retI W98 hx hh hlk hret (hb hby d_method_7_194) (Nat.le_of_ble_eq_true rfl) (Nat.le_of_ble_eq_true rfl) ?_
                                refine ⟨congrArg (fun z => some (Value.int z)) ?_, rfl⟩
                                exact (own_bad hc126_99).symm
                              · refine g_ifN (pc' := 129) W98.here hx (hb hby d_method_7_126) rfl (feq hc126_99).1 ?_
                                refine g_aloadN (pc' := 130) W98.here hx (hb hby d_method_7_129) rfl rfl rfl ?_
                                refine g_bipush (14 : Int32) (pc' := 132) W98.here hx (hb hby d_method_7_130) rfl rfl ?_
                                refine w_callSp (pc' := 135) (st := []) (y := (⟨"com/example/despatch/despatch/fhir/WholeNumberReadPinLaw", "ok", "([CI)Z"⟩ : MethodName)) W98 hx [(.ref ca), (.int (14 : Int32))] (hw _ (List.mem_of_getElem? w_95)) (hw _ (List.mem_of_getElem? w_96)) (hw _ (List.mem_of_getElem? w_4)) (hw _ (List.mem_of_getElem? w_97)) (by decide) (c_ok l Z a0 hw hE ca (14 : Int32) cs h0 W98.old hn VA (by decide)) (by rw [hml]; rfl) (lenOf pd_9 rfl) rfl (hb hby d_method_7_132) (Nat.le_of_ble_eq_true rfl) (Nat.le_of_ble_eq_true rfl) rfl rfl (Nat.le_of_ble_eq_true rfl) (Nat.le_of_ble_eq_true rfl) rfl fun T100 W100 => ?_
                                by_cases hc135_101 : (okI cs (14 : Int32)) = (0 : Int32)
                                · refine g_ifY (pc' := 187) W100.here hx (hb hby d_method_7_135) rfl (teq hc135_101).1 ?_
                                  refine g_iconst (0 : Int32) (pc' := 188) W100.here hx (hb hby d_method_7_187) rfl rfl ?_
                                  refine g_istoreN (pc' := 189) (Ls' := #[.val (.ref ca), .val (.int cs.length.toInt32), .val (.int (0 : Int32)), .unset, .unset, .unset]) W100.here hx (hb hby d_method_7_188) rfl rfl ?_
                                  refine g_iloadN (pc' := 190) W100.here hx (hb hby d_method_7_189) rfl rfl ?_
                                  refine g_ifN (pc' := 193) W100.here hx (hb hby d_method_7_190) rfl (teq (show (0 : Int32) = (0 : Int32) from (by decide))).2 ?_
                                  refine g_iconst (-1 : Int32) (pc' := 194) W100.here hx (hb hby d_method_7_193) rfl rfl ?_
                                  refine w_retI W100 hx hh hlk hret (hb hby d_method_7_194) (Nat.le_of_ble_eq_true rfl) (Nat.le_of_ble_eq_true rfl) ?_
                                  refine ⟨congrArg (fun z => some (Value.int z)) ?_, rfl⟩
                                  exact (own_bad hc135_101).symm
                                · refine g_ifN (pc' := 138) W100.here hx (hb hby d_method_7_135) rfl (feq hc135_101).1 ?_
                                  refine g_aloadN (pc' := 139) W100.here hx (hb hby d_method_7_138) rfl rfl rfl ?_
                                  refine g_bipush (15 : Int32) (pc' := 141) W100.here hx (hb hby d_method_7_139) rfl rfl ?_
                                  refine w_callSp (pc' := 144) (st := []) (y := (⟨"com/example/despatch/despatch/fhir/WholeNumberReadPinLaw", "ok", "([CI)Z"⟩ : MethodName)) W100 hx [(.ref ca), (.int (15 : Int32))] (hw _ (List.mem_of_getElem? w_95)) (hw _ (List.mem_of_getElem? w_96)) (hw _ (List.mem_of_getElem? w_4)) (hw _ (List.mem_of_getElem? w_97)) (by decide) (c_ok l Z a0 hw hE ca (15 : Int32) cs h0 W100.old hn VA (by decide)) (by rw [hml]; rfl) (lenOf pd_9 rfl) rfl (hb hby d_method_7_141) (Nat.le_of_ble_eq_true rfl) (Nat.le_of_ble_eq_true rfl) rfl rfl (Nat.le_of_ble_eq_true rfl) (Nat.le_of_ble_eq_true rfl) rfl fun T102 W102 => ?_
                                  by_cases hc144_103 : (okI cs (15 : Int32)) = (0 : Int32)
                                  · refine g_ifY (pc' := 187) W102.here hx (hb hby d_method_7_144) rfl (teq hc144_103).1 ?_
                                    refine g_iconst (0 : Int32) (pc' := 188) W102.here hx (hb hby d_method_7_187) rfl rfl ?_
                                    refine g_istoreN (pc' := 189) (Ls' := #[.val (.ref ca), .val (.int cs.length.toInt32), .val (.int (0 : Int32)), .unset, .unset, .unset]) W102.here hx (hb hby d_method_7_188) rfl rfl ?_
                                    refine g_iloadN (pc' := 190) W102.here hx (hb hby d_method_7_189) rfl rfl ?_
                                    refine g_ifN (pc' := 193) W102.here hx (hb hby d_method_7_190) rfl (teq (show (0 : Int32) = (0 : Int32) from (by decide))).2 ?_
                                    refine g_iconst (-1 : Int32) (pc' := 194) W102.here hx (hb hby d_method_7_193) rfl rfl ?_
                                    refine w_retI W102 hx hh hlk hret (hb hby d_method_7_194) (Nat.le_of_ble_eq_true rfl) (Nat.le_of_ble_eq_true rfl) ?_
                                    refine ⟨congrArg (fun z => some (Value.int z)) ?_, rfl⟩
                                    exact (own_bad hc144_103).symm
                                  · refine g_ifN (pc' := 147) W102.here hx (hb hby d_method_7_144) rfl (feq hc144_103).1 ?_
                                    refine g_aloadN (pc' := 148) W102.here hx (hb hby d_method_7_147) rfl rfl rfl ?_
                                    refine g_bipush (16 : Int32) (pc' := 150) W102.here hx (hb hby d_method_7_148) rfl rfl ?_
                                    refine w_callSp (pc' := 153) (st := []) (y := (⟨"com/example/despatch/despatch/fhir/WholeNumberReadPinLaw", "ok", "([CI)Z"⟩ : MethodName)) W102 hx [(.ref ca), (.int (16 : Int32))] (hw _ (List.mem_of_getElem? w_95)) (hw _ (List.mem_of_getElem? w_96)) (hw _ (List.mem_of_getElem? w_4)) (hw _ (List.mem_of_getElem? w_97)) (by decide) (c_ok l Z a0 hw hE ca (16 : Int32) cs h0 W102.old hn VA (by decide)) (by rw [hml]; rfl) (lenOf pd_9 rfl) rfl (hb hby d_method_7_150) (Nat.le_of_ble_eq_true rfl) (Nat.le_of_ble_eq_true rfl) rfl rfl (Nat.le_of_ble_eq_true rfl) (Nat.le_of_ble_eq_true rfl) rfl fun T104 W104 => ?_
                                    by_cases hc153_105 : (okI cs (16 : Int32)) = (0 : Int32)
                                    · refine g_ifY (pc' := 187) W104.here hx (hb hby d_method_7_153) rfl (teq hc153_105).1 ?_
                                      refine g_iconst (0 : Int32) (pc' := 188) W104.here hx (hb hby d_method_7_187) rfl rfl ?_
                                      refine g_istoreN (pc' := 189) (Ls' := #[.val (.ref ca), .val (.int cs.length.toInt32), .val (.int (0 : Int32)), .unset, .unset, .unset]) W104.here hx (hb hby d_method_7_188) rfl rfl ?_
                                      refine g_iloadN (pc' := 190) W104.here hx (hb hby d_method_7_189) rfl rfl ?_
                                      refine g_ifN (pc' := 193) W104.here hx (hb hby d_method_7_190) rfl (teq (show (0 : Int32) = (0 : Int32) from (by decide))).2 ?_
                                      refine g_iconst (-1 : Int32) (pc' := 194) W104.here hx (hb hby d_method_7_193) rfl rfl ?_
                                      refine w_retI W104 hx hh hlk hret (hb hby d_method_7_194) (Nat.le_of_ble_eq_true rfl) (Nat.le_of_ble_eq_true rfl) ?_
                                      refine ⟨congrArg (fun z => some (Value.int z)) ?_, rfl⟩
                                      exact (own_bad hc153_105).symm
                                    · refine g_ifN (pc' := 156) W104.here hx (hb hby d_method_7_153) rfl (feq hc153_105).1 ?_
                                      refine g_aloadN (pc' := 157) W104.here hx (hb hby d_method_7_156) rfl rfl rfl ?_
                                      refine g_bipush (17 : Int32) (pc' := 159) W104.here hx (hb hby d_method_7_157) rfl rfl ?_
                                      refine w_callSp (pc' := 162) (st := []) (y := (⟨"com/example/despatch/despatch/fhir/WholeNumberReadPinLaw", "ok", "([CI)Z"⟩ : MethodName)) W104 hx [(.ref ca), (.int (17 : Int32))] (hw _ (List.mem_of_getElem? w_95)) (hw _ (List.mem_of_getElem? w_96)) (hw _ (List.mem_of_getElem? w_4)) (hw _ (List.mem_of_getElem? w_97)) (by decide) (c_ok l Z a0 hw hE ca (17 : Int32) cs h0 W104.old hn VA (by decide)) (by rw [hml]; rfl) (lenOf pd_9 rfl) rfl (hb hby d_method_7_159) (Nat.le_of_ble_eq_true rfl) (Nat.le_of_ble_eq_true rfl) rfl rfl (Nat.le_of_ble_eq_true rfl) (Nat.le_of_ble_eq_true rfl) rfl fun T106 W106 => ?_
                                      by_cases hc162_107 : (okI cs (17 : Int32)) = (0 : Int32)
                                      · refine g_ifY (pc' := 187) W106.here hx (hb hby d_method_7_162) rfl (teq hc162_107).1 ?_
                                        refine g_iconst (0 : Int32) (pc' := 188) W106.here hx (hb hby d_method_7_187) rfl rfl ?_
                                        refine g_istoreN (pc' := 189) (Ls' := #[.val (.ref ca), .val (.int cs.length.toInt32), .val (.int (0 : Int32)), .unset, .unset, .unset]) W106.here hx (hb hby d_method_7_188) rfl rfl ?_
                                        refine g_iloadN (pc' := 190) W106.here hx (hb hby d_method_7_189) rfl rfl ?_
                                        refine g_ifN (pc' := 193) W106.here hx (hb hby d_method_7_190) rfl (teq (show (0 : Int32) = (0 : Int32) from (by decide))).2 ?_
                                        refine g_iconst (-1 : Int32) (pc' := 194) W106.here hx (hb hby d_method_7_193) rfl rfl ?_
                                        refine w_retI W106 hx hh hlk hret (hb hby d_method_7_194) (Nat.le_of_ble_eq_true rfl) (Nat.le_of_ble_eq_true rfl) ?_
                                        refine ⟨congrArg (fun z => some (Value.int z)) ?_, rfl⟩
                                        exact (own_bad hc162_107).symm
                                      · refine g_ifN (pc' := 165) W106.here hx (hb hby d_method_7_162) rfl (feq hc162_107).1 ?_
                                        refine g_aloadN (pc' := 166) W106.here hx (hb hby d_method_7_165) rfl rfl rfl ?_
                                        refine g_bipush (18 : Int32) (pc' := 168) W106.here hx (hb hby d_method_7_166) rfl rfl ?_
                                        refine w_callSp (pc' := 171) (st := []) (y := (⟨"com/example/despatch/despatch/fhir/WholeNumberReadPinLaw", "ok", "([CI)Z"⟩ : MethodName)) W106 hx [(.ref ca), (.int (18 : Int32))] (hw _ (List.mem_of_getElem? w_95)) (hw _ (List.mem_of_getElem? w_96)) (hw _ (List.mem_of_getElem? w_4)) (hw _ (List.mem_of_getElem? w_97)) (by decide) (c_ok l Z a0 hw hE ca (18 : Int32) cs h0 W106.old hn VA (by decide)) (by rw [hml]; rfl) (lenOf pd_9 rfl) rfl (hb hby d_method_7_168) (Nat.le_of_ble_eq_true rfl) (Nat.le_of_ble_eq_true rfl) rfl rfl (Nat.le_of_ble_eq_true rfl) (Nat.le_of_ble_eq_true rfl) rfl fun T108 W108 => ?_
                                        by_cases hc171_109 : (okI cs (18 : Int32)) = (0 : Int32)
                                        · refine g_ifY (pc' := 187) W108.here hx (hb hby d_method_7_171) rfl (teq hc171_109).1 ?_
                                          refine g_iconst (0 : Int32) (pc' := 188) W108.here hx (hb hby d_method_7_187) rfl rfl ?_
                                          refine g_istoreN (pc' := 189) (Ls' := #[.val (.ref ca), .val (.int cs.length.toInt32), .val (.int (0 : Int32)), .unset, .unset, .unset]) W108.here hx (hb hby d_method_7_188) rfl rfl ?_
                                          refine g_iloadN (pc' := 190) W108.here hx (hb hby d_method_7_189) rfl rfl ?_
                                          refine g_ifN (pc' := 193) W108.here hx (hb hby d_method_7_190) rfl (teq (show (0 : Int32) = (0 : Int32) from (by decide))).2 ?_
                                          refine g_iconst (-1 : Int32) (pc' := 194) W108.here hx (hb hby d_method_7_193) rfl rfl ?_
                                          refine w_retI W108 hx hh hlk hret (hb hby d_method_7_194) (Nat.le_of_ble_eq_true rfl) (Nat.le_of_ble_eq_true rfl) ?_
                                          refine ⟨congrArg (fun z => some (Value.int z)) ?_, rfl⟩
                                          exact (own_bad hc171_109).symm
                                        · refine g_ifN (pc' := 174) W108.here hx (hb hby d_method_7_171) rfl (feq hc171_109).1 ?_
                                          refine g_aloadN (pc' := 175) W108.here hx (hb hby d_method_7_174) rfl rfl rfl ?_
                                          refine g_bipush (19 : Int32) (pc' := 177) W108.here hx (hb hby d_method_7_175) rfl rfl ?_
                                          refine w_callSp (pc' := 180) (st := []) (y := (⟨"com/example/despatch/despatch/fhir/WholeNumberReadPinLaw", "ok", "([CI)Z"⟩ : MethodName)) W108 hx [(.ref ca), (.int (19 : Int32))] (hw _ (List.mem_of_getElem? w_95)) (hw _ (List.mem_of_getElem? w_96)) (hw _ (List.mem_of_getElem? w_4)) (hw _ (List.mem_of_getElem? w_97)) (by decide) (c_ok l Z a0 hw hE ca (19 : Int32) cs h0 W108.old hn VA (by decide)) (by rw [hml]; rfl) (lenOf pd_9 rfl) rfl (hb hby d_method_7_177) (Nat.le_of_ble_eq_true rfl) (Nat.le_of_ble_eq_true rfl) rfl rfl (Nat.le_of_ble_eq_true rfl) (Nat.le_of_ble_eq_true rfl) rfl fun T110 W110 => ?_
                                          by_cases hc180_111 : (okI cs (19 : Int32)) = (0 : Int32)
                                          · refine g_ifY (pc' := 187) W110.here hx (hb hby d_method_7_180) rfl (teq hc180_111).1 ?_
                                            refine g_iconst (0 : Int32) (pc' := 188) W110.here hx (hb hby d_method_7_187) rfl rfl ?_
                                            refine g_istoreN (pc' := 189) (Ls' := #[.val (.ref ca), .val (.int cs.length.toInt32), .val (.int (0 : Int32)), .unset, .unset, .unset]) W110.here hx (hb hby d_method_7_188) rfl rfl ?_
                                            refine g_iloadN (pc' := 190) W110.here hx (hb hby d_method_7_189) rfl rfl ?_
                                            refine g_ifN (pc' := 193) W110.here hx (hb hby d_method_7_190) rfl (teq (show (0 : Int32) = (0 : Int32) from (by decide))).2 ?_
                                            refine g_iconst (-1 : Int32) (pc' := 194) W110.here hx (hb hby d_method_7_193) rfl rfl ?_
                                            refine w_retI W110 hx hh hlk hret (hb hby d_method_7_194) (Nat.le_of_ble_eq_true rfl) (Nat.le_of_ble_eq_true rfl) ?_
                                            refine ⟨congrArg (fun z => some (Value.int z)) ?_, rfl⟩
                                            exact (own_bad hc180_111).symm
                                          · refine g_ifN (pc' := 183) W110.here hx (hb hby d_method_7_180) rfl (feq hc180_111).1 ?_
                                            refine g_iconst (1 : Int32) (pc' := 184) W110.here hx (hb hby d_method_7_183) rfl rfl ?_
                                            refine g_goto (pc' := 188) W110.here hx (hb hby d_method_7_184) rfl ?_
                                            refine g_istoreN (pc' := 189) (Ls' := #[.val (.ref ca), .val (.int cs.length.toInt32), .val (.int (1 : Int32)), .unset, .unset, .unset]) W110.here hx (hb hby d_method_7_188) rfl rfl ?_
                                            refine g_iloadN (pc' := 190) W110.here hx (hb hby d_method_7_189) rfl rfl ?_
                                            refine g_ifY (pc' := 195) W110.here hx (hb hby d_method_7_190) rfl (feq (show ¬ ((1 : Int32) = (0 : Int32)) from (by decide))).2 ?_
                                            have hne : ¬ cs = [] := fun q => hc4_71 (by rw [q]; rfl)
                                            have hd := own_all20 hn hc14_73 hc22_75 hc30_77 hc38_79 hc46_81 hc54_83 hc63_85 hc72_87 hc81_89 hc90_91 hc99_93 hc108_95 hc117_97 hc126_99 hc135_101 hc144_103 hc153_105 hc162_107 hc171_109 hc180_111
                                            refine g_aloadN (pc' := 196) W110.here hx (hb hby d_method_7_195) rfl rfl rfl ?_
                                            refine g_iloadN (pc' := 197) W110.here hx (hb hby d_method_7_196) rfl rfl ?_
                                            refine g_bipush (10 : Int32) (pc' := 199) W110.here hx (hb hby d_method_7_197) rfl rfl ?_
                                            refine g_isub (pc' := 200) W110.here hx (hb hby d_method_7_199) rfl ?_
                                            refine w_callSp (pc' := 203) (st := []) (y := (⟨"com/example/despatch/despatch/fhir/WholeNumberReadPinLaw", "d", "([CI)I"⟩ : MethodName)) W110 hx [(.ref ca), (.int (cs.length.toInt32 - (10 : Int32)))] (hw _ (List.mem_of_getElem? w_116)) (hw _ (List.mem_of_getElem? w_117)) (hw _ (List.mem_of_getElem? w_4)) (hw _ (List.mem_of_getElem? w_118)) (by decide) (c_d l Z a0 hw hE ca (cs.length.toInt32 - (10 : Int32)) cs h0 W110.old hn VA) (by rw [hml]; rfl) (lenOf pd_10 rfl) rfl (hb hby d_method_7_200) (Nat.le_of_ble_eq_true rfl) (Nat.le_of_ble_eq_true rfl) rfl rfl (Nat.le_of_ble_eq_true rfl) (Nat.le_of_ble_eq_true rfl) rfl fun T112 W112 => ?_
                                            refine g_i2l (pc' := 204) W112.here hx (hb hby d_method_7_203) rfl ?_
                                            refine w_ldc2J (pc' := 207) W112 hx (hw _ (List.mem_of_getElem? w_119)) (hb hby d_method_7_204) rfl ?_
                                            refine g_lmul (pc' := 208) W112.here hx (hb hby d_method_7_207) rfl ?_
                                            refine g_aloadN (pc' := 209) W112.here hx (hb hby d_method_7_208) rfl rfl rfl ?_
                                            refine g_iloadN (pc' := 210) W112.here hx (hb hby d_method_7_209) rfl rfl ?_
                                            refine g_bipush (9 : Int32) (pc' := 212) W112.here hx (hb hby d_method_7_210) rfl rfl ?_
                                            refine g_isub (pc' := 213) W112.here hx (hb hby d_method_7_212) rfl ?_
                                            refine w_callSp (pc' := 216) (st := [(.long (((dI cs (cs.length.toInt32 - (10 : Int32))).toInt64) * (1000000000 : Int64)))]) (y := (⟨"com/example/despatch/despatch/fhir/WholeNumberReadPinLaw", "d", "([CI)I"⟩ : MethodName)) W112 hx [(.ref ca), (.int (cs.length.toInt32 - (9 : Int32)))] (hw _ (List.mem_of_getElem? w_116)) (hw _ (List.mem_of_getElem? w_117)) (hw _ (List.mem_of_getElem? w_4)) (hw _ (List.mem_of_getElem? w_118)) (by decide) (c_d l Z a0 hw hE ca (cs.length.toInt32 - (9 : Int32)) cs h0 W112.old hn VA) (by rw [hml]; rfl) (lenOf pd_10 rfl) rfl (hb hby d_method_7_213) (Nat.le_of_ble_eq_true rfl) (Nat.le_of_ble_eq_true rfl) rfl rfl (Nat.le_of_ble_eq_true rfl) (Nat.le_of_ble_eq_true rfl) rfl fun T113 W113 => ?_
                                            refine g_i2l (pc' := 217) W113.here hx (hb hby d_method_7_216) rfl ?_
                                            refine w_ldc2J (pc' := 220) W113 hx (hw _ (List.mem_of_getElem? w_120)) (hb hby d_method_7_217) rfl ?_
                                            refine g_lmul (pc' := 221) W113.here hx (hb hby d_method_7_220) rfl ?_
                                            refine g_ladd (pc' := 222) W113.here hx (hb hby d_method_7_221) rfl ?_
                                            refine g_aloadN (pc' := 223) W113.here hx (hb hby d_method_7_222) rfl rfl rfl ?_
                                            refine g_iloadN (pc' := 224) W113.here hx (hb hby d_method_7_223) rfl rfl ?_
                                            refine g_bipush (8 : Int32) (pc' := 226) W113.here hx (hb hby d_method_7_224) rfl rfl ?_
                                            refine g_isub (pc' := 227) W113.here hx (hb hby d_method_7_226) rfl ?_
                                            refine w_callSp (pc' := 230) (st := [(.long ((((dI cs (cs.length.toInt32 - (10 : Int32))).toInt64) * (1000000000 : Int64)) + (((dI cs (cs.length.toInt32 - (9 : Int32))).toInt64) * (100000000 : Int64))))]) (y := (⟨"com/example/despatch/despatch/fhir/WholeNumberReadPinLaw", "d", "([CI)I"⟩ : MethodName)) W113 hx [(.ref ca), (.int (cs.length.toInt32 - (8 : Int32)))] (hw _ (List.mem_of_getElem? w_116)) (hw _ (List.mem_of_getElem? w_117)) (hw _ (List.mem_of_getElem? w_4)) (hw _ (List.mem_of_getElem? w_118)) (by decide) (c_d l Z a0 hw hE ca (cs.length.toInt32 - (8 : Int32)) cs h0 W113.old hn VA) (by rw [hml]; rfl) (lenOf pd_10 rfl) rfl (hb hby d_method_7_227) (Nat.le_of_ble_eq_true rfl) (Nat.le_of_ble_eq_true rfl) rfl rfl (Nat.le_of_ble_eq_true rfl) (Nat.le_of_ble_eq_true rfl) rfl fun T114 W114 => ?_
                                            refine g_i2l (pc' := 231) W114.here hx (hb hby d_method_7_230) rfl ?_
                                            refine w_ldc2J (pc' := 234) W114 hx (hw _ (List.mem_of_getElem? w_121)) (hb hby d_method_7_231) rfl ?_
                                            refine g_lmul (pc' := 235) W114.here hx (hb hby d_method_7_234) rfl ?_
                                            refine g_ladd (pc' := 236) W114.here hx (hb hby d_method_7_235) rfl ?_
                                            refine g_aloadN (pc' := 237) W114.here hx (hb hby d_method_7_236) rfl rfl rfl ?_
                                            refine g_iloadN (pc' := 238) W114.here hx (hb hby d_method_7_237) rfl rfl ?_
                                            refine g_bipush (7 : Int32) (pc' := 240) W114.here hx (hb hby d_method_7_238) rfl rfl ?_
                                            refine g_isub (pc' := 241) W114.here hx (hb hby d_method_7_240) rfl ?_
                                            refine w_callSp (pc' := 244) (st := [(.long (((((dI cs (cs.length.toInt32 - (10 : Int32))).toInt64) * (1000000000 : Int64)) + (((dI cs (cs.length.toInt32 - (9 : Int32))).toInt64) * (100000000 : Int64))) + (((dI cs (cs.length.toInt32 - (8 : Int32))).toInt64) * (10000000 : Int64))))]) (y := (⟨"com/example/despatch/despatch/fhir/WholeNumberReadPinLaw", "d", "([CI)I"⟩ : MethodName)) W114 hx [(.ref ca), (.int (cs.length.toInt32 - (7 : Int32)))] (hw _ (List.mem_of_getElem? w_116)) (hw _ (List.mem_of_getElem? w_117)) (hw _ (List.mem_of_getElem? w_4)) (hw _ (List.mem_of_getElem? w_118)) (by decide) (c_d l Z a0 hw hE ca (cs.length.toInt32 - (7 : Int32)) cs h0 W114.old hn VA) (by rw [hml]; rfl) (lenOf pd_10 rfl) rfl (hb hby d_method_7_241) (Nat.le_of_ble_eq_true rfl) (Nat.le_of_ble_eq_true rfl) rfl rfl (Nat.le_of_ble_eq_true rfl) (Nat.le_of_ble_eq_true rfl) rfl fun T115 W115 => ?_
                                            refine g_i2l (pc' := 245) W115.here hx (hb hby d_method_7_244) rfl ?_
                                            refine w_ldc2J (pc' := 248) W115 hx (hw _ (List.mem_of_getElem? w_122)) (hb hby d_method_7_245) rfl ?_
                                            refine g_lmul (pc' := 249) W115.here hx (hb hby d_method_7_248) rfl ?_
                                            refine g_ladd (pc' := 250) W115.here hx (hb hby d_method_7_249) rfl ?_
                                            refine g_aloadN (pc' := 251) W115.here hx (hb hby d_method_7_250) rfl rfl rfl ?_
                                            refine g_iloadN (pc' := 252) W115.here hx (hb hby d_method_7_251) rfl rfl ?_
                                            refine g_bipush (6 : Int32) (pc' := 254) W115.here hx (hb hby d_method_7_252) rfl rfl ?_
                                            refine g_isub (pc' := 255) W115.here hx (hb hby d_method_7_254) rfl ?_
                                            refine w_callSp (pc' := 258) (st := [(.long ((((((dI cs (cs.length.toInt32 - (10 : Int32))).toInt64) * (1000000000 : Int64)) + (((dI cs (cs.length.toInt32 - (9 : Int32))).toInt64) * (100000000 : Int64))) + (((dI cs (cs.length.toInt32 - (8 : Int32))).toInt64) * (10000000 : Int64))) + (((dI cs (cs.length.toInt32 - (7 : Int32))).toInt64) * (1000000 : Int64))))]) (y := (⟨"com/example/despatch/despatch/fhir/WholeNumberReadPinLaw", "d", "([CI)I"⟩ : MethodName)) W115 hx [(.ref ca), (.int (cs.length.toInt32 - (6 : Int32)))] (hw _ (List.mem_of_getElem? w_116)) (hw _ (List.mem_of_getElem? w_117)) (hw _ (List.mem_of_getElem? w_4)) (hw _ (List.mem_of_getElem? w_118)) (by decide) (c_d l Z a0 hw hE ca (cs.length.toInt32 - (6 : Int32)) cs h0 W115.old hn VA) (by rw [hml]; rfl) (lenOf pd_10 rfl) rfl (hb hby d_method_7_255) (Nat.le_of_ble_eq_true rfl) (Nat.le_of_ble_eq_true rfl) rfl rfl (Nat.le_of_ble_eq_true rfl) (Nat.le_of_ble_eq_true rfl) rfl fun T116 W116 => ?_
                                            refine g_i2l (pc' := 259) W116.here hx (hb hby d_method_7_258) rfl ?_
                                            refine w_ldc2J (pc' := 262) W116 hx (hw _ (List.mem_of_getElem? w_123)) (hb hby d_method_7_259) rfl ?_
                                            refine g_lmul (pc' := 263) W116.here hx (hb hby d_method_7_262) rfl ?_
                                            refine g_ladd (pc' := 264) W116.here hx (hb hby d_method_7_263) rfl ?_
                                            refine g_aloadN (pc' := 265) W116.here hx (hb hby d_method_7_264) rfl rfl rfl ?_
                                            refine g_iloadN (pc' := 266) W116.here hx (hb hby d_method_7_265) rfl rfl ?_
                                            refine g_iconst (5 : Int32) (pc' := 267) W116.here hx (hb hby d_method_7_266) rfl rfl ?_
                                            refine g_isub (pc' := 268) W116.here hx (hb hby d_method_7_267) rfl ?_
                                            refine w_callSp (pc' := 271) (st := [(.long (((((((dI cs (cs.length.toInt32 - (10 : Int32))).toInt64) * (1000000000 : Int64)) + (((dI cs (cs.length.toInt32 - (9 : Int32))).toInt64) * (100000000 : Int64))) + (((dI cs (cs.length.toInt32 - (8 : Int32))).toInt64) * (10000000 : Int64))) + (((dI cs (cs.length.toInt32 - (7 : Int32))).toInt64) * (1000000 : Int64))) + (((dI cs (cs.length.toInt32 - (6 : Int32))).toInt64) * (100000 : Int64))))]) (y := (⟨"com/example/despatch/despatch/fhir/WholeNumberReadPinLaw", "d", "([CI)I"⟩ : MethodName)) W116 hx [(.ref ca), (.int (cs.length.toInt32 - (5 : Int32)))] (hw _ (List.mem_of_getElem? w_116)) (hw _ (List.mem_of_getElem? w_117)) (hw _ (List.mem_of_getElem? w_4)) (hw _ (List.mem_of_getElem? w_118)) (by decide) (c_d l Z a0 hw hE ca (cs.length.toInt32 - (5 : Int32)) cs h0 W116.old hn VA) (by rw [hml]; rfl) (lenOf pd_10 rfl) rfl (hb hby d_method_7_268) (Nat.le_of_ble_eq_true rfl) (Nat.le_of_ble_eq_true rfl) rfl rfl (Nat.le_of_ble_eq_true rfl) (Nat.le_of_ble_eq_true rfl) rfl fun T117 W117 => ?_
                                            refine g_i2l (pc' := 272) W117.here hx (hb hby d_method_7_271) rfl ?_
                                            refine w_ldc2J (pc' := 275) W117 hx (hw _ (List.mem_of_getElem? w_124)) (hb hby d_method_7_272) rfl ?_
                                            refine g_lmul (pc' := 276) W117.here hx (hb hby d_method_7_275) rfl ?_
                                            refine g_ladd (pc' := 277) W117.here hx (hb hby d_method_7_276) rfl ?_
                                            refine g_aloadN (pc' := 278) W117.here hx (hb hby d_method_7_277) rfl rfl rfl ?_
                                            refine g_iloadN (pc' := 279) W117.here hx (hb hby d_method_7_278) rfl rfl ?_
                                            refine g_iconst (4 : Int32) (pc' := 280) W117.here hx (hb hby d_method_7_279) rfl rfl ?_
                                            refine g_isub (pc' := 281) W117.here hx (hb hby d_method_7_280) rfl ?_
                                            refine w_callSp (pc' := 284) (st := [(.long ((((((((dI cs (cs.length.toInt32 - (10 : Int32))).toInt64) * (1000000000 : Int64)) + (((dI cs (cs.length.toInt32 - (9 : Int32))).toInt64) * (100000000 : Int64))) + (((dI cs (cs.length.toInt32 - (8 : Int32))).toInt64) * (10000000 : Int64))) + (((dI cs (cs.length.toInt32 - (7 : Int32))).toInt64) * (1000000 : Int64))) + (((dI cs (cs.length.toInt32 - (6 : Int32))).toInt64) * (100000 : Int64))) + (((dI cs (cs.length.toInt32 - (5 : Int32))).toInt64) * (10000 : Int64))))]) (y := (⟨"com/example/despatch/despatch/fhir/WholeNumberReadPinLaw", "d", "([CI)I"⟩ : MethodName)) W117 hx [(.ref ca), (.int (cs.length.toInt32 - (4 : Int32)))] (hw _ (List.mem_of_getElem? w_116)) (hw _ (List.mem_of_getElem? w_117)) (hw _ (List.mem_of_getElem? w_4)) (hw _ (List.mem_of_getElem? w_118)) (by decide) (c_d l Z a0 hw hE ca (cs.length.toInt32 - (4 : Int32)) cs h0 W117.old hn VA) (by rw [hml]; rfl) (lenOf pd_10 rfl) rfl (hb hby d_method_7_281) (Nat.le_of_ble_eq_true rfl) (Nat.le_of_ble_eq_true rfl) rfl rfl (Nat.le_of_ble_eq_true rfl) (Nat.le_of_ble_eq_true rfl) rfl fun T118 W118 => ?_
                                            refine g_i2l (pc' := 285) W118.here hx (hb hby d_method_7_284) rfl ?_
                                            refine w_ldc2J (pc' := 288) W118 hx (hw _ (List.mem_of_getElem? w_125)) (hb hby d_method_7_285) rfl ?_
                                            refine g_lmul (pc' := 289) W118.here hx (hb hby d_method_7_288) rfl ?_
                                            refine g_ladd (pc' := 290) W118.here hx (hb hby d_method_7_289) rfl ?_
                                            refine g_aloadN (pc' := 291) W118.here hx (hb hby d_method_7_290) rfl rfl rfl ?_
                                            refine g_iloadN (pc' := 292) W118.here hx (hb hby d_method_7_291) rfl rfl ?_
                                            refine g_iconst (3 : Int32) (pc' := 293) W118.here hx (hb hby d_method_7_292) rfl rfl ?_
                                            refine g_isub (pc' := 294) W118.here hx (hb hby d_method_7_293) rfl ?_
                                            refine w_callSp (pc' := 297) (st := [(.long (((((((((dI cs (cs.length.toInt32 - (10 : Int32))).toInt64) * (1000000000 : Int64)) + (((dI cs (cs.length.toInt32 - (9 : Int32))).toInt64) * (100000000 : Int64))) + (((dI cs (cs.length.toInt32 - (8 : Int32))).toInt64) * (10000000 : Int64))) + (((dI cs (cs.length.toInt32 - (7 : Int32))).toInt64) * (1000000 : Int64))) + (((dI cs (cs.length.toInt32 - (6 : Int32))).toInt64) * (100000 : Int64))) + (((dI cs (cs.length.toInt32 - (5 : Int32))).toInt64) * (10000 : Int64))) + (((dI cs (cs.length.toInt32 - (4 : Int32))).toInt64) * (1000 : Int64))))]) (y := (⟨"com/example/despatch/despatch/fhir/WholeNumberReadPinLaw", "d", "([CI)I"⟩ : MethodName)) W118 hx [(.ref ca), (.int (cs.length.toInt32 - (3 : Int32)))] (hw _ (List.mem_of_getElem? w_116)) (hw _ (List.mem_of_getElem? w_117)) (hw _ (List.mem_of_getElem? w_4)) (hw _ (List.mem_of_getElem? w_118)) (by decide) (c_d l Z a0 hw hE ca (cs.length.toInt32 - (3 : Int32)) cs h0 W118.old hn VA) (by rw [hml]; rfl) (lenOf pd_10 rfl) rfl (hb hby d_method_7_294) (Nat.le_of_ble_eq_true rfl) (Nat.le_of_ble_eq_true rfl) rfl rfl (Nat.le_of_ble_eq_true rfl) (Nat.le_of_ble_eq_true rfl) rfl fun T119 W119 => ?_
                                            refine g_i2l (pc' := 298) W119.here hx (hb hby d_method_7_297) rfl ?_
                                            refine w_ldc2J (pc' := 301) W119 hx (hw _ (List.mem_of_getElem? w_126)) (hb hby d_method_7_298) rfl ?_
                                            refine g_lmul (pc' := 302) W119.here hx (hb hby d_method_7_301) rfl ?_
                                            refine g_ladd (pc' := 303) W119.here hx (hb hby d_method_7_302) rfl ?_
                                            refine g_aloadN (pc' := 304) W119.here hx (hb hby d_method_7_303) rfl rfl rfl ?_
                                            refine g_iloadN (pc' := 305) W119.here hx (hb hby d_method_7_304) rfl rfl ?_
                                            refine g_iconst (2 : Int32) (pc' := 306) W119.here hx (hb hby d_method_7_305) rfl rfl ?_
                                            refine g_isub (pc' := 307) W119.here hx (hb hby d_method_7_306) rfl ?_
                                            refine w_callSp (pc' := 310) (st := [(.long ((((((((((dI cs (cs.length.toInt32 - (10 : Int32))).toInt64) * (1000000000 : Int64)) + (((dI cs (cs.length.toInt32 - (9 : Int32))).toInt64) * (100000000 : Int64))) + (((dI cs (cs.length.toInt32 - (8 : Int32))).toInt64) * (10000000 : Int64))) + (((dI cs (cs.length.toInt32 - (7 : Int32))).toInt64) * (1000000 : Int64))) + (((dI cs (cs.length.toInt32 - (6 : Int32))).toInt64) * (100000 : Int64))) + (((dI cs (cs.length.toInt32 - (5 : Int32))).toInt64) * (10000 : Int64))) + (((dI cs (cs.length.toInt32 - (4 : Int32))).toInt64) * (1000 : Int64))) + (((dI cs (cs.length.toInt32 - (3 : Int32))).toInt64) * (100 : Int64))))]) (y := (⟨"com/example/despatch/despatch/fhir/WholeNumberReadPinLaw", "d", "([CI)I"⟩ : MethodName)) W119 hx [(.ref ca), (.int (cs.length.toInt32 - (2 : Int32)))] (hw _ (List.mem_of_getElem? w_116)) (hw _ (List.mem_of_getElem? w_117)) (hw _ (List.mem_of_getElem? w_4)) (hw _ (List.mem_of_getElem? w_118)) (by decide) (c_d l Z a0 hw hE ca (cs.length.toInt32 - (2 : Int32)) cs h0 W119.old hn VA) (by rw [hml]; rfl) (lenOf pd_10 rfl) rfl (hb hby d_method_7_307) (Nat.le_of_ble_eq_true rfl) (Nat.le_of_ble_eq_true rfl) rfl rfl (Nat.le_of_ble_eq_true rfl) (Nat.le_of_ble_eq_true rfl) rfl fun T120 W120 => ?_
                                            refine g_i2l (pc' := 311) W120.here hx (hb hby d_method_7_310) rfl ?_
                                            refine w_ldc2J (pc' := 314) W120 hx (hw _ (List.mem_of_getElem? w_127)) (hb hby d_method_7_311) rfl ?_
                                            refine g_lmul (pc' := 315) W120.here hx (hb hby d_method_7_314) rfl ?_
                                            refine g_ladd (pc' := 316) W120.here hx (hb hby d_method_7_315) rfl ?_
                                            refine g_aloadN (pc' := 317) W120.here hx (hb hby d_method_7_316) rfl rfl rfl ?_
                                            refine g_iloadN (pc' := 318) W120.here hx (hb hby d_method_7_317) rfl rfl ?_
                                            refine g_iconst (1 : Int32) (pc' := 319) W120.here hx (hb hby d_method_7_318) rfl rfl ?_
                                            refine g_isub (pc' := 320) W120.here hx (hb hby d_method_7_319) rfl ?_
                                            refine w_callSp (pc' := 323) (st := [(.long (((((((((((dI cs (cs.length.toInt32 - (10 : Int32))).toInt64) * (1000000000 : Int64)) + (((dI cs (cs.length.toInt32 - (9 : Int32))).toInt64) * (100000000 : Int64))) + (((dI cs (cs.length.toInt32 - (8 : Int32))).toInt64) * (10000000 : Int64))) + (((dI cs (cs.length.toInt32 - (7 : Int32))).toInt64) * (1000000 : Int64))) + (((dI cs (cs.length.toInt32 - (6 : Int32))).toInt64) * (100000 : Int64))) + (((dI cs (cs.length.toInt32 - (5 : Int32))).toInt64) * (10000 : Int64))) + (((dI cs (cs.length.toInt32 - (4 : Int32))).toInt64) * (1000 : Int64))) + (((dI cs (cs.length.toInt32 - (3 : Int32))).toInt64) * (100 : Int64))) + (((dI cs (cs.length.toInt32 - (2 : Int32))).toInt64) * (10 : Int64))))]) (y := (⟨"com/example/despatch/despatch/fhir/WholeNumberReadPinLaw", "d", "([CI)I"⟩ : MethodName)) W120 hx [(.ref ca), (.int (cs.length.toInt32 - (1 : Int32)))] (hw _ (List.mem_of_getElem? w_116)) (hw _ (List.mem_of_getElem? w_117)) (hw _ (List.mem_of_getElem? w_4)) (hw _ (List.mem_of_getElem? w_118)) (by decide) (c_d l Z a0 hw hE ca (cs.length.toInt32 - (1 : Int32)) cs h0 W120.old hn VA) (by rw [hml]; rfl) (lenOf pd_10 rfl) rfl (hb hby d_method_7_320) (Nat.le_of_ble_eq_true rfl) (Nat.le_of_ble_eq_true rfl) rfl rfl (Nat.le_of_ble_eq_true rfl) (Nat.le_of_ble_eq_true rfl) rfl fun T121 W121 => ?_
                                            refine g_i2l (pc' := 324) W121.here hx (hb hby d_method_7_323) rfl ?_
                                            refine g_ladd (pc' := 325) W121.here hx (hb hby d_method_7_324) rfl ?_
                                            obtain ⟨lo, hlo⟩ : ∃ zz_ : Int64, zz_ = ((((((((((((dI cs (cs.length.toInt32 - (10 : Int32))).toInt64) * (1000000000 : Int64)) + (((dI cs (cs.length.toInt32 - (9 : Int32))).toInt64) * (100000000 : Int64))) + (((dI cs (cs.length.toInt32 - (8 : Int32))).toInt64) * (10000000 : Int64))) + (((dI cs (cs.length.toInt32 - (7 : Int32))).toInt64) * (1000000 : Int64))) + (((dI cs (cs.length.toInt32 - (6 : Int32))).toInt64) * (100000 : Int64))) + (((dI cs (cs.length.toInt32 - (5 : Int32))).toInt64) * (10000 : Int64))) + (((dI cs (cs.length.toInt32 - (4 : Int32))).toInt64) * (1000 : Int64))) + (((dI cs (cs.length.toInt32 - (3 : Int32))).toInt64) * (100 : Int64))) + (((dI cs (cs.length.toInt32 - (2 : Int32))).toInt64) * (10 : Int64))) + ((dI cs (cs.length.toInt32 - (1 : Int32))).toInt64)) := ⟨_, rfl⟩
                                            refine g_name (congrArg Value.long hlo) ?_
                                            have hlo1 : lo.toInt = (sumS cs 10 : Nat) := by
                                              have d0 := own_dI9 hn hd (cs.length.toInt32 - (1 : Int32))
                                              have e0 : (dgk cs 0 : Int) = (dI cs (cs.length.toInt32 - (1 : Int32))).toInt := Int.toNat_of_nonneg d0.1
                                              have d1 := own_dI9 hn hd (cs.length.toInt32 - (2 : Int32))
                                              have e1 : (dgk cs 1 : Int) = (dI cs (cs.length.toInt32 - (2 : Int32))).toInt := Int.toNat_of_nonneg d1.1
                                              have d2 := own_dI9 hn hd (cs.length.toInt32 - (3 : Int32))
                                              have e2 : (dgk cs 2 : Int) = (dI cs (cs.length.toInt32 - (3 : Int32))).toInt := Int.toNat_of_nonneg d2.1
                                              have d3 := own_dI9 hn hd (cs.length.toInt32 - (4 : Int32))
                                              have e3 : (dgk cs 3 : Int) = (dI cs (cs.length.toInt32 - (4 : Int32))).toInt := Int.toNat_of_nonneg d3.1
                                              have d4 := own_dI9 hn hd (cs.length.toInt32 - (5 : Int32))
                                              have e4 : (dgk cs 4 : Int) = (dI cs (cs.length.toInt32 - (5 : Int32))).toInt := Int.toNat_of_nonneg d4.1
                                              have d5 := own_dI9 hn hd (cs.length.toInt32 - (6 : Int32))
                                              have e5 : (dgk cs 5 : Int) = (dI cs (cs.length.toInt32 - (6 : Int32))).toInt := Int.toNat_of_nonneg d5.1
                                              have d6 := own_dI9 hn hd (cs.length.toInt32 - (7 : Int32))
                                              have e6 : (dgk cs 6 : Int) = (dI cs (cs.length.toInt32 - (7 : Int32))).toInt := Int.toNat_of_nonneg d6.1
                                              have d7 := own_dI9 hn hd (cs.length.toInt32 - (8 : Int32))
                                              have e7 : (dgk cs 7 : Int) = (dI cs (cs.length.toInt32 - (8 : Int32))).toInt := Int.toNat_of_nonneg d7.1
                                              have d8 := own_dI9 hn hd (cs.length.toInt32 - (9 : Int32))
                                              have e8 : (dgk cs 8 : Int) = (dI cs (cs.length.toInt32 - (9 : Int32))).toInt := Int.toNat_of_nonneg d8.1
                                              have d9 := own_dI9 hn hd (cs.length.toInt32 - (10 : Int32))
                                              have e9 : (dgk cs 9 : Int) = (dI cs (cs.length.toInt32 - (10 : Int32))).toInt := Int.toNat_of_nonneg d9.1
                                              rw [hlo, own_lo d9 d8 d7 d6 d5 d4 d3 d2 d1 d0, own_sum10]
                                              omega
                                            have hv := own_valm hn hd 10 (by omega)
                                            refine g_lstoreN (pc' := 326) (Ls' := #[.val (.ref ca), .val (.int cs.length.toInt32), .val (.int (1 : Int32)), .val (.long lo), .second, .unset]) W121.here hx (hb hby d_method_7_325) rfl rfl ?_
                                            refine g_aloadN (pc' := 327) W121.here hx (hb hby d_method_7_326) rfl rfl rfl ?_
                                            refine g_iconst (0 : Int32) (pc' := 328) W121.here hx (hb hby d_method_7_327) rfl rfl ?_
                                            refine w_callSp (pc' := 331) (st := []) (y := (⟨"com/example/despatch/despatch/fhir/WholeNumberReadPinLaw", "nz", "([CI)Z"⟩ : MethodName)) W121 hx [(.ref ca), (.int (0 : Int32))] (hw _ (List.mem_of_getElem? w_128)) (hw _ (List.mem_of_getElem? w_129)) (hw _ (List.mem_of_getElem? w_4)) (hw _ (List.mem_of_getElem? w_130)) (by decide) (c_nz l Z a0 hw hE ca (0 : Int32) cs h0 W121.old hn VA (by decide)) (by rw [hml]; rfl) (lenOf pd_9 rfl) rfl (hb hby d_method_7_328) (Nat.le_of_ble_eq_true rfl) (Nat.le_of_ble_eq_true rfl) rfl rfl (Nat.le_of_ble_eq_true rfl) (Nat.le_of_ble_eq_true rfl) rfl fun T122 W122 => ?_
                                            by_cases hc331_123 : (nzI cs (0 : Int32)) = (0 : Int32)
                                            · refine g_ifN (pc' := 334) W122.here hx (hb hby d_method_7_331) rfl (teq hc331_123).2 ?_
                                              refine g_aloadN (pc' := 335) W122.here hx (hb hby d_method_7_334) rfl rfl rfl ?_
                                              refine g_iconst (1 : Int32) (pc' := 336) W122.here hx (hb hby d_method_7_335) rfl rfl ?_
                                              refine w_callSp (pc' := 339) (st := []) (y := (⟨"com/example/despatch/despatch/fhir/WholeNumberReadPinLaw", "nz", "([CI)Z"⟩ : MethodName)) W122 hx [(.ref ca), (.int (1 : Int32))] (hw _ (List.mem_of_getElem? w_128)) (hw _ (List.mem_of_getElem? w_129)) (hw _ (List.mem_of_getElem? w_4)) (hw _ (List.mem_of_getElem? w_130)) (by decide) (c_nz l Z a0 hw hE ca (1 : Int32) cs h0 W122.old hn VA (by decide)) (by rw [hml]; rfl) (lenOf pd_9 rfl) rfl (hb hby d_method_7_336) (Nat.le_of_ble_eq_true rfl) (Nat.le_of_ble_eq_true rfl) rfl rfl (Nat.le_of_ble_eq_true rfl) (Nat.le_of_ble_eq_true rfl) rfl fun T124 W124 => ?_
                                              by_cases hc339_125 : (nzI cs (1 : Int32)) = (0 : Int32)
                                              · refine g_ifN (pc' := 342) W124.here hx (hb hby d_method_7_339) rfl (teq hc339_125).2 ?_
                                                refine g_aloadN (pc' := 343) W124.here hx (hb hby d_method_7_342) rfl rfl rfl ?_
                                                refine g_iconst (2 : Int32) (pc' := 344) W124.here hx (hb hby d_method_7_343) rfl rfl ?_
                                                refine w_callSp (pc' := 347) (st := []) (y := (⟨"com/example/despatch/despatch/fhir/WholeNumberReadPinLaw", "nz", "([CI)Z"⟩ : MethodName)) W124 hx [(.ref ca), (.int (2 : Int32))] (hw _ (List.mem_of_getElem? w_128)) (hw _ (List.mem_of_getElem? w_129)) (hw _ (List.mem_of_getElem? w_4)) (hw _ (List.mem_of_getElem? w_130)) (by decide) (c_nz l Z a0 hw hE ca (2 : Int32) cs h0 W124.old hn VA (by decide)) (by rw [hml]; rfl) (lenOf pd_9 rfl) rfl (hb hby d_method_7_344) (Nat.le_of_ble_eq_true rfl) (Nat.le_of_ble_eq_true rfl) rfl rfl (Nat.le_of_ble_eq_true rfl) (Nat.le_of_ble_eq_true rfl) rfl fun T126 W126 => ?_
                                                by_cases hc347_127 : (nzI cs (2 : Int32)) = (0 : Int32)
                                                · refine g_ifN (pc' := 350) W126.here hx (hb hby d_method_7_347) rfl (teq hc347_127).2 ?_
                                                  refine g_aloadN (pc' := 351) W126.here hx (hb hby d_method_7_350) rfl rfl rfl ?_
                                                  refine g_iconst (3 : Int32) (pc' := 352) W126.here hx (hb hby d_method_7_351) rfl rfl ?_
                                                  refine w_callSp (pc' := 355) (st := []) (y := (⟨"com/example/despatch/despatch/fhir/WholeNumberReadPinLaw", "nz", "([CI)Z"⟩ : MethodName)) W126 hx [(.ref ca), (.int (3 : Int32))] (hw _ (List.mem_of_getElem? w_128)) (hw _ (List.mem_of_getElem? w_129)) (hw _ (List.mem_of_getElem? w_4)) (hw _ (List.mem_of_getElem? w_130)) (by decide) (c_nz l Z a0 hw hE ca (3 : Int32) cs h0 W126.old hn VA (by decide)) (by rw [hml]; rfl) (lenOf pd_9 rfl) rfl (hb hby d_method_7_352) (Nat.le_of_ble_eq_true rfl) (Nat.le_of_ble_eq_true rfl) rfl rfl (Nat.le_of_ble_eq_true rfl) (Nat.le_of_ble_eq_true rfl) rfl fun T128 W128 => ?_
                                                  by_cases hc355_129 : (nzI cs (3 : Int32)) = (0 : Int32)
                                                  · refine g_ifN (pc' := 358) W128.here hx (hb hby d_method_7_355) rfl (teq hc355_129).2 ?_
                                                    refine g_aloadN (pc' := 359) W128.here hx (hb hby d_method_7_358) rfl rfl rfl ?_
                                                    refine g_iconst (4 : Int32) (pc' := 360) W128.here hx (hb hby d_method_7_359) rfl rfl ?_
                                                    refine w_callSp (pc' := 363) (st := []) (y := (⟨"com/example/despatch/despatch/fhir/WholeNumberReadPinLaw", "nz", "([CI)Z"⟩ : MethodName)) W128 hx [(.ref ca), (.int (4 : Int32))] (hw _ (List.mem_of_getElem? w_128)) (hw _ (List.mem_of_getElem? w_129)) (hw _ (List.mem_of_getElem? w_4)) (hw _ (List.mem_of_getElem? w_130)) (by decide) (c_nz l Z a0 hw hE ca (4 : Int32) cs h0 W128.old hn VA (by decide)) (by rw [hml]; rfl) (lenOf pd_9 rfl) rfl (hb hby d_method_7_360) (Nat.le_of_ble_eq_true rfl) (Nat.le_of_ble_eq_true rfl) rfl rfl (Nat.le_of_ble_eq_true rfl) (Nat.le_of_ble_eq_true rfl) rfl fun T130 W130 => ?_
                                                    by_cases hc363_131 : (nzI cs (4 : Int32)) = (0 : Int32)
                                                    · refine g_ifN (pc' := 366) W130.here hx (hb hby d_method_7_363) rfl (teq hc363_131).2 ?_
                                                      refine g_aloadN (pc' := 367) W130.here hx (hb hby d_method_7_366) rfl rfl rfl ?_
                                                      refine g_iconst (5 : Int32) (pc' := 368) W130.here hx (hb hby d_method_7_367) rfl rfl ?_
                                                      refine w_callSp (pc' := 371) (st := []) (y := (⟨"com/example/despatch/despatch/fhir/WholeNumberReadPinLaw", "nz", "([CI)Z"⟩ : MethodName)) W130 hx [(.ref ca), (.int (5 : Int32))] (hw _ (List.mem_of_getElem? w_128)) (hw _ (List.mem_of_getElem? w_129)) (hw _ (List.mem_of_getElem? w_4)) (hw _ (List.mem_of_getElem? w_130)) (by decide) (c_nz l Z a0 hw hE ca (5 : Int32) cs h0 W130.old hn VA (by decide)) (by rw [hml]; rfl) (lenOf pd_9 rfl) rfl (hb hby d_method_7_368) (Nat.le_of_ble_eq_true rfl) (Nat.le_of_ble_eq_true rfl) rfl rfl (Nat.le_of_ble_eq_true rfl) (Nat.le_of_ble_eq_true rfl) rfl fun T132 W132 => ?_
                                                      by_cases hc371_133 : (nzI cs (5 : Int32)) = (0 : Int32)
                                                      · refine g_ifN (pc' := 374) W132.here hx (hb hby d_method_7_371) rfl (teq hc371_133).2 ?_
                                                        refine g_aloadN (pc' := 375) W132.here hx (hb hby d_method_7_374) rfl rfl rfl ?_
                                                        refine g_bipush (6 : Int32) (pc' := 377) W132.here hx (hb hby d_method_7_375) rfl rfl ?_
                                                        refine w_callSp (pc' := 380) (st := []) (y := (⟨"com/example/despatch/despatch/fhir/WholeNumberReadPinLaw", "nz", "([CI)Z"⟩ : MethodName)) W132 hx [(.ref ca), (.int (6 : Int32))] (hw _ (List.mem_of_getElem? w_128)) (hw _ (List.mem_of_getElem? w_129)) (hw _ (List.mem_of_getElem? w_4)) (hw _ (List.mem_of_getElem? w_130)) (by decide) (c_nz l Z a0 hw hE ca (6 : Int32) cs h0 W132.old hn VA (by decide)) (by rw [hml]; rfl) (lenOf pd_9 rfl) rfl (hb hby d_method_7_377) (Nat.le_of_ble_eq_true rfl) (Nat.le_of_ble_eq_true rfl) rfl rfl (Nat.le_of_ble_eq_true rfl) (Nat.le_of_ble_eq_true rfl) rfl fun T134 W134 => ?_
                                                        by_cases hc380_135 : (nzI cs (6 : Int32)) = (0 : Int32)
                                                        · refine g_ifN (pc' := 383) W134.here hx (hb hby d_method_7_380) rfl (teq hc380_135).2 ?_
                                                          refine g_aloadN (pc' := 384) W134.here hx (hb hby d_method_7_383) rfl rfl rfl ?_
                                                          refine g_bipush (7 : Int32) (pc' := 386) W134.here hx (hb hby d_method_7_384) rfl rfl ?_
                                                          refine w_callSp (pc' := 389) (st := []) (y := (⟨"com/example/despatch/despatch/fhir/WholeNumberReadPinLaw", "nz", "([CI)Z"⟩ : MethodName)) W134 hx [(.ref ca), (.int (7 : Int32))] (hw _ (List.mem_of_getElem? w_128)) (hw _ (List.mem_of_getElem? w_129)) (hw _ (List.mem_of_getElem? w_4)) (hw _ (List.mem_of_getElem? w_130)) (by decide) (c_nz l Z a0 hw hE ca (7 : Int32) cs h0 W134.old hn VA (by decide)) (by rw [hml]; rfl) (lenOf pd_9 rfl) rfl (hb hby d_method_7_386) (Nat.le_of_ble_eq_true rfl) (Nat.le_of_ble_eq_true rfl) rfl rfl (Nat.le_of_ble_eq_true rfl) (Nat.le_of_ble_eq_true rfl) rfl fun T136 W136 => ?_
                                                          by_cases hc389_137 : (nzI cs (7 : Int32)) = (0 : Int32)
                                                          · refine g_ifN (pc' := 392) W136.here hx (hb hby d_method_7_389) rfl (teq hc389_137).2 ?_
                                                            refine g_aloadN (pc' := 393) W136.here hx (hb hby d_method_7_392) rfl rfl rfl ?_
                                                            refine g_bipush (8 : Int32) (pc' := 395) W136.here hx (hb hby d_method_7_393) rfl rfl ?_
                                                            refine w_callSp (pc' := 398) (st := []) (y := (⟨"com/example/despatch/despatch/fhir/WholeNumberReadPinLaw", "nz", "([CI)Z"⟩ : MethodName)) W136 hx [(.ref ca), (.int (8 : Int32))] (hw _ (List.mem_of_getElem? w_128)) (hw _ (List.mem_of_getElem? w_129)) (hw _ (List.mem_of_getElem? w_4)) (hw _ (List.mem_of_getElem? w_130)) (by decide) (c_nz l Z a0 hw hE ca (8 : Int32) cs h0 W136.old hn VA (by decide)) (by rw [hml]; rfl) (lenOf pd_9 rfl) rfl (hb hby d_method_7_395) (Nat.le_of_ble_eq_true rfl) (Nat.le_of_ble_eq_true rfl) rfl rfl (Nat.le_of_ble_eq_true rfl) (Nat.le_of_ble_eq_true rfl) rfl fun T138 W138 => ?_
                                                            by_cases hc398_139 : (nzI cs (8 : Int32)) = (0 : Int32)
                                                            · refine g_ifN (pc' := 401) W138.here hx (hb hby d_method_7_398) rfl (teq hc398_139).2 ?_
                                                              refine g_aloadN (pc' := 402) W138.here hx (hb hby d_method_7_401) rfl rfl rfl ?_
                                                              refine g_bipush (9 : Int32) (pc' := 404) W138.here hx (hb hby d_method_7_402) rfl rfl ?_
                                                              refine w_callSp (pc' := 407) (st := []) (y := (⟨"com/example/despatch/despatch/fhir/WholeNumberReadPinLaw", "nz", "([CI)Z"⟩ : MethodName)) W138 hx [(.ref ca), (.int (9 : Int32))] (hw _ (List.mem_of_getElem? w_128)) (hw _ (List.mem_of_getElem? w_129)) (hw _ (List.mem_of_getElem? w_4)) (hw _ (List.mem_of_getElem? w_130)) (by decide) (c_nz l Z a0 hw hE ca (9 : Int32) cs h0 W138.old hn VA (by decide)) (by rw [hml]; rfl) (lenOf pd_9 rfl) rfl (hb hby d_method_7_404) (Nat.le_of_ble_eq_true rfl) (Nat.le_of_ble_eq_true rfl) rfl rfl (Nat.le_of_ble_eq_true rfl) (Nat.le_of_ble_eq_true rfl) rfl fun T140 W140 => ?_
                                                              by_cases hc407_141 : (nzI cs (9 : Int32)) = (0 : Int32)
                                                              · refine g_ifY (pc' := 414) W140.here hx (hb hby d_method_7_407) rfl (teq hc407_141).1 ?_
                                                                refine g_iconst (0 : Int32) (pc' := 415) W140.here hx (hb hby d_method_7_414) rfl rfl ?_
                                                                refine g_istore (pc' := 417) (Ls' := #[.val (.ref ca), .val (.int cs.length.toInt32), .val (.int (1 : Int32)), .val (.long lo), .second, .val (.int (0 : Int32))]) W140.here hx (hb hby d_method_7_415) rfl rfl ?_
                                                                refine g_iload (pc' := 419) W140.here hx (hb hby d_method_7_417) rfl rfl ?_
                                                                refine g_ifN (pc' := 422) W140.here hx (hb hby d_method_7_419) rfl (teq (show (0 : Int32) = (0 : Int32) from (by decide))).2 ?_
                                                                refine g_lloadN (pc' := 423) W140.here hx (hb hby d_method_7_422) rfl rfl ?_
                                                                refine w_ldc2J (pc' := 426) W140 hx (hw _ (List.mem_of_getElem? w_131)) (hb hby d_method_7_423) rfl ?_
                                                                refine g_lcmp (pc' := 427) W140.here hx (hb hby d_method_7_426) rfl ?_
                                                                by_cases hc427_142 : (0 : Int32) < (lcmpW lo (2147483647 : Int64))
                                                                · refine g_ifN (pc' := 430) W140.here hx (hb hby d_method_7_427) rfl (tlt hc427_142).2.2.2 ?_
                                                                  refine w_ldcI (pc' := 432) W140 hx (hw _ (List.mem_of_getElem? w_0)) (hb hby d_method_7_430) rfl ?_
                                                                  refine w_retI W140 hx hh hlk hret (hb hby d_method_7_432) (Nat.le_of_ble_eq_true rfl) (Nat.le_of_ble_eq_true rfl) ?_
                                                                  refine ⟨congrArg (fun z => some (Value.int z)) ?_, rfl⟩
                                                                  have q := own_nz0 hn hc331_123 hc339_125 hc347_127 hc355_129 hc363_131 hc371_133 hc380_135 hc389_137 hc398_139 hc407_141
                                                                  have t2 : (2147483647 : Int64).toInt = 2147483647 := rfl
                                                                  have lc := c_lcmp lo 2147483647
                                                                  have lf := hc427_142
                                                                  rw [Int32.lt_iff_toInt_lt] at lf
                                                                  have t0 := own_t0
                                                                  rw [own_fin hn hne hd, hv, q, Nat.min_eq_right (by omega)]; rfl
                                                                · refine g_ifY (pc' := 433) W140.here hx (hb hby d_method_7_427) rfl (flt hc427_142).2.2.2 ?_
                                                                  refine g_lloadN (pc' := 434) W140.here hx (hb hby d_method_7_433) rfl rfl ?_
                                                                  refine g_l2i (pc' := 435) W140.here hx (hb hby d_method_7_434) rfl ?_
                                                                  refine w_retI W140 hx hh hlk hret (hb hby d_method_7_435) (Nat.le_of_ble_eq_true rfl) (Nat.le_of_ble_eq_true rfl) ?_
                                                                  refine ⟨congrArg (fun z => some (Value.int z)) ?_, rfl⟩
                                                                  have q := own_nz0 hn hc331_123 hc339_125 hc347_127 hc355_129 hc363_131 hc371_133 hc380_135 hc389_137 hc398_139 hc407_141
                                                                  have t2 : (2147483647 : Int64).toInt = 2147483647 := rfl
                                                                  have lc := c_lcmp lo 2147483647
                                                                  have lf := hc427_142
                                                                  rw [Int32.lt_iff_toInt_lt] at lf
                                                                  have t0 := own_t0
                                                                  rw [own_fin hn hne hd, hv, q, Nat.min_eq_left (by omega)]
                                                                  apply Int32.toInt_inj.mp
                                                                  have c := c_l2i lo
                                                                  have r := rng32 lo.toInt32
                                                                  rw [own_toInt (by omega)]
                                                                  omega
                                                              · refine g_ifN (pc' := 410) W140.here hx (hb hby d_method_7_407) rfl (feq hc407_141).1 ?_
                                                                refine g_iconst (1 : Int32) (pc' := 411) W140.here hx (hb hby d_method_7_410) rfl rfl ?_
                                                                refine g_goto (pc' := 415) W140.here hx (hb hby d_method_7_411) rfl ?_
                                                                refine g_istore (pc' := 417) (Ls' := #[.val (.ref ca), .val (.int cs.length.toInt32), .val (.int (1 : Int32)), .val (.long lo), .second, .val (.int (1 : Int32))]) W140.here hx (hb hby d_method_7_415) rfl rfl ?_
                                                                refine g_iload (pc' := 419) W140.here hx (hb hby d_method_7_417) rfl rfl ?_
                                                                refine g_ifY (pc' := 430) W140.here hx (hb hby d_method_7_419) rfl (feq (show ¬ ((1 : Int32) = (0 : Int32)) from (by decide))).2 ?_
                                                                refine w_ldcI (pc' := 432) W140 hx (hw _ (List.mem_of_getElem? w_0)) (hb hby d_method_7_430) rfl ?_
                                                                refine w_retI W140 hx hh hlk hret (hb hby d_method_7_432) (Nat.le_of_ble_eq_true rfl) (Nat.le_of_ble_eq_true rfl) ?_
                                                                refine ⟨congrArg (fun z => some (Value.int z)) ?_, rfl⟩
                                                                have q := own_nzp hn hd (by decide) hc407_141
                                                                rw [own_fin hn hne hd, hv, Nat.min_eq_right (by omega)]; rfl
                                                            · refine g_ifY (pc' := 410) W138.here hx (hb hby d_method_7_398) rfl (feq hc398_139).2 ?_
                                                              refine g_iconst (1 : Int32) (pc' := 411) W138.here hx (hb hby d_method_7_410) rfl rfl ?_
                                                              refine g_goto (pc' := 415) W138.here hx (hb hby d_method_7_411) rfl ?_
                                                              refine g_istore (pc' := 417) (Ls' := #[.val (.ref ca), .val (.int cs.length.toInt32), .val (.int (1 : Int32)), .val (.long lo), .second, .val (.int (1 : Int32))]) W138.here hx (hb hby d_method_7_415) rfl rfl ?_
                                                              refine g_iload (pc' := 419) W138.here hx (hb hby d_method_7_417) rfl rfl ?_
                                                              refine g_ifY (pc' := 430) W138.here hx (hb hby d_method_7_419) rfl (feq (show ¬ ((1 : Int32) = (0 : Int32)) from (by decide))).2 ?_
                                                              refine w_ldcI (pc' := 432) W138 hx (hw _ (List.mem_of_getElem? w_0)) (hb hby d_method_7_430) rfl ?_
                                                              refine w_retI W138 hx hh hlk hret (hb hby d_method_7_432) (Nat.le_of_ble_eq_true rfl) (Nat.le_of_ble_eq_true rfl) ?_
                                                              refine ⟨congrArg (fun z => some (Value.int z)) ?_, rfl⟩
                                                              have q := own_nzp hn hd (by decide) hc398_139
                                                              rw [own_fin hn hne hd, hv, Nat.min_eq_right (by omega)]; rfl
                                                          · refine g_ifY (pc' := 410) W136.here hx (hb hby d_method_7_389) rfl (feq hc389_137).2 ?_
                                                            refine g_iconst (1 : Int32) (pc' := 411) W136.here hx (hb hby d_method_7_410) rfl rfl ?_
                                                            refine g_goto (pc' := 415) W136.here hx (hb hby d_method_7_411) rfl ?_
                                                            refine g_istore (pc' := 417) (Ls' := #[.val (.ref ca), .val (.int cs.length.toInt32), .val (.int (1 : Int32)), .val (.long lo), .second, .val (.int (1 : Int32))]) W136.here hx (hb hby d_method_7_415) rfl rfl ?_
                                                            refine g_iload (pc' := 419) W136.here hx (hb hby d_method_7_417) rfl rfl ?_
                                                            refine g_ifY (pc' := 430) W136.here hx (hb hby d_method_7_419) rfl (feq (show ¬ ((1 : Int32) = (0 : Int32)) from (by decide))).2 ?_
                                                            refine w_ldcI (pc' := 432) W136 hx (hw _ (List.mem_of_getElem? w_0)) (hb hby d_method_7_430) rfl ?_
                                                            refine w_retI W136 hx hh hlk hret (hb hby d_method_7_432) (Nat.le_of_ble_eq_true rfl) (Nat.le_of_ble_eq_true rfl) ?_
                                                            refine ⟨congrArg (fun z => some (Value.int z)) ?_, rfl⟩
                                                            have q := own_nzp hn hd (by decide) hc389_137
                                                            rw [own_fin hn hne hd, hv, Nat.min_eq_right (by omega)]; rfl
                                                        · refine g_ifY (pc' := 410) W134.here hx (hb hby d_method_7_380) rfl (feq hc380_135).2 ?_
                                                          refine g_iconst (1 : Int32) (pc' := 411) W134.here hx (hb hby d_method_7_410) rfl rfl ?_
                                                          refine g_goto (pc' := 415) W134.here hx (hb hby d_method_7_411) rfl ?_
                                                          refine g_istore (pc' := 417) (Ls' := #[.val (.ref ca), .val (.int cs.length.toInt32), .val (.int (1 : Int32)), .val (.long lo), .second, .val (.int (1 : Int32))]) W134.here hx (hb hby d_method_7_415) rfl rfl ?_
                                                          refine g_iload (pc' := 419) W134.here hx (hb hby d_method_7_417) rfl rfl ?_
                                                          refine g_ifY (pc' := 430) W134.here hx (hb hby d_method_7_419) rfl (feq (show ¬ ((1 : Int32) = (0 : Int32)) from (by decide))).2 ?_
                                                          refine w_ldcI (pc' := 432) W134 hx (hw _ (List.mem_of_getElem? w_0)) (hb hby d_method_7_430) rfl ?_
                                                          refine w_retI W134 hx hh hlk hret (hb hby d_method_7_432) (Nat.le_of_ble_eq_true rfl) (Nat.le_of_ble_eq_true rfl) ?_
                                                          refine ⟨congrArg (fun z => some (Value.int z)) ?_, rfl⟩
                                                          have q := own_nzp hn hd (by decide) hc380_135
                                                          rw [own_fin hn hne hd, hv, Nat.min_eq_right (by omega)]; rfl
                                                      · refine g_ifY (pc' := 410) W132.here hx (hb hby d_method_7_371) rfl (feq hc371_133).2 ?_
                                                        refine g_iconst (1 : Int32) (pc' := 411) W132.here hx (hb hby d_method_7_410) rfl rfl ?_
                                                        refine g_goto (pc' := 415) W132.here hx (hb hby d_method_7_411) rfl ?_
                                                        refine g_istore (pc' := 417) (Ls' := #[.val (.ref ca), .val (.int cs.length.toInt32), .val (.int (1 : Int32)), .val (.long lo), .second, .val (.int (1 : Int32))]) W132.here hx (hb hby d_method_7_415) rfl rfl ?_
                                                        refine g_iload (pc' := 419) W132.here hx (hb hby d_method_7_417) rfl rfl ?_
                                                        refine g_ifY (pc' := 430) W132.here hx (hb hby d_method_7_419) rfl (feq (show ¬ ((1 : Int32) = (0 : Int32)) from (by decide))).2 ?_
                                                        refine w_ldcI (pc' := 432) W132 hx (hw _ (List.mem_of_getElem? w_0)) (hb hby d_method_7_430) rfl ?_
                                                        refine w_retI W132 hx hh hlk hret (hb hby d_method_7_432) (Nat.le_of_ble_eq_true rfl) (Nat.le_of_ble_eq_true rfl) ?_
                                                        refine ⟨congrArg (fun z => some (Value.int z)) ?_, rfl⟩
                                                        have q := own_nzp hn hd (by decide) hc371_133
                                                        rw [own_fin hn hne hd, hv, Nat.min_eq_right (by omega)]; rfl
                                                    · refine g_ifY (pc' := 410) W130.here hx (hb hby d_method_7_363) rfl (feq hc363_131).2 ?_
                                                      refine g_iconst (1 : Int32) (pc' := 411) W130.here hx (hb hby d_method_7_410) rfl rfl ?_
                                                      refine g_goto (pc' := 415) W130.here hx (hb hby d_method_7_411) rfl ?_
                                                      refine g_istore (pc' := 417) (Ls' := #[.val (.ref ca), .val (.int cs.length.toInt32), .val (.int (1 : Int32)), .val (.long lo), .second, .val (.int (1 : Int32))]) W130.here hx (hb hby d_method_7_415) rfl rfl ?_
                                                      refine g_iload (pc' := 419) W130.here hx (hb hby d_method_7_417) rfl rfl ?_
                                                      refine g_ifY (pc' := 430) W130.here hx (hb hby d_method_7_419) rfl (feq (show ¬ ((1 : Int32) = (0 : Int32)) from (by decide))).2 ?_
                                                      refine w_ldcI (pc' := 432) W130 hx (hw _ (List.mem_of_getElem? w_0)) (hb hby d_method_7_430) rfl ?_
                                                      refine w_retI W130 hx hh hlk hret (hb hby d_method_7_432) (Nat.le_of_ble_eq_true rfl) (Nat.le_of_ble_eq_true rfl) ?_
                                                      refine ⟨congrArg (fun z => some (Value.int z)) ?_, rfl⟩
                                                      have q := own_nzp hn hd (by decide) hc363_131
                                                      rw [own_fin hn hne hd, hv, Nat.min_eq_right (by omega)]; rfl
                                                  · refine g_ifY (pc' := 410) W128.here hx (hb hby d_method_7_355) rfl (feq hc355_129).2 ?_
                                                    refine g_iconst (1 : Int32) (pc' := 411) W128.here hx (hb hby d_method_7_410) rfl rfl ?_
                                                    refine g_goto (pc' := 415) W128.here hx (hb hby d_method_7_411) rfl ?_
                                                    refine g_istore (pc' := 417) (Ls' := #[.val (.ref ca), .val (.int cs.length.toInt32), .val (.int (1 : Int32)), .val (.long lo), .second, .val (.int (1 : Int32))]) W128.here hx (hb hby d_method_7_415) rfl rfl ?_
                                                    refine g_iload (pc' := 419) W128.here hx (hb hby d_method_7_417) rfl rfl ?_
                                                    refine g_ifY (pc' := 430) W128.here hx (hb hby d_method_7_419) rfl (feq (show ¬ ((1 : Int32) = (0 : Int32)) from (by decide))).2 ?_
                                                    refine w_ldcI (pc' := 432) W128 hx (hw _ (List.mem_of_getElem? w_0)) (hb hby d_method_7_430) rfl ?_
                                                    refine w_retI W128 hx hh hlk hret (hb hby d_method_7_432) (Nat.le_of_ble_eq_true rfl) (Nat.le_of_ble_eq_true rfl) ?_
                                                    refine ⟨congrArg (fun z => some (Value.int z)) ?_, rfl⟩
                                                    have q := own_nzp hn hd (by decide) hc355_129
                                                    rw [own_fin hn hne hd, hv, Nat.min_eq_right (by omega)]; rfl
                                                · refine g_ifY (pc' := 410) W126.here hx (hb hby d_method_7_347) rfl (feq hc347_127).2 ?_
                                                  refine g_iconst (1 : Int32) (pc' := 411) W126.here hx (hb hby d_method_7_410) rfl rfl ?_
                                                  refine g_goto (pc' := 415) W126.here hx (hb hby d_method_7_411) rfl ?_
                                                  refine g_istore (pc' := 417) (Ls' := #[.val (.ref ca), .val (.int cs.length.toInt32), .val (.int (1 : Int32)), .val (.long lo), .second, .val (.int (1 : Int32))]) W126.here hx (hb hby d_method_7_415) rfl rfl ?_
                                                  refine g_iload (pc' := 419) W126.here hx (hb hby d_method_7_417) rfl rfl ?_
                                                  refine g_ifY (pc' := 430) W126.here hx (hb hby d_method_7_419) rfl (feq (show ¬ ((1 : Int32) = (0 : Int32)) from (by decide))).2 ?_
                                                  refine w_ldcI (pc' := 432) W126 hx (hw _ (List.mem_of_getElem? w_0)) (hb hby d_method_7_430) rfl ?_
                                                  refine w_retI W126 hx hh hlk hret (hb hby d_method_7_432) (Nat.le_of_ble_eq_true rfl) (Nat.le_of_ble_eq_true rfl) ?_
                                                  refine ⟨congrArg (fun z => some (Value.int z)) ?_, rfl⟩
                                                  have q := own_nzp hn hd (by decide) hc347_127
                                                  rw [own_fin hn hne hd, hv, Nat.min_eq_right (by omega)]; rfl
                                              · refine g_ifY (pc' := 410) W124.here hx (hb hby d_method_7_339) rfl (feq hc339_125).2 ?_
                                                refine g_iconst (1 : Int32) (pc' := 411) W124.here hx (hb hby d_method_7_410) rfl rfl ?_
                                                refine g_goto (pc' := 415) W124.here hx (hb hby d_method_7_411) rfl ?_
                                                refine g_istore (pc' := 417) (Ls' := #[.val (.ref ca), .val (.int cs.length.toInt32), .val (.int (1 : Int32)), .val (.long lo), .second, .val (.int (1 : Int32))]) W124.here hx (hb hby d_method_7_415) rfl rfl ?_
                                                refine g_iload (pc' := 419) W124.here hx (hb hby d_method_7_417) rfl rfl ?_
                                                refine g_ifY (pc' := 430) W124.here hx (hb hby d_method_7_419) rfl (feq (show ¬ ((1 : Int32) = (0 : Int32)) from (by decide))).2 ?_
                                                refine w_ldcI (pc' := 432) W124 hx (hw _ (List.mem_of_getElem? w_0)) (hb hby d_method_7_430) rfl ?_
                                                refine w_retI W124 hx hh hlk hret (hb hby d_method_7_432) (Nat.le_of_ble_eq_true rfl) (Nat.le_of_ble_eq_true rfl) ?_
                                                refine ⟨congrArg (fun z => some (Value.int z)) ?_, rfl⟩
                                                have q := own_nzp hn hd (by decide) hc339_125
                                                rw [own_fin hn hne hd, hv, Nat.min_eq_right (by omega)]; rfl
                                            · refine g_ifY (pc' := 410) W122.here hx (hb hby d_method_7_331) rfl (feq hc331_123).2 ?_
                                              refine g_iconst (1 : Int32) (pc' := 411) W122.here hx (hb hby d_method_7_410) rfl rfl ?_
                                              refine g_goto (pc' := 415) W122.here hx (hb hby d_method_7_411) rfl ?_
                                              refine g_istore (pc' := 417) (Ls' := #[.val (.ref ca), .val (.int cs.length.toInt32), .val (.int (1 : Int32)), .val (.long lo), .second, .val (.int (1 : Int32))]) W122.here hx (hb hby d_method_7_415) rfl rfl ?_
                                              refine g_iload (pc' := 419) W122.here hx (hb hby d_method_7_417) rfl rfl ?_
                                              refine g_ifY (pc' := 430) W122.here hx (hb hby d_method_7_419) rfl (feq (show ¬ ((1 : Int32) = (0 : Int32)) from (by decide))).2 ?_
                                              refine w_ldcI (pc' := 432) W122 hx (hw _ (List.mem_of_getElem? w_0)) (hb hby d_method_7_430) rfl ?_
                                              refine w_retI W122 hx hh hlk hret (hb hby d_method_7_432) (Nat.le_of_ble_eq_true rfl) (Nat.le_of_ble_eq_true rfl) ?_
                                              refine ⟨congrArg (fun z => some (Value.int z)) ?_, rfl⟩
                                              have q := own_nzp hn hd (by decide) hc331_123
                                              rw [own_fin hn hne hd, hv, Nat.min_eq_right (by omega)]; rfl
set_option maxRecDepth 65536 in
set_option maxHeartbeats 40000000 in
theorem c_empty (l : Launch) (Z : State) (a0 : Array Value) (hw : ∀ d ∈ tables_1, d.before a0 Z = true) (hE : EW Z a0 consts_1) (oE : Nat) (h0 : Heap) (O : Ext Z.heap h0) (S_E : Sta Z Z.heap "java/util/OptionalInt" "EMPTY" "Ljava/util/OptionalInt;" (.ref oE)) (X_E : Exa Z Z.heap oE "java/util/OptionalInt") (P_E : Fld Z Z.heap oE "java/util/OptionalInt" "isPresent" "Z" (.int 0)) (V_E : Fld Z Z.heap oE "java/util/OptionalInt" "value" "I" (.int 0))  :
    Con l Z consts_1 (⟨"java/util/OptionalInt", "empty", "()Ljava/util/OptionalInt;"⟩ : MethodName) jdk_2649_method_2_code 0 (Option.some (Jvm.ClassFile.FieldType.object "java/util/OptionalInt")) ({ frames := 0, cells := 0, slots := 0, locals := 0 } : Room) #[] h0 [] (pureQ (some (.ref oE)) h0) := by
  refine Con.of (a0 := a0) #[] (plainFor_of_name pn_5) hE O all0 (fun m => by first | (simp [entryFrame, mkF, argsToLocals, Value.category]; done) | rfl) ?_
  intro p e s m below meth c T0 hx hby hml hnm hret hlk hh W0
  refine w_getS (pc' := 3) W0 hx (hw _ (List.mem_of_getElem? w_40)) Via.refl S_E (hb hby d_jdk_2649_2_0) rfl fun T143 W143 => ?_
  refine w_retA W143 hx hh hlk hret rfl rfl (hb hby d_jdk_2649_2_3) (Nat.le_of_ble_eq_true rfl) (Nat.le_of_ble_eq_true rfl) ?_
  exact ⟨rfl, rfl⟩
set_option maxRecDepth 65536 in
set_option maxHeartbeats 40000000 in
theorem c_oinit (l : Launch) (Z : State) (a0 : Array Value) (hw : ∀ d ∈ tables_1, d.before a0 Z = true) (hE : EW Z a0 consts_1) (o : Nat) (xv : Int32) (h0 : Heap) (O : Ext Z.heap h0) (hz : Z.heap.size ≤ o) (E0 : Exa Z h0 o "java/util/OptionalInt") (u1 u2 : Value) (F1 : Fld Z h0 o "java/util/OptionalInt" "isPresent" "Z" u1) (F2 : Fld Z h0 o "java/util/OptionalInt" "value" "I" u2) :
    Con l Z consts_1 (⟨"java/util/OptionalInt", "<init>", "(I)V"⟩ : MethodName) jdk_2649_method_3_code 2 (Option.none : Option Jvm.ClassFile.FieldType) ({ frames := 1, cells := 0, slots := 0, locals := 12 } : Room) #[(.ref o), (.int xv)] h0 [o] (fun v h => v = none ∧ Exa Z h o "java/util/OptionalInt" ∧ Fld Z h o "java/util/OptionalInt" "isPresent" "Z" (.int 1) ∧ Fld Z h o "java/util/OptionalInt" "value" "I" (.int xv)) := by
  refine Con.of (a0 := a0) #[.val (.ref o), .val (.int xv)] (plainFor_of_name pn_5) hE O (allS ⟨hz, E0.lt⟩ all0) (fun m => by first | (simp [entryFrame, mkF, argsToLocals, Value.category]; done) | rfl) ?_
  intro p e s m below meth c T0 hx hby hml hnm hret hlk hh W0
  refine g_aloadN (pc' := 1) W0.here hx (hb hby d_jdk_2649_3_0) rfl rfl rfl ?_
  refine w_initO (pc' := 4) W0 hx (hw _ (List.mem_of_getElem? w_113)) (hw _ (List.mem_of_getElem? w_17)) (hw _ (List.mem_of_getElem? w_18)) (by rw [hml]; rfl) (hb hby d_jdk_2649_3_1) (Nat.le_of_ble_eq_true rfl) (Nat.le_of_ble_eq_true rfl) rfl fun T144 W144 => ?_
  refine g_aloadN (pc' := 5) W144.here hx (hb hby d_jdk_2649_3_4) rfl rfl rfl ?_
  refine g_iconst (1 : Int32) (pc' := 6) W144.here hx (hb hby d_jdk_2649_3_5) rfl rfl ?_
  refine w_putN (pc' := 9) (v' := (.int (1 : Int32))) W144 hx (hw _ (List.mem_of_getElem? w_46)) Via.refl F1 E0 (Or.inr ⟨(hw _ (List.mem_of_getElem? w_47)), rfl, hnm⟩) (hw _ (List.mem_of_getElem? w_108)) (ty := .boolean) (by decide) rfl rfl (List.mem_of_getElem? (i := 0) rfl) (hb hby d_jdk_2649_3_6) rfl fun T145 h145 W145 K145 R145 F145 A145 => ?_
  have z_K145 : h0.size ≤ h145.size := K145.1
  have c146 := (F2.other R145 (Or.inr (slot_ne (Or.inr (hw _ (List.mem_of_getElem? w_115))) (Or.inr (hw _ (List.mem_of_getElem? w_47))) (by decide) (t := .int) (t' := .boolean) (by decide) (by decide))))
  refine g_aloadN (pc' := 10) W145.here hx (hb hby d_jdk_2649_3_9) rfl rfl rfl ?_
  refine g_iloadN (pc' := 11) W145.here hx (hb hby d_jdk_2649_3_10) rfl rfl ?_
  refine w_put (pc' := 14) W145 hx (hw _ (List.mem_of_getElem? w_114)) Via.refl c146 A145 (Or.inr ⟨(hw _ (List.mem_of_getElem? w_115)), rfl, hnm⟩) (hw _ (List.mem_of_getElem? w_108)) (ty := .int) (by decide) rfl rfl (List.mem_of_getElem? (i := 0) rfl) (hb hby d_jdk_2649_3_11) rfl fun T147 h147 W147 K147 R147 F147 A147 => ?_
  have z_K147 : h145.size ≤ h147.size := K147.1
  have c148 := (F145.other R147 (Or.inr (slot_ne (Or.inr (hw _ (List.mem_of_getElem? w_47))) (Or.inr (hw _ (List.mem_of_getElem? w_115))) (by decide) (t := .boolean) (t' := .int) (by decide) (by decide))))
  refine w_retV W147 hx hh hlk hret (hb hby d_jdk_2649_3_14) (Nat.le_of_ble_eq_true rfl) (Nat.le_of_ble_eq_true rfl) ?_
  exact ⟨rfl, A147, c148, F147⟩
set_option maxRecDepth 65536 in
set_option maxHeartbeats 40000000 in
theorem c_of (l : Launch) (Z : State) (a0 : Array Value) (hw : ∀ d ∈ tables_1, d.before a0 Z = true) (hE : EW Z a0 consts_1) (xv : Int32) (h0 : Heap) (O : Ext Z.heap h0)  :
    Con l Z consts_1 (⟨"java/util/OptionalInt", "of", "(I)Ljava/util/OptionalInt;"⟩ : MethodName) jdk_2649_method_4_code 1 (Option.some (Jvm.ClassFile.FieldType.object "java/util/OptionalInt")) ({ frames := 2, cells := 1, slots := 2, locals := 26 } : Room) #[(.int xv)] h0 [] (fun v h => ∃ o : Nat, v = some (.ref o) ∧ Exa Z h o "java/util/OptionalInt" ∧ Fld Z h o "java/util/OptionalInt" "isPresent" "Z" (.int 1) ∧ Fld Z h o "java/util/OptionalInt" "value" "I" (.int xv)) := by
  refine Con.of (a0 := a0) #[.val (.int xv)] (plainFor_of_name pn_5) hE O all0 (fun m => by first | (simp [entryFrame, mkF, argsToLocals, Value.category]; done) | rfl) ?_
  intro p e s m below meth c T0 hx hby hml hnm hret hlk hh W0
  refine w_new (pc' := 3) W0 hx (hw _ (List.mem_of_getElem? w_107)) (hw _ (List.mem_of_getElem? w_108)) (hw _ (List.mem_of_getElem? w_38)) (hb hby d_jdk_2649_4_0) (Nat.le_of_ble_eq_true rfl) (Nat.le_of_ble_eq_true rfl) rfl fun T149 h149 b149 g149 W149 K149 A149 D149 => ?_
  have z_K149 : h0.size ≤ h149.size := K149.1
  have lt_b149 : b149 < h149.size := W149.lt (List.mem_cons_self ..)
  have F149_isPresent : Fld Z h149 b149 "java/util/OptionalInt" "isPresent" "Z" (.int (0 : Int32)) := D149 (Or.inr (hw _ (List.mem_of_getElem? w_47))) (ty := .boolean) (by decide)
  have F149_value : Fld Z h149 b149 "java/util/OptionalInt" "value" "I" (.int (0 : Int32)) := D149 (Or.inr (hw _ (List.mem_of_getElem? w_115))) (ty := .int) (by decide)
  refine g_dup (pc' := 4) W149.here hx (hb hby d_jdk_2649_4_3) rfl rfl ?_
  refine g_iloadN (pc' := 5) W149.here hx (hb hby d_jdk_2649_4_4) rfl rfl ?_
  refine w_special (pc' := 8) (st := [(.ref b149)]) (y := (⟨"java/util/OptionalInt", "<init>", "(I)V"⟩ : MethodName)) (a := b149) W149 hx [(.int xv)] rfl (hw _ (List.mem_of_getElem? w_109)) (hw _ (List.mem_of_getElem? w_110)) (hw _ (List.mem_of_getElem? w_38)) (hw _ (List.mem_of_getElem? w_112)) (by decide) (c_oinit l Z a0 hw hE b149 xv h149 W149.old (by have := O.1; omega) A149 _ _ F149_isPresent F149_value) (allS (List.mem_of_getElem? (i := 0) rfl) all0) (by rw [hml]; rfl) (lenOf pd_11 rfl) rfl (hb hby d_jdk_2649_4_5) (Nat.le_of_ble_eq_true rfl) (Nat.le_of_ble_eq_true rfl) (Nat.le_of_ble_eq_true rfl) (Nat.le_of_ble_eq_true rfl) rfl fun v150 T150 h150 W150 K150 Q150 => ?_
  have z_K150 : h149.size ≤ h150.size := K150.1
  obtain ⟨rfl, E151, P151, V151⟩ := Q150
  refine w_retA W150 hx hh hlk hret rfl rfl (hb hby d_jdk_2649_4_8) (Nat.le_of_ble_eq_true rfl) (Nat.le_of_ble_eq_true rfl) ?_
  exact ⟨_, rfl, E151, P151, V151⟩
set_option maxRecDepth 65536 in
set_option maxHeartbeats 40000000 in
theorem c_orElse0 (l : Launch) (Z : State) (a0 : Array Value) (hw : ∀ d ∈ tables_1, d.before a0 Z = true) (hE : EW Z a0 consts_1) (o : Nat) (xv xe : Int32) (h0 : Heap) (O : Ext Z.heap h0) (F1 : Fld Z h0 o "java/util/OptionalInt" "isPresent" "Z" (.int 0)) (F2 : Fld Z h0 o "java/util/OptionalInt" "value" "I" (.int xv)) :
    Con l Z consts_1 (⟨"java/util/OptionalInt", "orElse", "(I)I"⟩ : MethodName) jdk_2649_method_11_code 2 (Option.some Jvm.ClassFile.FieldType.int) ({ frames := 0, cells := 0, slots := 0, locals := 0 } : Room) #[(.ref o), (.int xe)] h0 [] (pureQ (some (.int xe)) h0) := by
  refine Con.of (a0 := a0) #[.val (.ref o), .val (.int xe)] (plainFor_of_name pn_5) hE O all0 (fun m => by first | (simp [entryFrame, mkF, argsToLocals, Value.category]; done) | rfl) ?_
  intro p e s m below meth c T0 hx hby hml hnm hret hlk hh W0
  refine g_aloadN (pc' := 1) W0.here hx (hb hby d_jdk_2649_11_0) rfl rfl rfl ?_
  refine w_get (pc' := 4) W0 hx (hw _ (List.mem_of_getElem? w_46)) Via.refl F1 (hb hby d_jdk_2649_11_1) rfl fun T152 W152 => ?_
  refine g_ifY (pc' := 14) W152.here hx (hb hby d_jdk_2649_11_4) rfl (teq (show (0 : Int32) = (0 : Int32) from (by decide))).1 ?_
  refine g_iloadN (pc' := 15) W152.here hx (hb hby d_jdk_2649_11_14) rfl rfl ?_
  refine w_retI W152 hx hh hlk hret (hb hby d_jdk_2649_11_15) (Nat.le_of_ble_eq_true rfl) (Nat.le_of_ble_eq_true rfl) ?_
  exact ⟨rfl, rfl⟩
set_option maxRecDepth 65536 in
set_option maxHeartbeats 40000000 in
theorem c_orElse1 (l : Launch) (Z : State) (a0 : Array Value) (hw : ∀ d ∈ tables_1, d.before a0 Z = true) (hE : EW Z a0 consts_1) (o : Nat) (xv xe : Int32) (h0 : Heap) (O : Ext Z.heap h0) (F1 : Fld Z h0 o "java/util/OptionalInt" "isPresent" "Z" (.int 1)) (F2 : Fld Z h0 o "java/util/OptionalInt" "value" "I" (.int xv)) :
    Con l Z consts_1 (⟨"java/util/OptionalInt", "orElse", "(I)I"⟩ : MethodName) jdk_2649_method_11_code 2 (Option.some Jvm.ClassFile.FieldType.int) ({ frames := 0, cells := 0, slots := 0, locals := 0 } : Room) #[(.ref o), (.int xe)] h0 [] (pureQ (some (.int xv)) h0) := by
  refine Con.of (a0 := a0) #[.val (.ref o), .val (.int xe)] (plainFor_of_name pn_5) hE O all0 (fun m => by first | (simp [entryFrame, mkF, argsToLocals, Value.category]; done) | rfl) ?_
  intro p e s m below meth c T0 hx hby hml hnm hret hlk hh W0
  refine g_aloadN (pc' := 1) W0.here hx (hb hby d_jdk_2649_11_0) rfl rfl rfl ?_
  refine w_get (pc' := 4) W0 hx (hw _ (List.mem_of_getElem? w_46)) Via.refl F1 (hb hby d_jdk_2649_11_1) rfl fun T153 W153 => ?_
  refine g_ifN (pc' := 7) W153.here hx (hb hby d_jdk_2649_11_4) rfl (feq (show ¬ ((1 : Int32) = (0 : Int32)) from (by decide))).1 ?_
  refine g_aloadN (pc' := 8) W153.here hx (hb hby d_jdk_2649_11_7) rfl rfl rfl ?_
  refine w_get (pc' := 11) W153 hx (hw _ (List.mem_of_getElem? w_114)) Via.refl F2 (hb hby d_jdk_2649_11_8) rfl fun T154 W154 => ?_
  refine g_goto (pc' := 15) W154.here hx (hb hby d_jdk_2649_11_11) rfl ?_
  refine w_retI W154 hx hh hlk hret (hb hby d_jdk_2649_11_15) (Nat.le_of_ble_eq_true rfl) (Nat.le_of_ble_eq_true rfl) ?_
  exact ⟨rfl, rfl⟩
theorem own_lcg {x y : Int64} : (0 : Int32) < lcmpW x y ↔ y.toInt < x.toInt := by
  have q := c_lcmp x y
  rw [Int32.lt_iff_toInt_lt]
  have t := own_t0
  omega
set_option maxRecDepth 65536 in
set_option maxHeartbeats 40000000 in
theorem c_minJ (l : Launch) (Z : State) (a0 : Array Value) (hw : ∀ d ∈ tables_1, d.before a0 Z = true) (hE : EW Z a0 consts_1) (ya yb : Int64) (h0 : Heap) (O : Ext Z.heap h0)  :
    Con l Z consts_1 (⟨"java/lang/Math", "min", "(JJ)J"⟩ : MethodName) jdk_29_method_70_code 4 (Option.some Jvm.ClassFile.FieldType.long) ({ frames := 0, cells := 0, slots := 0, locals := 0 } : Room) #[(.long ya), (.long yb)] h0 [] (pureQ (some (.long (if yb.toInt < ya.toInt then yb else ya))) h0) := by
  refine Con.of (a0 := a0) #[.val (.long ya), .second, .val (.long yb), .second] (Jvm.Free.JP.mathPlain rfl (by decide +kernel)) hE O all0 (fun m => by first | (simp [entryFrame, mkF, argsToLocals, Value.category]; done) | rfl) ?_
  intro p e s m below meth c T0 hx hby hml hnm hret hlk hh W0
  refine g_lloadN (pc' := 1) W0.here hx (hb hby d_jdk_29_70_0) rfl rfl ?_
  refine g_lloadN (pc' := 2) W0.here hx (hb hby d_jdk_29_70_1) rfl rfl ?_
  refine g_lcmp (pc' := 3) W0.here hx (hb hby d_jdk_29_70_2) rfl ?_
  by_cases hc3_155 : (0 : Int32) < (lcmpW ya yb)
  · refine g_ifY (pc' := 10) W0.here hx (hb hby d_jdk_29_70_3) rfl (tlt hc3_155).2.2.1 ?_
    refine g_lloadN (pc' := 11) W0.here hx (hb hby d_jdk_29_70_10) rfl rfl ?_
    refine w_retJ W0 hx hh hlk hret (hb hby d_jdk_29_70_11) (Nat.le_of_ble_eq_true rfl) (Nat.le_of_ble_eq_true rfl) ?_
    exact ⟨by rw [if_pos (own_lcg.mp hc3_155)], rfl⟩
  · refine g_ifN (pc' := 6) W0.here hx (hb hby d_jdk_29_70_3) rfl (flt hc3_155).2.2.1 ?_
    refine g_lloadN (pc' := 7) W0.here hx (hb hby d_jdk_29_70_6) rfl rfl ?_
    refine g_goto (pc' := 11) W0.here hx (hb hby d_jdk_29_70_7) rfl ?_
    refine w_retJ W0 hx hh hlk hret (hb hby d_jdk_29_70_11) (Nat.le_of_ble_eq_true rfl) (Nat.le_of_ble_eq_true rfl) ?_
    exact ⟨by rw [if_neg (fun q => hc3_155 (own_lcg.mpr q))], rfl⟩
theorem own_if1 {cs : List Int32} (h : ¬ (if cs = [] then (1 : Int32) else 0) = (0 : Int32)) : cs = [] := by
  by_cases q : cs = []
  · exact q
  · rw [if_neg q] at h; exact absurd rfl h
theorem own_if0 {cs : List Int32} (h : (if cs = [] then (1 : Int32) else 0) = (0 : Int32)) : ¬ cs = [] := fun q => by rw [if_pos q] at h; exact absurd h (by decide)
set_option maxRecDepth 65536 in
set_option maxHeartbeats 40000000 in
theorem c_read (l : Launch) (Z : State) (a0 : Array Value) (hw : ∀ d ∈ tables_1, d.before a0 Z = true) (hE : EW Z a0 consts_1) (cc : Int32) (fm : Value) (a b oE : Nat) (cs : List Int32) (h0 : Heap) (O : Ext Z.heap h0) (G : SEnv Z cc fm) (S_E : Sta Z Z.heap "java/util/OptionalInt" "EMPTY" "Ljava/util/OptionalInt;" (.ref oE)) (X_E : Exa Z Z.heap oE "java/util/OptionalInt") (P_E : Fld Z Z.heap oE "java/util/OptionalInt" "isPresent" "Z" (.int 0)) (V_E : Fld Z Z.heap oE "java/util/OptionalInt" "value" "I" (.int 0)) (S0 : SL Z h0 a b cs) (hl20 : cs.length ≤ 20) :
    Con l Z consts_1 (⟨"com/example/despatch/despatch/fhir/WholeNumber", "read", "(Ljava/lang/String;)Ljava/util/OptionalInt;"⟩ : MethodName) prog_2_method_2_code 5 (Option.some (Jvm.ClassFile.FieldType.object "java/util/OptionalInt")) ({ frames := 4, cells := 1, slots := 2, locals := 53 } : Room) #[(.ref a)] h0 [] (fun v h => ∃ (o : Nat) (pr vv : Int32), v = some (.ref o) ∧ Exa Z h o "java/util/OptionalInt" ∧ Fld Z h o "java/util/OptionalInt" "isPresent" "Z" (.int pr) ∧ Fld Z h o "java/util/OptionalInt" "value" "I" (.int vv) ∧ ((pr = 0 ∧ resI cs = -1) ∨ (pr = 1 ∧ vv = resI cs))) := by
  refine Con.of (a0 := a0) #[.val (.ref a), .unset, .unset, .unset, .unset] (plainFor_of_name pn_6) hE O all0 (fun m => by first | (simp [entryFrame, mkF, argsToLocals, Value.category]; done) | rfl) ?_
  intro p e s m below meth c T0 hx hby hml hnm hret hlk hh W0
  have ES0 := S0.1
  have lt_a : a < h0.size := S0.lt
  have lt_b : b < h0.size := S0.ltb
  have hlen : cs.length < 2 ^ 31 := by omega
  refine g_aloadN (pc' := 1) W0.here hx (hb hby d_prog_2_2_0) rfl rfl rfl ?_
  refine w_virtualp (pc' := 4) (st := []) (y := (⟨"java/lang/String", "isEmpty", "()Z"⟩ : MethodName)) (z := (⟨"java/lang/String", "isEmpty", "()Z"⟩ : MethodName)) (a := a) W0 hx [] (hw _ (List.mem_of_getElem? w_31)) (hw _ (List.mem_of_getElem? w_32)) (nfS (z := (⟨"java/lang/String", "isEmpty", "()Z"⟩ : MethodName)) (hw _ (List.mem_of_getElem? w_34))) (hw _ (List.mem_of_getElem? w_34)) (hw _ (List.mem_of_getElem? w_33)) (hw _ (List.mem_of_getElem? w_8)) (hw _ (List.mem_of_getElem? w_35)) (by decide) (c_isEmpty l Z a0 hw hE cc fm a b cs  h0 W0.old G S0 ) ES0 (by rw [hml]; rfl) (lenOf pd_7 rfl) rfl (hb hby d_prog_2_2_1) (Nat.le_of_ble_eq_true rfl) (Nat.le_of_ble_eq_true rfl) rfl rfl (Nat.le_of_ble_eq_true rfl) (Nat.le_of_ble_eq_true rfl) rfl fun T156 W156 => ?_
  by_cases hc4_157 : (if cs = [] then (1 : Int32) else 0) = (0 : Int32)
  · refine g_ifY (pc' := 11) W156.here hx (hb hby d_prog_2_2_4) rfl (teq hc4_157).1 ?_
    refine g_lconst (0 : Int64) (pc' := 12) W156.here hx (hb hby d_prog_2_2_11) rfl rfl ?_
    refine g_name (w := .long (accL cs 0)) rfl ?_
    refine g_lstoreN (pc' := 13) (Ls' := #[.val (.ref a), .val (.long (accL cs 0)), .second, .unset, .unset]) W156.here hx (hb hby d_prog_2_2_12) rfl rfl ?_
    refine g_iconst (0 : Int32) (pc' := 14) W156.here hx (hb hby d_prog_2_2_13) rfl rfl ?_
    refine g_istoreN (pc' := 15) (Ls' := #[.val (.ref a), .val (.long (accL cs 0)), .second, .val (.int (0 : Int32)), .unset]) W156.here hx (hb hby d_prog_2_2_14) rfl rfl ?_
    have LOOP : ∀ (k i : Nat), i + k = cs.length → ∀ (TL : State) (o4 : Slot), One o4 → Wk p l e ({ frames := 4, cells := 1, slots := 2, locals := 53 } : Room) s m #[(.ref a)] below meth c Z consts_1 "com/example/despatch/despatch/fhir/WholeNumber" [] [] TL h0 0 0 → (∀ c ∈ cs.take i, isd c) → Gets p.tables e below (Post s Z consts_1 ({ frames := 4, cells := 1, slots := 2, locals := 53 } : Room) h0 [] (fun v h => ∃ (o : Nat) (pr vv : Int32), v = some (.ref o) ∧ Exa Z h o "java/util/OptionalInt" ∧ Fld Z h o "java/util/OptionalInt" "isPresent" "Z" (.int pr) ∧ Fld Z h o "java/util/OptionalInt" "value" "I" (.int vv) ∧ ((pr = 0 ∧ resI cs = -1) ∨ (pr = 1 ∧ vv = resI cs)))) TL (mkF m 15 #[.val (.ref a), .val (.long (accL cs i)), .second, .val (.int i.toInt32), o4] []) := by
      intro k
      induction k with
      | zero =>
        intro i hi TL o4 ho_o4 WL HP
        refine g_iloadN (pc' := 16) WL.here hx (hb hby d_prog_2_2_15) rfl rfl ?_
        refine g_aloadN (pc' := 17) WL.here hx (hb hby d_prog_2_2_16) rfl rfl rfl ?_
        refine w_virtualp (pc' := 20) (st := [(.int i.toInt32)]) (y := (⟨"java/lang/String", "length", "()I"⟩ : MethodName)) (z := (⟨"java/lang/String", "length", "()I"⟩ : MethodName)) (a := a) WL hx [] (hw _ (List.mem_of_getElem? w_63)) (hw _ (List.mem_of_getElem? w_64)) (nfS (z := (⟨"java/lang/String", "length", "()I"⟩ : MethodName)) (hw _ (List.mem_of_getElem? w_66))) (hw _ (List.mem_of_getElem? w_66)) (hw _ (List.mem_of_getElem? w_65)) (hw _ (List.mem_of_getElem? w_8)) (hw _ (List.mem_of_getElem? w_67)) (by decide) (c_length l Z a0 hw hE cc fm a b cs  h0 WL.old G S0 ) ES0 (by rw [hml]; rfl) (lenOf pd_12 rfl) rfl (hb hby d_prog_2_2_17) (Nat.le_of_ble_eq_true rfl) (Nat.le_of_ble_eq_true rfl) rfl rfl (Nat.le_of_ble_eq_true rfl) (Nat.le_of_ble_eq_true rfl) rfl fun T158 W158 => ?_
        refine g_icmpY (pc' := 73) W158.here hx (hb hby d_prog_2_2_20) rfl (flt (show ¬ (i.toInt32 < cs.length.toInt32) from (own_nltn (by omega) (by omega)))).2.1 ?_
        refine g_lloadN (pc' := 74) W158.here hx (hb hby d_prog_2_2_73) rfl rfl ?_
        refine g_l2i (pc' := 75) W158.here hx (hb hby d_prog_2_2_74) rfl ?_
        refine w_callS (pc' := 78) (st := []) (y := (⟨"java/util/OptionalInt", "of", "(I)Ljava/util/OptionalInt;"⟩ : MethodName)) W158 hx [(.int ((accL cs i).toInt32))] (hw _ (List.mem_of_getElem? w_104)) (hw _ (List.mem_of_getElem? w_105)) (hw _ (List.mem_of_getElem? w_38)) (hw _ (List.mem_of_getElem? w_106)) (by decide) (c_of l Z a0 hw hE ((accL cs i).toInt32) h0 W158.old) all0 (by rw [hml]; rfl) (lenOf pd_13 rfl) rfl (hb hby d_prog_2_2_75) (Nat.le_of_ble_eq_true rfl) (Nat.le_of_ble_eq_true rfl) (Nat.le_of_ble_eq_true rfl) (Nat.le_of_ble_eq_true rfl) rfl fun v159 T159 h159 W159 K159 Q159 => ?_
        have z_K159 : h0.size ≤ h159.size := K159.1
        obtain ⟨o160, rfl, E160, P160, V160⟩ := Q159
        refine w_retA W159 hx hh hlk hret rfl rfl (hb hby d_prog_2_2_78) (Nat.le_of_ble_eq_true rfl) (Nat.le_of_ble_eq_true rfl) ?_
        have e1 : i = cs.length := by omega
        subst e1
        rw [List.take_of_length_le (Nat.le_refl _)] at HP
        refine ⟨_, _, _, rfl, E160, P160, V160, Or.inr ⟨rfl, ?_⟩⟩
        rw [own_fin hl20 (own_if0 hc4_157) HP]
        apply Int32.toInt_inj.mp
        have q := accL_toInt cs cs.length
        rw [List.take_of_length_le (Nat.le_refl _)] at q
        have c := c_l2i (accL cs cs.length)
        have r := rng32 (accL cs cs.length).toInt32
        rw [own_toInt (by omega)]
        omega
      | succ k ih =>
        intro i hi TL o4 ho_o4 WL HP
        have hi2 : i < cs.length := by omega
        obtain ⟨ci, hci⟩ : ∃ z, cs[i]? = some z := ⟨_, List.getElem?_eq_getElem hi2⟩
        refine g_iloadN (pc' := 16) WL.here hx (hb hby d_prog_2_2_15) rfl rfl ?_
        refine g_aloadN (pc' := 17) WL.here hx (hb hby d_prog_2_2_16) rfl rfl rfl ?_
        refine w_virtualp (pc' := 20) (st := [(.int i.toInt32)]) (y := (⟨"java/lang/String", "length", "()I"⟩ : MethodName)) (z := (⟨"java/lang/String", "length", "()I"⟩ : MethodName)) (a := a) WL hx [] (hw _ (List.mem_of_getElem? w_63)) (hw _ (List.mem_of_getElem? w_64)) (nfS (z := (⟨"java/lang/String", "length", "()I"⟩ : MethodName)) (hw _ (List.mem_of_getElem? w_66))) (hw _ (List.mem_of_getElem? w_66)) (hw _ (List.mem_of_getElem? w_65)) (hw _ (List.mem_of_getElem? w_8)) (hw _ (List.mem_of_getElem? w_67)) (by decide) (c_length l Z a0 hw hE cc fm a b cs  h0 WL.old G S0 ) ES0 (by rw [hml]; rfl) (lenOf pd_12 rfl) rfl (hb hby d_prog_2_2_17) (Nat.le_of_ble_eq_true rfl) (Nat.le_of_ble_eq_true rfl) rfl rfl (Nat.le_of_ble_eq_true rfl) (Nat.le_of_ble_eq_true rfl) rfl fun T161 W161 => ?_
        refine g_icmpN (pc' := 23) W161.here hx (hb hby d_prog_2_2_20) rfl (tlt (show i.toInt32 < cs.length.toInt32 from (own_ltn hi2 hlen))).2.1 ?_
        refine g_aloadN (pc' := 24) W161.here hx (hb hby d_prog_2_2_23) rfl rfl rfl ?_
        refine g_iloadN (pc' := 25) W161.here hx (hb hby d_prog_2_2_24) rfl rfl ?_
        refine w_virtualp (pc' := 28) (st := []) (y := (⟨"java/lang/String", "charAt", "(I)C"⟩ : MethodName)) (z := (⟨"java/lang/String", "charAt", "(I)C"⟩ : MethodName)) (a := a) W161 hx [(.int i.toInt32)] (hw _ (List.mem_of_getElem? w_73)) (hw _ (List.mem_of_getElem? w_74)) (nfS (z := (⟨"java/lang/String", "charAt", "(I)C"⟩ : MethodName)) (hw _ (List.mem_of_getElem? w_76))) (hw _ (List.mem_of_getElem? w_76)) (hw _ (List.mem_of_getElem? w_75)) (hw _ (List.mem_of_getElem? w_8)) (hw _ (List.mem_of_getElem? w_77)) (by decide) (c_charAt l Z a0 hw hE cc fm a b cs i.toInt32 ci h0 W161.old G S0 (own_nneg (by omega)) (own_ltn hi2 hlen) (by rw [i32_nat (by omega)]; exact hci)) ES0 (by rw [hml]; rfl) (lenOf pd_14 rfl) rfl (hb hby d_prog_2_2_25) (Nat.le_of_ble_eq_true rfl) (Nat.le_of_ble_eq_true rfl) rfl rfl (Nat.le_of_ble_eq_true rfl) (Nat.le_of_ble_eq_true rfl) rfl fun T162 W162 => ?_
        refine g_istore (pc' := 30) (Ls' := #[.val (.ref a), .val (.long (accL cs i)), .second, .val (.int i.toInt32), .val (.int ci)]) W162.here hx (hb hby d_prog_2_2_28) (XS.store1 (o := o4) rfl ho_o4 rfl) rfl ?_
        refine g_iload (pc' := 32) W162.here hx (hb hby d_prog_2_2_30) rfl rfl ?_
        refine g_bipush (48 : Int32) (pc' := 34) W162.here hx (hb hby d_prog_2_2_32) rfl rfl ?_
        by_cases hc34_163 : ci < (48 : Int32)
        · refine g_icmpY (pc' := 44) W162.here hx (hb hby d_prog_2_2_34) rfl (tlt hc34_163).1 ?_
          refine w_callSp (pc' := 47) (st := []) (y := (⟨"java/util/OptionalInt", "empty", "()Ljava/util/OptionalInt;"⟩ : MethodName)) W162 hx [] (hw _ (List.mem_of_getElem? w_36)) (hw _ (List.mem_of_getElem? w_37)) (hw _ (List.mem_of_getElem? w_38)) (hw _ (List.mem_of_getElem? w_39)) (by decide) (c_empty l Z a0 hw hE oE h0 W162.old S_E X_E P_E V_E) (by rw [hml]; rfl) (lenOf pd_15 rfl) rfl (hb hby d_prog_2_2_44) (Nat.le_of_ble_eq_true rfl) (Nat.le_of_ble_eq_true rfl) rfl rfl (Nat.le_of_ble_eq_true rfl) (Nat.le_of_ble_eq_true rfl) rfl fun T164 W164 => ?_
          refine w_retA W164 hx hh hlk hret rfl rfl (hb hby d_prog_2_2_47) (Nat.le_of_ble_eq_true rfl) (Nat.le_of_ble_eq_true rfl) ?_
          refine ⟨oE, 0, 0, rfl, X_E.ext W164.old, P_E.ext W164.old, V_E.ext W164.old, Or.inl ⟨rfl, ?_⟩⟩
          unfold resI
          rw [if_pos (Or.inr fun z => by have z1 := z ci (List.mem_of_getElem? hci); have z2 := hc34_163; simp only [Int32.lt_iff_toInt_lt, own_t0, own_t1, own_t8, own_t16, own_t10, own_t48, own_t57, own_t2147483647] at z2; simp only [isd] at z1; omega)]
        · refine g_icmpN (pc' := 37) W162.here hx (hb hby d_prog_2_2_34) rfl (flt hc34_163).1 ?_
          refine g_iload (pc' := 39) W162.here hx (hb hby d_prog_2_2_37) rfl rfl ?_
          refine g_bipush (57 : Int32) (pc' := 41) W162.here hx (hb hby d_prog_2_2_39) rfl rfl ?_
          by_cases hc41_165 : (57 : Int32) < ci
          · refine g_icmpN (pc' := 44) W162.here hx (hb hby d_prog_2_2_41) rfl (tlt hc41_165).2.2.2 ?_
            refine w_callSp (pc' := 47) (st := []) (y := (⟨"java/util/OptionalInt", "empty", "()Ljava/util/OptionalInt;"⟩ : MethodName)) W162 hx [] (hw _ (List.mem_of_getElem? w_36)) (hw _ (List.mem_of_getElem? w_37)) (hw _ (List.mem_of_getElem? w_38)) (hw _ (List.mem_of_getElem? w_39)) (by decide) (c_empty l Z a0 hw hE oE h0 W162.old S_E X_E P_E V_E) (by rw [hml]; rfl) (lenOf pd_15 rfl) rfl (hb hby d_prog_2_2_44) (Nat.le_of_ble_eq_true rfl) (Nat.le_of_ble_eq_true rfl) rfl rfl (Nat.le_of_ble_eq_true rfl) (Nat.le_of_ble_eq_true rfl) rfl fun T166 W166 => ?_
            refine w_retA W166 hx hh hlk hret rfl rfl (hb hby d_prog_2_2_47) (Nat.le_of_ble_eq_true rfl) (Nat.le_of_ble_eq_true rfl) ?_
            refine ⟨oE, 0, 0, rfl, X_E.ext W166.old, P_E.ext W166.old, V_E.ext W166.old, Or.inl ⟨rfl, ?_⟩⟩
            unfold resI
            rw [if_pos (Or.inr fun z => by have z1 := z ci (List.mem_of_getElem? hci); have z2 := hc41_165; simp only [Int32.lt_iff_toInt_lt, own_t0, own_t1, own_t8, own_t16, own_t10, own_t48, own_t57, own_t2147483647] at z2; simp only [isd] at z1; omega)]
          · refine g_icmpY (pc' := 48) W162.here hx (hb hby d_prog_2_2_41) rfl (flt hc41_165).2.2.2 ?_
            have hdi : isd ci := by
              have q1 := hc34_163; have q2 := hc41_165
              simp only [Int32.lt_iff_toInt_lt, own_t0, own_t1, own_t8, own_t16, own_t10, own_t48, own_t57, own_t2147483647] at q1 q2
              simp only [isd]; omega
            refine g_lloadN (pc' := 49) W162.here hx (hb hby d_prog_2_2_48) rfl rfl ?_
            refine w_ldc2J (pc' := 52) W162 hx (hw _ (List.mem_of_getElem? w_98)) (hb hby d_prog_2_2_49) rfl ?_
            refine g_lmul (pc' := 53) W162.here hx (hb hby d_prog_2_2_52) rfl ?_
            refine g_iload (pc' := 55) W162.here hx (hb hby d_prog_2_2_53) rfl rfl ?_
            refine g_bipush (48 : Int32) (pc' := 57) W162.here hx (hb hby d_prog_2_2_55) rfl rfl ?_
            refine g_isub (pc' := 58) W162.here hx (hb hby d_prog_2_2_57) rfl ?_
            refine g_i2l (pc' := 59) W162.here hx (hb hby d_prog_2_2_58) rfl ?_
            refine g_ladd (pc' := 60) W162.here hx (hb hby d_prog_2_2_59) rfl ?_
            obtain ⟨zz, hzz⟩ : ∃ zz_ : Int64, zz_ = (((accL cs i) * (10 : Int64)) + ((ci - (48 : Int32)).toInt64)) := ⟨_, rfl⟩
            refine g_name (congrArg Value.long hzz) ?_
            refine w_ldc2J (pc' := 63) W162 hx (hw _ (List.mem_of_getElem? w_99)) (hb hby d_prog_2_2_60) rfl ?_
            refine w_callSp (pc' := 66) (st := []) (y := (⟨"java/lang/Math", "min", "(JJ)J"⟩ : MethodName)) W162 hx [(.long zz), (.long (2147483647 : Int64))] (hw _ (List.mem_of_getElem? w_100)) (hw _ (List.mem_of_getElem? w_101)) (hw _ (List.mem_of_getElem? w_102)) (hw _ (List.mem_of_getElem? w_103)) (by decide) (c_minJ l Z a0 hw hE zz (2147483647 : Int64) h0 W162.old) (by rw [hml]; rfl) (lenOf pd_16 rfl) rfl (hb hby d_prog_2_2_63) (Nat.le_of_ble_eq_true rfl) (Nat.le_of_ble_eq_true rfl) rfl rfl (Nat.le_of_ble_eq_true rfl) (Nat.le_of_ble_eq_true rfl) rfl fun T167 W167 => ?_
            refine g_name (w := .long (accL cs (i + 1))) (congrArg Value.long (own_min1 hci hdi hzz).symm) ?_
            refine g_lstoreN (pc' := 67) (Ls' := #[.val (.ref a), .val (.long (accL cs (i + 1))), .second, .val (.int i.toInt32), .val (.int ci)]) W167.here hx (hb hby d_prog_2_2_66) rfl rfl ?_
            refine g_iincV (i + 1).toInt32 (pc' := 70) (Ls' := #[.val (.ref a), .val (.long (accL cs (i + 1))), .second, .val (.int (i + 1).toInt32), .val (.int ci)]) W167.here hx (hb hby d_prog_2_2_67) (own_succ i) rfl rfl rfl ?_
            refine g_goto (pc' := 15) W167.here hx (hb hby d_prog_2_2_70) rfl ?_
            exact ih (i + 1) (by omega) _ _ (One.val rfl) W167 (fun c hc => by rw [List.take_add_one, hci] at hc; rcases List.mem_append.mp hc with z | z; exact HP c z; (have e : c = ci := by simpa using z); rw [e]; exact hdi)
    exact LOOP cs.length 0 (by omega) _ _ One.u W156 (by simp)
  · refine g_ifN (pc' := 7) W156.here hx (hb hby d_prog_2_2_4) rfl (feq hc4_157).1 ?_
    refine w_callSp (pc' := 10) (st := []) (y := (⟨"java/util/OptionalInt", "empty", "()Ljava/util/OptionalInt;"⟩ : MethodName)) W156 hx [] (hw _ (List.mem_of_getElem? w_36)) (hw _ (List.mem_of_getElem? w_37)) (hw _ (List.mem_of_getElem? w_38)) (hw _ (List.mem_of_getElem? w_39)) (by decide) (c_empty l Z a0 hw hE oE h0 W156.old S_E X_E P_E V_E) (by rw [hml]; rfl) (lenOf pd_15 rfl) rfl (hb hby d_prog_2_2_7) (Nat.le_of_ble_eq_true rfl) (Nat.le_of_ble_eq_true rfl) rfl rfl (Nat.le_of_ble_eq_true rfl) (Nat.le_of_ble_eq_true rfl) rfl fun T168 W168 => ?_
    refine w_retA W168 hx hh hlk hret rfl rfl (hb hby d_prog_2_2_10) (Nat.le_of_ble_eq_true rfl) (Nat.le_of_ble_eq_true rfl) ?_
    refine ⟨oE, 0, 0, rfl, X_E.ext W168.old, P_E.ext W168.old, V_E.ext W168.old, Or.inl ⟨rfl, ?_⟩⟩
    unfold resI
    rw [if_pos (Or.inl (own_if1 hc4_157))]
set_option maxRecDepth 65536 in
set_option maxHeartbeats 40000000 in
theorem c_law (l : Launch) (Z : State) (a0 : Array Value) (hw : ∀ d ∈ tables_1, d.before a0 Z = true) (hE : EW Z a0 consts_1) (cc : Int32) (fm : Value) (p0 p1 : Int64) (p2 p3 p4 : Int32) (oE : Nat) (h0 : Heap) (O : Ext Z.heap h0) (G : SEnv Z cc fm) (S_E : Sta Z Z.heap "java/util/OptionalInt" "EMPTY" "Ljava/util/OptionalInt;" (.ref oE)) (X_E : Exa Z Z.heap oE "java/util/OptionalInt") (P_E : Fld Z Z.heap oE "java/util/OptionalInt" "isPresent" "Z" (.int 0)) (V_E : Fld Z Z.heap oE "java/util/OptionalInt" "value" "I" (.int 0))  :
    ConL tables_1 l Z consts_1 x code maxLocals ret room_1 #[(.long p0), (.long p1), (.int p2), (.int p3), (.int p4)] h0 [] (fun v _ => v = some (.int 1)) := by
  refine Con.of (a0 := a0) #[.val (.long p0), .second, .val (.long p1), .second, .val (.int p2), .val (.int p3), .val (.int p4), .unset, .unset, .unset, .unset] (plainFor_of_name pn_4) hE O all0 (fun m => by first | (simp [entryFrame, mkF, argsToLocals, Value.category, maxLocals]; done) | rfl) ?_
  intro p e s m below meth c T0 hx hby hml hnm hret hlk hh W0
  refine g_iload (pc' := 2) W0.here hx (hb hby at_0) rfl rfl ?_
  refine w_ldcI (pc' := 4) W0 hx (hw _ (List.mem_of_getElem? w_0)) (hb hby at_2) rfl ?_
  refine g_iand (pc' := 5) W0.here hx (hb hby at_4) rfl ?_
  refine g_bipush (21 : Int32) (pc' := 7) W0.here hx (hb hby at_5) rfl rfl ?_
  refine g_irem (pc' := 8) W0.here hx (hb hby at_7) (by decide) rfl ?_
  obtain ⟨nn, hnn⟩ : ∃ zz_ : Int32, zz_ = ((p4 &&& (2147483647 : Int32)) % (21 : Int32)) := ⟨_, rfl⟩
  refine g_name (congrArg Value.int hnn) ?_
  have hn21 : 0 ≤ nn.toInt ∧ nn.toInt < 21 := by rw [hnn]; have q := c_mask p4 2147483647 31 (by decide) (by decide); have q2 := (c_irem (p4 &&& 2147483647) 21 21 rfl).1 (by omega); omega
  obtain ⟨nN, hnN⟩ : ∃ z : Nat, z = nn.toNatClampNeg := ⟨_, rfl⟩
  have hn20 : nN ≤ 20 := by rw [hnN, own_tnc]; omega
  refine g_istore (pc' := 10) (Ls' := #[.val (.long p0), .second, .val (.long p1), .second, .val (.int p2), .val (.int p3), .val (.int p4), .val (.int nn), .unset, .unset, .unset]) W0.here hx (hb hby at_8) rfl rfl ?_
  refine g_iload (pc' := 12) W0.here hx (hb hby at_10) rfl rfl ?_
  refine w_newarr (pc' := 14) (cap := 20) W0 hx (hw _ (List.mem_of_getElem? w_1)) (hb hby at_12) (own_nnj hn21.1) (by rw [← hnN]; exact hn20) (Nat.le_of_ble_eq_true rfl) (Nat.le_of_ble_eq_true rfl) (Nat.le_of_ble_eq_true rfl) rfl rfl fun T169 h169 b169 g169 W169 K169 V169 => ?_
  have z_K169 : h0.size ≤ h169.size := K169.1
  have lt_b169 : b169 < h169.size := W169.lt (List.mem_cons_self ..)
  have V170 : Ary Z h169 b169 .char ((List.replicate nN (0 : Int32)).map Value.int) := by rw [List.map_replicate, hnN]; exact V169
  refine g_astore (pc' := 16) (Ls' := #[.val (.long p0), .second, .val (.long p1), .second, .val (.int p2), .val (.int p3), .val (.int p4), .val (.int nn), .val (.ref b169), .unset, .unset]) W169.here hx (hb hby at_14) rfl rfl rfl ?_
  refine g_aload (pc' := 18) W169.here hx (hb hby at_16) rfl rfl rfl ?_
  refine g_iconst (0 : Int32) (pc' := 19) W169.here hx (hb hby at_18) rfl rfl ?_
  refine g_lloadN (pc' := 20) W169.here hx (hb hby at_19) rfl rfl ?_
  refine g_lloadN (pc' := 21) W169.here hx (hb hby at_20) rfl rfl ?_
  refine g_iload (pc' := 23) W169.here hx (hb hby at_21) rfl rfl ?_
  refine g_iload (pc' := 25) W169.here hx (hb hby at_23) rfl rfl ?_
  refine w_callS (pc' := 28) (st := []) (y := (⟨"com/example/despatch/despatch/fhir/WholeNumberReadPinLaw", "put", "([CIJJII)V"⟩ : MethodName)) W169 hx [(.ref b169), (.int (0 : Int32)), (.long p0), (.long p1), (.int p2), (.int p3)] (hw _ (List.mem_of_getElem? w_2)) (hw _ (List.mem_of_getElem? w_3)) (hw _ (List.mem_of_getElem? w_4)) (hw _ (List.mem_of_getElem? w_5)) (by decide) (c_put l Z a0 hw hE b169 nN (0 : Int32) p0 p1 p2 p3 (List.replicate nN (0 : Int32)) h169 W169.old (by have := O.1; omega) (by decide) (List.length_replicate) hn20 (fun c hc => by rw [(List.mem_replicate.mp hc).2]; decide) V170) (allS (List.mem_of_getElem? (i := 0) rfl) all0) (by rw [hml]; rfl) (lenOf pd_17 rfl) rfl (hb hby at_25) (Nat.le_of_ble_eq_true rfl) (Nat.le_of_ble_eq_true rfl) (Nat.le_of_ble_eq_true rfl) (Nat.le_of_ble_eq_true rfl) rfl fun v171 T171 h171 W171 K171 Q171 => ?_
  have z_K171 : h169.size ≤ h171.size := K171.1
  obtain ⟨rfl, cs172, l_cs172, c_cs172, V172⟩ := Q171
  refine g_aload (pc' := 30) W171.here hx (hb hby at_28) rfl rfl rfl ?_
  refine g_iconst (1 : Int32) (pc' := 31) W171.here hx (hb hby at_30) rfl rfl ?_
  refine g_lloadN (pc' := 32) W171.here hx (hb hby at_31) rfl rfl ?_
  refine g_lloadN (pc' := 33) W171.here hx (hb hby at_32) rfl rfl ?_
  refine g_iload (pc' := 35) W171.here hx (hb hby at_33) rfl rfl ?_
  refine g_iload (pc' := 37) W171.here hx (hb hby at_35) rfl rfl ?_
  refine w_callS (pc' := 40) (st := []) (y := (⟨"com/example/despatch/despatch/fhir/WholeNumberReadPinLaw", "put", "([CIJJII)V"⟩ : MethodName)) W171 hx [(.ref b169), (.int (1 : Int32)), (.long p0), (.long p1), (.int p2), (.int p3)] (hw _ (List.mem_of_getElem? w_2)) (hw _ (List.mem_of_getElem? w_3)) (hw _ (List.mem_of_getElem? w_4)) (hw _ (List.mem_of_getElem? w_5)) (by decide) (c_put l Z a0 hw hE b169 nN (1 : Int32) p0 p1 p2 p3 cs172 h171 W171.old (by have := O.1; omega) (by decide) l_cs172 hn20 c_cs172 V172) (allS (List.mem_of_getElem? (i := 0) rfl) all0) (by rw [hml]; rfl) (lenOf pd_17 rfl) rfl (hb hby at_37) (Nat.le_of_ble_eq_true rfl) (Nat.le_of_ble_eq_true rfl) (Nat.le_of_ble_eq_true rfl) (Nat.le_of_ble_eq_true rfl) rfl fun v173 T173 h173 W173 K173 Q173 => ?_
  have z_K173 : h171.size ≤ h173.size := K173.1
  obtain ⟨rfl, cs174, l_cs174, c_cs174, V174⟩ := Q173
  refine g_aload (pc' := 42) W173.here hx (hb hby at_40) rfl rfl rfl ?_
  refine g_iconst (2 : Int32) (pc' := 43) W173.here hx (hb hby at_42) rfl rfl ?_
  refine g_lloadN (pc' := 44) W173.here hx (hb hby at_43) rfl rfl ?_
  refine g_lloadN (pc' := 45) W173.here hx (hb hby at_44) rfl rfl ?_
  refine g_iload (pc' := 47) W173.here hx (hb hby at_45) rfl rfl ?_
  refine g_iload (pc' := 49) W173.here hx (hb hby at_47) rfl rfl ?_
  refine w_callS (pc' := 52) (st := []) (y := (⟨"com/example/despatch/despatch/fhir/WholeNumberReadPinLaw", "put", "([CIJJII)V"⟩ : MethodName)) W173 hx [(.ref b169), (.int (2 : Int32)), (.long p0), (.long p1), (.int p2), (.int p3)] (hw _ (List.mem_of_getElem? w_2)) (hw _ (List.mem_of_getElem? w_3)) (hw _ (List.mem_of_getElem? w_4)) (hw _ (List.mem_of_getElem? w_5)) (by decide) (c_put l Z a0 hw hE b169 nN (2 : Int32) p0 p1 p2 p3 cs174 h173 W173.old (by have := O.1; omega) (by decide) l_cs174 hn20 c_cs174 V174) (allS (List.mem_of_getElem? (i := 0) rfl) all0) (by rw [hml]; rfl) (lenOf pd_17 rfl) rfl (hb hby at_49) (Nat.le_of_ble_eq_true rfl) (Nat.le_of_ble_eq_true rfl) (Nat.le_of_ble_eq_true rfl) (Nat.le_of_ble_eq_true rfl) rfl fun v175 T175 h175 W175 K175 Q175 => ?_
  have z_K175 : h173.size ≤ h175.size := K175.1
  obtain ⟨rfl, cs176, l_cs176, c_cs176, V176⟩ := Q175
  refine g_aload (pc' := 54) W175.here hx (hb hby at_52) rfl rfl rfl ?_
  refine g_iconst (3 : Int32) (pc' := 55) W175.here hx (hb hby at_54) rfl rfl ?_
  refine g_lloadN (pc' := 56) W175.here hx (hb hby at_55) rfl rfl ?_
  refine g_lloadN (pc' := 57) W175.here hx (hb hby at_56) rfl rfl ?_
  refine g_iload (pc' := 59) W175.here hx (hb hby at_57) rfl rfl ?_
  refine g_iload (pc' := 61) W175.here hx (hb hby at_59) rfl rfl ?_
  refine w_callS (pc' := 64) (st := []) (y := (⟨"com/example/despatch/despatch/fhir/WholeNumberReadPinLaw", "put", "([CIJJII)V"⟩ : MethodName)) W175 hx [(.ref b169), (.int (3 : Int32)), (.long p0), (.long p1), (.int p2), (.int p3)] (hw _ (List.mem_of_getElem? w_2)) (hw _ (List.mem_of_getElem? w_3)) (hw _ (List.mem_of_getElem? w_4)) (hw _ (List.mem_of_getElem? w_5)) (by decide) (c_put l Z a0 hw hE b169 nN (3 : Int32) p0 p1 p2 p3 cs176 h175 W175.old (by have := O.1; omega) (by decide) l_cs176 hn20 c_cs176 V176) (allS (List.mem_of_getElem? (i := 0) rfl) all0) (by rw [hml]; rfl) (lenOf pd_17 rfl) rfl (hb hby at_61) (Nat.le_of_ble_eq_true rfl) (Nat.le_of_ble_eq_true rfl) (Nat.le_of_ble_eq_true rfl) (Nat.le_of_ble_eq_true rfl) rfl fun v177 T177 h177 W177 K177 Q177 => ?_
  have z_K177 : h175.size ≤ h177.size := K177.1
  obtain ⟨rfl, cs178, l_cs178, c_cs178, V178⟩ := Q177
  refine g_aload (pc' := 66) W177.here hx (hb hby at_64) rfl rfl rfl ?_
  refine g_iconst (4 : Int32) (pc' := 67) W177.here hx (hb hby at_66) rfl rfl ?_
  refine g_lloadN (pc' := 68) W177.here hx (hb hby at_67) rfl rfl ?_
  refine g_lloadN (pc' := 69) W177.here hx (hb hby at_68) rfl rfl ?_
  refine g_iload (pc' := 71) W177.here hx (hb hby at_69) rfl rfl ?_
  refine g_iload (pc' := 73) W177.here hx (hb hby at_71) rfl rfl ?_
  refine w_callS (pc' := 76) (st := []) (y := (⟨"com/example/despatch/despatch/fhir/WholeNumberReadPinLaw", "put", "([CIJJII)V"⟩ : MethodName)) W177 hx [(.ref b169), (.int (4 : Int32)), (.long p0), (.long p1), (.int p2), (.int p3)] (hw _ (List.mem_of_getElem? w_2)) (hw _ (List.mem_of_getElem? w_3)) (hw _ (List.mem_of_getElem? w_4)) (hw _ (List.mem_of_getElem? w_5)) (by decide) (c_put l Z a0 hw hE b169 nN (4 : Int32) p0 p1 p2 p3 cs178 h177 W177.old (by have := O.1; omega) (by decide) l_cs178 hn20 c_cs178 V178) (allS (List.mem_of_getElem? (i := 0) rfl) all0) (by rw [hml]; rfl) (lenOf pd_17 rfl) rfl (hb hby at_73) (Nat.le_of_ble_eq_true rfl) (Nat.le_of_ble_eq_true rfl) (Nat.le_of_ble_eq_true rfl) (Nat.le_of_ble_eq_true rfl) rfl fun v179 T179 h179 W179 K179 Q179 => ?_
  have z_K179 : h177.size ≤ h179.size := K179.1
  obtain ⟨rfl, cs180, l_cs180, c_cs180, V180⟩ := Q179
  refine g_aload (pc' := 78) W179.here hx (hb hby at_76) rfl rfl rfl ?_
  refine g_iconst (5 : Int32) (pc' := 79) W179.here hx (hb hby at_78) rfl rfl ?_
  refine g_lloadN (pc' := 80) W179.here hx (hb hby at_79) rfl rfl ?_
  refine g_lloadN (pc' := 81) W179.here hx (hb hby at_80) rfl rfl ?_
  refine g_iload (pc' := 83) W179.here hx (hb hby at_81) rfl rfl ?_
  refine g_iload (pc' := 85) W179.here hx (hb hby at_83) rfl rfl ?_
  refine w_callS (pc' := 88) (st := []) (y := (⟨"com/example/despatch/despatch/fhir/WholeNumberReadPinLaw", "put", "([CIJJII)V"⟩ : MethodName)) W179 hx [(.ref b169), (.int (5 : Int32)), (.long p0), (.long p1), (.int p2), (.int p3)] (hw _ (List.mem_of_getElem? w_2)) (hw _ (List.mem_of_getElem? w_3)) (hw _ (List.mem_of_getElem? w_4)) (hw _ (List.mem_of_getElem? w_5)) (by decide) (c_put l Z a0 hw hE b169 nN (5 : Int32) p0 p1 p2 p3 cs180 h179 W179.old (by have := O.1; omega) (by decide) l_cs180 hn20 c_cs180 V180) (allS (List.mem_of_getElem? (i := 0) rfl) all0) (by rw [hml]; rfl) (lenOf pd_17 rfl) rfl (hb hby at_85) (Nat.le_of_ble_eq_true rfl) (Nat.le_of_ble_eq_true rfl) (Nat.le_of_ble_eq_true rfl) (Nat.le_of_ble_eq_true rfl) rfl fun v181 T181 h181 W181 K181 Q181 => ?_
  have z_K181 : h179.size ≤ h181.size := K181.1
  obtain ⟨rfl, cs182, l_cs182, c_cs182, V182⟩ := Q181
  refine g_aload (pc' := 90) W181.here hx (hb hby at_88) rfl rfl rfl ?_
  refine g_bipush (6 : Int32) (pc' := 92) W181.here hx (hb hby at_90) rfl rfl ?_
  refine g_lloadN (pc' := 93) W181.here hx (hb hby at_92) rfl rfl ?_
  refine g_lloadN (pc' := 94) W181.here hx (hb hby at_93) rfl rfl ?_
  refine g_iload (pc' := 96) W181.here hx (hb hby at_94) rfl rfl ?_
  refine g_iload (pc' := 98) W181.here hx (hb hby at_96) rfl rfl ?_
  refine w_callS (pc' := 101) (st := []) (y := (⟨"com/example/despatch/despatch/fhir/WholeNumberReadPinLaw", "put", "([CIJJII)V"⟩ : MethodName)) W181 hx [(.ref b169), (.int (6 : Int32)), (.long p0), (.long p1), (.int p2), (.int p3)] (hw _ (List.mem_of_getElem? w_2)) (hw _ (List.mem_of_getElem? w_3)) (hw _ (List.mem_of_getElem? w_4)) (hw _ (List.mem_of_getElem? w_5)) (by decide) (c_put l Z a0 hw hE b169 nN (6 : Int32) p0 p1 p2 p3 cs182 h181 W181.old (by have := O.1; omega) (by decide) l_cs182 hn20 c_cs182 V182) (allS (List.mem_of_getElem? (i := 0) rfl) all0) (by rw [hml]; rfl) (lenOf pd_17 rfl) rfl (hb hby at_98) (Nat.le_of_ble_eq_true rfl) (Nat.le_of_ble_eq_true rfl) (Nat.le_of_ble_eq_true rfl) (Nat.le_of_ble_eq_true rfl) rfl fun v183 T183 h183 W183 K183 Q183 => ?_
  have z_K183 : h181.size ≤ h183.size := K183.1
  obtain ⟨rfl, cs184, l_cs184, c_cs184, V184⟩ := Q183
  refine g_aload (pc' := 103) W183.here hx (hb hby at_101) rfl rfl rfl ?_
  refine g_bipush (7 : Int32) (pc' := 105) W183.here hx (hb hby at_103) rfl rfl ?_
  refine g_lloadN (pc' := 106) W183.here hx (hb hby at_105) rfl rfl ?_
  refine g_lloadN (pc' := 107) W183.here hx (hb hby at_106) rfl rfl ?_
  refine g_iload (pc' := 109) W183.here hx (hb hby at_107) rfl rfl ?_
  refine g_iload (pc' := 111) W183.here hx (hb hby at_109) rfl rfl ?_
  refine w_callS (pc' := 114) (st := []) (y := (⟨"com/example/despatch/despatch/fhir/WholeNumberReadPinLaw", "put", "([CIJJII)V"⟩ : MethodName)) W183 hx [(.ref b169), (.int (7 : Int32)), (.long p0), (.long p1), (.int p2), (.int p3)] (hw _ (List.mem_of_getElem? w_2)) (hw _ (List.mem_of_getElem? w_3)) (hw _ (List.mem_of_getElem? w_4)) (hw _ (List.mem_of_getElem? w_5)) (by decide) (c_put l Z a0 hw hE b169 nN (7 : Int32) p0 p1 p2 p3 cs184 h183 W183.old (by have := O.1; omega) (by decide) l_cs184 hn20 c_cs184 V184) (allS (List.mem_of_getElem? (i := 0) rfl) all0) (by rw [hml]; rfl) (lenOf pd_17 rfl) rfl (hb hby at_111) (Nat.le_of_ble_eq_true rfl) (Nat.le_of_ble_eq_true rfl) (Nat.le_of_ble_eq_true rfl) (Nat.le_of_ble_eq_true rfl) rfl fun v185 T185 h185 W185 K185 Q185 => ?_
  have z_K185 : h183.size ≤ h185.size := K185.1
  obtain ⟨rfl, cs186, l_cs186, c_cs186, V186⟩ := Q185
  refine g_aload (pc' := 116) W185.here hx (hb hby at_114) rfl rfl rfl ?_
  refine g_bipush (8 : Int32) (pc' := 118) W185.here hx (hb hby at_116) rfl rfl ?_
  refine g_lloadN (pc' := 119) W185.here hx (hb hby at_118) rfl rfl ?_
  refine g_lloadN (pc' := 120) W185.here hx (hb hby at_119) rfl rfl ?_
  refine g_iload (pc' := 122) W185.here hx (hb hby at_120) rfl rfl ?_
  refine g_iload (pc' := 124) W185.here hx (hb hby at_122) rfl rfl ?_
  refine w_callS (pc' := 127) (st := []) (y := (⟨"com/example/despatch/despatch/fhir/WholeNumberReadPinLaw", "put", "([CIJJII)V"⟩ : MethodName)) W185 hx [(.ref b169), (.int (8 : Int32)), (.long p0), (.long p1), (.int p2), (.int p3)] (hw _ (List.mem_of_getElem? w_2)) (hw _ (List.mem_of_getElem? w_3)) (hw _ (List.mem_of_getElem? w_4)) (hw _ (List.mem_of_getElem? w_5)) (by decide) (c_put l Z a0 hw hE b169 nN (8 : Int32) p0 p1 p2 p3 cs186 h185 W185.old (by have := O.1; omega) (by decide) l_cs186 hn20 c_cs186 V186) (allS (List.mem_of_getElem? (i := 0) rfl) all0) (by rw [hml]; rfl) (lenOf pd_17 rfl) rfl (hb hby at_124) (Nat.le_of_ble_eq_true rfl) (Nat.le_of_ble_eq_true rfl) (Nat.le_of_ble_eq_true rfl) (Nat.le_of_ble_eq_true rfl) rfl fun v187 T187 h187 W187 K187 Q187 => ?_
  have z_K187 : h185.size ≤ h187.size := K187.1
  obtain ⟨rfl, cs188, l_cs188, c_cs188, V188⟩ := Q187
  refine g_aload (pc' := 129) W187.here hx (hb hby at_127) rfl rfl rfl ?_
  refine g_bipush (9 : Int32) (pc' := 131) W187.here hx (hb hby at_129) rfl rfl ?_
  refine g_lloadN (pc' := 132) W187.here hx (hb hby at_131) rfl rfl ?_
  refine g_lloadN (pc' := 133) W187.here hx (hb hby at_132) rfl rfl ?_
  refine g_iload (pc' := 135) W187.here hx (hb hby at_133) rfl rfl ?_
  refine g_iload (pc' := 137) W187.here hx (hb hby at_135) rfl rfl ?_
  refine w_callS (pc' := 140) (st := []) (y := (⟨"com/example/despatch/despatch/fhir/WholeNumberReadPinLaw", "put", "([CIJJII)V"⟩ : MethodName)) W187 hx [(.ref b169), (.int (9 : Int32)), (.long p0), (.long p1), (.int p2), (.int p3)] (hw _ (List.mem_of_getElem? w_2)) (hw _ (List.mem_of_getElem? w_3)) (hw _ (List.mem_of_getElem? w_4)) (hw _ (List.mem_of_getElem? w_5)) (by decide) (c_put l Z a0 hw hE b169 nN (9 : Int32) p0 p1 p2 p3 cs188 h187 W187.old (by have := O.1; omega) (by decide) l_cs188 hn20 c_cs188 V188) (allS (List.mem_of_getElem? (i := 0) rfl) all0) (by rw [hml]; rfl) (lenOf pd_17 rfl) rfl (hb hby at_137) (Nat.le_of_ble_eq_true rfl) (Nat.le_of_ble_eq_true rfl) (Nat.le_of_ble_eq_true rfl) (Nat.le_of_ble_eq_true rfl) rfl fun v189 T189 h189 W189 K189 Q189 => ?_
  have z_K189 : h187.size ≤ h189.size := K189.1
  obtain ⟨rfl, cs190, l_cs190, c_cs190, V190⟩ := Q189
  refine g_aload (pc' := 142) W189.here hx (hb hby at_140) rfl rfl rfl ?_
  refine g_bipush (10 : Int32) (pc' := 144) W189.here hx (hb hby at_142) rfl rfl ?_
  refine g_lloadN (pc' := 145) W189.here hx (hb hby at_144) rfl rfl ?_
  refine g_lloadN (pc' := 146) W189.here hx (hb hby at_145) rfl rfl ?_
  refine g_iload (pc' := 148) W189.here hx (hb hby at_146) rfl rfl ?_
  refine g_iload (pc' := 150) W189.here hx (hb hby at_148) rfl rfl ?_
  refine w_callS (pc' := 153) (st := []) (y := (⟨"com/example/despatch/despatch/fhir/WholeNumberReadPinLaw", "put", "([CIJJII)V"⟩ : MethodName)) W189 hx [(.ref b169), (.int (10 : Int32)), (.long p0), (.long p1), (.int p2), (.int p3)] (hw _ (List.mem_of_getElem? w_2)) (hw _ (List.mem_of_getElem? w_3)) (hw _ (List.mem_of_getElem? w_4)) (hw _ (List.mem_of_getElem? w_5)) (by decide) (c_put l Z a0 hw hE b169 nN (10 : Int32) p0 p1 p2 p3 cs190 h189 W189.old (by have := O.1; omega) (by decide) l_cs190 hn20 c_cs190 V190) (allS (List.mem_of_getElem? (i := 0) rfl) all0) (by rw [hml]; rfl) (lenOf pd_17 rfl) rfl (hb hby at_150) (Nat.le_of_ble_eq_true rfl) (Nat.le_of_ble_eq_true rfl) (Nat.le_of_ble_eq_true rfl) (Nat.le_of_ble_eq_true rfl) rfl fun v191 T191 h191 W191 K191 Q191 => ?_
  have z_K191 : h189.size ≤ h191.size := K191.1
  obtain ⟨rfl, cs192, l_cs192, c_cs192, V192⟩ := Q191
  refine g_aload (pc' := 155) W191.here hx (hb hby at_153) rfl rfl rfl ?_
  refine g_bipush (11 : Int32) (pc' := 157) W191.here hx (hb hby at_155) rfl rfl ?_
  refine g_lloadN (pc' := 158) W191.here hx (hb hby at_157) rfl rfl ?_
  refine g_lloadN (pc' := 159) W191.here hx (hb hby at_158) rfl rfl ?_
  refine g_iload (pc' := 161) W191.here hx (hb hby at_159) rfl rfl ?_
  refine g_iload (pc' := 163) W191.here hx (hb hby at_161) rfl rfl ?_
  refine w_callS (pc' := 166) (st := []) (y := (⟨"com/example/despatch/despatch/fhir/WholeNumberReadPinLaw", "put", "([CIJJII)V"⟩ : MethodName)) W191 hx [(.ref b169), (.int (11 : Int32)), (.long p0), (.long p1), (.int p2), (.int p3)] (hw _ (List.mem_of_getElem? w_2)) (hw _ (List.mem_of_getElem? w_3)) (hw _ (List.mem_of_getElem? w_4)) (hw _ (List.mem_of_getElem? w_5)) (by decide) (c_put l Z a0 hw hE b169 nN (11 : Int32) p0 p1 p2 p3 cs192 h191 W191.old (by have := O.1; omega) (by decide) l_cs192 hn20 c_cs192 V192) (allS (List.mem_of_getElem? (i := 0) rfl) all0) (by rw [hml]; rfl) (lenOf pd_17 rfl) rfl (hb hby at_163) (Nat.le_of_ble_eq_true rfl) (Nat.le_of_ble_eq_true rfl) (Nat.le_of_ble_eq_true rfl) (Nat.le_of_ble_eq_true rfl) rfl fun v193 T193 h193 W193 K193 Q193 => ?_
  have z_K193 : h191.size ≤ h193.size := K193.1
  obtain ⟨rfl, cs194, l_cs194, c_cs194, V194⟩ := Q193
  refine g_aload (pc' := 168) W193.here hx (hb hby at_166) rfl rfl rfl ?_
  refine g_bipush (12 : Int32) (pc' := 170) W193.here hx (hb hby at_168) rfl rfl ?_
  refine g_lloadN (pc' := 171) W193.here hx (hb hby at_170) rfl rfl ?_
  refine g_lloadN (pc' := 172) W193.here hx (hb hby at_171) rfl rfl ?_
  refine g_iload (pc' := 174) W193.here hx (hb hby at_172) rfl rfl ?_
  refine g_iload (pc' := 176) W193.here hx (hb hby at_174) rfl rfl ?_
  refine w_callS (pc' := 179) (st := []) (y := (⟨"com/example/despatch/despatch/fhir/WholeNumberReadPinLaw", "put", "([CIJJII)V"⟩ : MethodName)) W193 hx [(.ref b169), (.int (12 : Int32)), (.long p0), (.long p1), (.int p2), (.int p3)] (hw _ (List.mem_of_getElem? w_2)) (hw _ (List.mem_of_getElem? w_3)) (hw _ (List.mem_of_getElem? w_4)) (hw _ (List.mem_of_getElem? w_5)) (by decide) (c_put l Z a0 hw hE b169 nN (12 : Int32) p0 p1 p2 p3 cs194 h193 W193.old (by have := O.1; omega) (by decide) l_cs194 hn20 c_cs194 V194) (allS (List.mem_of_getElem? (i := 0) rfl) all0) (by rw [hml]; rfl) (lenOf pd_17 rfl) rfl (hb hby at_176) (Nat.le_of_ble_eq_true rfl) (Nat.le_of_ble_eq_true rfl) (Nat.le_of_ble_eq_true rfl) (Nat.le_of_ble_eq_true rfl) rfl fun v195 T195 h195 W195 K195 Q195 => ?_
  have z_K195 : h193.size ≤ h195.size := K195.1
  obtain ⟨rfl, cs196, l_cs196, c_cs196, V196⟩ := Q195
  refine g_aload (pc' := 181) W195.here hx (hb hby at_179) rfl rfl rfl ?_
  refine g_bipush (13 : Int32) (pc' := 183) W195.here hx (hb hby at_181) rfl rfl ?_
  refine g_lloadN (pc' := 184) W195.here hx (hb hby at_183) rfl rfl ?_
  refine g_lloadN (pc' := 185) W195.here hx (hb hby at_184) rfl rfl ?_
  refine g_iload (pc' := 187) W195.here hx (hb hby at_185) rfl rfl ?_
  refine g_iload (pc' := 189) W195.here hx (hb hby at_187) rfl rfl ?_
  refine w_callS (pc' := 192) (st := []) (y := (⟨"com/example/despatch/despatch/fhir/WholeNumberReadPinLaw", "put", "([CIJJII)V"⟩ : MethodName)) W195 hx [(.ref b169), (.int (13 : Int32)), (.long p0), (.long p1), (.int p2), (.int p3)] (hw _ (List.mem_of_getElem? w_2)) (hw _ (List.mem_of_getElem? w_3)) (hw _ (List.mem_of_getElem? w_4)) (hw _ (List.mem_of_getElem? w_5)) (by decide) (c_put l Z a0 hw hE b169 nN (13 : Int32) p0 p1 p2 p3 cs196 h195 W195.old (by have := O.1; omega) (by decide) l_cs196 hn20 c_cs196 V196) (allS (List.mem_of_getElem? (i := 0) rfl) all0) (by rw [hml]; rfl) (lenOf pd_17 rfl) rfl (hb hby at_189) (Nat.le_of_ble_eq_true rfl) (Nat.le_of_ble_eq_true rfl) (Nat.le_of_ble_eq_true rfl) (Nat.le_of_ble_eq_true rfl) rfl fun v197 T197 h197 W197 K197 Q197 => ?_
  have z_K197 : h195.size ≤ h197.size := K197.1
  obtain ⟨rfl, cs198, l_cs198, c_cs198, V198⟩ := Q197
  refine g_aload (pc' := 194) W197.here hx (hb hby at_192) rfl rfl rfl ?_
  refine g_bipush (14 : Int32) (pc' := 196) W197.here hx (hb hby at_194) rfl rfl ?_
  refine g_lloadN (pc' := 197) W197.here hx (hb hby at_196) rfl rfl ?_
  refine g_lloadN (pc' := 198) W197.here hx (hb hby at_197) rfl rfl ?_
  refine g_iload (pc' := 200) W197.here hx (hb hby at_198) rfl rfl ?_
  refine g_iload (pc' := 202) W197.here hx (hb hby at_200) rfl rfl ?_
  refine w_callS (pc' := 205) (st := []) (y := (⟨"com/example/despatch/despatch/fhir/WholeNumberReadPinLaw", "put", "([CIJJII)V"⟩ : MethodName)) W197 hx [(.ref b169), (.int (14 : Int32)), (.long p0), (.long p1), (.int p2), (.int p3)] (hw _ (List.mem_of_getElem? w_2)) (hw _ (List.mem_of_getElem? w_3)) (hw _ (List.mem_of_getElem? w_4)) (hw _ (List.mem_of_getElem? w_5)) (by decide) (c_put l Z a0 hw hE b169 nN (14 : Int32) p0 p1 p2 p3 cs198 h197 W197.old (by have := O.1; omega) (by decide) l_cs198 hn20 c_cs198 V198) (allS (List.mem_of_getElem? (i := 0) rfl) all0) (by rw [hml]; rfl) (lenOf pd_17 rfl) rfl (hb hby at_202) (Nat.le_of_ble_eq_true rfl) (Nat.le_of_ble_eq_true rfl) (Nat.le_of_ble_eq_true rfl) (Nat.le_of_ble_eq_true rfl) rfl fun v199 T199 h199 W199 K199 Q199 => ?_
  have z_K199 : h197.size ≤ h199.size := K199.1
  obtain ⟨rfl, cs200, l_cs200, c_cs200, V200⟩ := Q199
  refine g_aload (pc' := 207) W199.here hx (hb hby at_205) rfl rfl rfl ?_
  refine g_bipush (15 : Int32) (pc' := 209) W199.here hx (hb hby at_207) rfl rfl ?_
  refine g_lloadN (pc' := 210) W199.here hx (hb hby at_209) rfl rfl ?_
  refine g_lloadN (pc' := 211) W199.here hx (hb hby at_210) rfl rfl ?_
  refine g_iload (pc' := 213) W199.here hx (hb hby at_211) rfl rfl ?_
  refine g_iload (pc' := 215) W199.here hx (hb hby at_213) rfl rfl ?_
  refine w_callS (pc' := 218) (st := []) (y := (⟨"com/example/despatch/despatch/fhir/WholeNumberReadPinLaw", "put", "([CIJJII)V"⟩ : MethodName)) W199 hx [(.ref b169), (.int (15 : Int32)), (.long p0), (.long p1), (.int p2), (.int p3)] (hw _ (List.mem_of_getElem? w_2)) (hw _ (List.mem_of_getElem? w_3)) (hw _ (List.mem_of_getElem? w_4)) (hw _ (List.mem_of_getElem? w_5)) (by decide) (c_put l Z a0 hw hE b169 nN (15 : Int32) p0 p1 p2 p3 cs200 h199 W199.old (by have := O.1; omega) (by decide) l_cs200 hn20 c_cs200 V200) (allS (List.mem_of_getElem? (i := 0) rfl) all0) (by rw [hml]; rfl) (lenOf pd_17 rfl) rfl (hb hby at_215) (Nat.le_of_ble_eq_true rfl) (Nat.le_of_ble_eq_true rfl) (Nat.le_of_ble_eq_true rfl) (Nat.le_of_ble_eq_true rfl) rfl fun v201 T201 h201 W201 K201 Q201 => ?_
  have z_K201 : h199.size ≤ h201.size := K201.1
  obtain ⟨rfl, cs202, l_cs202, c_cs202, V202⟩ := Q201
  refine g_aload (pc' := 220) W201.here hx (hb hby at_218) rfl rfl rfl ?_
  refine g_bipush (16 : Int32) (pc' := 222) W201.here hx (hb hby at_220) rfl rfl ?_
  refine g_lloadN (pc' := 223) W201.here hx (hb hby at_222) rfl rfl ?_
  refine g_lloadN (pc' := 224) W201.here hx (hb hby at_223) rfl rfl ?_
  refine g_iload (pc' := 226) W201.here hx (hb hby at_224) rfl rfl ?_
  refine g_iload (pc' := 228) W201.here hx (hb hby at_226) rfl rfl ?_
  refine w_callS (pc' := 231) (st := []) (y := (⟨"com/example/despatch/despatch/fhir/WholeNumberReadPinLaw", "put", "([CIJJII)V"⟩ : MethodName)) W201 hx [(.ref b169), (.int (16 : Int32)), (.long p0), (.long p1), (.int p2), (.int p3)] (hw _ (List.mem_of_getElem? w_2)) (hw _ (List.mem_of_getElem? w_3)) (hw _ (List.mem_of_getElem? w_4)) (hw _ (List.mem_of_getElem? w_5)) (by decide) (c_put l Z a0 hw hE b169 nN (16 : Int32) p0 p1 p2 p3 cs202 h201 W201.old (by have := O.1; omega) (by decide) l_cs202 hn20 c_cs202 V202) (allS (List.mem_of_getElem? (i := 0) rfl) all0) (by rw [hml]; rfl) (lenOf pd_17 rfl) rfl (hb hby at_228) (Nat.le_of_ble_eq_true rfl) (Nat.le_of_ble_eq_true rfl) (Nat.le_of_ble_eq_true rfl) (Nat.le_of_ble_eq_true rfl) rfl fun v203 T203 h203 W203 K203 Q203 => ?_
  have z_K203 : h201.size ≤ h203.size := K203.1
  obtain ⟨rfl, cs204, l_cs204, c_cs204, V204⟩ := Q203
  refine g_aload (pc' := 233) W203.here hx (hb hby at_231) rfl rfl rfl ?_
  refine g_bipush (17 : Int32) (pc' := 235) W203.here hx (hb hby at_233) rfl rfl ?_
  refine g_lloadN (pc' := 236) W203.here hx (hb hby at_235) rfl rfl ?_
  refine g_lloadN (pc' := 237) W203.here hx (hb hby at_236) rfl rfl ?_
  refine g_iload (pc' := 239) W203.here hx (hb hby at_237) rfl rfl ?_
  refine g_iload (pc' := 241) W203.here hx (hb hby at_239) rfl rfl ?_
  refine w_callS (pc' := 244) (st := []) (y := (⟨"com/example/despatch/despatch/fhir/WholeNumberReadPinLaw", "put", "([CIJJII)V"⟩ : MethodName)) W203 hx [(.ref b169), (.int (17 : Int32)), (.long p0), (.long p1), (.int p2), (.int p3)] (hw _ (List.mem_of_getElem? w_2)) (hw _ (List.mem_of_getElem? w_3)) (hw _ (List.mem_of_getElem? w_4)) (hw _ (List.mem_of_getElem? w_5)) (by decide) (c_put l Z a0 hw hE b169 nN (17 : Int32) p0 p1 p2 p3 cs204 h203 W203.old (by have := O.1; omega) (by decide) l_cs204 hn20 c_cs204 V204) (allS (List.mem_of_getElem? (i := 0) rfl) all0) (by rw [hml]; rfl) (lenOf pd_17 rfl) rfl (hb hby at_241) (Nat.le_of_ble_eq_true rfl) (Nat.le_of_ble_eq_true rfl) (Nat.le_of_ble_eq_true rfl) (Nat.le_of_ble_eq_true rfl) rfl fun v205 T205 h205 W205 K205 Q205 => ?_
  have z_K205 : h203.size ≤ h205.size := K205.1
  obtain ⟨rfl, cs206, l_cs206, c_cs206, V206⟩ := Q205
  refine g_aload (pc' := 246) W205.here hx (hb hby at_244) rfl rfl rfl ?_
  refine g_bipush (18 : Int32) (pc' := 248) W205.here hx (hb hby at_246) rfl rfl ?_
  refine g_lloadN (pc' := 249) W205.here hx (hb hby at_248) rfl rfl ?_
  refine g_lloadN (pc' := 250) W205.here hx (hb hby at_249) rfl rfl ?_
  refine g_iload (pc' := 252) W205.here hx (hb hby at_250) rfl rfl ?_
  refine g_iload (pc' := 254) W205.here hx (hb hby at_252) rfl rfl ?_
  refine w_callS (pc' := 257) (st := []) (y := (⟨"com/example/despatch/despatch/fhir/WholeNumberReadPinLaw", "put", "([CIJJII)V"⟩ : MethodName)) W205 hx [(.ref b169), (.int (18 : Int32)), (.long p0), (.long p1), (.int p2), (.int p3)] (hw _ (List.mem_of_getElem? w_2)) (hw _ (List.mem_of_getElem? w_3)) (hw _ (List.mem_of_getElem? w_4)) (hw _ (List.mem_of_getElem? w_5)) (by decide) (c_put l Z a0 hw hE b169 nN (18 : Int32) p0 p1 p2 p3 cs206 h205 W205.old (by have := O.1; omega) (by decide) l_cs206 hn20 c_cs206 V206) (allS (List.mem_of_getElem? (i := 0) rfl) all0) (by rw [hml]; rfl) (lenOf pd_17 rfl) rfl (hb hby at_254) (Nat.le_of_ble_eq_true rfl) (Nat.le_of_ble_eq_true rfl) (Nat.le_of_ble_eq_true rfl) (Nat.le_of_ble_eq_true rfl) rfl fun v207 T207 h207 W207 K207 Q207 => ?_
  have z_K207 : h205.size ≤ h207.size := K207.1
  obtain ⟨rfl, cs208, l_cs208, c_cs208, V208⟩ := Q207
  refine g_aload (pc' := 259) W207.here hx (hb hby at_257) rfl rfl rfl ?_
  refine g_bipush (19 : Int32) (pc' := 261) W207.here hx (hb hby at_259) rfl rfl ?_
  refine g_lloadN (pc' := 262) W207.here hx (hb hby at_261) rfl rfl ?_
  refine g_lloadN (pc' := 263) W207.here hx (hb hby at_262) rfl rfl ?_
  refine g_iload (pc' := 265) W207.here hx (hb hby at_263) rfl rfl ?_
  refine g_iload (pc' := 267) W207.here hx (hb hby at_265) rfl rfl ?_
  refine w_callS (pc' := 270) (st := []) (y := (⟨"com/example/despatch/despatch/fhir/WholeNumberReadPinLaw", "put", "([CIJJII)V"⟩ : MethodName)) W207 hx [(.ref b169), (.int (19 : Int32)), (.long p0), (.long p1), (.int p2), (.int p3)] (hw _ (List.mem_of_getElem? w_2)) (hw _ (List.mem_of_getElem? w_3)) (hw _ (List.mem_of_getElem? w_4)) (hw _ (List.mem_of_getElem? w_5)) (by decide) (c_put l Z a0 hw hE b169 nN (19 : Int32) p0 p1 p2 p3 cs208 h207 W207.old (by have := O.1; omega) (by decide) l_cs208 hn20 c_cs208 V208) (allS (List.mem_of_getElem? (i := 0) rfl) all0) (by rw [hml]; rfl) (lenOf pd_17 rfl) rfl (hb hby at_267) (Nat.le_of_ble_eq_true rfl) (Nat.le_of_ble_eq_true rfl) (Nat.le_of_ble_eq_true rfl) (Nat.le_of_ble_eq_true rfl) rfl fun v209 T209 h209 W209 K209 Q209 => ?_
  have z_K209 : h207.size ≤ h209.size := K209.1
  obtain ⟨rfl, cs210, l_cs210, c_cs210, V210⟩ := Q209
  refine w_new (pc' := 273) W209 hx (hw _ (List.mem_of_getElem? w_6)) (hw _ (List.mem_of_getElem? w_7)) (hw _ (List.mem_of_getElem? w_8)) (hb hby at_270) (Nat.le_of_ble_eq_true rfl) (Nat.le_of_ble_eq_true rfl) rfl fun T211 h211 b211 g211 W211 K211 A211 D211 => ?_
  have z_K211 : h209.size ≤ h211.size := K211.1
  have ne_b169_b211 : b169 ≠ b211 := by omega
  have lt_b211 : b211 < h211.size := W211.lt (List.mem_cons_self ..)
  have F211_value : Fld Z h211 b211 "java/lang/String" "value" "[B" .null := D211 (Or.inr (hw _ (List.mem_of_getElem? w_21))) (ty := (.array .byte)) (by decide)
  have F211_coder : Fld Z h211 b211 "java/lang/String" "coder" "B" (.int (0 : Int32)) := D211 (Or.inr (hw _ (List.mem_of_getElem? w_22))) (ty := .byte) (by decide)
  refine g_dup (pc' := 274) W211.here hx (hb hby at_273) rfl rfl ?_
  refine g_aload (pc' := 276) W211.here hx (hb hby at_274) rfl rfl rfl ?_
  have c212 := (V210.keep K211 nin0)
  refine w_special (pc' := 279) (st := [(.ref b211)]) (y := (⟨"java/lang/String", "<init>", "([C)V"⟩ : MethodName)) (a := b211) W211 hx [(.ref b169)] rfl (hw _ (List.mem_of_getElem? w_9)) (hw _ (List.mem_of_getElem? w_10)) (hw _ (List.mem_of_getElem? w_8)) (hw _ (List.mem_of_getElem? w_11)) (by decide) (c_strC l Z a0 hw hE cc fm b211 b169 cs210 h211 W211.old G (by rw [l_cs210]; exact hn20) c_cs210 c212 (by have := O.1; omega) A211 _ _ F211_coder F211_value (Ne.symm ne_b169_b211)) (allS (List.mem_of_getElem? (i := 0) rfl) all0) (by rw [hml]; rfl) (lenOf pd_18 rfl) rfl (hb hby at_276) (Nat.le_of_ble_eq_true rfl) (Nat.le_of_ble_eq_true rfl) (Nat.le_of_ble_eq_true rfl) (Nat.le_of_ble_eq_true rfl) rfl fun v213 T213 h213 W213 K213 Q213 => ?_
  have z_K213 : h211.size ≤ h213.size := K213.1
  obtain ⟨rfl, sb214, S214⟩ := Q213
  have ES214 := S214.1
  have lt_sb214 : sb214 < h213.size := S214.ltb
  refine g_astore (pc' := 281) (Ls' := #[.val (.long p0), .second, .val (.long p1), .second, .val (.int p2), .val (.int p3), .val (.int p4), .val (.int nn), .val (.ref b169), .val (.ref b211), .unset]) W213.here hx (hb hby at_279) rfl rfl rfl ?_
  refine g_aload (pc' := 283) W213.here hx (hb hby at_281) rfl rfl rfl ?_
  refine w_callS (pc' := 286) (st := []) (y := (⟨"com/example/despatch/despatch/fhir/WholeNumber", "read", "(Ljava/lang/String;)Ljava/util/OptionalInt;"⟩ : MethodName)) W213 hx [(.ref b211)] (hw _ (List.mem_of_getElem? w_27)) (hw _ (List.mem_of_getElem? w_28)) (hw _ (List.mem_of_getElem? w_29)) (hw _ (List.mem_of_getElem? w_30)) (by decide) (c_read l Z a0 hw hE cc fm b211 sb214 oE cs210 h213 W213.old G S_E X_E P_E V_E S214 (by rw [l_cs210]; exact hn20)) all0 (by rw [hml]; rfl) (lenOf pd_19 rfl) rfl (hb hby at_283) (Nat.le_of_ble_eq_true rfl) (Nat.le_of_ble_eq_true rfl) (Nat.le_of_ble_eq_true rfl) (Nat.le_of_ble_eq_true rfl) rfl fun v215 T215 h215 W215 K215 Q215 => ?_
  have z_K215 : h213.size ≤ h215.size := K215.1
  obtain ⟨o216, pr, vv, rfl, E216, P216, V216, hcase⟩ := Q215
  rcases hcase with ⟨rfl, hres⟩ | ⟨rfl, hres⟩
  · have hz8 := hres
    refine g_iconst (-1 : Int32) (pc' := 287) W215.here hx (hb hby at_286) rfl rfl ?_
    refine w_virtualp (pc' := 290) (st := []) (y := (⟨"java/util/OptionalInt", "orElse", "(I)I"⟩ : MethodName)) (z := (⟨"java/util/OptionalInt", "orElse", "(I)I"⟩ : MethodName)) (a := o216) W215 hx [(.int (-1 : Int32))] (hw _ (List.mem_of_getElem? w_41)) (hw _ (List.mem_of_getElem? w_42)) (nfS (z := (⟨"java/util/OptionalInt", "orElse", "(I)I"⟩ : MethodName)) (hw _ (List.mem_of_getElem? w_44))) (hw _ (List.mem_of_getElem? w_44)) (hw _ (List.mem_of_getElem? w_43)) (hw _ (List.mem_of_getElem? w_38)) (hw _ (List.mem_of_getElem? w_45)) (by decide) (c_orElse0 l Z a0 hw hE o216 vv (-1 : Int32) h215 W215.old P216 V216) E216 (by rw [hml]; rfl) (lenOf pd_20 rfl) rfl (hb hby at_287) (Nat.le_of_ble_eq_true rfl) (Nat.le_of_ble_eq_true rfl) rfl rfl (Nat.le_of_ble_eq_true rfl) (Nat.le_of_ble_eq_true rfl) rfl fun T217 W217 => ?_
    refine g_istore (pc' := 292) (Ls' := #[.val (.long p0), .second, .val (.long p1), .second, .val (.int p2), .val (.int p3), .val (.int p4), .val (.int nn), .val (.ref b169), .val (.ref b211), .val (.int (-1 : Int32))]) W217.here hx (hb hby at_290) rfl rfl ?_
    refine g_iload (pc' := 294) W217.here hx (hb hby at_292) rfl rfl ?_
    refine g_aload (pc' := 296) W217.here hx (hb hby at_294) rfl rfl rfl ?_
    have c218 := ((c212.keep K213 (ninS ne_b169_b211 nin0)).keep K215 nin0)
    refine w_callSp (pc' := 299) (st := [(.int (-1 : Int32))]) (y := (⟨"com/example/despatch/despatch/fhir/WholeNumberReadPinLaw", "expected", "([C)I"⟩ : MethodName)) W217 hx [(.ref b169)] (hw _ (List.mem_of_getElem? w_48)) (hw _ (List.mem_of_getElem? w_49)) (hw _ (List.mem_of_getElem? w_4)) (hw _ (List.mem_of_getElem? w_50)) (by decide) (c_exp l Z a0 hw hE b169 cs210 h215 W217.old (by rw [l_cs210]; exact hn20) c218) (by rw [hml]; rfl) (lenOf pd_21 rfl) rfl (hb hby at_296) (Nat.le_of_ble_eq_true rfl) (Nat.le_of_ble_eq_true rfl) rfl rfl (Nat.le_of_ble_eq_true rfl) (Nat.le_of_ble_eq_true rfl) rfl fun T219 W219 => ?_
    refine g_icmpN (pc' := 302) W219.here hx (hb hby at_299) rfl (teq (show (-1 : Int32) = (resI cs210) from hres.symm)).2 ?_
    refine g_iconst (1 : Int32) (pc' := 303) W219.here hx (hb hby at_302) rfl rfl ?_
    refine g_goto (pc' := 307) W219.here hx (hb hby at_303) rfl ?_
    refine w_retN (t := .boolean) W219 hx hh hlk hret (by simp) (hb hby at_307) (Nat.le_of_ble_eq_true rfl) (Nat.le_of_ble_eq_true rfl) ?_
    exact rfl
  · have hz8 := hres
    refine g_iconst (-1 : Int32) (pc' := 287) W215.here hx (hb hby at_286) rfl rfl ?_
    refine w_virtualp (pc' := 290) (st := []) (y := (⟨"java/util/OptionalInt", "orElse", "(I)I"⟩ : MethodName)) (z := (⟨"java/util/OptionalInt", "orElse", "(I)I"⟩ : MethodName)) (a := o216) W215 hx [(.int (-1 : Int32))] (hw _ (List.mem_of_getElem? w_41)) (hw _ (List.mem_of_getElem? w_42)) (nfS (z := (⟨"java/util/OptionalInt", "orElse", "(I)I"⟩ : MethodName)) (hw _ (List.mem_of_getElem? w_44))) (hw _ (List.mem_of_getElem? w_44)) (hw _ (List.mem_of_getElem? w_43)) (hw _ (List.mem_of_getElem? w_38)) (hw _ (List.mem_of_getElem? w_45)) (by decide) (c_orElse1 l Z a0 hw hE o216 vv (-1 : Int32) h215 W215.old P216 V216) E216 (by rw [hml]; rfl) (lenOf pd_20 rfl) rfl (hb hby at_287) (Nat.le_of_ble_eq_true rfl) (Nat.le_of_ble_eq_true rfl) rfl rfl (Nat.le_of_ble_eq_true rfl) (Nat.le_of_ble_eq_true rfl) rfl fun T220 W220 => ?_
    refine g_istore (pc' := 292) (Ls' := #[.val (.long p0), .second, .val (.long p1), .second, .val (.int p2), .val (.int p3), .val (.int p4), .val (.int nn), .val (.ref b169), .val (.ref b211), .val (.int vv)]) W220.here hx (hb hby at_290) rfl rfl ?_
    refine g_iload (pc' := 294) W220.here hx (hb hby at_292) rfl rfl ?_
    refine g_aload (pc' := 296) W220.here hx (hb hby at_294) rfl rfl rfl ?_
    have c221 := ((c212.keep K213 (ninS ne_b169_b211 nin0)).keep K215 nin0)
    refine w_callSp (pc' := 299) (st := [(.int vv)]) (y := (⟨"com/example/despatch/despatch/fhir/WholeNumberReadPinLaw", "expected", "([C)I"⟩ : MethodName)) W220 hx [(.ref b169)] (hw _ (List.mem_of_getElem? w_48)) (hw _ (List.mem_of_getElem? w_49)) (hw _ (List.mem_of_getElem? w_4)) (hw _ (List.mem_of_getElem? w_50)) (by decide) (c_exp l Z a0 hw hE b169 cs210 h215 W220.old (by rw [l_cs210]; exact hn20) c221) (by rw [hml]; rfl) (lenOf pd_21 rfl) rfl (hb hby at_296) (Nat.le_of_ble_eq_true rfl) (Nat.le_of_ble_eq_true rfl) rfl rfl (Nat.le_of_ble_eq_true rfl) (Nat.le_of_ble_eq_true rfl) rfl fun T222 W222 => ?_
    refine g_icmpN (pc' := 302) W222.here hx (hb hby at_299) rfl (teq (show vv = (resI cs210) from hres)).2 ?_
    refine g_iconst (1 : Int32) (pc' := 303) W222.here hx (hb hby at_302) rfl rfl ?_
    refine g_goto (pc' := 307) W222.here hx (hb hby at_303) rfl ?_
    refine w_retN (t := .boolean) W222 hx hh hlk hret (by simp) (hb hby at_307) (Nat.le_of_ble_eq_true rfl) (Nat.le_of_ble_eq_true rfl) ?_
    exact rfl
theorem own_fldI {s : State} {args : Array Value} {t : Term} {a : Addr} {C f : String} {z : Int32} (e : t.eval args s none [] s = some (.ref a)) (h : (Jvm.Cond.eq (Jvm.Term.field t C f "I") (Jvm.Term.int z)).value args s none s [] = some true) : Fld s s.heap a C f "I" (.int z) := by
  have q := eqv_i (Z := s) (F := Jvm.Term.int z) (y := z) rfl h
  rw [fld_at e] at q
  exact Fld.start q
theorem own_fldJ {s : State} {args : Array Value} {t : Term} {a : Addr} {C f : String} {z : Int64} (e : t.eval args s none [] s = some (.ref a)) (h : (Jvm.Cond.eq (Jvm.Term.field t C f "J") (Jvm.Term.long z)).value args s none s [] = some true) : Fld s s.heap a C f "J" (.long z) := by
  have q := eqv_l (Z := s) (F := Jvm.Term.long z) (y := z) rfl h
  rw [fld_at e] at q
  exact Fld.start q
theorem own_fldR {s : State} {args : Array Value} {t u : Term} {a b : Addr} {C f d : String} (e : t.eval args s none [] s = some (.ref a)) (eu : u.eval args s none [] s = some (.ref b)) (h : (Jvm.Cond.eq (Jvm.Term.field t C f d) u).value args s none s [] = some true) : Fld s s.heap a C f d (.ref b) := by
  obtain ⟨x, y, e1, e2, k1, k2⟩ := cmp_v (Or.inl h)
  cases eu.symm.trans e2
  have hx : x.isRef = true := k2.2
  have q := gotT (eq_R e1 e2 hx rfl) h
  subst q
  rw [fld_at e] at e1
  exact Fld.start e1
theorem own_fldE {s : State} {args : Array Value} {t : Term} {a : Addr} {C f d : String} {z : Int32} (e : t.eval args s none [] s = some (.ref a)) (h : (Jvm.Cond.eq (Jvm.Term.field t C f d) (Jvm.Term.int z)).value args s none s [] = some true) : Fld s s.heap a C f d (.int z) := by
  have q := eqv_i (Z := s) (F := Jvm.Term.int z) (y := z) rfl h
  rw [fld_at e] at q
  exact Fld.start q
set_option maxRecDepth 65536 in
set_option maxHeartbeats 40000000 in
theorem comes_1 {Post : Tables → Env → Array Value → State → Outcome → State → Prop} (hpost : ∀ tb e args s v u, (limb_1_1.after args s (.returned v) u = true ∧ limb_1_2.after args s (.returned v) u = true ∧ True) → ReturnedEndW s (.returned v) u (Jvm.fieldLocs frame_1_writes args s ++ Jvm.arrayLocs frame_1_arrays args s ++ Jvm.staticLocs frame_1_statics s) 24 1216 → Post tb e args s (.returned v) u) :
    ArmFor flags0 classFile x code maxLocals ret World_1 tables_1 room_1 Calls_1 rest_1 Pre_1 Post := by
  intro l hfl _ _ p e ha hc hk s m args below hf hA hF happ hP
  obtain ⟨hcalls, hrest, hpre⟩ := hP
  obtain ⟨-, -, -, hnamed, -, -, -, hat⟩ := (Spec.applies_iff hf).mp happ
  obtain ⟨hg, hn⟩ := and_e (Cond.before_iff.mp (show (Jvm.Cond.and given_1 narrow_1).before args s = true from hpre))
  obtain ⟨hg0, hg⟩ := and_e hg
  obtain ⟨w0, w1, w2, w3, w4, rfl⟩ : ∃ w0 w1 w2 w3 w4 : Value, args = #[w0, w1, w2, w3, w4] := by
    have hs : args.size = 5 := by simpa [Cond.value, given_1] using hg0
    obtain ⟨L⟩ := args
    match L, hs with
    | [w0, w1, w2, w3, w4], _ => exact ⟨w0, w1, w2, w3, w4, rfl⟩
  have hw := fun d (hd : d ∈ tables_1) => atoms_spec (ws := Jvm.Cond.code x code maxLocals ret :: tables_1) hat d (List.mem_cons_of_mem _ hd)
  have hfit : Fit s := fun {y c} hc i hi => by
    obtain ⟨ha, rfl⟩ := Array.getElem?_eq_some_iff.mp hc
    have q := List.all_eq_true.mp ((Array.all_eq_true_iff_forall_mem.mp hF) _ (Array.getElem_mem ha)) i (List.mem_range.mpr hi)
    simpa [Array.getElem?_eq_getElem hi] using q
  obtain ⟨hg1, hg⟩ := and_e hg
  obtain ⟨p0, ep0⟩ := isL_v hg1
  obtain rfl : w0 = (.long p0) := Option.some.inj ep0
  obtain ⟨hg2, hg⟩ := and_e hg
  obtain ⟨p1, ep1⟩ := isL_v hg2
  obtain rfl : w1 = (.long p1) := Option.some.inj ep1
  obtain ⟨hg3, hg⟩ := and_e hg
  obtain ⟨p2, ep2⟩ := is_v hg3
  obtain rfl : w2 = (.int p2) := Option.some.inj ep2
  obtain ⟨hg4, hg⟩ := and_e hg
  obtain ⟨p3, ep3⟩ := is_v hg4
  obtain rfl : w3 = (.int p3) := Option.some.inj ep3
  have hg5 := hg
  obtain ⟨p4, ep4⟩ := is_v hg5
  obtain rfl : w4 = (.int p4) := Option.some.inj ep4
  have n1 := hn
  have hsets := (atoms_of jdkStatics_1 (show (jdkStatics_1.foldr Cond.and restOwn_1).before _ s = true by rw [← rest_1_c_eq]; exact hrest)).1
  have hheld : ∀ p ∈ consts_1, Jvm.Lit.constHeld s p.1 p.2 := hcalls.1
  obtain ⟨oE, eE⟩ := exa_v (Cond.before_iff.mp (hsets _ (List.mem_of_getElem? (i := 2) rfl)))
  have XE := Exa.start eE (Cond.before_iff.mp (hsets _ (List.mem_of_getElem? (i := 2) rfl)))
  have PE := own_fldE eE (Cond.before_iff.mp (hsets _ (List.mem_of_getElem? (i := 3) rfl)))
  have VE := own_fldE eE (Cond.before_iff.mp (hsets _ (List.mem_of_getElem? (i := 4) rfl)))
  obtain ⟨cc, ecc⟩ := is_v (Cond.before_iff.mp (hsets _ (List.mem_of_getElem? (i := 6) rfl)))
  have hcc : ¬ cc = 0 := fun q => by
    have q1 := not_v (Cond.before_iff.mp (hsets _ (List.mem_of_getElem? (i := 7) rfl)))
    exact absurd q (gotF (Cond.eq_ints ecc (Term.int_eval 0)) q1)
  obtain ⟨fm, efm, hfm⟩ := isR_v (Cond.before_iff.mp (hsets _ (List.mem_of_getElem? (i := 13) rfl)))
  have hG : SEnv s cc fm := ⟨Sta.start ecc (Or.inl (hsets _ (List.mem_of_getElem? (i := 5) rfl))), hcc, Sta.start efm (Or.inl (hsets _ (List.mem_of_getElem? (i := 12) rfl))), hfm⟩
  have hEW : EW s _ consts_1 := (EW.cons (hw _ (List.mem_of_getElem? w_19)) (by decide) EW.nil)
  have hCH : CHv s consts_1 s.vm s.heap := CHv.start hEW hheld (a0 := _) (hsets _ (List.mem_of_getElem? (i := 7) rfl)) (hw _ (List.mem_of_getElem? w_20)) (hw _ (List.mem_of_getElem? w_7))
  obtain ⟨t, o, h1, h2, h3, v, L, rfl, ⟨rfl, N, -⟩, -, hq⟩ := c_law l s _ hw hEW cc fm p0 p1 p2 p3 p4 oE s.heap ⟨Nat.le_refl _, fun _ _ q => q⟩ hG (Sta.start eE (Or.inl (hsets _ (List.mem_of_getElem? (i := 1) rfl)))) XE PE VE
    p e ha hc hk s m _ below hf ((Spec.applies_iff_loose hf).mp happ).1 ⟨rfl, State.Warmed39.refl s, rfl, hCH, fun _ q => nomatch q⟩ trivial
  refine ⟨t, _, h1, h2, h3, hpost _ _ _ _ _ _ ⟨Cond.after_iff.mpr rfl, Cond.after_iff.mpr (eq_i res_at (Term.int_eval (1)) rfl), trivial⟩ ⟨hq.1, hq.2.1, hq.2.2.1, (hq.2.2.2.sift fun y hy => Or.inr (N y hy)).mono (by decide) (by decide)⟩⟩
theorem main_1_1 : Claimed_1_1 := comes_1 fun _ _ _ _ _ _ h hF => ⟨h.1, hF⟩
theorem main_1_2 : Claimed_1_2 := comes_1 fun _ _ _ _ _ _ h hF => ⟨h.2.1, hF⟩
end Jvm.Pilot.@@N@@
namespace Jvm.Pilot.@@N@@
open Jvm Jvm.ClassFile Sem Op Lib Jvm.Free Jvm.Stand Jvm.Pilot.@@N@@.Jvm.D
/-! MADE BY PROGRAM (witnessworld.py) out of the Statement's table words and the real class files: 22 classes; the members and pool entries that the words name. The judged class is class 1, her method 1. -/
namespace start1
open Jvm.ClassFile
def u (s : String) : CpInfo := .utf8 (stringToUtf16 s)
/-- a pool by its gaps: so many unusable entries, then the entry; so many at the end -/
def gap : Nat → List CpInfo → List CpInfo
  | 0, r => r
  | n + 1, r => .unusable :: gap n r
def poolList (es : List (Nat × CpInfo)) (last : Nat) : List CpInfo := es.foldr (fun e r => gap e.1 (e.2 :: r)) (gap last [])
def pool (es : List (Nat × CpInfo)) (last : Nat) : Array CpInfo := ⟨poolList es last⟩
def fileOf (pool : Array CpInfo) (this : Nat) (attrs : Array Attribute := #[]) (ms : Array MethodInfo := #[]) (fl : Nat := 33) (sup : Nat := 0) (ifs : Array Nat := #[]) (fds : Array FieldInfo := #[]) : ClassFile where
  minorVersion := 0
  majorVersion := 65
  constantPool := pool
  accessFlags := fl
  thisClass := this
  superClass := sup
  interfaces := ifs
  fields := fds
  methods := ms
  attributes := attrs
def plain (name : String) (sup : Option ClassId) : Class where
  name := name
  kind := .ordinary
  loader := none
  accessFlags := 33
  super := sup
  interfaces := #[]
  cf := none
  fields := #[]
  methods := #[]
  instanceTypes := #[]
  staticTypes := #[]
  resolved := #[]
  callSites := []
  init := .initialized
  statics := none
  mirror := none

def pool0 : Array CpInfo := pool [(5, u "<init>"), (0, u "()V"), (1, .class_ 10), (1, u "java/lang/Object")] 113

def k0c0 : Code := { maxStack := 0, maxLocals := 1, code := object_method_1_code, exceptionTable := #[], attributes := #[] }
def k0m0 : Method := { name := "<init>", desc := "()V", sig := { parameters := [], returnType := none }, accessFlags := 1, code := some k0c0 }
/-- java/lang/Object -/
def k0 : Class := { plain "java/lang/Object" none with
  accessFlags := 33
  interfaces := #[]
  cf := some (fileOf pool0 8 #[] #[{ accessFlags := 1, nameIndex := 5, descriptorIndex := 6, attributes := #[] }] 33 0 #[] #[])
  fields := #[]
  methods := #[k0m0]
  instanceTypes := #[]
  staticTypes := #[]
  resolved := Array.replicate 124 none
  statics := none }

def pool1 : Array CpInfo := pool [(2, .class_ 4), (1, u "java/lang/Object"), (0, u "<init>"), (0, u "()V"), (0, .integer 2147483647), (0, .methodref 9 10), (0, .class_ 11), (0, .nameAndType 12 13), (0, u "com/example/despatch/despatch/fhir/WholeNumberReadPinLaw"), (0, u "put"), (0, u "([CIJJII)V"), (0, .class_ 15), (0, u "java/lang/String"), (0, .methodref 14 17), (0, .nameAndType 5 18), (0, u "([C)V"), (0, .methodref 20 21), (0, .class_ 22), (0, .nameAndType 23 24), (0, u "com/example/despatch/despatch/fhir/WholeNumber"), (0, u "read"), (0, u "(Ljava/lang/String;)Ljava/util/OptionalInt;"), (0, .methodref 26 27), (0, .class_ 28), (0, .nameAndType 29 30), (0, u "java/util/OptionalInt"), (0, u "orElse"), (0, u "(I)I"), (0, .methodref 9 32), (0, .nameAndType 33 34), (0, u "expected"), (0, u "([C)I"), (0, .long 255), (1, .methodref 9 38), (0, .nameAndType 39 40), (0, u "ok"), (0, u "([CI)Z"), (0, .methodref 9 42), (0, .nameAndType 43 44), (0, u "d"), (0, u "([CI)I"), (0, .long 1000000000), (1, .long 100000000), (1, .long 10000000), (1, .long 1000000), (1, .long 100000), (1, .long 10000), (1, .long 1000), (1, .long 100), (1, .long 10), (1, .methodref 9 64), (0, .nameAndType 65 40), (0, u "nz"), (2, .long 2147483647), (3, u "law"), (0, u "(JJIII)Z")] 5

def k1m0 : Method := { name := "<init>", desc := "()V", sig := { parameters := [], returnType := none }, accessFlags := 1, code := none }
def k1c1 : Code := { maxStack := 8, maxLocals := 11, code := code, exceptionTable := #[], attributes := #[] }
def k1m1 : Method := { name := "law", desc := "(JJIII)Z", sig := { parameters := [.long, .long, .int, .int, .int], returnType := some .boolean }, accessFlags := 9, code := some k1c1 }
def k1c2 : Code := { maxStack := 5, maxLocals := 9, code := method_3_code, exceptionTable := #[], attributes := #[] }
def k1m2 : Method := { name := "put", desc := "([CIJJII)V", sig := { parameters := [(.array .char), .int, .long, .long, .int, .int], returnType := none }, accessFlags := 10, code := some k1c2 }
def k1c3 : Code := { maxStack := 2, maxLocals := 2, code := method_4_code, exceptionTable := #[], attributes := #[] }
def k1m3 : Method := { name := "ok", desc := "([CI)Z", sig := { parameters := [(.array .char), .int], returnType := some .boolean }, accessFlags := 10, code := some k1c3 }
def k1c4 : Code := { maxStack := 2, maxLocals := 2, code := method_5_code, exceptionTable := #[], attributes := #[] }
def k1m4 : Method := { name := "d", desc := "([CI)I", sig := { parameters := [(.array .char), .int], returnType := some .int }, accessFlags := 10, code := some k1c4 }
def k1c5 : Code := { maxStack := 3, maxLocals := 2, code := method_6_code, exceptionTable := #[], attributes := #[] }
def k1m5 : Method := { name := "nz", desc := "([CI)Z", sig := { parameters := [(.array .char), .int], returnType := some .boolean }, accessFlags := 10, code := some k1c5 }
def k1c6 : Code := { maxStack := 6, maxLocals := 6, code := method_7_code, exceptionTable := #[], attributes := #[] }
def k1m6 : Method := { name := "expected", desc := "([C)I", sig := { parameters := [(.array .char)], returnType := some .int }, accessFlags := 10, code := some k1c6 }
/-- com/example/despatch/despatch/fhir/WholeNumberReadPinLaw -/
def k1 : Class := { plain "com/example/despatch/despatch/fhir/WholeNumberReadPinLaw" (some 0) with
  accessFlags := 49
  interfaces := #[]
  cf := some (fileOf pool1 9 #[] #[{ accessFlags := 1, nameIndex := 5, descriptorIndex := 6, attributes := #[] }, { accessFlags := 9, nameIndex := 72, descriptorIndex := 73, attributes := #[] }, { accessFlags := 10, nameIndex := 12, descriptorIndex := 13, attributes := #[] }, { accessFlags := 10, nameIndex := 39, descriptorIndex := 40, attributes := #[] }, { accessFlags := 10, nameIndex := 43, descriptorIndex := 44, attributes := #[] }, { accessFlags := 10, nameIndex := 65, descriptorIndex := 40, attributes := #[] }, { accessFlags := 10, nameIndex := 33, descriptorIndex := 34, attributes := #[] }] 49 2 #[] #[])
  fields := #[]
  methods := #[k1m0, k1m1, k1m2, k1m3, k1m4, k1m5, k1m6]
  instanceTypes := #[]
  staticTypes := #[]
  resolved := Array.replicate 79 none
  statics := none }

def pool2 : Array CpInfo := pool [(1, .class_ 2), (0, u "java/io/Serializable"), (0, .class_ 4), (0, u "java/lang/Object")] 2

/-- java/io/Serializable -/
def k2 : Class := { plain "java/io/Serializable" (some 0) with
  accessFlags := 1537
  interfaces := #[]
  cf := some (fileOf pool2 1 #[] #[] 1537 3 #[] #[])
  fields := #[]
  methods := #[]
  instanceTypes := #[]
  staticTypes := #[]
  resolved := Array.replicate 7 none
  statics := none }

def pool3 : Array CpInfo := pool [(1, .class_ 2), (0, u "java/lang/Comparable"), (0, .class_ 4), (0, u "java/lang/Object")] 7

/-- java/lang/Comparable -/
def k3 : Class := { plain "java/lang/Comparable" (some 0) with
  accessFlags := 1537
  interfaces := #[]
  cf := some (fileOf pool3 1 #[] #[] 1537 3 #[] #[])
  fields := #[]
  methods := #[]
  instanceTypes := #[]
  staticTypes := #[]
  resolved := Array.replicate 12 none
  statics := none }

def pool4 : Array CpInfo := pool [(2, .class_ 4), (1, u "java/lang/CharSequence"), (42, .class_ 48), (0, u "java/lang/CharSequence$1CodePointIterator"), (10, .class_ 60), (0, u "java/lang/CharSequence$1CharIterator"), (5, .class_ 67), (0, u "java/lang/Object")] 63

/-- java/lang/CharSequence -/
def k4 : Class := { plain "java/lang/CharSequence" (some 0) with
  accessFlags := 1537
  interfaces := #[]
  cf := some (fileOf pool4 2 #[.nestMembers #[47, 59]] #[] 1537 66 #[] #[])
  fields := #[]
  methods := #[]
  instanceTypes := #[]
  staticTypes := #[]
  resolved := Array.replicate 131 none
  statics := none }

def pool5 : Array CpInfo := pool [(1, .class_ 2), (0, u "java/lang/constant/Constable"), (0, .class_ 4), (0, u "java/lang/Object")] 6

/-- java/lang/constant/Constable -/
def k5 : Class := { plain "java/lang/constant/Constable" (some 0) with
  accessFlags := 1537
  interfaces := #[]
  cf := some (fileOf pool5 1 #[] #[] 1537 3 #[] #[])
  fields := #[]
  methods := #[]
  instanceTypes := #[]
  staticTypes := #[]
  resolved := Array.replicate 11 none
  statics := none }

def pool6 : Array CpInfo := pool [(1, .class_ 2), (0, u "java/lang/constant/ConstantDesc"), (0, .class_ 4), (0, u "java/lang/Object")] 32

/-- java/lang/constant/ConstantDesc -/
def k6 : Class := { plain "java/lang/constant/ConstantDesc" (some 0) with
  accessFlags := 1537
  interfaces := #[]
  cf := some (fileOf pool6 1 #[] #[] 1537 3 #[] #[])
  fields := #[]
  methods := #[]
  instanceTypes := #[]
  staticTypes := #[]
  resolved := Array.replicate 37 none
  statics := none }

def pool7 : Array CpInfo := pool [(1, .methodref 2 3), (0, .class_ 4), (0, .nameAndType 5 6), (0, u "java/lang/Object"), (0, u "<init>"), (0, u "()V"), (0, .string 8), (0, u ""), (0, .fieldref 10 11), (0, .class_ 12), (0, .nameAndType 13 14), (0, u "java/lang/String"), (0, u "value"), (0, u "[B"), (0, .fieldref 10 16), (0, .nameAndType 17 18), (0, u "coder"), (0, u "B"), (2, u "hash"), (0, u "I"), (2, u "hashIsZero"), (0, u "Z"), (0, .methodref 10 28), (0, .nameAndType 5 29), (0, u "([CIILjava/lang/Void;)V"), (8, .fieldref 10 39), (0, .nameAndType 40 26), (0, u "COMPACT_STRINGS"), (1, .class_ 44), (1, u "java/lang/StringUTF16"), (0, u "compress"), (1, .methodref 42 48), (0, .nameAndType 49 50), (0, u "coderFromArrayLen"), (0, u "([BI)B"), (56, .class_ 109), (1, u "java/lang/StringLatin1"), (32, u "()Z"), (34, .methodref 42 178), (0, .nameAndType 45 179), (0, u "([CII)[B"), (154, u "()I"), (0, .methodref 10 336), (0, .nameAndType 17 337), (0, u "()B"), (25, u "([BI)C"), (27, u "(II)V"), (35, u "(I)C"), (64, .methodref 10 493), (0, .nameAndType 494 142), (0, u "isLatin1"), (0, .methodref 107 496), (0, .nameAndType 497 363), (0, u "charAt"), (3, u "checkIndex"), (5, u "length"), (67, .class_ 576), (0, u "java/lang/CharSequence"), (22, u "CASE_INSENSITIVE_ORDER"), (0, u "Ljava/util/Comparator;"), (91, u "isEmpty"), (317, u "([C)V"), (42, .fieldref 1054 1055), (0, .class_ 1056), (0, .nameAndType 1057 1058), (0, u "jdk/internal/util/Preconditions"), (0, u "SIOOBE_FORMATTER"), (0, u "Ljava/util/function/BiFunction;"), (0, .methodref 1054 1060), (0, .nameAndType 501 1061), (0, u "(IILjava/util/function/BiFunction;)I"), (39, u "serialPersistentFields"), (0, u "[Ljava/io/ObjectStreamField;"), (0, .class_ 1104), (0, u "java/lang/String$CaseInsensitiveComparator"), (1, .class_ 1107), (0, u "java/io/Serializable"), (0, .class_ 1109), (0, u "java/lang/Comparable"), (0, .class_ 1111), (0, u "java/lang/constant/Constable"), (0, .class_ 1113), (0, u "java/lang/constant/ConstantDesc"), (2, u "serialVersionUID"), (0, u "J"), (3, u "REPL"), (0, u "C"), (2, u "LATIN1"), (1, u "UTF16")] 323

def k7m0 : Method := { name := "<init>", desc := "()V", sig := { parameters := [], returnType := none }, accessFlags := 1, code := none }
def k7c1 : Code := { maxStack := 5, maxLocals := 2, code := jdk_42_method_3_code, exceptionTable := #[], attributes := #[] }
def k7m1 : Method := { name := "<init>", desc := "([C)V", sig := { parameters := [(.array .char)], returnType := none }, accessFlags := 1, code := some k7c1 }
def k7c2 : Code := { maxStack := 2, maxLocals := 1, code := jdk_42_method_54_code, exceptionTable := #[], attributes := #[] }
def k7m2 : Method := { name := "length", desc := "()I", sig := { parameters := [], returnType := some .int }, accessFlags := 1, code := some k7c2 }
def k7c3 : Code := { maxStack := 1, maxLocals := 1, code := jdk_42_method_55_code, exceptionTable := #[], attributes := #[] }
def k7m3 : Method := { name := "isEmpty", desc := "()Z", sig := { parameters := [], returnType := some .boolean }, accessFlags := 1, code := some k7c3 }
def k7c4 : Code := { maxStack := 2, maxLocals := 2, code := jdk_42_method_56_code, exceptionTable := #[], attributes := #[] }
def k7m4 : Method := { name := "charAt", desc := "(I)C", sig := { parameters := [.int], returnType := some .char }, accessFlags := 1, code := some k7c4 }
def k7c5 : Code := { maxStack := 4, maxLocals := 6, code := jdk_42_method_149_code, exceptionTable := #[], attributes := #[] }
def k7m5 : Method := { name := "<init>", desc := "([CIILjava/lang/Void;)V", sig := { parameters := [(.array .char), .int, .int, (.object "java/lang/Void")], returnType := none }, accessFlags := 2, code := some k7c5 }
def k7c6 : Code := { maxStack := 1, maxLocals := 1, code := jdk_42_method_152_code, exceptionTable := #[], attributes := #[] }
def k7m6 : Method := { name := "coder", desc := "()B", sig := { parameters := [], returnType := some .byte }, accessFlags := 0, code := some k7c6 }
def k7c7 : Code := { maxStack := 1, maxLocals := 1, code := jdk_42_method_154_code, exceptionTable := #[], attributes := #[] }
def k7m7 : Method := { name := "isLatin1", desc := "()Z", sig := { parameters := [], returnType := some .boolean }, accessFlags := 0, code := some k7c7 }
def k7c8 : Code := { maxStack := 3, maxLocals := 2, code := jdk_42_method_155_code, exceptionTable := #[], attributes := #[] }
def k7m8 : Method := { name := "checkIndex", desc := "(II)V", sig := { parameters := [.int, .int], returnType := none }, accessFlags := 8, code := some k7c8 }
/-- java/lang/String -/
def k7 : Class := { plain "java/lang/String" (some 0) with
  accessFlags := 49
  interfaces := #[2, 3, 4, 5, 6]
  cf := some (fileOf pool7 10 #[.nestMembers #[1103]] #[{ accessFlags := 1, nameIndex := 5, descriptorIndex := 6, attributes := #[] }, { accessFlags := 1, nameIndex := 5, descriptorIndex := 1010, attributes := #[] }, { accessFlags := 1, nameIndex := 507, descriptorIndex := 334, attributes := #[] }, { accessFlags := 1, nameIndex := 692, descriptorIndex := 142, attributes := #[] }, { accessFlags := 1, nameIndex := 497, descriptorIndex := 427, attributes := #[] }, { accessFlags := 2, nameIndex := 5, descriptorIndex := 29, attributes := #[] }, { accessFlags := 0, nameIndex := 17, descriptorIndex := 337, attributes := #[] }, { accessFlags := 0, nameIndex := 494, descriptorIndex := 142, attributes := #[] }, { accessFlags := 8, nameIndex := 501, descriptorIndex := 391, attributes := #[] }] 49 2 #[1106, 1108, 575, 1110, 1112] #[{ accessFlags := 18, nameIndex := 13, descriptorIndex := 14, attributes := #[] }, { accessFlags := 18, nameIndex := 17, descriptorIndex := 18, attributes := #[] }, { accessFlags := 2, nameIndex := 21, descriptorIndex := 22, attributes := #[] }, { accessFlags := 2, nameIndex := 25, descriptorIndex := 26, attributes := #[] }, { accessFlags := 26, nameIndex := 1116, descriptorIndex := 1117, attributes := #[] }, { accessFlags := 24, nameIndex := 40, descriptorIndex := 26, attributes := #[] }, { accessFlags := 26, nameIndex := 1101, descriptorIndex := 1102, attributes := #[] }, { accessFlags := 26, nameIndex := 1121, descriptorIndex := 1122, attributes := #[] }, { accessFlags := 25, nameIndex := 599, descriptorIndex := 600, attributes := #[] }, { accessFlags := 24, nameIndex := 1125, descriptorIndex := 18, attributes := #[] }, { accessFlags := 24, nameIndex := 1127, descriptorIndex := 18, attributes := #[] }])
  fields := #[{ name := "value", type := (.array .byte), accessFlags := 18, slot := 0, constantValue := 0 }, { name := "coder", type := .byte, accessFlags := 18, slot := 1, constantValue := 0 }, { name := "hash", type := .int, accessFlags := 2, slot := 2, constantValue := 0 }, { name := "hashIsZero", type := .boolean, accessFlags := 2, slot := 3, constantValue := 0 }, { name := "serialVersionUID", type := .long, accessFlags := 26, slot := 0, constantValue := 0 }, { name := "COMPACT_STRINGS", type := .boolean, accessFlags := 24, slot := 1, constantValue := 0 }, { name := "serialPersistentFields", type := (.array (.object "java/io/ObjectStreamField")), accessFlags := 26, slot := 2, constantValue := 0 }, { name := "REPL", type := .char, accessFlags := 26, slot := 3, constantValue := 0 }, { name := "CASE_INSENSITIVE_ORDER", type := (.object "java/util/Comparator"), accessFlags := 25, slot := 4, constantValue := 0 }, { name := "LATIN1", type := .byte, accessFlags := 24, slot := 5, constantValue := 0 }, { name := "UTF16", type := .byte, accessFlags := 24, slot := 6, constantValue := 0 }]
  methods := #[k7m0, k7m1, k7m2, k7m3, k7m4, k7m5, k7m6, k7m7, k7m8]
  instanceTypes := #[(.array .byte), .byte, .int, .boolean]
  staticTypes := #[.long, .boolean, (.array (.object "java/io/ObjectStreamField")), .char, (.object "java/util/Comparator"), .byte, .byte]
  resolved := Array.replicate 1451 none
  statics := some 0 }

def pool8 : Array CpInfo := pool [(2, .class_ 4), (1, u "java/lang/Object"), (0, u "<init>"), (0, u "()V"), (0, .methodref 8 9), (0, .class_ 10), (0, .nameAndType 11 12), (0, u "java/lang/String"), (0, u "isEmpty"), (0, u "()Z"), (0, .methodref 14 15), (0, .class_ 16), (0, .nameAndType 17 18), (0, u "java/util/OptionalInt"), (0, u "empty"), (0, u "()Ljava/util/OptionalInt;"), (0, .methodref 8 20), (0, .nameAndType 21 22), (0, u "length"), (0, u "()I"), (0, .methodref 8 24), (0, .nameAndType 25 26), (0, u "charAt"), (0, u "(I)C"), (0, .long 10), (3, .long 2147483647), (1, .methodref 34 35), (0, .class_ 36), (0, .nameAndType 37 38), (0, u "java/lang/Math"), (0, u "min"), (0, u "(JJ)J"), (0, .methodref 14 40), (0, .nameAndType 41 42), (0, u "of"), (0, u "(I)Ljava/util/OptionalInt;"), (0, .class_ 44), (0, u "com/example/despatch/despatch/fhir/WholeNumber"), (2, u "read"), (0, u "(Ljava/lang/String;)Ljava/util/OptionalInt;")] 3

def k8m0 : Method := { name := "<init>", desc := "()V", sig := { parameters := [], returnType := none }, accessFlags := 2, code := none }
def k8c1 : Code := { maxStack := 4, maxLocals := 5, code := prog_2_method_2_code, exceptionTable := #[], attributes := #[] }
def k8m1 : Method := { name := "read", desc := "(Ljava/lang/String;)Ljava/util/OptionalInt;", sig := { parameters := [(.object "java/lang/String")], returnType := some (.object "java/util/OptionalInt") }, accessFlags := 9, code := some k8c1 }
/-- com/example/despatch/despatch/fhir/WholeNumber -/
def k8 : Class := { plain "com/example/despatch/despatch/fhir/WholeNumber" (some 0) with
  accessFlags := 49
  interfaces := #[]
  cf := some (fileOf pool8 43 #[] #[{ accessFlags := 2, nameIndex := 5, descriptorIndex := 6, attributes := #[] }, { accessFlags := 9, nameIndex := 47, descriptorIndex := 48, attributes := #[] }] 49 2 #[] #[])
  fields := #[]
  methods := #[k8m0, k8m1]
  instanceTypes := #[]
  staticTypes := #[]
  resolved := Array.replicate 52 none
  statics := none }

def pool9 : Array CpInfo := pool [(1, .methodref 2 3), (0, .class_ 4), (0, .nameAndType 5 6), (0, u "java/lang/Object"), (0, u "<init>"), (0, u "()V"), (0, .fieldref 8 9), (0, .class_ 10), (0, .nameAndType 11 12), (0, u "java/util/OptionalInt"), (0, u "isPresent"), (0, u "Z"), (0, .fieldref 8 14), (0, .nameAndType 15 16), (0, u "value"), (0, u "I"), (0, .fieldref 8 18), (0, .nameAndType 19 20), (0, u "EMPTY"), (0, u "Ljava/util/OptionalInt;"), (0, .methodref 8 22), (0, .nameAndType 5 23), (0, u "(I)V"), (21, u "of"), (3, u "empty"), (20, u "(I)I"), (25, u "()Ljava/util/OptionalInt;"), (0, u "(I)Ljava/util/OptionalInt;"), (12, u "orElse")] 25

def k9m0 : Method := { name := "<init>", desc := "()V", sig := { parameters := [], returnType := none }, accessFlags := 2, code := none }
def k9c1 : Code := { maxStack := 1, maxLocals := 0, code := jdk_2649_method_2_code, exceptionTable := #[], attributes := #[] }
def k9m1 : Method := { name := "empty", desc := "()Ljava/util/OptionalInt;", sig := { parameters := [], returnType := some (.object "java/util/OptionalInt") }, accessFlags := 9, code := some k9c1 }
def k9c2 : Code := { maxStack := 2, maxLocals := 2, code := jdk_2649_method_3_code, exceptionTable := #[], attributes := #[] }
def k9m2 : Method := { name := "<init>", desc := "(I)V", sig := { parameters := [.int], returnType := none }, accessFlags := 2, code := some k9c2 }
def k9c3 : Code := { maxStack := 3, maxLocals := 1, code := jdk_2649_method_4_code, exceptionTable := #[], attributes := #[] }
def k9m3 : Method := { name := "of", desc := "(I)Ljava/util/OptionalInt;", sig := { parameters := [.int], returnType := some (.object "java/util/OptionalInt") }, accessFlags := 9, code := some k9c3 }
def k9c4 : Code := { maxStack := 1, maxLocals := 2, code := jdk_2649_method_11_code, exceptionTable := #[], attributes := #[] }
def k9m4 : Method := { name := "orElse", desc := "(I)I", sig := { parameters := [.int], returnType := some .int }, accessFlags := 1, code := some k9c4 }
/-- java/util/OptionalInt -/
def k9 : Class := { plain "java/util/OptionalInt" (some 0) with
  accessFlags := 49
  interfaces := #[]
  cf := some (fileOf pool9 8 #[] #[{ accessFlags := 2, nameIndex := 5, descriptorIndex := 6, attributes := #[] }, { accessFlags := 9, nameIndex := 49, descriptorIndex := 96, attributes := #[] }, { accessFlags := 2, nameIndex := 5, descriptorIndex := 23, attributes := #[] }, { accessFlags := 9, nameIndex := 45, descriptorIndex := 97, attributes := #[] }, { accessFlags := 1, nameIndex := 110, descriptorIndex := 70, attributes := #[] }] 49 2 #[] #[{ accessFlags := 26, nameIndex := 19, descriptorIndex := 20, attributes := #[] }, { accessFlags := 18, nameIndex := 11, descriptorIndex := 12, attributes := #[] }, { accessFlags := 18, nameIndex := 15, descriptorIndex := 16, attributes := #[] }])
  fields := #[{ name := "EMPTY", type := (.object "java/util/OptionalInt"), accessFlags := 26, slot := 0, constantValue := 0 }, { name := "isPresent", type := .boolean, accessFlags := 18, slot := 0, constantValue := 0 }, { name := "value", type := .int, accessFlags := 18, slot := 1, constantValue := 0 }]
  methods := #[k9m0, k9m1, k9m2, k9m3, k9m4]
  instanceTypes := #[.boolean, .int]
  staticTypes := #[(.object "java/util/OptionalInt")]
  resolved := Array.replicate 136 none
  statics := some 1 }

def pool10 : Array CpInfo := pool [(6, .class_ 8), (1, u "java/lang/Object"), (0, u "<init>"), (0, u "()V"), (1, .class_ 14), (1, u "java/lang/StringUTF16"), (31, u "$assertionsDisabled"), (0, u "Z"), (13, u "HI_BYTE_SHIFT"), (0, u "I"), (2, u "LO_BYTE_SHIFT"), (49, .methodref 12 116), (0, .nameAndType 117 118), (0, u "compress"), (0, u "([CI[BII)I"), (3, u "([CII)[B"), (138, u "coderFromArrayLen"), (0, u "([BI)B"), (106, .class_ 371), (1, u "java/lang/StringUTF16$LinesSpliterator"), (58, u "MAX_LENGTH"), (196, .class_ 628), (0, u "java/lang/StringUTF16$CodePointsSpliterator"), (0, .class_ 630), (0, u "java/lang/StringUTF16$CharsSpliterator")] 4

def k10m0 : Method := { name := "<init>", desc := "()V", sig := { parameters := [], returnType := none }, accessFlags := 0, code := none }
def k10c1 : Code := { maxStack := 2, maxLocals := 2, code := jdk_52_method_15_code, exceptionTable := #[], attributes := #[] }
def k10m1 : Method := { name := "coderFromArrayLen", desc := "([BI)B", sig := { parameters := [(.array .byte), .int], returnType := some .byte }, accessFlags := 8, code := some k10c1 }
def k10c2 : Code := { maxStack := 5, maxLocals := 6, code := jdk_52_method_16_code, exceptionTable := #[], attributes := #[] }
def k10m2 : Method := { name := "compress", desc := "([CII)[B", sig := { parameters := [(.array .char), .int, .int], returnType := some (.array .byte) }, accessFlags := 9, code := some k10c2 }
def k10c3 : Code := { maxStack := 3, maxLocals := 7, code := jdk_52_method_21_code, exceptionTable := #[], attributes := #[] }
def k10m3 : Method := { name := "compress", desc := "([CI[BII)I", sig := { parameters := [(.array .char), .int, (.array .byte), .int, .int], returnType := some .int }, accessFlags := 9, code := some k10c3 }
/-- java/lang/StringUTF16 -/
def k10 : Class := { plain "java/lang/StringUTF16" (some 0) with
  accessFlags := 48
  interfaces := #[]
  cf := some (fileOf pool10 12 #[.nestMembers #[627, 629, 369]] #[{ accessFlags := 0, nameIndex := 9, descriptorIndex := 10, attributes := #[] }, { accessFlags := 8, nameIndex := 261, descriptorIndex := 262, attributes := #[] }, { accessFlags := 9, nameIndex := 117, descriptorIndex := 122, attributes := #[] }, { accessFlags := 9, nameIndex := 117, descriptorIndex := 118, attributes := #[] }] 48 6 #[] #[{ accessFlags := 26, nameIndex := 61, descriptorIndex := 62, attributes := #[] }, { accessFlags := 26, nameIndex := 65, descriptorIndex := 62, attributes := #[] }, { accessFlags := 24, nameIndex := 430, descriptorIndex := 62, attributes := #[] }, { accessFlags := 4120, nameIndex := 46, descriptorIndex := 47, attributes := #[] }])
  fields := #[{ name := "HI_BYTE_SHIFT", type := .int, accessFlags := 26, slot := 0, constantValue := 0 }, { name := "LO_BYTE_SHIFT", type := .int, accessFlags := 26, slot := 1, constantValue := 0 }, { name := "MAX_LENGTH", type := .int, accessFlags := 24, slot := 2, constantValue := 0 }, { name := "$assertionsDisabled", type := .boolean, accessFlags := 4120, slot := 3, constantValue := 0 }]
  methods := #[k10m0, k10m1, k10m2, k10m3]
  instanceTypes := #[]
  staticTypes := #[.int, .int, .int, .boolean]
  resolved := Array.replicate 635 none
  statics := none }

def pool11 : Array CpInfo := pool [(1, .class_ 2), (0, u "java/lang/String"), (1, .class_ 6), (1, u "java/lang/Object"), (0, u "<init>"), (0, u "()V"), (0, .methodref 1 10), (0, .nameAndType 11 12), (0, u "checkIndex"), (0, u "(II)V"), (1, .class_ 16), (1, u "java/lang/StringLatin1"), (36, u "([BI)C"), (67, u "$assertionsDisabled"), (0, u "Z"), (98, .class_ 223), (1, u "java/lang/StringLatin1$LinesSpliterator"), (28, u "charAt"), (137, .class_ 391), (0, u "java/lang/StringLatin1$CharsSpliterator")] 3

def k11m0 : Method := { name := "<init>", desc := "()V", sig := { parameters := [], returnType := none }, accessFlags := 0, code := none }
def k11c1 : Code := { maxStack := 2, maxLocals := 2, code := jdk_43_method_2_code, exceptionTable := #[], attributes := #[] }
def k11m1 : Method := { name := "charAt", desc := "([BI)C", sig := { parameters := [(.array .byte), .int], returnType := some .char }, accessFlags := 9, code := some k11c1 }
/-- java/lang/StringLatin1 -/
def k11 : Class := { plain "java/lang/StringLatin1" (some 0) with
  accessFlags := 48
  interfaces := #[]
  cf := some (fileOf pool11 14 #[.nestMembers #[390, 221]] #[{ accessFlags := 0, nameIndex := 7, descriptorIndex := 8, attributes := #[] }, { accessFlags := 9, nameIndex := 252, descriptorIndex := 53, attributes := #[] }] 48 4 #[] #[{ accessFlags := 4120, nameIndex := 121, descriptorIndex := 122, attributes := #[] }])
  fields := #[{ name := "$assertionsDisabled", type := .boolean, accessFlags := 4120, slot := 0, constantValue := 0 }]
  methods := #[k11m0, k11m1]
  instanceTypes := #[]
  staticTypes := #[.boolean]
  resolved := Array.replicate 395 none
  statics := none }

def pool12 : Array CpInfo := pool [(2, .class_ 4), (1, u "java/lang/Object"), (0, u "<init>"), (0, u "()V"), (17, .class_ 26), (1, u "jdk/internal/util/Preconditions"), (6, u "checkIndex"), (21, .class_ 56), (0, u "jdk/internal/util/Preconditions$4"), (57, .class_ 115), (0, u "jdk/internal/util/Preconditions$1"), (7, u "SIOOBE_FORMATTER"), (0, u "Ljava/util/function/BiFunction;"), (0, .class_ 126), (0, u "jdk/internal/util/Preconditions$2"), (3, u "AIOOBE_FORMATTER"), (0, .class_ 132), (0, u "jdk/internal/util/Preconditions$3"), (3, u "IOOBE_FORMATTER"), (41, u "(IILjava/util/function/BiFunction;)I")] 15

def k12m0 : Method := { name := "<init>", desc := "()V", sig := { parameters := [], returnType := none }, accessFlags := 1, code := none }
def k12c1 : Code := { maxStack := 3, maxLocals := 3, code := jdk_41_method_11_code, exceptionTable := #[], attributes := #[] }
def k12m1 : Method := { name := "checkIndex", desc := "(IILjava/util/function/BiFunction;)I", sig := { parameters := [.int, .int, (.object "java/util/function/BiFunction")], returnType := some .int }, accessFlags := 9, code := some k12c1 }
/-- jdk/internal/util/Preconditions -/
def k12 : Class := { plain "jdk/internal/util/Preconditions" (some 0) with
  accessFlags := 33
  interfaces := #[]
  cf := some (fileOf pool12 24 #[.nestMembers #[55, 131, 125, 114]] #[{ accessFlags := 1, nameIndex := 5, descriptorIndex := 6, attributes := #[] }, { accessFlags := 9, nameIndex := 33, descriptorIndex := 178, attributes := #[] }] 33 2 #[] #[{ accessFlags := 25, nameIndex := 123, descriptorIndex := 124, attributes := #[] }, { accessFlags := 25, nameIndex := 130, descriptorIndex := 124, attributes := #[] }, { accessFlags := 25, nameIndex := 136, descriptorIndex := 124, attributes := #[] }])
  fields := #[{ name := "SIOOBE_FORMATTER", type := (.object "java/util/function/BiFunction"), accessFlags := 25, slot := 0, constantValue := 0 }, { name := "AIOOBE_FORMATTER", type := (.object "java/util/function/BiFunction"), accessFlags := 25, slot := 1, constantValue := 0 }, { name := "IOOBE_FORMATTER", type := (.object "java/util/function/BiFunction"), accessFlags := 25, slot := 2, constantValue := 0 }]
  methods := #[k12m0, k12m1]
  instanceTypes := #[]
  staticTypes := #[(.object "java/util/function/BiFunction"), (.object "java/util/function/BiFunction"), (.object "java/util/function/BiFunction")]
  resolved := Array.replicate 194 none
  statics := some 2 }

def pool13 : Array CpInfo := pool [(1, .class_ 2), (0, u "java/lang/Math"), (1, .class_ 6), (1, u "java/lang/Object"), (0, u "<init>"), (0, u "()V"), (89, .class_ 100), (1, u "java/lang/Math$RandomNumberGeneratorHolder"), (20, u "(JJ)J"), (50, u "negativeZeroFloatBits"), (0, u "J"), (2, u "negativeZeroDoubleBits"), (24, u "min"), (43, u "$assertionsDisabled"), (0, u "Z"), (91, u "twoToTheDoubleScaleDown"), (0, u "D"), (4, u "twoToTheDoubleScaleUp"), (9, u "E"), (3, u "PI"), (2, u "TAU"), (2, u "DEGREES_TO_RADIANS"), (0, u "RADIANS_TO_DEGREES")] 94

def k13m0 : Method := { name := "<init>", desc := "()V", sig := { parameters := [], returnType := none }, accessFlags := 2, code := none }
def k13c1 : Code := { maxStack := 4, maxLocals := 4, code := jdk_29_method_70_code, exceptionTable := #[], attributes := #[] }
def k13m1 : Method := { name := "min", desc := "(JJ)J", sig := { parameters := [.long, .long], returnType := some .long }, accessFlags := 9, code := some k13c1 }
/-- java/lang/Math -/
def k13 : Class := { plain "java/lang/Math" (some 0) with
  accessFlags := 49
  interfaces := #[]
  cf := some (fileOf pool13 1 #[.nestMembers #[98]] #[{ accessFlags := 2, nameIndex := 7, descriptorIndex := 8, attributes := #[] }, { accessFlags := 9, nameIndex := 201, descriptorIndex := 121, attributes := #[] }] 49 4 #[] #[{ accessFlags := 25, nameIndex := 354, descriptorIndex := 339, attributes := #[] }, { accessFlags := 25, nameIndex := 358, descriptorIndex := 339, attributes := #[] }, { accessFlags := 25, nameIndex := 361, descriptorIndex := 339, attributes := #[] }, { accessFlags := 26, nameIndex := 364, descriptorIndex := 339, attributes := #[] }, { accessFlags := 26, nameIndex := 365, descriptorIndex := 339, attributes := #[] }, { accessFlags := 26, nameIndex := 172, descriptorIndex := 173, attributes := #[] }, { accessFlags := 26, nameIndex := 176, descriptorIndex := 173, attributes := #[] }, { accessFlags := 8, nameIndex := 344, descriptorIndex := 339, attributes := #[] }, { accessFlags := 8, nameIndex := 338, descriptorIndex := 339, attributes := #[] }, { accessFlags := 4120, nameIndex := 245, descriptorIndex := 246, attributes := #[] }])
  fields := #[{ name := "E", type := .double, accessFlags := 25, slot := 0, constantValue := 0 }, { name := "PI", type := .double, accessFlags := 25, slot := 1, constantValue := 0 }, { name := "TAU", type := .double, accessFlags := 25, slot := 2, constantValue := 0 }, { name := "DEGREES_TO_RADIANS", type := .double, accessFlags := 26, slot := 3, constantValue := 0 }, { name := "RADIANS_TO_DEGREES", type := .double, accessFlags := 26, slot := 4, constantValue := 0 }, { name := "negativeZeroFloatBits", type := .long, accessFlags := 26, slot := 5, constantValue := 0 }, { name := "negativeZeroDoubleBits", type := .long, accessFlags := 26, slot := 6, constantValue := 0 }, { name := "twoToTheDoubleScaleUp", type := .double, accessFlags := 8, slot := 7, constantValue := 0 }, { name := "twoToTheDoubleScaleDown", type := .double, accessFlags := 8, slot := 8, constantValue := 0 }, { name := "$assertionsDisabled", type := .boolean, accessFlags := 4120, slot := 9, constantValue := 0 }]
  methods := #[k13m0, k13m1]
  instanceTypes := #[]
  staticTypes := #[.double, .double, .double, .double, .double, .long, .long, .double, .double, .boolean]
  resolved := Array.replicate 460 none
  statics := none }

def pool14 : Array CpInfo := pool [(9, u "<init>"), (6, .class_ 18), (1, u "java/lang/Object"), (0, u "()V"), (1, .class_ 23), (1, u "jdk/internal/util/ArraysSupport"), (0, u "LOG2_ARRAY_LONG_INDEX_SCALE"), (0, u "I"), (2, u "U"), (0, u "Ljdk/internal/misc/Unsafe;"), (8, u "BIG_ENDIAN"), (0, u "Z"), (8, u "LOG2_BYTE_BIT_SIZE"), (4, u "LOG2_ARRAY_INT_INDEX_SCALE"), (54, u "JLA"), (0, u "Ljdk/internal/access/JavaLangAccess;"), (11, u "LOG2_ARRAY_BOOLEAN_INDEX_SCALE"), (9, u "LOG2_ARRAY_BYTE_INDEX_SCALE"), (5, u "LOG2_ARRAY_CHAR_INDEX_SCALE"), (5, u "LOG2_ARRAY_SHORT_INDEX_SCALE"), (18, u "LOG2_ARRAY_FLOAT_INDEX_SCALE"), (24, u "LOG2_ARRAY_DOUBLE_INDEX_SCALE"), (89, u "T_BOOLEAN"), (2, u "T_CHAR"), (1, u "T_FLOAT"), (1, u "T_DOUBLE"), (1, u "T_BYTE"), (1, u "T_SHORT"), (1, u "T_INT"), (1, u "T_LONG"), (1, u "SOFT_MAX_ARRAY_LENGTH")] 83

def k14m0 : Method := { name := "<init>", desc := "()V", sig := { parameters := [], returnType := none }, accessFlags := 2, code := none }
/-- jdk/internal/util/ArraysSupport -/
def k14 : Class := { plain "jdk/internal/util/ArraysSupport" (some 0) with
  accessFlags := 33
  interfaces := #[]
  cf := some (fileOf pool14 21 #[] #[{ accessFlags := 2, nameIndex := 9, descriptorIndex := 19, attributes := #[] }] 33 16 #[] #[{ accessFlags := 24, nameIndex := 28, descriptorIndex := 29, attributes := #[] }, { accessFlags := 26, nameIndex := 38, descriptorIndex := 39, attributes := #[] }, { accessFlags := 25, nameIndex := 121, descriptorIndex := 25, attributes := #[] }, { accessFlags := 25, nameIndex := 131, descriptorIndex := 25, attributes := #[] }, { accessFlags := 25, nameIndex := 137, descriptorIndex := 25, attributes := #[] }, { accessFlags := 25, nameIndex := 143, descriptorIndex := 25, attributes := #[] }, { accessFlags := 25, nameIndex := 53, descriptorIndex := 25, attributes := #[] }, { accessFlags := 25, nameIndex := 24, descriptorIndex := 25, attributes := #[] }, { accessFlags := 25, nameIndex := 162, descriptorIndex := 25, attributes := #[] }, { accessFlags := 25, nameIndex := 187, descriptorIndex := 25, attributes := #[] }, { accessFlags := 26, nameIndex := 48, descriptorIndex := 25, attributes := #[] }, { accessFlags := 25, nameIndex := 277, descriptorIndex := 25, attributes := #[] }, { accessFlags := 25, nameIndex := 280, descriptorIndex := 25, attributes := #[] }, { accessFlags := 25, nameIndex := 282, descriptorIndex := 25, attributes := #[] }, { accessFlags := 25, nameIndex := 284, descriptorIndex := 25, attributes := #[] }, { accessFlags := 25, nameIndex := 286, descriptorIndex := 25, attributes := #[] }, { accessFlags := 25, nameIndex := 288, descriptorIndex := 25, attributes := #[] }, { accessFlags := 25, nameIndex := 290, descriptorIndex := 25, attributes := #[] }, { accessFlags := 25, nameIndex := 292, descriptorIndex := 25, attributes := #[] }, { accessFlags := 26, nameIndex := 108, descriptorIndex := 109, attributes := #[] }, { accessFlags := 25, nameIndex := 294, descriptorIndex := 25, attributes := #[] }])
  fields := #[{ name := "U", type := (.object "jdk/internal/misc/Unsafe"), accessFlags := 24, slot := 0, constantValue := 0 }, { name := "BIG_ENDIAN", type := .boolean, accessFlags := 26, slot := 1, constantValue := 0 }, { name := "LOG2_ARRAY_BOOLEAN_INDEX_SCALE", type := .int, accessFlags := 25, slot := 2, constantValue := 0 }, { name := "LOG2_ARRAY_BYTE_INDEX_SCALE", type := .int, accessFlags := 25, slot := 3, constantValue := 0 }, { name := "LOG2_ARRAY_CHAR_INDEX_SCALE", type := .int, accessFlags := 25, slot := 4, constantValue := 0 }, { name := "LOG2_ARRAY_SHORT_INDEX_SCALE", type := .int, accessFlags := 25, slot := 5, constantValue := 0 }, { name := "LOG2_ARRAY_INT_INDEX_SCALE", type := .int, accessFlags := 25, slot := 6, constantValue := 0 }, { name := "LOG2_ARRAY_LONG_INDEX_SCALE", type := .int, accessFlags := 25, slot := 7, constantValue := 0 }, { name := "LOG2_ARRAY_FLOAT_INDEX_SCALE", type := .int, accessFlags := 25, slot := 8, constantValue := 0 }, { name := "LOG2_ARRAY_DOUBLE_INDEX_SCALE", type := .int, accessFlags := 25, slot := 9, constantValue := 0 }, { name := "LOG2_BYTE_BIT_SIZE", type := .int, accessFlags := 26, slot := 10, constantValue := 0 }, { name := "T_BOOLEAN", type := .int, accessFlags := 25, slot := 11, constantValue := 0 }, { name := "T_CHAR", type := .int, accessFlags := 25, slot := 12, constantValue := 0 }, { name := "T_FLOAT", type := .int, accessFlags := 25, slot := 13, constantValue := 0 }, { name := "T_DOUBLE", type := .int, accessFlags := 25, slot := 14, constantValue := 0 }, { name := "T_BYTE", type := .int, accessFlags := 25, slot := 15, constantValue := 0 }, { name := "T_SHORT", type := .int, accessFlags := 25, slot := 16, constantValue := 0 }, { name := "T_INT", type := .int, accessFlags := 25, slot := 17, constantValue := 0 }, { name := "T_LONG", type := .int, accessFlags := 25, slot := 18, constantValue := 0 }, { name := "JLA", type := (.object "jdk/internal/access/JavaLangAccess"), accessFlags := 26, slot := 19, constantValue := 0 }, { name := "SOFT_MAX_ARRAY_LENGTH", type := .int, accessFlags := 25, slot := 20, constantValue := 0 }]
  methods := #[k14m0]
  instanceTypes := #[]
  staticTypes := #[(.object "jdk/internal/misc/Unsafe"), .boolean, .int, .int, .int, .int, .int, .int, .int, .int, .int, .int, .int, .int, .int, .int, .int, .int, .int, (.object "jdk/internal/access/JavaLangAccess"), .int]
  resolved := Array.replicate 378 none
  statics := none }

def pool15 : Array CpInfo := pool [(1, u "java/lang/Cloneable"), (0, .class_ 1), (0, u "java/lang/Object"), (0, .class_ 3)] 3

/-- java/lang/Cloneable -/
def k15 : Class := { plain "java/lang/Cloneable" (some 0) with
  accessFlags := 1537
  interfaces := #[]
  cf := some (fileOf pool15 2 #[] #[] 1537 4 #[] #[])
  fields := #[]
  methods := #[]
  instanceTypes := #[]
  staticTypes := #[]
  resolved := Array.replicate 8 none
  statics := none }

/-- the primitive byte -/
def k16 : Class := { plain "byte" none with kind := .primitive 'B', accessFlags := 0x411 }
/-- [B -/
def k17 : Class := { plain "[B" (some 0) with kind := .array 16 .byte, interfaces := #[15, 2], accessFlags := 1041 }

/-- the primitive char -/
def k18 : Class := { plain "char" none with kind := .primitive 'C', accessFlags := 0x411 }
/-- [C -/
def k19 : Class := { plain "[C" (some 0) with kind := .array 18 .char, interfaces := #[15, 2], accessFlags := 1041 }

/-- the primitive int -/
def k20 : Class := { plain "int" none with kind := .primitive 'I', accessFlags := 0x411 }
/-- [I -/
def k21 : Class := { plain "[I" (some 0) with kind := .array 20 .int, interfaces := #[15, 2], accessFlags := 1041 }

def heap : Heap := #[{ cls := 7, slots := #[.long 0, .int 1, .null, .int 0, .null, .int 0, .int 0], vm := .statics 7 },
  { cls := 9, slots := #[.ref 3], vm := .statics 9 },
  { cls := 12, slots := #[.null, .null, .null], vm := .statics 12 },
  { cls := 9, slots := #[.int 0, .int 0], vm := .none }]
def classes : Array Class := #[k0, k1, k2, k3, k4, k5, k6, k7, k8, k9, k10, k11, k12, k13, k14, k15, k16, k17, k18, k19, k20, k21]
def interned : List (Array UInt16 × Addr) := []
def slotsUsed : Nat := 13
def theMethod : MethodId := ⟨1, 1⟩
def args0 : Array Value := #[.long 5, .long 6, .int 1, .int 0, .int 3]
def aboutOver (below : List Frame) : State where
  vm := { classes := classes, interned := interned.toArray }
  heap := heap
  slotsUsed := slotsUsed
  threads := #[{ frames := .invoking theMethod args0 :: below }]
def below0 : List Frame := [.native { method := ⟨0, 0⟩, args := #[] }]
def about1 : State := aboutOver below0
def p0 : Program := .bare "" "" ""
def e0 : Env := launch0.env 0 0 0
theorem w_frames : about1.frames = Frame.invoking theMethod args0 :: below0 := rfl
set_option maxRecDepth 65536 in
theorem w_args : argsFit about1.vm theMethod args0 = true := by decide +kernel
set_option maxRecDepth 65536 in
theorem w_heap : heapFits about1 = true := by decide +kernel
set_option maxRecDepth 65536 in
theorem w_runnable : about1.curStatus? = some .runnable := by decide +kernel
set_option maxRecDepth 65536 in
theorem w_alone : about1.alone = true := by decide +kernel
set_option maxRecDepth 65536 in
theorem w_named : about1.methodNamed? x = some theMethod := by decide +kernel
set_option maxRecDepth 65536 in
theorem w_hears : about1.hears theMethod below0 = true := by decide +kernel
set_option maxRecDepth 65536 in
theorem w_ripe : about1.ripe theMethod args0 below0 = true := by decide +kernel
theorem w_running : about1.status = .running := rfl
set_option maxRecDepth 65536 in
theorem w_room : about1.hasRoom e0.platform room_1 = true :=
  launch0.hasRoom_least _ room_1 (by decide +kernel) (by decide +kernel) (by decide +kernel) (by decide +kernel) (by decide +kernel) (by decide +kernel)
theorem allAtoms_all (ts : List Jvm.Cond) (a : Array Jvm.Value) (st : Jvm.State) : (allAtoms ts).before a st = ts.all (fun c => c.before a st) := by
  induction ts with
  | nil => rfl
  | cons c t ih =>
    show (Jvm.Cond.and c (allAtoms t)).before a st = _
    rw [Jvm.Cond.before_and, ih, List.all_cons]
def words1 : List Jvm.Cond := Jvm.Cond.code x code maxLocals ret :: tables_1
/-- a 'code' word, met by the world's own term for the bytes: nothing is compared byte by byte -/
theorem code_word {y : MethodName} {bytes : ByteArray} {mx : Nat} {rt : Option FieldType} {a : Array Value} {s : State} {m : MethodId} {meth : Method} {c : Code} (h1 : s.methodNamed? y = some m) (h2 : s.vm.method? m = some meth) (h3 : meth.code = some c) (h4 : c.code = bytes)
    (h5 : (c.maxLocals == mx && c.exceptionTable.isEmpty && decide (c.maxStack ≤ mostOperands) && decide (meth.sig.returnType = rt) && !meth.locks && decide (parseMethodDescriptor y.desc = some meth.sig)) = true) : (Jvm.Cond.code y bytes mx rt).before a s = true := by
  simp only [Bool.and_eq_true, beq_iff_eq, Bool.not_eq_true', decide_eq_true_eq] at h5
  obtain ⟨⟨⟨⟨⟨g1, g2⟩, g3⟩, g4⟩, g5⟩, g6⟩ := h5
  simp [Cond.before, Cond.holds, Cond.value, h1, h2, h3, h4, g1, g2, g3, g4, g5, g6]
def isCode : Jvm.Cond → Bool
  | .code _ _ _ _ => true
  | _ => false
theorem all_split {L : List Jvm.Cond} {P : Jvm.Cond → Bool} (h1 : L.all (fun c => isCode c || P c) = true) (h2 : ∀ c ∈ L.filter isCode, P c = true) : L.all P = true := by
  refine List.all_eq_true.mpr fun c hc => ?_
  have h := List.all_eq_true.mp h1 c hc
  rcases Bool.eq_false_or_eq_true (isCode c) with hi | hi
  · exact h2 c (List.mem_filter.mpr ⟨hc, hi⟩)
  · simpa [hi] using h
set_option maxRecDepth 65536 in
theorem w_c0 : (Jvm.Cond.code x code maxLocals ret).before args0 about1 = true := code_word (m := ⟨1, 1⟩) (meth := k1m1) (c := k1c1) (by decide +kernel) rfl rfl rfl (by decide +kernel)
set_option maxRecDepth 65536 in
theorem w_c1 : (Jvm.Cond.code ({ cls := "com/example/despatch/despatch/fhir/WholeNumberReadPinLaw", name := "put", desc := "([CIJJII)V" } : Jvm.MethodName) method_3_code (9 : Nat) (Option.none : Option Jvm.ClassFile.FieldType)).before args0 about1 = true := code_word (m := ⟨1, 2⟩) (meth := k1m2) (c := k1c2) (by decide +kernel) rfl rfl rfl (by decide +kernel)
set_option maxRecDepth 65536 in
theorem w_c2 : (Jvm.Cond.code ({ cls := "java/lang/String", name := "<init>", desc := "([C)V" } : Jvm.MethodName) jdk_42_method_3_code (2 : Nat) (Option.none : Option Jvm.ClassFile.FieldType)).before args0 about1 = true := code_word (m := ⟨7, 1⟩) (meth := k7m1) (c := k7c1) (by decide +kernel) rfl rfl rfl (by decide +kernel)
set_option maxRecDepth 65536 in
theorem w_c3 : (Jvm.Cond.code ({ cls := "java/lang/String", name := "<init>", desc := "([CIILjava/lang/Void;)V" } : Jvm.MethodName) jdk_42_method_149_code (6 : Nat) (Option.none : Option Jvm.ClassFile.FieldType)).before args0 about1 = true := code_word (m := ⟨7, 5⟩) (meth := k7m5) (c := k7c5) (by decide +kernel) rfl rfl rfl (by decide +kernel)
set_option maxRecDepth 65536 in
theorem w_c4 : (Jvm.Cond.code ({ cls := "java/lang/Object", name := "<init>", desc := "()V" } : Jvm.MethodName) object_method_1_code (1 : Nat) (Option.none : Option Jvm.ClassFile.FieldType)).before args0 about1 = true := code_word (m := ⟨0, 0⟩) (meth := k0m0) (c := k0c0) (by decide +kernel) rfl rfl rfl (by decide +kernel)
set_option maxRecDepth 65536 in
theorem w_c5 : (Jvm.Cond.code ({ cls := "com/example/despatch/despatch/fhir/WholeNumber", name := "read", desc := "(Ljava/lang/String;)Ljava/util/OptionalInt;" } : Jvm.MethodName) prog_2_method_2_code (5 : Nat) (Option.some (Jvm.ClassFile.FieldType.object "java/util/OptionalInt"))).before args0 about1 = true := code_word (m := ⟨8, 1⟩) (meth := k8m1) (c := k8c1) (by decide +kernel) rfl rfl rfl (by decide +kernel)
set_option maxRecDepth 65536 in
theorem w_c6 : (Jvm.Cond.code ({ cls := "java/lang/String", name := "isEmpty", desc := "()Z" } : Jvm.MethodName) jdk_42_method_55_code (1 : Nat) (Option.some Jvm.ClassFile.FieldType.boolean)).before args0 about1 = true := code_word (m := ⟨7, 3⟩) (meth := k7m3) (c := k7c3) (by decide +kernel) rfl rfl rfl (by decide +kernel)
set_option maxRecDepth 65536 in
theorem w_c7 : (Jvm.Cond.code ({ cls := "java/util/OptionalInt", name := "empty", desc := "()Ljava/util/OptionalInt;" } : Jvm.MethodName) jdk_2649_method_2_code (0 : Nat) (Option.some (Jvm.ClassFile.FieldType.object "java/util/OptionalInt"))).before args0 about1 = true := code_word (m := ⟨9, 1⟩) (meth := k9m1) (c := k9c1) (by decide +kernel) rfl rfl rfl (by decide +kernel)
set_option maxRecDepth 65536 in
theorem w_c8 : (Jvm.Cond.code ({ cls := "java/util/OptionalInt", name := "orElse", desc := "(I)I" } : Jvm.MethodName) jdk_2649_method_11_code (2 : Nat) (Option.some Jvm.ClassFile.FieldType.int)).before args0 about1 = true := code_word (m := ⟨9, 4⟩) (meth := k9m4) (c := k9c4) (by decide +kernel) rfl rfl rfl (by decide +kernel)
set_option maxRecDepth 65536 in
theorem w_c9 : (Jvm.Cond.code ({ cls := "com/example/despatch/despatch/fhir/WholeNumberReadPinLaw", name := "expected", desc := "([C)I" } : Jvm.MethodName) method_7_code (6 : Nat) (Option.some Jvm.ClassFile.FieldType.int)).before args0 about1 = true := code_word (m := ⟨1, 6⟩) (meth := k1m6) (c := k1c6) (by decide +kernel) rfl rfl rfl (by decide +kernel)
set_option maxRecDepth 65536 in
theorem w_c10 : (Jvm.Cond.code ({ cls := "java/lang/StringUTF16", name := "compress", desc := "([CII)[B" } : Jvm.MethodName) jdk_52_method_16_code (6 : Nat) (Option.some (Jvm.ClassFile.FieldType.array Jvm.ClassFile.FieldType.byte))).before args0 about1 = true := code_word (m := ⟨10, 2⟩) (meth := k10m2) (c := k10c2) (by decide +kernel) rfl rfl rfl (by decide +kernel)
set_option maxRecDepth 65536 in
theorem w_c11 : (Jvm.Cond.code ({ cls := "java/lang/StringUTF16", name := "compress", desc := "([CI[BII)I" } : Jvm.MethodName) jdk_52_method_21_code (7 : Nat) (Option.some Jvm.ClassFile.FieldType.int)).before args0 about1 = true := code_word (m := ⟨10, 3⟩) (meth := k10m3) (c := k10c3) (by decide +kernel) rfl rfl rfl (by decide +kernel)
set_option maxRecDepth 65536 in
theorem w_c12 : (Jvm.Cond.code ({ cls := "java/lang/StringUTF16", name := "coderFromArrayLen", desc := "([BI)B" } : Jvm.MethodName) jdk_52_method_15_code (2 : Nat) (Option.some Jvm.ClassFile.FieldType.byte)).before args0 about1 = true := code_word (m := ⟨10, 1⟩) (meth := k10m1) (c := k10c1) (by decide +kernel) rfl rfl rfl (by decide +kernel)
set_option maxRecDepth 65536 in
theorem w_c13 : (Jvm.Cond.code ({ cls := "java/lang/String", name := "length", desc := "()I" } : Jvm.MethodName) jdk_42_method_54_code (1 : Nat) (Option.some Jvm.ClassFile.FieldType.int)).before args0 about1 = true := code_word (m := ⟨7, 2⟩) (meth := k7m2) (c := k7c2) (by decide +kernel) rfl rfl rfl (by decide +kernel)
set_option maxRecDepth 65536 in
theorem w_c14 : (Jvm.Cond.code ({ cls := "java/lang/String", name := "coder", desc := "()B" } : Jvm.MethodName) jdk_42_method_152_code (1 : Nat) (Option.some Jvm.ClassFile.FieldType.byte)).before args0 about1 = true := code_word (m := ⟨7, 6⟩) (meth := k7m6) (c := k7c6) (by decide +kernel) rfl rfl rfl (by decide +kernel)
set_option maxRecDepth 65536 in
theorem w_c15 : (Jvm.Cond.code ({ cls := "java/lang/String", name := "charAt", desc := "(I)C" } : Jvm.MethodName) jdk_42_method_56_code (2 : Nat) (Option.some Jvm.ClassFile.FieldType.char)).before args0 about1 = true := code_word (m := ⟨7, 4⟩) (meth := k7m4) (c := k7c4) (by decide +kernel) rfl rfl rfl (by decide +kernel)
set_option maxRecDepth 65536 in
theorem w_c16 : (Jvm.Cond.code ({ cls := "java/lang/String", name := "isLatin1", desc := "()Z" } : Jvm.MethodName) jdk_42_method_154_code (1 : Nat) (Option.some Jvm.ClassFile.FieldType.boolean)).before args0 about1 = true := code_word (m := ⟨7, 7⟩) (meth := k7m7) (c := k7c7) (by decide +kernel) rfl rfl rfl (by decide +kernel)
set_option maxRecDepth 65536 in
theorem w_c17 : (Jvm.Cond.code ({ cls := "java/lang/StringLatin1", name := "charAt", desc := "([BI)C" } : Jvm.MethodName) jdk_43_method_2_code (2 : Nat) (Option.some Jvm.ClassFile.FieldType.char)).before args0 about1 = true := code_word (m := ⟨11, 1⟩) (meth := k11m1) (c := k11c1) (by decide +kernel) rfl rfl rfl (by decide +kernel)
set_option maxRecDepth 65536 in
theorem w_c18 : (Jvm.Cond.code ({ cls := "java/lang/String", name := "checkIndex", desc := "(II)V" } : Jvm.MethodName) jdk_42_method_155_code (2 : Nat) (Option.none : Option Jvm.ClassFile.FieldType)).before args0 about1 = true := code_word (m := ⟨7, 8⟩) (meth := k7m8) (c := k7c8) (by decide +kernel) rfl rfl rfl (by decide +kernel)
set_option maxRecDepth 65536 in
theorem w_c19 : (Jvm.Cond.code ({ cls := "jdk/internal/util/Preconditions", name := "checkIndex", desc := "(IILjava/util/function/BiFunction;)I" } : Jvm.MethodName) jdk_41_method_11_code (3 : Nat) (Option.some Jvm.ClassFile.FieldType.int)).before args0 about1 = true := code_word (m := ⟨12, 1⟩) (meth := k12m1) (c := k12c1) (by decide +kernel) rfl rfl rfl (by decide +kernel)
set_option maxRecDepth 65536 in
theorem w_c20 : (Jvm.Cond.code ({ cls := "com/example/despatch/despatch/fhir/WholeNumberReadPinLaw", name := "ok", desc := "([CI)Z" } : Jvm.MethodName) method_4_code (2 : Nat) (Option.some Jvm.ClassFile.FieldType.boolean)).before args0 about1 = true := code_word (m := ⟨1, 3⟩) (meth := k1m3) (c := k1c3) (by decide +kernel) rfl rfl rfl (by decide +kernel)
set_option maxRecDepth 65536 in
theorem w_c21 : (Jvm.Cond.code ({ cls := "java/lang/Math", name := "min", desc := "(JJ)J" } : Jvm.MethodName) jdk_29_method_70_code (4 : Nat) (Option.some Jvm.ClassFile.FieldType.long)).before args0 about1 = true := code_word (m := ⟨13, 1⟩) (meth := k13m1) (c := k13c1) (by decide +kernel) rfl rfl rfl (by decide +kernel)
set_option maxRecDepth 65536 in
theorem w_c22 : (Jvm.Cond.code ({ cls := "java/util/OptionalInt", name := "of", desc := "(I)Ljava/util/OptionalInt;" } : Jvm.MethodName) jdk_2649_method_4_code (1 : Nat) (Option.some (Jvm.ClassFile.FieldType.object "java/util/OptionalInt"))).before args0 about1 = true := code_word (m := ⟨9, 3⟩) (meth := k9m3) (c := k9c3) (by decide +kernel) rfl rfl rfl (by decide +kernel)
set_option maxRecDepth 65536 in
theorem w_c23 : (Jvm.Cond.code ({ cls := "java/util/OptionalInt", name := "<init>", desc := "(I)V" } : Jvm.MethodName) jdk_2649_method_3_code (2 : Nat) (Option.none : Option Jvm.ClassFile.FieldType)).before args0 about1 = true := code_word (m := ⟨9, 2⟩) (meth := k9m2) (c := k9c2) (by decide +kernel) rfl rfl rfl (by decide +kernel)
set_option maxRecDepth 65536 in
theorem w_c24 : (Jvm.Cond.code ({ cls := "com/example/despatch/despatch/fhir/WholeNumberReadPinLaw", name := "d", desc := "([CI)I" } : Jvm.MethodName) method_5_code (2 : Nat) (Option.some Jvm.ClassFile.FieldType.int)).before args0 about1 = true := code_word (m := ⟨1, 4⟩) (meth := k1m4) (c := k1c4) (by decide +kernel) rfl rfl rfl (by decide +kernel)
set_option maxRecDepth 65536 in
theorem w_c25 : (Jvm.Cond.code ({ cls := "com/example/despatch/despatch/fhir/WholeNumberReadPinLaw", name := "nz", desc := "([CI)Z" } : Jvm.MethodName) method_6_code (2 : Nat) (Option.some Jvm.ClassFile.FieldType.boolean)).before args0 about1 = true := code_word (m := ⟨1, 5⟩) (meth := k1m5) (c := k1c5) (by decide +kernel) rfl rfl rfl (by decide +kernel)
def codes1 : List Jvm.Cond := [Jvm.Cond.code x code maxLocals ret, Jvm.Cond.code ({ cls := "com/example/despatch/despatch/fhir/WholeNumberReadPinLaw", name := "put", desc := "([CIJJII)V" } : Jvm.MethodName) method_3_code (9 : Nat) (Option.none : Option Jvm.ClassFile.FieldType), Jvm.Cond.code ({ cls := "java/lang/String", name := "<init>", desc := "([C)V" } : Jvm.MethodName) jdk_42_method_3_code (2 : Nat) (Option.none : Option Jvm.ClassFile.FieldType), Jvm.Cond.code ({ cls := "java/lang/String", name := "<init>", desc := "([CIILjava/lang/Void;)V" } : Jvm.MethodName) jdk_42_method_149_code (6 : Nat) (Option.none : Option Jvm.ClassFile.FieldType), Jvm.Cond.code ({ cls := "java/lang/Object", name := "<init>", desc := "()V" } : Jvm.MethodName) object_method_1_code (1 : Nat) (Option.none : Option Jvm.ClassFile.FieldType), Jvm.Cond.code ({ cls := "com/example/despatch/despatch/fhir/WholeNumber", name := "read", desc := "(Ljava/lang/String;)Ljava/util/OptionalInt;" } : Jvm.MethodName) prog_2_method_2_code (5 : Nat) (Option.some (Jvm.ClassFile.FieldType.object "java/util/OptionalInt")), Jvm.Cond.code ({ cls := "java/lang/String", name := "isEmpty", desc := "()Z" } : Jvm.MethodName) jdk_42_method_55_code (1 : Nat) (Option.some Jvm.ClassFile.FieldType.boolean), Jvm.Cond.code ({ cls := "java/util/OptionalInt", name := "empty", desc := "()Ljava/util/OptionalInt;" } : Jvm.MethodName) jdk_2649_method_2_code (0 : Nat) (Option.some (Jvm.ClassFile.FieldType.object "java/util/OptionalInt")), Jvm.Cond.code ({ cls := "java/util/OptionalInt", name := "orElse", desc := "(I)I" } : Jvm.MethodName) jdk_2649_method_11_code (2 : Nat) (Option.some Jvm.ClassFile.FieldType.int), Jvm.Cond.code ({ cls := "com/example/despatch/despatch/fhir/WholeNumberReadPinLaw", name := "expected", desc := "([C)I" } : Jvm.MethodName) method_7_code (6 : Nat) (Option.some Jvm.ClassFile.FieldType.int), Jvm.Cond.code ({ cls := "java/lang/StringUTF16", name := "compress", desc := "([CII)[B" } : Jvm.MethodName) jdk_52_method_16_code (6 : Nat) (Option.some (Jvm.ClassFile.FieldType.array Jvm.ClassFile.FieldType.byte)), Jvm.Cond.code ({ cls := "java/lang/StringUTF16", name := "compress", desc := "([CI[BII)I" } : Jvm.MethodName) jdk_52_method_21_code (7 : Nat) (Option.some Jvm.ClassFile.FieldType.int), Jvm.Cond.code ({ cls := "java/lang/StringUTF16", name := "coderFromArrayLen", desc := "([BI)B" } : Jvm.MethodName) jdk_52_method_15_code (2 : Nat) (Option.some Jvm.ClassFile.FieldType.byte), Jvm.Cond.code ({ cls := "java/lang/String", name := "length", desc := "()I" } : Jvm.MethodName) jdk_42_method_54_code (1 : Nat) (Option.some Jvm.ClassFile.FieldType.int), Jvm.Cond.code ({ cls := "java/lang/String", name := "coder", desc := "()B" } : Jvm.MethodName) jdk_42_method_152_code (1 : Nat) (Option.some Jvm.ClassFile.FieldType.byte), Jvm.Cond.code ({ cls := "java/lang/String", name := "charAt", desc := "(I)C" } : Jvm.MethodName) jdk_42_method_56_code (2 : Nat) (Option.some Jvm.ClassFile.FieldType.char), Jvm.Cond.code ({ cls := "java/lang/String", name := "isLatin1", desc := "()Z" } : Jvm.MethodName) jdk_42_method_154_code (1 : Nat) (Option.some Jvm.ClassFile.FieldType.boolean), Jvm.Cond.code ({ cls := "java/lang/StringLatin1", name := "charAt", desc := "([BI)C" } : Jvm.MethodName) jdk_43_method_2_code (2 : Nat) (Option.some Jvm.ClassFile.FieldType.char), Jvm.Cond.code ({ cls := "java/lang/String", name := "checkIndex", desc := "(II)V" } : Jvm.MethodName) jdk_42_method_155_code (2 : Nat) (Option.none : Option Jvm.ClassFile.FieldType), Jvm.Cond.code ({ cls := "jdk/internal/util/Preconditions", name := "checkIndex", desc := "(IILjava/util/function/BiFunction;)I" } : Jvm.MethodName) jdk_41_method_11_code (3 : Nat) (Option.some Jvm.ClassFile.FieldType.int), Jvm.Cond.code ({ cls := "com/example/despatch/despatch/fhir/WholeNumberReadPinLaw", name := "ok", desc := "([CI)Z" } : Jvm.MethodName) method_4_code (2 : Nat) (Option.some Jvm.ClassFile.FieldType.boolean), Jvm.Cond.code ({ cls := "java/lang/Math", name := "min", desc := "(JJ)J" } : Jvm.MethodName) jdk_29_method_70_code (4 : Nat) (Option.some Jvm.ClassFile.FieldType.long), Jvm.Cond.code ({ cls := "java/util/OptionalInt", name := "of", desc := "(I)Ljava/util/OptionalInt;" } : Jvm.MethodName) jdk_2649_method_4_code (1 : Nat) (Option.some (Jvm.ClassFile.FieldType.object "java/util/OptionalInt")), Jvm.Cond.code ({ cls := "java/util/OptionalInt", name := "<init>", desc := "(I)V" } : Jvm.MethodName) jdk_2649_method_3_code (2 : Nat) (Option.none : Option Jvm.ClassFile.FieldType), Jvm.Cond.code ({ cls := "com/example/despatch/despatch/fhir/WholeNumberReadPinLaw", name := "d", desc := "([CI)I" } : Jvm.MethodName) method_5_code (2 : Nat) (Option.some Jvm.ClassFile.FieldType.int), Jvm.Cond.code ({ cls := "com/example/despatch/despatch/fhir/WholeNumberReadPinLaw", name := "nz", desc := "([CI)Z" } : Jvm.MethodName) method_6_code (2 : Nat) (Option.some Jvm.ClassFile.FieldType.boolean)]
set_option maxRecDepth 65536 in
theorem codes_eq : words1.filter isCode = codes1 := rfl
theorem w_codes : ∀ c ∈ words1.filter isCode, c.before args0 about1 = true := by
  rw [codes_eq]
  intro c hc
  simp only [codes1, List.mem_cons, List.not_mem_nil, or_false] at hc
  rcases hc with rfl | rfl | rfl | rfl | rfl | rfl | rfl | rfl | rfl | rfl | rfl | rfl | rfl | rfl | rfl | rfl | rfl | rfl | rfl | rfl | rfl | rfl | rfl | rfl | rfl | rfl
  · exact w_c0
  · exact w_c1
  · exact w_c2
  · exact w_c3
  · exact w_c4
  · exact w_c5
  · exact w_c6
  · exact w_c7
  · exact w_c8
  · exact w_c9
  · exact w_c10
  · exact w_c11
  · exact w_c12
  · exact w_c13
  · exact w_c14
  · exact w_c15
  · exact w_c16
  · exact w_c17
  · exact w_c18
  · exact w_c19
  · exact w_c20
  · exact w_c21
  · exact w_c22
  · exact w_c23
  · exact w_c24
  · exact w_c25
set_option maxRecDepth 65536 in
theorem w_t1 : (words1.take 24).all (fun c => isCode c || c.before args0 about1) = true := by decide +kernel
set_option maxRecDepth 65536 in
theorem w_t2 : ((words1.drop 24).take 24).all (fun c => isCode c || c.before args0 about1) = true := by decide +kernel
set_option maxRecDepth 65536 in
theorem w_t3 : (((words1.drop 24).drop 24).take 24).all (fun c => isCode c || c.before args0 about1) = true := by decide +kernel
set_option maxRecDepth 65536 in
theorem w_t4 : ((((words1.drop 24).drop 24).drop 24).take 24).all (fun c => isCode c || c.before args0 about1) = true := by decide +kernel
set_option maxRecDepth 65536 in
theorem w_t5 : (((((words1.drop 24).drop 24).drop 24).drop 24).take 24).all (fun c => isCode c || c.before args0 about1) = true := by decide +kernel
set_option maxRecDepth 65536 in
theorem w_t6 : (((((words1.drop 24).drop 24).drop 24).drop 24).drop 24).all (fun c => isCode c || c.before args0 about1) = true := by decide +kernel
theorem w_tables : (allAtoms (Jvm.Cond.code x code maxLocals ret :: tables_1)).before args0 about1 = true := by
  rw [allAtoms_all]
  show words1.all (fun c => c.before args0 about1) = true
  refine all_split ?_ w_codes
  rw [← List.take_append_drop 24 words1, List.all_append, w_t1, ← List.take_append_drop 24 (words1.drop 24), List.all_append, w_t2, ← List.take_append_drop 24 ((words1.drop 24).drop 24), List.all_append, w_t3, ← List.take_append_drop 24 (((words1.drop 24).drop 24).drop 24), List.all_append, w_t4, ← List.take_append_drop 24 ((((words1.drop 24).drop 24).drop 24).drop 24), List.all_append, w_t5, w_t6]
  rfl
set_option maxRecDepth 65536 in
theorem w_rest : rest_1_c.before args0 about1 = true := by decide +kernel
set_option maxRecDepth 65536 in
theorem w_case : (Jvm.Cond.and given_1 narrow_1).before args0 about1 = true := by decide +kernel
set_option maxRecDepth 65536 in
theorem w_consts : constsHeld consts_1 about1 := Jvm.Lit.constsHeldB_iff.mp (by decide +kernel)
theorem w_applies : (headSpec (Jvm.Cond.code x code maxLocals ret :: tables_1) room_1).applies x e0.platform about1 = true :=
  (Spec.applies_iff w_frames).mpr ⟨w_running, w_runnable, w_alone, w_named, w_hears, w_ripe, w_room, w_tables⟩
theorem atStart : AtStart classFile x code maxLocals ret World_1 tables_1 room_1 Calls_1 rest_1 Pre_1 launch0 p0 e0 about1 theMethod args0 below0 :=
  ⟨lists_1, trivial, launch0.admits_env _ _ _, launch0.least_env, fairChoices_fair.cas, fairChoices_fair.clock, w_frames, w_args, w_heap, w_applies, ⟨w_consts, trivial⟩, w_rest, w_case⟩
end start1
theorem witness_1 : WitnessClaimed_1 := ⟨start1.p0, start1.e0, start1.about1, start1.theMethod, start1.args0, start1.below0, start1.atStart⟩
end Jvm.Pilot.@@N@@
