import JvmDerived
import JvmDerived.Pilot.@@N@@Statement
import JvmDerived.Pilot.@@N@@Code
set_option linter.unusedVariables false
set_option linter.unusedSimpArgs false
namespace Jvm.Pilot.@@N@@
open Jvm Jvm.ClassFile Sem Op Lib Jvm.Free Jvm.Stand Jvm.LawKit Jvm.RoadKit Bundle Jvm.Pilot.@@N@@.Jvm.D
section OwnBase
def Gets (tb : Tables) (e : Env) (below : List Frame) (P : Outcome → State → Prop) (T : State) (g : JFrame) : Prop := ∃ t o, Steps tb e below (T.setTop g) t ∧ t.status = .running ∧ Ended t below o ∧ P o t
theorem Gets.by {tb : Tables} {e : Env} {below : List Frame} {P : Outcome → State → Prop} {T T' : State} {g g' : JFrame} (h : Gets tb e below P T' g') (k : ∀ t, Steps tb e below (T'.setTop g') t → Steps tb e below (T.setTop g) t) : Gets tb e below P T g := by
  obtain ⟨t, o, h1, h2⟩ := h
  exact ⟨t, o, k t h1, h2⟩
theorem g_iloadN {tb : Tables} [Ours tb] {e : Env} {below : List Frame} {T : State} {m : MethodId} {c : Code} {P : Outcome → State → Prop} {pc pc' : Nat} {Ls : Array Slot} {st : List Value} {j : Fin 4} {v : Int32} (H : At T m c below) (hx : tb.exec = Jvm.exec) (hd : decode c.code pc = .ok (.iload_n j, 1)) (hl : Ls[j.val]? = some (.val (.int v))) (hp : pc + 1 = pc')
    (k : Gets tb e below P T (mkF m pc' Ls (.int v :: st))) : Gets tb e below P T (mkF m pc Ls (st)) := by
  subst hp; refine k.by fun t qq => ?_; exact XS.iloadN H hx rfl hd hl qq
theorem g_iload {tb : Tables} [Ours tb] {e : Env} {below : List Frame} {T : State} {m : MethodId} {c : Code} {P : Outcome → State → Prop} {pc pc' : Nat} {Ls : Array Slot} {st : List Value} {j : Nat} {v : Int32} (H : At T m c below) (hx : tb.exec = Jvm.exec) (hd : decode c.code pc = .ok (.iload j, 2)) (hl : Ls[j]? = some (.val (.int v))) (hp : pc + 2 = pc')
    (k : Gets tb e below P T (mkF m pc' Ls (.int v :: st))) : Gets tb e below P T (mkF m pc Ls (st)) := by
  subst hp; refine k.by fun t qq => ?_; exact XS.iload H hx rfl hd hl qq
theorem g_istoreN {tb : Tables} [Ours tb] {e : Env} {below : List Frame} {T : State} {m : MethodId} {c : Code} {P : Outcome → State → Prop} {pc pc' : Nat} {Ls : Array Slot} {st : List Value} {j : Fin 4} {v : Int32} {Ls' : Array Slot} (H : At T m c below) (hx : tb.exec = Jvm.exec) (hd : decode c.code pc = .ok (.istore_n j, 1)) (hl : storeLocals Ls j.val (.int v) = some Ls') (hp : pc + 1 = pc')
    (k : Gets tb e below P T (mkF m pc' Ls' (st))) : Gets tb e below P T (mkF m pc Ls (.int v :: st)) := by
  subst hp; refine k.by fun t qq => ?_; exact XS.istoreN H hx rfl hd rfl hl qq
theorem g_istore {tb : Tables} [Ours tb] {e : Env} {below : List Frame} {T : State} {m : MethodId} {c : Code} {P : Outcome → State → Prop} {pc pc' : Nat} {Ls : Array Slot} {st : List Value} {j : Nat} {v : Int32} {Ls' : Array Slot} (H : At T m c below) (hx : tb.exec = Jvm.exec) (hd : decode c.code pc = .ok (.istore j, 2)) (hl : storeLocals Ls j (.int v) = some Ls') (hp : pc + 2 = pc')
    (k : Gets tb e below P T (mkF m pc' Ls' (st))) : Gets tb e below P T (mkF m pc Ls (.int v :: st)) := by
  subst hp; refine k.by fun t qq => ?_; exact XS.istore H hx rfl hd rfl hl qq
theorem g_lloadN {tb : Tables} [Ours tb] {e : Env} {below : List Frame} {T : State} {m : MethodId} {c : Code} {P : Outcome → State → Prop} {pc pc' : Nat} {Ls : Array Slot} {st : List Value} {j : Fin 4} {v : Int64} (H : At T m c below) (hx : tb.exec = Jvm.exec) (hd : decode c.code pc = .ok (.lload_n j, 1)) (hl : Ls[j.val]? = some (.val (.long v))) (hp : pc + 1 = pc')
    (k : Gets tb e below P T (mkF m pc' Ls (.long v :: st))) : Gets tb e below P T (mkF m pc Ls (st)) := by
  subst hp; refine k.by fun t qq => ?_; exact XS.lloadN H hx rfl hd hl qq
theorem g_lload {tb : Tables} [Ours tb] {e : Env} {below : List Frame} {T : State} {m : MethodId} {c : Code} {P : Outcome → State → Prop} {pc pc' : Nat} {Ls : Array Slot} {st : List Value} {j : Nat} {v : Int64} (H : At T m c below) (hx : tb.exec = Jvm.exec) (hd : decode c.code pc = .ok (.lload j, 2)) (hl : Ls[j]? = some (.val (.long v))) (hp : pc + 2 = pc')
    (k : Gets tb e below P T (mkF m pc' Ls (.long v :: st))) : Gets tb e below P T (mkF m pc Ls (st)) := by
  subst hp; refine k.by fun t qq => ?_; exact XS.lload H hx rfl hd hl qq
theorem g_lstoreN {tb : Tables} [Ours tb] {e : Env} {below : List Frame} {T : State} {m : MethodId} {c : Code} {P : Outcome → State → Prop} {pc pc' : Nat} {Ls : Array Slot} {st : List Value} {j : Fin 4} {v : Int64} {Ls' : Array Slot} (H : At T m c below) (hx : tb.exec = Jvm.exec) (hd : decode c.code pc = .ok (.lstore_n j, 1)) (hl : storeLocals Ls j.val (.long v) = some Ls') (hp : pc + 1 = pc')
    (k : Gets tb e below P T (mkF m pc' Ls' (st))) : Gets tb e below P T (mkF m pc Ls (.long v :: st)) := by
  subst hp; refine k.by fun t qq => ?_; exact XS.lstoreN H hx rfl hd rfl hl qq
theorem g_lstore {tb : Tables} [Ours tb] {e : Env} {below : List Frame} {T : State} {m : MethodId} {c : Code} {P : Outcome → State → Prop} {pc pc' : Nat} {Ls : Array Slot} {st : List Value} {j : Nat} {v : Int64} {Ls' : Array Slot} (H : At T m c below) (hx : tb.exec = Jvm.exec) (hd : decode c.code pc = .ok (.lstore j, 2)) (hl : storeLocals Ls j (.long v) = some Ls') (hp : pc + 2 = pc')
    (k : Gets tb e below P T (mkF m pc' Ls' (st))) : Gets tb e below P T (mkF m pc Ls (.long v :: st)) := by
  subst hp; refine k.by fun t qq => ?_; exact XS.lstore H hx rfl hd rfl hl qq
theorem g_aloadN {tb : Tables} [Ours tb] {e : Env} {below : List Frame} {T : State} {m : MethodId} {c : Code} {P : Outcome → State → Prop} {pc pc' : Nat} {Ls : Array Slot} {st : List Value} {j : Fin 4} {v : Value} (H : At T m c below) (hx : tb.exec = Jvm.exec) (hd : decode c.code pc = .ok (.aload_n j, 1)) (hl : Ls[j.val]? = some (.val v)) (hv : v.isRef = true) (hp : pc + 1 = pc')
    (k : Gets tb e below P T (mkF m pc' Ls (v :: st))) : Gets tb e below P T (mkF m pc Ls (st)) := by
  subst hp; refine k.by fun t qq => ?_; exact XS.aloadN H hx rfl hd hl hv qq
theorem g_aload {tb : Tables} [Ours tb] {e : Env} {below : List Frame} {T : State} {m : MethodId} {c : Code} {P : Outcome → State → Prop} {pc pc' : Nat} {Ls : Array Slot} {st : List Value} {j : Nat} {v : Value} (H : At T m c below) (hx : tb.exec = Jvm.exec) (hd : decode c.code pc = .ok (.aload j, 2)) (hl : Ls[j]? = some (.val v)) (hv : v.isRef = true) (hp : pc + 2 = pc')
    (k : Gets tb e below P T (mkF m pc' Ls (v :: st))) : Gets tb e below P T (mkF m pc Ls (st)) := by
  subst hp; refine k.by fun t qq => ?_; exact XS.aload H hx rfl hd hl hv qq
theorem g_astoreN {tb : Tables} [Ours tb] {e : Env} {below : List Frame} {T : State} {m : MethodId} {c : Code} {P : Outcome → State → Prop} {pc pc' : Nat} {Ls : Array Slot} {st : List Value} {j : Fin 4} {v : Value} {Ls' : Array Slot} (H : At T m c below) (hx : tb.exec = Jvm.exec) (hd : decode c.code pc = .ok (.astore_n j, 1)) (hv : v.isRef = true) (hl : storeLocals Ls j.val v = some Ls') (hp : pc + 1 = pc')
    (k : Gets tb e below P T (mkF m pc' Ls' (st))) : Gets tb e below P T (mkF m pc Ls (v :: st)) := by
  subst hp; refine k.by fun t qq => ?_; exact XS.astoreN H hx rfl hd rfl hv hl qq
theorem g_astore {tb : Tables} [Ours tb] {e : Env} {below : List Frame} {T : State} {m : MethodId} {c : Code} {P : Outcome → State → Prop} {pc pc' : Nat} {Ls : Array Slot} {st : List Value} {j : Nat} {v : Value} {Ls' : Array Slot} (H : At T m c below) (hx : tb.exec = Jvm.exec) (hd : decode c.code pc = .ok (.astore j, 2)) (hv : v.isRef = true) (hl : storeLocals Ls j v = some Ls') (hp : pc + 2 = pc')
    (k : Gets tb e below P T (mkF m pc' Ls' (st))) : Gets tb e below P T (mkF m pc Ls (v :: st)) := by
  subst hp; refine k.by fun t qq => ?_; exact XS.astore H hx rfl hd rfl hv hl qq
theorem g_iconst {tb : Tables} [Ours tb] {e : Env} {below : List Frame} {T : State} {m : MethodId} {c : Code} {P : Outcome → State → Prop} {pc pc' : Nat} {Ls : Array Slot} {st : List Value} {i : Int} (v : Int32) (H : At T m c below) (hx : tb.exec = Jvm.exec) (hd : decode c.code pc = .ok (.iconst i, 1)) (hv : Int32.ofInt i = v) (hp : pc + 1 = pc')
    (k : Gets tb e below P T (mkF m pc' Ls (.int v :: st))) : Gets tb e below P T (mkF m pc Ls st) := by
  subst hp; subst hv; refine k.by fun t qq => ?_; exact XS.iconst H hx rfl hd qq
theorem g_bipush {tb : Tables} [Ours tb] {e : Env} {below : List Frame} {T : State} {m : MethodId} {c : Code} {P : Outcome → State → Prop} {pc pc' : Nat} {Ls : Array Slot} {st : List Value} {i : Int} (v : Int32) (H : At T m c below) (hx : tb.exec = Jvm.exec) (hd : decode c.code pc = .ok (.bipush i, 2)) (hv : (Int8.ofInt i).toInt32 = v) (hp : pc + 2 = pc')
    (k : Gets tb e below P T (mkF m pc' Ls (.int v :: st))) : Gets tb e below P T (mkF m pc Ls st) := by
  subst hp; subst hv; refine k.by fun t qq => ?_; exact XS.bipush H hx rfl hd qq
theorem g_sipush {tb : Tables} [Ours tb] {e : Env} {below : List Frame} {T : State} {m : MethodId} {c : Code} {P : Outcome → State → Prop} {pc pc' : Nat} {Ls : Array Slot} {st : List Value} {i : Int} (v : Int32) (H : At T m c below) (hx : tb.exec = Jvm.exec) (hd : decode c.code pc = .ok (.sipush i, 3)) (hv : (Int16.ofInt i).toInt32 = v) (hp : pc + 3 = pc')
    (k : Gets tb e below P T (mkF m pc' Ls (.int v :: st))) : Gets tb e below P T (mkF m pc Ls st) := by
  subst hp; subst hv; refine k.by fun t qq => ?_; exact XS.sipush H hx rfl hd qq
theorem g_aconstNull {tb : Tables} [Ours tb] {e : Env} {below : List Frame} {T : State} {m : MethodId} {c : Code} {P : Outcome → State → Prop} {pc pc' : Nat} {Ls : Array Slot} {st : List Value}  (H : At T m c below) (hx : tb.exec = Jvm.exec) (hd : decode c.code pc = .ok (.aconst_null, 1))  (hp : pc + 1 = pc')
    (k : Gets tb e below P T (mkF m pc' Ls (.null :: st))) : Gets tb e below P T (mkF m pc Ls (st)) := by
  subst hp; refine k.by fun t qq => ?_; exact XS.aconstNull H hx rfl hd  qq
theorem g_iadd {tb : Tables} [Ours tb] {e : Env} {below : List Frame} {T : State} {m : MethodId} {c : Code} {P : Outcome → State → Prop} {pc pc' : Nat} {Ls : Array Slot} {st : List Value} {x y : Int32} (H : At T m c below) (hx : tb.exec = Jvm.exec) (hd : decode c.code pc = .ok (.iadd, 1))  (hp : pc + 1 = pc')
    (k : Gets tb e below P T (mkF m pc' Ls (.int (x + y) :: st))) : Gets tb e below P T (mkF m pc Ls (.int y :: .int x :: st)) := by
  subst hp; refine k.by fun t qq => ?_; exact XS.iadd H hx rfl hd rfl qq
theorem g_isub {tb : Tables} [Ours tb] {e : Env} {below : List Frame} {T : State} {m : MethodId} {c : Code} {P : Outcome → State → Prop} {pc pc' : Nat} {Ls : Array Slot} {st : List Value} {x y : Int32} (H : At T m c below) (hx : tb.exec = Jvm.exec) (hd : decode c.code pc = .ok (.isub, 1))  (hp : pc + 1 = pc')
    (k : Gets tb e below P T (mkF m pc' Ls (.int (x - y) :: st))) : Gets tb e below P T (mkF m pc Ls (.int y :: .int x :: st)) := by
  subst hp; refine k.by fun t qq => ?_; exact XS.isub H hx rfl hd rfl qq
theorem g_imul {tb : Tables} [Ours tb] {e : Env} {below : List Frame} {T : State} {m : MethodId} {c : Code} {P : Outcome → State → Prop} {pc pc' : Nat} {Ls : Array Slot} {st : List Value} {x y : Int32} (H : At T m c below) (hx : tb.exec = Jvm.exec) (hd : decode c.code pc = .ok (.imul, 1))  (hp : pc + 1 = pc')
    (k : Gets tb e below P T (mkF m pc' Ls (.int (x * y) :: st))) : Gets tb e below P T (mkF m pc Ls (.int y :: .int x :: st)) := by
  subst hp; refine k.by fun t qq => ?_; exact XS.imul H hx rfl hd rfl qq
theorem g_iand {tb : Tables} [Ours tb] {e : Env} {below : List Frame} {T : State} {m : MethodId} {c : Code} {P : Outcome → State → Prop} {pc pc' : Nat} {Ls : Array Slot} {st : List Value} {x y : Int32} (H : At T m c below) (hx : tb.exec = Jvm.exec) (hd : decode c.code pc = .ok (.iand, 1))  (hp : pc + 1 = pc')
    (k : Gets tb e below P T (mkF m pc' Ls (.int (x &&& y) :: st))) : Gets tb e below P T (mkF m pc Ls (.int y :: .int x :: st)) := by
  subst hp; refine k.by fun t qq => ?_; exact XS.iand H hx rfl hd rfl qq
theorem g_ior {tb : Tables} [Ours tb] {e : Env} {below : List Frame} {T : State} {m : MethodId} {c : Code} {P : Outcome → State → Prop} {pc pc' : Nat} {Ls : Array Slot} {st : List Value} {x y : Int32} (H : At T m c below) (hx : tb.exec = Jvm.exec) (hd : decode c.code pc = .ok (.ior, 1))  (hp : pc + 1 = pc')
    (k : Gets tb e below P T (mkF m pc' Ls (.int (x ||| y) :: st))) : Gets tb e below P T (mkF m pc Ls (.int y :: .int x :: st)) := by
  subst hp; refine k.by fun t qq => ?_; exact XS.ior H hx rfl hd rfl qq
theorem g_ixor {tb : Tables} [Ours tb] {e : Env} {below : List Frame} {T : State} {m : MethodId} {c : Code} {P : Outcome → State → Prop} {pc pc' : Nat} {Ls : Array Slot} {st : List Value} {x y : Int32} (H : At T m c below) (hx : tb.exec = Jvm.exec) (hd : decode c.code pc = .ok (.ixor, 1))  (hp : pc + 1 = pc')
    (k : Gets tb e below P T (mkF m pc' Ls (.int (x ^^^ y) :: st))) : Gets tb e below P T (mkF m pc Ls (.int y :: .int x :: st)) := by
  subst hp; refine k.by fun t qq => ?_; exact XS.ixor H hx rfl hd rfl qq
theorem g_ishl {tb : Tables} [Ours tb] {e : Env} {below : List Frame} {T : State} {m : MethodId} {c : Code} {P : Outcome → State → Prop} {pc pc' : Nat} {Ls : Array Slot} {st : List Value} {x y : Int32} (H : At T m c below) (hx : tb.exec = Jvm.exec) (hd : decode c.code pc = .ok (.ishl, 1))  (hp : pc + 1 = pc')
    (k : Gets tb e below P T (mkF m pc' Ls (.int (x <<< (y &&& 31)) :: st))) : Gets tb e below P T (mkF m pc Ls (.int y :: .int x :: st)) := by
  subst hp; refine k.by fun t qq => ?_; exact XS.ishl H hx rfl hd rfl qq
theorem g_ishr {tb : Tables} [Ours tb] {e : Env} {below : List Frame} {T : State} {m : MethodId} {c : Code} {P : Outcome → State → Prop} {pc pc' : Nat} {Ls : Array Slot} {st : List Value} {x y : Int32} (H : At T m c below) (hx : tb.exec = Jvm.exec) (hd : decode c.code pc = .ok (.ishr, 1))  (hp : pc + 1 = pc')
    (k : Gets tb e below P T (mkF m pc' Ls (.int (x >>> (y &&& 31)) :: st))) : Gets tb e below P T (mkF m pc Ls (.int y :: .int x :: st)) := by
  subst hp; refine k.by fun t qq => ?_; exact XS.ishr H hx rfl hd rfl qq
theorem g_iushr {tb : Tables} [Ours tb] {e : Env} {below : List Frame} {T : State} {m : MethodId} {c : Code} {P : Outcome → State → Prop} {pc pc' : Nat} {Ls : Array Slot} {st : List Value} {x y : Int32} (H : At T m c below) (hx : tb.exec = Jvm.exec) (hd : decode c.code pc = .ok (.iushr, 1))  (hp : pc + 1 = pc')
    (k : Gets tb e below P T (mkF m pc' Ls (.int ((x.toUInt32 >>> (y &&& 31).toUInt32).toInt32) :: st))) : Gets tb e below P T (mkF m pc Ls (.int y :: .int x :: st)) := by
  subst hp; refine k.by fun t qq => ?_; exact XS.iushr H hx rfl hd rfl qq
theorem g_ladd {tb : Tables} [Ours tb] {e : Env} {below : List Frame} {T : State} {m : MethodId} {c : Code} {P : Outcome → State → Prop} {pc pc' : Nat} {Ls : Array Slot} {st : List Value} {x y : Int64} (H : At T m c below) (hx : tb.exec = Jvm.exec) (hd : decode c.code pc = .ok (.ladd, 1))  (hp : pc + 1 = pc')
    (k : Gets tb e below P T (mkF m pc' Ls (.long (x + y) :: st))) : Gets tb e below P T (mkF m pc Ls (.long y :: .long x :: st)) := by
  subst hp; refine k.by fun t qq => ?_; exact XS.ladd H hx rfl hd rfl qq
theorem g_lsub {tb : Tables} [Ours tb] {e : Env} {below : List Frame} {T : State} {m : MethodId} {c : Code} {P : Outcome → State → Prop} {pc pc' : Nat} {Ls : Array Slot} {st : List Value} {x y : Int64} (H : At T m c below) (hx : tb.exec = Jvm.exec) (hd : decode c.code pc = .ok (.lsub, 1))  (hp : pc + 1 = pc')
    (k : Gets tb e below P T (mkF m pc' Ls (.long (x - y) :: st))) : Gets tb e below P T (mkF m pc Ls (.long y :: .long x :: st)) := by
  subst hp; refine k.by fun t qq => ?_; exact XS.lsub H hx rfl hd rfl qq
theorem g_lmul {tb : Tables} [Ours tb] {e : Env} {below : List Frame} {T : State} {m : MethodId} {c : Code} {P : Outcome → State → Prop} {pc pc' : Nat} {Ls : Array Slot} {st : List Value} {x y : Int64} (H : At T m c below) (hx : tb.exec = Jvm.exec) (hd : decode c.code pc = .ok (.lmul, 1))  (hp : pc + 1 = pc')
    (k : Gets tb e below P T (mkF m pc' Ls (.long (x * y) :: st))) : Gets tb e below P T (mkF m pc Ls (.long y :: .long x :: st)) := by
  subst hp; refine k.by fun t qq => ?_; exact XS.lmul H hx rfl hd rfl qq
theorem g_land {tb : Tables} [Ours tb] {e : Env} {below : List Frame} {T : State} {m : MethodId} {c : Code} {P : Outcome → State → Prop} {pc pc' : Nat} {Ls : Array Slot} {st : List Value} {x y : Int64} (H : At T m c below) (hx : tb.exec = Jvm.exec) (hd : decode c.code pc = .ok (.land, 1))  (hp : pc + 1 = pc')
    (k : Gets tb e below P T (mkF m pc' Ls (.long (x &&& y) :: st))) : Gets tb e below P T (mkF m pc Ls (.long y :: .long x :: st)) := by
  subst hp; refine k.by fun t qq => ?_; exact XS.land H hx rfl hd rfl qq
theorem g_lor {tb : Tables} [Ours tb] {e : Env} {below : List Frame} {T : State} {m : MethodId} {c : Code} {P : Outcome → State → Prop} {pc pc' : Nat} {Ls : Array Slot} {st : List Value} {x y : Int64} (H : At T m c below) (hx : tb.exec = Jvm.exec) (hd : decode c.code pc = .ok (.lor, 1))  (hp : pc + 1 = pc')
    (k : Gets tb e below P T (mkF m pc' Ls (.long (x ||| y) :: st))) : Gets tb e below P T (mkF m pc Ls (.long y :: .long x :: st)) := by
  subst hp; refine k.by fun t qq => ?_; exact XS.lor H hx rfl hd rfl qq
theorem g_lxor {tb : Tables} [Ours tb] {e : Env} {below : List Frame} {T : State} {m : MethodId} {c : Code} {P : Outcome → State → Prop} {pc pc' : Nat} {Ls : Array Slot} {st : List Value} {x y : Int64} (H : At T m c below) (hx : tb.exec = Jvm.exec) (hd : decode c.code pc = .ok (.lxor, 1))  (hp : pc + 1 = pc')
    (k : Gets tb e below P T (mkF m pc' Ls (.long (x ^^^ y) :: st))) : Gets tb e below P T (mkF m pc Ls (.long y :: .long x :: st)) := by
  subst hp; refine k.by fun t qq => ?_; exact XS.lxor H hx rfl hd rfl qq
theorem g_lshl {tb : Tables} [Ours tb] {e : Env} {below : List Frame} {T : State} {m : MethodId} {c : Code} {P : Outcome → State → Prop} {pc pc' : Nat} {Ls : Array Slot} {st : List Value} {x : Int64} {y : Int32} (H : At T m c below) (hx : tb.exec = Jvm.exec) (hd : decode c.code pc = .ok (.lshl, 1))  (hp : pc + 1 = pc')
    (k : Gets tb e below P T (mkF m pc' Ls (.long (x <<< (y &&& 0x3f).toInt64) :: st))) : Gets tb e below P T (mkF m pc Ls (.int y :: .long x :: st)) := by
  subst hp; refine k.by fun t qq => ?_; exact XS.lshl H hx rfl hd rfl qq
theorem g_lshr {tb : Tables} [Ours tb] {e : Env} {below : List Frame} {T : State} {m : MethodId} {c : Code} {P : Outcome → State → Prop} {pc pc' : Nat} {Ls : Array Slot} {st : List Value} {x : Int64} {y : Int32} (H : At T m c below) (hx : tb.exec = Jvm.exec) (hd : decode c.code pc = .ok (.lshr, 1))  (hp : pc + 1 = pc')
    (k : Gets tb e below P T (mkF m pc' Ls (.long (x >>> (y &&& 0x3f).toInt64) :: st))) : Gets tb e below P T (mkF m pc Ls (.int y :: .long x :: st)) := by
  subst hp; refine k.by fun t qq => ?_; exact XS.lshr H hx rfl hd rfl qq
theorem g_lushr {tb : Tables} [Ours tb] {e : Env} {below : List Frame} {T : State} {m : MethodId} {c : Code} {P : Outcome → State → Prop} {pc pc' : Nat} {Ls : Array Slot} {st : List Value} {x : Int64} {y : Int32} (H : At T m c below) (hx : tb.exec = Jvm.exec) (hd : decode c.code pc = .ok (.lushr, 1))  (hp : pc + 1 = pc')
    (k : Gets tb e below P T (mkF m pc' Ls (.long ((x.toUInt64 >>> (y &&& 0x3f).toInt64.toUInt64).toInt64) :: st))) : Gets tb e below P T (mkF m pc Ls (.int y :: .long x :: st)) := by
  subst hp; refine k.by fun t qq => ?_; exact XS.lushr H hx rfl hd rfl qq
theorem g_lcmp {tb : Tables} [Ours tb] {e : Env} {below : List Frame} {T : State} {m : MethodId} {c : Code} {P : Outcome → State → Prop} {pc pc' : Nat} {Ls : Array Slot} {st : List Value} {x y : Int64} (H : At T m c below) (hx : tb.exec = Jvm.exec) (hd : decode c.code pc = .ok (.lcmp, 1))  (hp : pc + 1 = pc')
    (k : Gets tb e below P T (mkF m pc' Ls (.int (lcmpW x y) :: st))) : Gets tb e below P T (mkF m pc Ls (.long y :: .long x :: st)) := by
  subst hp; refine k.by fun t qq => ?_; exact XS.lcmp H hx rfl hd rfl qq
theorem g_ineg {tb : Tables} [Ours tb] {e : Env} {below : List Frame} {T : State} {m : MethodId} {c : Code} {P : Outcome → State → Prop} {pc pc' : Nat} {Ls : Array Slot} {st : List Value} {x : Int32} (H : At T m c below) (hx : tb.exec = Jvm.exec) (hd : decode c.code pc = .ok (.ineg, 1))  (hp : pc + 1 = pc')
    (k : Gets tb e below P T (mkF m pc' Ls (.int (-x) :: st))) : Gets tb e below P T (mkF m pc Ls (.int x :: st)) := by
  subst hp; refine k.by fun t qq => ?_; exact XS.ineg H hx rfl hd rfl qq
theorem g_i2b {tb : Tables} [Ours tb] {e : Env} {below : List Frame} {T : State} {m : MethodId} {c : Code} {P : Outcome → State → Prop} {pc pc' : Nat} {Ls : Array Slot} {st : List Value} {x : Int32} (H : At T m c below) (hx : tb.exec = Jvm.exec) (hd : decode c.code pc = .ok (.i2b, 1))  (hp : pc + 1 = pc')
    (k : Gets tb e below P T (mkF m pc' Ls (.int (x.toInt8.toInt32) :: st))) : Gets tb e below P T (mkF m pc Ls (.int x :: st)) := by
  subst hp; refine k.by fun t qq => ?_; exact XS.i2b H hx rfl hd rfl qq
theorem g_i2s {tb : Tables} [Ours tb] {e : Env} {below : List Frame} {T : State} {m : MethodId} {c : Code} {P : Outcome → State → Prop} {pc pc' : Nat} {Ls : Array Slot} {st : List Value} {x : Int32} (H : At T m c below) (hx : tb.exec = Jvm.exec) (hd : decode c.code pc = .ok (.i2s, 1))  (hp : pc + 1 = pc')
    (k : Gets tb e below P T (mkF m pc' Ls (.int (x.toInt16.toInt32) :: st))) : Gets tb e below P T (mkF m pc Ls (.int x :: st)) := by
  subst hp; refine k.by fun t qq => ?_; exact XS.i2s H hx rfl hd rfl qq
theorem g_i2c {tb : Tables} [Ours tb] {e : Env} {below : List Frame} {T : State} {m : MethodId} {c : Code} {P : Outcome → State → Prop} {pc pc' : Nat} {Ls : Array Slot} {st : List Value} {x : Int32} (H : At T m c below) (hx : tb.exec = Jvm.exec) (hd : decode c.code pc = .ok (.i2c, 1))  (hp : pc + 1 = pc')
    (k : Gets tb e below P T (mkF m pc' Ls (.int (x.toUInt32.toUInt16.toUInt32.toInt32) :: st))) : Gets tb e below P T (mkF m pc Ls (.int x :: st)) := by
  subst hp; refine k.by fun t qq => ?_; exact XS.i2c H hx rfl hd rfl qq
theorem g_i2l {tb : Tables} [Ours tb] {e : Env} {below : List Frame} {T : State} {m : MethodId} {c : Code} {P : Outcome → State → Prop} {pc pc' : Nat} {Ls : Array Slot} {st : List Value} {x : Int32} (H : At T m c below) (hx : tb.exec = Jvm.exec) (hd : decode c.code pc = .ok (.i2l, 1))  (hp : pc + 1 = pc')
    (k : Gets tb e below P T (mkF m pc' Ls (.long x.toInt64 :: st))) : Gets tb e below P T (mkF m pc Ls (.int x :: st)) := by
  subst hp; refine k.by fun t qq => ?_; exact XS.i2l H hx rfl hd rfl qq
theorem g_l2i {tb : Tables} [Ours tb] {e : Env} {below : List Frame} {T : State} {m : MethodId} {c : Code} {P : Outcome → State → Prop} {pc pc' : Nat} {Ls : Array Slot} {st : List Value} {x : Int64} (H : At T m c below) (hx : tb.exec = Jvm.exec) (hd : decode c.code pc = .ok (.l2i, 1))  (hp : pc + 1 = pc')
    (k : Gets tb e below P T (mkF m pc' Ls (.int x.toInt32 :: st))) : Gets tb e below P T (mkF m pc Ls (.long x :: st)) := by
  subst hp; refine k.by fun t qq => ?_; exact XS.l2i H hx rfl hd rfl qq
theorem g_lneg {tb : Tables} [Ours tb] {e : Env} {below : List Frame} {T : State} {m : MethodId} {c : Code} {P : Outcome → State → Prop} {pc pc' : Nat} {Ls : Array Slot} {st : List Value} {x : Int64} (H : At T m c below) (hx : tb.exec = Jvm.exec) (hd : decode c.code pc = .ok (.lneg, 1))  (hp : pc + 1 = pc')
    (k : Gets tb e below P T (mkF m pc' Ls (.long (-x) :: st))) : Gets tb e below P T (mkF m pc Ls (.long x :: st)) := by
  subst hp; refine k.by fun t qq => ?_; exact XS.lneg H hx rfl hd rfl qq
theorem g_idiv {tb : Tables} [Ours tb] {e : Env} {below : List Frame} {T : State} {m : MethodId} {c : Code} {P : Outcome → State → Prop} {pc pc' : Nat} {Ls : Array Slot} {st : List Value} {x y : Int32} (H : At T m c below) (hx : tb.exec = Jvm.exec) (hd : decode c.code pc = .ok (.idiv, 1)) (hy : y ≠ 0) (hp : pc + 1 = pc')
    (k : Gets tb e below P T (mkF m pc' Ls (.int (x / y) :: st))) : Gets tb e below P T (mkF m pc Ls (.int y :: .int x :: st)) := by
  subst hp; refine k.by fun t qq => ?_; exact XS.idiv H hx rfl hd rfl hy qq
theorem g_dup {tb : Tables} [Ours tb] {e : Env} {below : List Frame} {T : State} {m : MethodId} {c : Code} {P : Outcome → State → Prop} {pc pc' : Nat} {Ls : Array Slot} {st : List Value} {v : Value} (H : At T m c below) (hx : tb.exec = Jvm.exec) (hd : decode c.code pc = .ok (.dup, 1)) (hv : v.category = 1) (hp : pc + 1 = pc')
    (k : Gets tb e below P T (mkF m pc' Ls (v :: v :: st))) : Gets tb e below P T (mkF m pc Ls (v :: st)) := by
  subst hp; refine k.by fun t qq => ?_; exact XS.dup H hx rfl hd rfl hv qq
theorem g_pop {tb : Tables} [Ours tb] {e : Env} {below : List Frame} {T : State} {m : MethodId} {c : Code} {P : Outcome → State → Prop} {pc pc' : Nat} {Ls : Array Slot} {st : List Value} {v : Value} (H : At T m c below) (hx : tb.exec = Jvm.exec) (hd : decode c.code pc = .ok (.pop, 1)) (hv : v.category = 1) (hp : pc + 1 = pc')
    (k : Gets tb e below P T (mkF m pc' Ls (st))) : Gets tb e below P T (mkF m pc Ls (v :: st)) := by
  subst hp; refine k.by fun t qq => ?_; exact XS.pop H hx rfl hd rfl hv qq
theorem g_dupX1 {tb : Tables} [Ours tb] {e : Env} {below : List Frame} {T : State} {m : MethodId} {c : Code} {P : Outcome → State → Prop} {pc pc' : Nat} {Ls : Array Slot} {st : List Value} {v w : Value} (H : At T m c below) (hx : tb.exec = Jvm.exec) (hd : decode c.code pc = .ok (.dup_x1, 1)) (hv : v.category = 1) (hw : w.category = 1) (hp : pc + 1 = pc')
    (k : Gets tb e below P T (mkF m pc' Ls (v :: w :: v :: st))) : Gets tb e below P T (mkF m pc Ls (v :: w :: st)) := by
  subst hp; refine k.by fun t qq => ?_; exact XS.dupX1 H hx rfl hd rfl hv hw qq
theorem g_iinc {tb : Tables} [Ours tb] {e : Env} {below : List Frame} {T : State} {m : MethodId} {c : Code} {P : Outcome → State → Prop} {pc pc' : Nat} {Ls : Array Slot} {st : List Value} {j : Nat} {cst : Int} {x : Int32} {Ls' : Array Slot} (H : At T m c below) (hx : tb.exec = Jvm.exec) (hd : decode c.code pc = .ok (.iinc j cst, 3)) (hl : Ls[j]? = some (.val (.int x))) (hs : storeLocals Ls j (.int (x + Int32.ofInt cst)) = some Ls') (hp : pc + 3 = pc')
    (k : Gets tb e below P T (mkF m pc' Ls' (st))) : Gets tb e below P T (mkF m pc Ls (st)) := by
  subst hp; refine k.by fun t qq => ?_; exact XS.iinc H hx rfl hd hl hs qq
theorem g_lconst {tb : Tables} [Ours tb] {e : Env} {below : List Frame} {T : State} {m : MethodId} {c : Code} {P : Outcome → State → Prop} {pc pc' : Nat} {Ls : Array Slot} {st : List Value} {j : Fin 2} (v : Int64) (H : At T m c below) (hx : tb.exec = Jvm.exec) (hd : decode c.code pc = .ok (.lconst j, 1)) (hv : Int64.ofNat j = v) (hp : pc + 1 = pc')
    (k : Gets tb e below P T (mkF m pc' Ls (.long v :: st))) : Gets tb e below P T (mkF m pc Ls st) := by
  subst hp; subst hv; refine k.by fun t qq => ?_; exact XS.lconst H hx rfl hd qq
theorem g_irem {tb : Tables} [Ours tb] {e : Env} {below : List Frame} {T : State} {m : MethodId} {c : Code} {P : Outcome → State → Prop} {pc pc' : Nat} {Ls : Array Slot} {st : List Value} {x y : Int32} (H : At T m c below) (hx : tb.exec = Jvm.exec) (hd : decode c.code pc = .ok (.irem, 1)) (hy : y ≠ 0) (hp : pc + 1 = pc')
    (k : Gets tb e below P T (mkF m pc' Ls (.int (x % y) :: st))) : Gets tb e below P T (mkF m pc Ls (.int y :: .int x :: st)) := by
  subst hp
  have q : x - x / y * y = x % y := irem_eq_mod x y
  rw [← q] at k
  refine k.by fun t qq => ?_; exact XS.irem H hx rfl hd rfl hy qq
theorem g_goto {tb : Tables} [Ours tb] {e : Env} {below : List Frame} {T : State} {m : MethodId} {c : Code} {P : Outcome → State → Prop} {pc pc' : Nat} {Ls : Array Slot} {st : List Value} {o : Int} (H : At T m c below) (hx : tb.exec = Jvm.exec) (hd : decode c.code pc = .ok (.goto o, 3)) (hp : (pc : Int) + o = (pc' : Int))
    (k : Gets tb e below P T (mkF m pc' Ls st)) : Gets tb e below P T (mkF m pc Ls st) := by
  refine k.by fun t qq => ?_
  exact XS.goto H hx rfl (pc0 := pc) (pc' := pc') rfl hd (by rw [hp]; exact Int.natCast_nonneg _) (by rw [hp]; rfl) qq
theorem g_ifY {tb : Tables} [Ours tb] {e : Env} {below : List Frame} {T : State} {m : MethodId} {c : Code} {P : Outcome → State → Prop} {pc pc' : Nat} {Ls : Array Slot} {st : List Value} {o : Int} {cd : ClassFile.Cond} {x : Int32} (H : At T m c below) (hx : tb.exec = Jvm.exec) (hd : decode c.code pc = .ok (.ifCond cd o, 3)) (hp : (pc : Int) + o = (pc' : Int)) (q : if_icmp.holds cd x 0 = true)
    (k : Gets tb e below P T (mkF m pc' Ls st)) : Gets tb e below P T (mkF m pc Ls (.int x :: st)) := by
  refine k.by fun t qq => ?_
  exact XS.ifYes H hx rfl (pc0 := pc) (pc' := pc') rfl hd rfl ((if0 _ _).trans q) (by rw [hp]; exact Int.natCast_nonneg _) (by rw [hp]; rfl) qq
theorem g_ifN {tb : Tables} [Ours tb] {e : Env} {below : List Frame} {T : State} {m : MethodId} {c : Code} {P : Outcome → State → Prop} {pc pc' : Nat} {Ls : Array Slot} {st : List Value} {o : Int} {cd : ClassFile.Cond} {x : Int32} (H : At T m c below) (hx : tb.exec = Jvm.exec) (hd : decode c.code pc = .ok (.ifCond cd o, 3)) (hp : pc + 3 = pc') (q : if_icmp.holds cd x 0 = false)
    (k : Gets tb e below P T (mkF m pc' Ls st)) : Gets tb e below P T (mkF m pc Ls (.int x :: st)) := by
  subst hp; refine k.by fun t qq => ?_; exact XS.ifNo H hx rfl hd rfl ((if0 _ _).trans q) qq
theorem g_icmpY {tb : Tables} [Ours tb] {e : Env} {below : List Frame} {T : State} {m : MethodId} {c : Code} {P : Outcome → State → Prop} {pc pc' : Nat} {Ls : Array Slot} {st : List Value} {o : Int} {cd : ClassFile.Cond} {x y : Int32} (H : At T m c below) (hx : tb.exec = Jvm.exec) (hd : decode c.code pc = .ok (.if_icmp cd o, 3)) (hp : (pc : Int) + o = (pc' : Int)) (q : if_icmp.holds cd x y = true)
    (k : Gets tb e below P T (mkF m pc' Ls st)) : Gets tb e below P T (mkF m pc Ls (.int y :: .int x :: st)) := by
  refine k.by fun t qq => ?_
  exact XS.icmpYes H hx rfl (pc0 := pc) (pc' := pc') rfl hd rfl q (by rw [hp]; exact Int.natCast_nonneg _) (by rw [hp]; rfl) qq
theorem g_icmpN {tb : Tables} [Ours tb] {e : Env} {below : List Frame} {T : State} {m : MethodId} {c : Code} {P : Outcome → State → Prop} {pc pc' : Nat} {Ls : Array Slot} {st : List Value} {o : Int} {cd : ClassFile.Cond} {x y : Int32} (H : At T m c below) (hx : tb.exec = Jvm.exec) (hd : decode c.code pc = .ok (.if_icmp cd o, 3)) (hp : pc + 3 = pc') (q : if_icmp.holds cd x y = false)
    (k : Gets tb e below P T (mkF m pc' Ls st)) : Gets tb e below P T (mkF m pc Ls (.int y :: .int x :: st)) := by
  subst hp; refine k.by fun t qq => ?_; exact XS.icmpNo H hx rfl hd rfl q qq
theorem g_nullY {tb : Tables} [Ours tb] {e : Env} {below : List Frame} {T : State} {m : MethodId} {c : Code} {P : Outcome → State → Prop} {pc pc' : Nat} {Ls : Array Slot} {st : List Value} {o : Int} (H : At T m c below) (hx : tb.exec = Jvm.exec) (hd : decode c.code pc = .ok (.ifnull o, 3)) (hp : (pc : Int) + o = (pc' : Int))
    (k : Gets tb e below P T (mkF m pc' Ls st)) : Gets tb e below P T (mkF m pc Ls (.null :: st)) := by
  refine k.by fun t qq => ?_
  exact XS.ifnullYes H hx rfl (pc0 := pc) (pc' := pc') rfl hd rfl (by rw [hp]; exact Int.natCast_nonneg _) (by rw [hp]; rfl) qq
theorem g_nullN {tb : Tables} [Ours tb] {e : Env} {below : List Frame} {T : State} {m : MethodId} {c : Code} {P : Outcome → State → Prop} {pc pc' : Nat} {Ls : Array Slot} {st : List Value} {o : Int} {b : Addr} (H : At T m c below) (hx : tb.exec = Jvm.exec) (hd : decode c.code pc = .ok (.ifnull o, 3)) (hp : pc + 3 = pc')
    (k : Gets tb e below P T (mkF m pc' Ls st)) : Gets tb e below P T (mkF m pc Ls (.ref b :: st)) := by
  subst hp; refine k.by fun t qq => ?_; exact XS.ifnullNo H hx rfl hd rfl qq
theorem g_nonnullY {tb : Tables} [Ours tb] {e : Env} {below : List Frame} {T : State} {m : MethodId} {c : Code} {P : Outcome → State → Prop} {pc pc' : Nat} {Ls : Array Slot} {st : List Value} {o : Int} {b : Addr} (H : At T m c below) (hx : tb.exec = Jvm.exec) (hd : decode c.code pc = .ok (.ifnonnull o, 3)) (hp : (pc : Int) + o = (pc' : Int))
    (k : Gets tb e below P T (mkF m pc' Ls st)) : Gets tb e below P T (mkF m pc Ls (.ref b :: st)) := by
  refine k.by fun t qq => ?_
  exact XS.ifnonnullYes H hx rfl (pc0 := pc) (pc' := pc') rfl hd rfl (by rw [hp]; exact Int.natCast_nonneg _) (by rw [hp]; rfl) qq
theorem g_nonnullN {tb : Tables} [Ours tb] {e : Env} {below : List Frame} {T : State} {m : MethodId} {c : Code} {P : Outcome → State → Prop} {pc pc' : Nat} {Ls : Array Slot} {st : List Value} {o : Int} (H : At T m c below) (hx : tb.exec = Jvm.exec) (hd : decode c.code pc = .ok (.ifnonnull o, 3)) (hp : pc + 3 = pc')
    (k : Gets tb e below P T (mkF m pc' Ls st)) : Gets tb e below P T (mkF m pc Ls (.null :: st)) := by
  subst hp; refine k.by fun t qq => ?_; exact XS.ifnonnullNo H hx rfl hd rfl qq
theorem g_tsw {tb : Tables} [Ours tb] {e : Env} {below : List Frame} {T : State} {m : MethodId} {c : Code} {P : Outcome → State → Prop} {pc pc' : Nat} {Ls : Array Slot} {st : List Value} {dflt low high : Int} {offs : Array Int} {len : Nat} {o : Int} {i : Int32} (H : At T m c below) (hx : tb.exec = Jvm.exec) (hd : decode c.code pc = .ok (.tableswitch dflt low high offs, len)) (hin : ¬ (i.toInt < low ∨ i.toInt > high)) (hoff : offs[(i.toInt - low).toNat]? = some o) (hp : (pc : Int) + o = (pc' : Int))
    (k : Gets tb e below P T (mkF m pc' Ls st)) : Gets tb e below P T (mkF m pc Ls (.int i :: st)) := by
  refine k.by fun t qq => ?_
  exact XS.tswIn H hx rfl (pc0 := pc) (pc' := pc') rfl hd rfl hin hoff (by rw [hp]; exact Int.natCast_nonneg _) (by rw [hp]; rfl) qq
theorem g_iincV {tb : Tables} [Ours tb] {e : Env} {below : List Frame} {T : State} {m : MethodId} {c : Code} {P : Outcome → State → Prop} {pc pc' : Nat} {Ls Ls' : Array Slot} {st : List Value} {j : Nat} {cst : Int} {x : Int32} (v : Int32) (H : At T m c below) (hx : tb.exec = Jvm.exec) (hd : decode c.code pc = .ok (.iinc j cst, 3)) (hv : x + Int32.ofInt cst = v) (hl : Ls[j]? = some (.val (.int x))) (hs : storeLocals Ls j (.int v) = some Ls') (hp : pc + 3 = pc')
    (k : Gets tb e below P T (mkF m pc' Ls' st)) : Gets tb e below P T (mkF m pc Ls st) := by
  subst hp; subst hv; refine k.by fun t qq => ?_; exact XS.iinc H hx rfl hd hl hs qq
/-- an array's exact content -/
def Ary (Z : State) (h : Heap) (a : Addr) (ty : FieldType) (vs : List Value) : Prop := ∃ cl : Cell, Arr Z h a cl ty ∧ cl.slots.toList = vs ∧ vs.length < 2 ^ 31 ∧ ∀ v ∈ vs, fits ty v = true
theorem Ary.lt {Z : State} {h : Heap} {a : Addr} {ty : FieldType} {vs : List Value} (F : Ary Z h a ty vs) : a < h.size := by obtain ⟨c, A, -⟩ := F; exact A.lt
theorem Ary.len {Z : State} {h : Heap} {a : Addr} {ty : FieldType} {vs : List Value} (F : Ary Z h a ty vs) : vs.length < 2 ^ 31 := by obtain ⟨c, A, -, q, -⟩ := F; exact q
theorem Ary.keep {Z : State} {h h' : Heap} {a : Addr} {ty : FieldType} {vs : List Value} {ws : List Addr} (F : Ary Z h a ty vs) (K : Keep h h' ws) (q : a ∉ ws) : Ary Z h' a ty vs := by obtain ⟨c, A, r⟩ := F; exact ⟨c, ⟨K.2.1 a c A.1 q, A.2⟩, r⟩
theorem Ary.ext {Z : State} {h h' : Heap} {a : Addr} {ty : FieldType} {vs : List Value} (F : Ary Z h a ty vs) (E : Ext h h') : Ary Z h' a ty vs := by obtain ⟨c, A, r⟩ := F; exact ⟨c, A.ext E, r⟩
theorem Ary.made {Z : State} {h : Heap} {a : Addr} {ty : FieldType} {k : ClassId} {n : Int32} (A : Arr Z h a (newA k ty n) ty) (hn : ¬ n < 0) (hf : fits ty (defaultValue ty) = true) : Ary Z h a ty (List.replicate n.toNatClampNeg (defaultValue ty)) :=
  ⟨_, A, by simp [newA], by rw [List.length_replicate]; exact (back32 hn).2, fun v hv => by rw [(List.mem_replicate.mp hv).2]; exact hf⟩
theorem Ary.of_arv {Z : State} {h : Heap} {a : Addr} {ty : FieldType} {k : ClassId} {z : Int32} {vs : List Value} {d : Value} (F : Arv Z h a k ty z vs d) (hl : z.toNatClampNeg = vs.length) : Ary Z h a ty vs := by
  obtain ⟨c, A, -, sz, hz, H, G⟩ := F
  have e : c.slots.toList = vs := by
    apply List.ext_getElem?
    intro i
    by_cases hi : i < c.slots.size
    · have q := H i hi
      have hi' : i < vs.length := by omega
      rw [Array.getElem?_toList, q]
      simp [List.getD_eq_getElem?_getD, hi']
    · have hi' : vs.length ≤ i := by omega
      rw [Array.getElem?_toList, Array.getElem?_eq_none (by omega), List.getElem?_eq_none hi']
  refine ⟨c, A, e, by rw [← hl]; exact (back32 hz).2, fun v hv => ?_⟩
  obtain ⟨i, hi, rfl⟩ := List.mem_iff_getElem.mp hv
  have q := G i (by omega)
  rwa [List.getD_eq_getElem?_getD, List.getElem?_eq_getElem hi] at q
theorem Ary.wrote {Z : State} {h h' : Heap} {a : Addr} {ty : FieldType} {vs : List Value} {cl : Cell} {v : Value} {i : Nat} (A : Arr Z h a cl ty) (e : cl.slots.toList = vs) (hl : vs.length < 2 ^ 31) (hf : ∀ w ∈ vs, fits ty w = true) (hv : fits ty v = true) (W : Wr h h' a i v) : Ary Z h' a ty (vs.set i v) := by
  refine ⟨cl.setSlot i v, A.same W, ?_, by rw [List.length_set]; exact hl, fun w hw => ?_⟩
  · rw [← e]; simp [Cell.setSlot]
  · rcases List.mem_or_eq_of_mem_set hw with q | q
    · exact hf w q
    · rw [q]; exact hv
theorem size_of_list {cl : Cell} {vs : List Value} (e : cl.slots.toList = vs) : cl.slots.size = vs.length := by rw [← e]; simp
theorem at_of_list {cl : Cell} {vs : List Value} (e : cl.slots.toList = vs) (i : Nat) : cl.slots[i]? = vs[i]? := by rw [← e]; simp
theorem i32_nat {n : Nat} (h : n < 2 ^ 31) : n.toInt32.toNatClampNeg = n := by simp only [Int32.toNatClampNeg, len_toInt h]; rfl
end OwnBase
section OwnWalk
variable {p : Program} {l : Launch} {e : Env} {R : Room} {s : State} {m : MethodId} {args : Array Value} {below : List Frame} {meth : Method} {c : Code} {T : State} {Z : State} {a0 : Array Value} {h : Heap} {EL : List (String × Nat)} {own : String} {cells slots : Nat} {ws nw : List Addr} {P : Outcome → State → Prop} {pc pc' : Nat} {Ls : Array Slot} {st : List Value}
/-- where a walk stands -/
def Wk (p : Program) (l : Launch) (e : Env) (R : Room) (s : State) (m : MethodId) (args : Array Value) (below : List Frame) (meth : Method) (c : Code) (Z : State) (EL : List (String × Nat)) (own : String) (ws nw : List Addr) (T : State) (h : Heap) (cells slots : Nat) : Prop :=
  ∃ (locs : List Loc), Stand p l e R s m args below meth c T locs cells slots ∧ T.heap = h ∧ Z.Warmed39 s.vm ∧ s.vm.findClass own = some m.cls ∧ Fr Z.heap.size locs ∧ Ext Z.heap h ∧ Keep s.heap h ws ∧
    (∀ x : Nat, x ∈ ws → Z.heap.size ≤ x ∧ x < h.size) ∧ (∀ x : Nat, x ∈ nw → s.heap.size ≤ x ∧ Z.heap.size ≤ x ∧ x < h.size)
theorem Wk.here (W : Wk p l e R s m args below meth c Z EL own ws nw T h cells slots) : At T m c below := by obtain ⟨_, X, -⟩ := W; exact X.here
theorem Wk.old (W : Wk p l e R s m args below meth c Z EL own ws nw T h cells slots) : Ext Z.heap h := by obtain ⟨_, -, -, -, -, -, E, -⟩ := W; exact E
theorem Wk.lt (W : Wk p l e R s m args below meth c Z EL own ws nw T h cells slots) {x : Nat} (q : x ∈ nw) : x < h.size := by obtain ⟨_, -, -, -, -, -, -, -, -, n⟩ := W; exact (n x q).2.2
theorem Wk.kept (W : Wk p l e R s m args below meth c Z EL own ws nw T h cells slots) : Keep s.heap h ws := by obtain ⟨_, -, -, -, -, -, -, K, -⟩ := W; exact K
/-- a callee's contract: from the arguments as' and the heap h0 it returns a value v and a heap h' with Q v h'; of the cells of h0 at the most those at ws are written -/
def ConL (wl : List Cond) (l : Launch) (Z : State) (EL : List (String × Nat)) (y : MethodName) (bytes : ByteArray) (maxL : Nat) (ret : Option FieldType) (rm : Room) (as' : Array Value) (h0 : Heap) (ws : List Addr) (Q : Option Value → Heap → Prop) : Prop :=
  MetFree l y (head1 (Cond.code y bytes maxL ret :: wl) rm) (fun a U => a = as' ∧ Z.Warmed39 U.vm ∧ U.heap = h0) (fun _ _ _ _ _ => True)
    (fun _ U o U' => ∃ v L, o = .returned v ∧ (Q v U'.heap ∧ Fr Z.heap.size L ∧ Keep h0 U'.heap ws ∧ Ext Z.heap U'.heap) ∧ FrameEnd U o U' L rm.cells rm.slots)
abbrev Con := ConL []
/-- what a contract's body is to come to -/
def Post (s : State) (Z : State) (EL : List (String × Nat)) (rm : Room) (h0 : Heap) (ws : List Addr) (Q : Option Value → Heap → Prop) (o : Outcome) (t : State) : Prop :=
  ∃ v L, o = .returned v ∧ (Q v t.heap ∧ Fr Z.heap.size L ∧ Keep h0 t.heap ws ∧ Ext Z.heap t.heap) ∧ FrameEnd s o t L rm.cells rm.slots
theorem Con.of {wl : List Cond} {y : MethodName} {bytes : ByteArray} {maxL : Nat} {ret : Option FieldType} {rm : Room} {as' : Array Value} {h0 : Heap} {Q : Option Value → Heap → Prop} (Ls : Array Slot)
    (hy : plainFor y = true) (hE : EW Z a0 EL) (O : Ext Z.heap h0) (hws : ∀ x : Nat, x ∈ ws → Z.heap.size ≤ x ∧ x < h0.size) (hent : ∀ m, entryFrame m as' maxL = mkF m 0 Ls [])
    (body : ∀ (p : Program) (e : Env) (s : State) (m : MethodId) (below : List Frame) (meth : Method) (c : Code) (T : State), p.tables.exec = Jvm.exec → c.code = bytes → c.maxLocals = maxL → meth.name = y.name → meth.sig.returnType = ret → meth.locks = false → s.heap = h0 →
      Wk p l e rm s m as' below meth c Z EL y.cls ws [] T h0 0 0 → Gets p.tables e below (Post s Z EL rm h0 ws Q) T (mkF m 0 Ls [])) :
    ConL wl l Z EL y bytes maxL ret rm as' h0 ws Q := by
  refine MetFree.of_bodySF hy hisR ?_
  intro p e s m args below meth c s₁ Bd hml0 hP hK
  obtain ⟨rfl, hZ, hh⟩ := hP
  have hh' : s.heap = h0 := hh
  have hl : meth.locks = false := Bd.notSynchronized
  have e0 : s₁.heap = h0 := by rw [← hh, Bd.state]; rfl
  have X0 : Stand p l e rm s m args below meth c s₁ [] 0 0 := Stand.of_body Bd
  have W : Wk p l e rm s m args below meth c Z EL y.cls ws [] s₁ h0 0 0 :=
    ⟨[], X0, e0, hZ, findClass_of_methodNamed Bd.named, Fr.nil _, O, by rw [hh']; exact Keep.refl _ _, fun x hx => ⟨(hws x hx).1, (hws x hx).2⟩, fun x hx => (nomatch hx)⟩
  obtain ⟨t, o, h1, h2, h3, h4⟩ := body p e s m below meth c s₁ Bd.exec Bd.bytes hml0 (name_of_methodNamed Bd.named Bd.method).1 Bd.returns hl hh' W
  exact ⟨t, o, by rw [hent m]; exact h1, h2, h3, h4⟩
/-! ends -/
theorem w_end {rm : Room} {h0 : Heap} {Q : Option Value → Heap → Prop} (W : Wk p l e R s m args below meth c Z EL own ws nw T h cells slots) (hh : s.heap = h0) {v : Option Value} {g : JFrame} (hl : meth.locks = false) (hv : meth.sig.returnType = none → v = none)
    (st : ∀ {locs : List Loc} {fs : List Frame}, Stand p l e R s m args below meth c T locs cells slots → (∀ (f : JFrame) (acts : List Action), f.method = m → f.locked = none → f.entered = [] → (doReturn e (T.setTop f) acts v).1 = T.setFrames fs) → Steps p.tables e below (T.setTop g) (T.setFrames fs))
    (hc : cells ≤ rm.cells) (hs : slots ≤ rm.slots) (q : Q v h) : Gets p.tables e below (Post s Z EL rm h0 ws Q) T g := by
  obtain ⟨locs, X, eT, hZ, hown, hF, hO, hK, -, -⟩ := W
  obtain ⟨fs, h1, h2, h3, r1, r2⟩ := X.leave hv hl
  subst hh
  refine ⟨_, _, st X h1, h2, h3, v, locs, rfl, ⟨?_, hF, ?_, ?_⟩, ⟨_, rfl⟩, r1, r2.mono hc hs⟩
  · show Q v T.heap; rw [eT]; exact q
  · show Keep _ T.heap _; rw [eT]; exact hK
  · show Ext _ T.heap; rw [eT]; exact hO
theorem w_retI {rm : Room} {h0 : Heap} {Q : Option Value → Heap → Prop} {z : Int32} (W : Wk p l e R s m args below meth c Z EL own ws nw T h cells slots) (hx : p.tables.exec = Jvm.exec) (hh : s.heap = h0) (hl : meth.locks = false) (hret : meth.sig.returnType = some .int) (hd : decode c.code pc = .ok (.ireturn, 1)) (hc : cells ≤ rm.cells) (hs : slots ≤ rm.slots) (q : Q (some (.int z)) h) :
    Gets p.tables e below (Post s Z EL rm h0 ws Q) T (mkF m pc Ls (.int z :: st)) :=
  w_end W hh hl (fun q => by rw [hret] at q; cases q) (fun X hr => retOut X hx hret rfl (Or.inl ⟨rfl, Or.inl rfl, z, rfl⟩) hd hr) hc hs q
theorem w_retN {rm : Room} {h0 : Heap} {Q : Option Value → Heap → Prop} {z : Int32} {t : FieldType} (W : Wk p l e R s m args below meth c Z EL own ws nw T h cells slots) (hx : p.tables.exec = Jvm.exec) (hh : s.heap = h0) (hl : meth.locks = false) (hret : meth.sig.returnType = some t) (ht : t = .boolean ∨ t = .byte ∨ t = .char ∨ t = .short) (hd : decode c.code pc = .ok (.ireturn, 1)) (hc : cells ≤ rm.cells) (hs : slots ≤ rm.slots) (q : Q (some (.int (nar t z))) h) :
    Gets p.tables e below (Post s Z EL rm h0 ws Q) T (mkF m pc Ls (.int z :: st)) :=
  w_end W hh hl (fun q => by rw [hret] at q; cases q) (fun X hr => retN X hx hret ht hd hr) hc hs q
theorem w_retJ {rm : Room} {h0 : Heap} {Q : Option Value → Heap → Prop} {z : Int64} (W : Wk p l e R s m args below meth c Z EL own ws nw T h cells slots) (hx : p.tables.exec = Jvm.exec) (hh : s.heap = h0) (hl : meth.locks = false) (hret : meth.sig.returnType = some .long) (hd : decode c.code pc = .ok (.lreturn, 1)) (hc : cells ≤ rm.cells) (hs : slots ≤ rm.slots) (q : Q (some (.long z)) h) :
    Gets p.tables e below (Post s Z EL rm h0 ws Q) T (mkF m pc Ls (.long z :: st)) :=
  w_end W hh hl (fun q => by rw [hret] at q; cases q) (fun X hr => retOut X hx hret rfl (Or.inr (Or.inl ⟨rfl, rfl, z, rfl⟩)) hd hr) hc hs q
theorem w_retA {rm : Room} {h0 : Heap} {Q : Option Value → Heap → Prop} {w : Value} {t : FieldType} (W : Wk p l e R s m args below meth c Z EL own ws nw T h cells slots) (hx : p.tables.exec = Jvm.exec) (hh : s.heap = h0) (hl : meth.locks = false) (hret : meth.sig.returnType = some t) (ht : t.isReference = true) (hw : w.isRef = true) (hd : decode c.code pc = .ok (.areturn, 1)) (hc : cells ≤ rm.cells) (hs : slots ≤ rm.slots) (q : Q (some w) h) :
    Gets p.tables e below (Post s Z EL rm h0 ws Q) T (mkF m pc Ls (w :: st)) :=
  w_end W hh hl (fun q => by rw [hret] at q; cases q) (fun X hr => retOut X hx hret (by cases t <;> cases w <;> simp [FieldType.isReference, Value.isRef, narrow] at ht hw ⊢) (Or.inr (Or.inr (Or.inr (Or.inr ⟨rfl, ht, hw⟩)))) hd hr) hc hs q
theorem w_retV {rm : Room} {h0 : Heap} {Q : Option Value → Heap → Prop} (W : Wk p l e R s m args below meth c Z EL own ws nw T h cells slots) (hx : p.tables.exec = Jvm.exec) (hh : s.heap = h0) (hl : meth.locks = false) (hret : meth.sig.returnType = none) (hd : decode c.code pc = .ok (.return_, 1)) (hc : cells ≤ rm.cells) (hs : slots ≤ rm.slots) (q : Q none h) :
    Gets p.tables e below (Post s Z EL rm h0 ws Q) T (mkF m pc Ls []) :=
  w_end W hh hl (fun _ => rfl) (fun X hr => X.returnOut hx hret hd hr) hc hs q
/-! steps that leave the heap as it is -/
theorem w_get (W : Wk p l e R s m args below meth c Z EL own ws nw T h cells slots) (hx : p.tables.exec = Jvm.exec) {R0 O n d : String} {index : Nat} (w : (Cond.fieldLink own index R0 n d).before a0 Z = true) (via : Via Z R0 O n d) {a : Nat} {v : Value} (F : Fld Z h a O n d v) (hd : decode c.code pc = .ok (.getfield index, 3)) (hp : pc + 3 = pc')
    (k : ∀ T', Wk p l e R s m args below meth c Z EL own ws nw T' h cells slots → Gets p.tables e below P T' (mkF m pc' Ls (v :: st))) : Gets p.tables e below P T (mkF m pc Ls (.ref a :: st)) := by
  subst hp
  obtain ⟨locs, X, eT, hZ, hown, r⟩ := W
  obtain ⟨T', X', e', stp⟩ := getF X hx hZ hown (host := "") (Or.inl w) via eT F (g := mkF m pc Ls (.ref a :: st)) rfl rfl hd
  exact (k T' ⟨locs, X', e', hZ, hown, r⟩).by stp
theorem w_getS (W : Wk p l e R s m args below meth c Z EL own ws nw T h cells slots) (hx : p.tables.exec = Jvm.exec) {R0 O n d : String} {index : Nat} (w : (Cond.fieldLink own index R0 n d).before a0 Z = true) (via : Via Z R0 O n d) {v : Value} (F : Sta Z Z.heap O n d v) (hd : decode c.code pc = .ok (.getstatic index, 3)) (hp : pc + 3 = pc')
    (k : ∀ T', Wk p l e R s m args below meth c Z EL own ws nw T' h cells slots → Gets p.tables e below P T' (mkF m pc' Ls (v :: st))) : Gets p.tables e below P T (mkF m pc Ls st) := by
  subst hp
  have O := W.old
  obtain ⟨locs, X, eT, hZ, hown, r⟩ := W
  obtain ⟨T', X', e', stp⟩ := getS X hx hZ hown (host := "") w via eT (F.ext O) (g := mkF m pc Ls st) rfl hd
  exact (k T' ⟨locs, X', e', hZ, hown, r⟩).by stp
theorem w_ldcI (W : Wk p l e R s m args below meth c Z EL own ws nw T h cells slots) (hx : p.tables.exec = Jvm.exec) {index : Nat} {v : Int32} (w : (Cond.constant own index v).before a0 Z = true) (hd : decode c.code pc = .ok (.ldc index, 2)) (hp : pc + 2 = pc')
    (k : Gets p.tables e below P T (mkF m pc' Ls (.int v :: st))) : Gets p.tables e below P T (mkF m pc Ls st) := by
  subst hp
  obtain ⟨locs, X, eT, hZ, hown, r⟩ := W
  exact k.by fun t q => Jvm.Stand.ldcI X hx hown (mv hZ w) (g := mkF m pc Ls st) rfl hd q
theorem w_ldc2J (W : Wk p l e R s m args below meth c Z EL own ws nw T h cells slots) (hx : p.tables.exec = Jvm.exec) {index : Nat} {v : Int64} (w : (Cond.constantLong own index v).before a0 Z = true) (hd : decode c.code pc = .ok (.ldc2_w index, 3)) (hp : pc + 3 = pc')
    (k : Gets p.tables e below P T (mkF m pc' Ls (.long v :: st))) : Gets p.tables e below P T (mkF m pc Ls st) := by
  subst hp
  obtain ⟨locs, X, eT, hZ, hown, r⟩ := W
  exact k.by fun t q => Jvm.Stand.ldc2J X hx hown (mv hZ w) (g := mkF m pc Ls st) rfl hd q
theorem w_acmp (W : Wk p l e R s m args below meth c Z EL own ws nw T h cells slots) (hx : p.tables.exec = Jvm.exec) {cd : ACond} {x y : Value} {o : Int} (h1 : x.isRef = true) (h2 : y.isRef = true) (same : Bool) (hd : decode c.code pc = .ok (.if_acmp cd o, 3)) (hq : decide (x = y) = same) (ho : 0 ≤ (pc : Int) + o) (hp : pc' = if acV cd same = true then ((pc : Int) + o).toNat else pc + 3)
    (k : Gets p.tables e below P T (mkF m pc' Ls st)) : Gets p.tables e below P T (mkF m pc Ls (y :: x :: st)) := by
  obtain ⟨locs, X, r⟩ := W
  exact k.by fun t q => Jvm.RoadKit.acmp (g := mkF m pc Ls (y :: x :: st)) X hx rfl h1 h2 (pc0 := pc) (pc' := pc') rfl hd rfl hq ho hp q
theorem w_cast (W : Wk p l e R s m args below meth c Z EL own ws nw T h cells slots) (hx : p.tables.exec = Jvm.exec) {K : String} {index : Nat} (w : (Cond.classLink own index K).before a0 Z = true) {a : Nat} (F : Ins Z h a K true) (hd : decode c.code pc = .ok (.checkcast index, 3)) (hp : pc + 3 = pc')
    (k : ∀ T', Wk p l e R s m args below meth c Z EL own ws nw T' h cells slots → Gets p.tables e below P T' (mkF m pc' Ls (.ref a :: st))) : Gets p.tables e below P T (mkF m pc Ls (.ref a :: st)) := by
  subst hp
  obtain ⟨locs, X, eT, hZ, hown, r⟩ := W
  obtain ⟨T', X', e', stp⟩ := castY X hx hZ hown w eT F (g := mkF m pc Ls (.ref a :: st)) rfl rfl hd
  exact (k T' ⟨locs, X', e', hZ, hown, r⟩).by stp
theorem w_inst (W : Wk p l e R s m args below meth c Z EL own ws nw T h cells slots) (hx : p.tables.exec = Jvm.exec) {K : String} {index : Nat} (w : (Cond.classLink own index K).before a0 Z = true) {a : Nat} (F : Ins Z h a K true) (hd : decode c.code pc = .ok (.instanceof index, 3)) (hp : pc + 3 = pc')
    (k : ∀ T', Wk p l e R s m args below meth c Z EL own ws nw T' h cells slots → Gets p.tables e below P T' (mkF m pc' Ls (.int 1 :: st))) : Gets p.tables e below P T (mkF m pc Ls (.ref a :: st)) := by
  subst hp
  obtain ⟨locs, X, eT, hZ, hown, r⟩ := W
  obtain ⟨T', X', e', stp⟩ := instY X hx hZ hown w eT F (g := mkF m pc Ls (.ref a :: st)) rfl rfl hd
  exact (k T' ⟨locs, X', e', hZ, hown, r⟩).by stp
theorem w_len (W : Wk p l e R s m args below meth c Z EL own ws nw T h cells slots) (hx : p.tables.exec = Jvm.exec) {a : Nat} {ty : FieldType} {vs : List Value} (F : Ary Z h a ty vs) (hd : decode c.code pc = .ok (.arraylength, 1)) (hp : pc + 1 = pc')
    (k : Gets p.tables e below P T (mkF m pc' Ls (.int vs.length.toInt32 :: st))) : Gets p.tables e below P T (mkF m pc Ls (.ref a :: st)) := by
  subst hp
  obtain ⟨locs, X, eT, hZ, hown, r⟩ := W
  obtain ⟨cl, A, e1, -, -⟩ := F
  refine k.by fun t q => X.arraylength hx (by rw [eT]; exact A.1) (State.isArrayOf_alike hZ.alike A.2.1) (g := mkF m pc Ls (.ref a :: st)) rfl rfl hd t ?_
  rw [size_of_list e1]; exact q
theorem in_of {cl : Cell} {vs : List Value} {j : Int32} {v : Value} (e : cl.slots.toList = vs) (hj : ¬ j < 0) (hv : vs[j.toNatClampNeg]? = some v) : ¬ (j < 0 ∨ cl.slots.size ≤ j.toNatClampNeg) ∧ cl.slots[j.toNatClampNeg]? = some v := by
  refine ⟨fun q => q.elim hj fun q => ?_, by rw [at_of_list e]; exact hv⟩
  have := (List.getElem?_eq_some_iff.mp hv).1
  rw [size_of_list e] at q; omega
theorem w_caload (W : Wk p l e R s m args below meth c Z EL own ws nw T h cells slots) (hx : p.tables.exec = Jvm.exec) {a : Nat} {vs : List Value} {j : Int32} {v : Value} (F : Ary Z h a .char vs) (hj : ¬ j < 0) (hv : vs[j.toNatClampNeg]? = some v) (hd : decode c.code pc = .ok (.caload, 1)) (hp : pc + 1 = pc')
    (k : Gets p.tables e below P T (mkF m pc' Ls (v :: st))) : Gets p.tables e below P T (mkF m pc Ls (.int j :: .ref a :: st)) := by
  subst hp
  obtain ⟨locs, X, eT, hZ, hown, r⟩ := W
  obtain ⟨cl, A, e1, -, -⟩ := F
  obtain ⟨q1, q2⟩ := in_of e1 hj hv
  exact k.by fun t q => X.caload hx (by rw [eT]; exact A.1) (State.isArrayOf_alike hZ.alike A.2.1) A.2.2 q1 q2 (g := mkF m pc Ls (.int j :: .ref a :: st)) rfl rfl hd t q
theorem w_baload (W : Wk p l e R s m args below meth c Z EL own ws nw T h cells slots) (hx : p.tables.exec = Jvm.exec) {a : Nat} {vs : List Value} {j : Int32} {v : Value} (F : Ary Z h a .byte vs) (hj : ¬ j < 0) (hv : vs[j.toNatClampNeg]? = some v) (hd : decode c.code pc = .ok (.baload, 1)) (hp : pc + 1 = pc')
    (k : Gets p.tables e below P T (mkF m pc' Ls (v :: st))) : Gets p.tables e below P T (mkF m pc Ls (.int j :: .ref a :: st)) := by
  subst hp
  obtain ⟨locs, X, eT, hZ, hown, r⟩ := W
  obtain ⟨cl, A, e1, -, -⟩ := F
  obtain ⟨q1, q2⟩ := in_of e1 hj hv
  exact k.by fun t q => X.baloadBytes hx (by rw [eT]; exact A.1) (State.isArrayOf_alike hZ.alike A.2.1) A.2.2 q1 q2 (g := mkF m pc Ls (.int j :: .ref a :: st)) rfl rfl hd t q
theorem w_iaload (W : Wk p l e R s m args below meth c Z EL own ws nw T h cells slots) (hx : p.tables.exec = Jvm.exec) {a : Nat} {vs : List Value} {j : Int32} {v : Value} (F : Ary Z h a .int vs) (hj : ¬ j < 0) (hv : vs[j.toNatClampNeg]? = some v) (hd : decode c.code pc = .ok (.iaload, 1)) (hp : pc + 1 = pc')
    (k : Gets p.tables e below P T (mkF m pc' Ls (v :: st))) : Gets p.tables e below P T (mkF m pc Ls (.int j :: .ref a :: st)) := by
  subst hp
  obtain ⟨locs, X, eT, hZ, hown, r⟩ := W
  obtain ⟨cl, A, e1, -, -⟩ := F
  obtain ⟨q1, q2⟩ := in_of e1 hj hv
  exact k.by fun t q => X.iaload hx (by rw [eT]; exact A.1) (State.isArrayOf_alike hZ.alike A.2.1) A.2.2 q1 q2 (g := mkF m pc Ls (.int j :: .ref a :: st)) rfl rfl hd t q
theorem w_aaload (W : Wk p l e R s m args below meth c Z EL own ws nw T h cells slots) (hx : p.tables.exec = Jvm.exec) {a : Nat} {ty : FieldType} {vs : List Value} {j : Int32} {v : Value} (F : Ary Z h a ty vs) (hty : ty.isReference = true) (hj : ¬ j < 0) (hv : vs[j.toNatClampNeg]? = some v) (hd : decode c.code pc = .ok (.aaload, 1)) (hp : pc + 1 = pc')
    (k : Gets p.tables e below P T (mkF m pc' Ls (v :: st))) : Gets p.tables e below P T (mkF m pc Ls (.int j :: .ref a :: st)) := by
  subst hp
  obtain ⟨locs, X, eT, hZ, hown, r⟩ := W
  obtain ⟨cl, A, e1, -, -⟩ := F
  obtain ⟨q1, q2⟩ := in_of e1 hj hv
  exact k.by fun t q => X.aaload hx (by rw [eT]; exact A.1) (State.isArrayOf_alike hZ.alike A.2.1) hty A.2.2 q1 q2 (g := mkF m pc Ls (.int j :: .ref a :: st)) rfl rfl hd t q
theorem w_initO (W : Wk p l e R s m args below meth c Z EL own ws nw T h cells slots) (hx : p.tables.exec = Jvm.exec) {idx : Nat} (w1 : (Cond.methodLink own idx Lib.objectInit).before a0 Z = true) (w2 : (Cond.instanceMethod Lib.objectInit).before a0 Z = true) (w3 : (Cond.code Lib.objectInit ⟨#[0xb1]⟩ 1 none).before a0 Z = true) {a : Nat} (hsz : Ls.size = c.maxLocals) (hd : decode c.code pc = .ok (.invokespecial idx, 3)) (hf : 1 ≤ R.frames) (hW : (st.map fun v => v.category).sum + 12 ≤ R.locals) (hp : pc + 3 = pc')
    (k : ∀ T', Wk p l e R s m args below meth c Z EL own ws nw T' h cells slots → Gets p.tables e below P T' (mkF m pc' Ls st)) : Gets p.tables e below P T (mkF m pc Ls (.ref a :: st)) := by
  subst hp
  obtain ⟨locs, X, eT, hZ, hown, r⟩ := W
  obtain ⟨T', X', e', stp⟩ := initO X hx hZ hown w1 w2 w3 eT (g := mkF m pc Ls (.ref a :: st)) rfl hsz rfl hd hf (W := (st.map fun v => v.category).sum) (by show 2 * 0 + _ ≤ _; omega) hW
  exact (k T' ⟨locs, X', e', hZ, hown, r⟩).by stp
/-! steps that move the heap -/
theorem w_new (W : Wk p l e R s m args below meth c Z EL own ws nw T h cells slots) (hx : p.tables.exec = Jvm.exec) {C : String} {index n : Nat} (w : (Cond.classLink own index C).before a0 Z = true) (wi : (Cond.instantiable C n).before a0 Z = true) (wz : (Cond.initialized C).before a0 Z = true) (hd : decode c.code pc = .ok (.new index, 3)) (hc : cells + 1 ≤ R.cells) (hl : slots + n ≤ R.slots) (hp : pc + 3 = pc')
    (k : ∀ (T' : State) (h' : Heap) (b : Nat), b = h.size → Wk p l e R s m args below meth c Z EL own ws (b :: nw) T' h' (cells + 1) (slots + n) → Keep h h' [] → Exa Z h' b C → (∀ {O nm d : String} {ty : FieldType}, Laid Z a0 C O nm d → parseFieldDescriptor d = some ty → Fld Z h' b O nm d (defaultValue ty)) → Gets p.tables e below P T' (mkF m pc' Ls (.ref b :: st))) : Gets p.tables e below P T (mkF m pc Ls st) := by
  subst hp
  obtain ⟨locs, X, eT, hZ, hown, hF, hO, hK, n1, n2⟩ := W
  obtain ⟨T', h', X', e', E, A, D, -, stp⟩ := newO X hx hZ hown w wi wz eT (g := mkF m pc Ls st) rfl hd hc hl
  have hn : h.size < h'.size := A.lt
  have hs : s.heap.size ≤ h.size := hK.1
  refine (k T' h' h.size rfl ⟨locs, X', e', hZ, hown, hF, ⟨Nat.le_trans hO.1 E.1, fun a c q => E.2 a c (hO.2 a c q)⟩, hK.ext E, fun x hx => ?_, fun x hx => ?_⟩ ((Keep.refl h []).ext E) A D).by stp
  · obtain ⟨a, b⟩ := n1 x hx
    exact ⟨a, Nat.lt_of_lt_of_le b E.1⟩
  · rcases List.mem_cons.mp hx with rfl | hx
    · exact ⟨hs, hO.1, hn⟩
    · obtain ⟨a, b, c⟩ := n2 x hx
      exact ⟨a, b, Nat.lt_of_lt_of_le c E.1⟩
theorem w_newarr (W : Wk p l e R s m args below meth c Z EL own ws nw T h cells slots) (hx : p.tables.exec = Jvm.exec) {aty : ArrayType} (w : (Cond.arrayClass (newarray.typeOf aty)).before a0 Z = true) {n : Int32} (hd : decode c.code pc = .ok (.newarray aty, 2)) (hn : ¬ n < 0) {cap : Nat} (hcap : n.toNatClampNeg ≤ cap) (hb : cap * 8 ≤ 536870912) (hc : cells + 1 ≤ R.cells) (hl : slots + cap ≤ R.slots) (hf : fits (newarray.typeOf aty) (defaultValue (newarray.typeOf aty)) = true) (hp : pc + 2 = pc')
    (k : ∀ (T' : State) (h' : Heap) (b : Nat), b = h.size → Wk p l e R s m args below meth c Z EL own ws (b :: nw) T' h' (cells + 1) (slots + cap) → Keep h h' [] → Ary Z h' b (newarray.typeOf aty) (List.replicate n.toNatClampNeg (defaultValue (newarray.typeOf aty))) → Gets p.tables e below P T' (mkF m pc' Ls (.ref b :: st))) : Gets p.tables e below P T (mkF m pc Ls (.int n :: st)) := by
  subst hp
  obtain ⟨locs, X, eT, hZ, hown, hF, hO, hK, n1, n2⟩ := W
  obtain ⟨T', h', cA, X', e', E, A, stp⟩ := newP X hx hZ w eT (g := mkF m pc Ls (.int n :: st)) rfl hd rfl hn hcap hb hc hl
  have hn' : h.size < h'.size := A.lt
  have hs : s.heap.size ≤ h.size := hK.1
  refine (k T' h' h.size rfl ⟨locs, X', e', hZ, hown, hF, ⟨Nat.le_trans hO.1 E.1, fun a c q => E.2 a c (hO.2 a c q)⟩, hK.ext E, fun x hx => ?_, fun x hx => ?_⟩ ((Keep.refl h []).ext E) (Ary.made A hn hf)).by stp
  · obtain ⟨a, b⟩ := n1 x hx
    exact ⟨a, Nat.lt_of_lt_of_le b E.1⟩
  · rcases List.mem_cons.mp hx with rfl | hx
    · exact ⟨hs, hO.1, hn'⟩
    · obtain ⟨a, b, c⟩ := n2 x hx
      exact ⟨a, b, Nat.lt_of_lt_of_le c E.1⟩
theorem Wk.wrote {locs : List Loc} {T' : State} {h' : Heap} {a : Nat} {sl : Nat} {v : Value} (ha : a ∈ ws ++ nw) (WW : Wr h h' a sl v) (X' : Stand p l e R s m args below meth c T' (locs ++ [⟨a, sl⟩]) cells slots) (e' : T'.heap = h')
    (r : Z.Warmed39 s.vm ∧ s.vm.findClass own = some m.cls ∧ Fr Z.heap.size locs ∧ Ext Z.heap h ∧ Keep s.heap h ws ∧ (∀ x : Nat, x ∈ ws → Z.heap.size ≤ x ∧ x < h.size) ∧ (∀ x : Nat, x ∈ nw → s.heap.size ≤ x ∧ Z.heap.size ≤ x ∧ x < h.size)) :
    Wk p l e R s m args below meth c Z EL own ws nw T' h' cells slots := by
  obtain ⟨hZ, hown, hF, hO, hK, n1, n2⟩ := r
  have sz := WW.size
  have key : Z.heap.size ≤ a ∧ (a ∈ ws ∨ s.heap.size ≤ a) := by
    rcases List.mem_append.mp ha with q | q
    · exact ⟨(n1 a q).1, Or.inl q⟩
    · exact ⟨(n2 a q).2.1, Or.inr (n2 a q).1⟩
  have K1 : Keep h h' [a] := Keep.of_wr WW
  refine ⟨locs ++ [⟨a, sl⟩], X', e', hZ, hown, Fr.snoc X' hF key.1, ⟨by have := hO.1; omega, fun x cc q => K1.2.1 x cc (hO.2 x cc q) fun z => ?_⟩, hK.wr WW key.2, fun x hx => ?_, fun x hx => ?_⟩
  · cases List.mem_singleton.mp z
    have := (Array.getElem?_eq_some_iff.mp q).1
    omega
  · obtain ⟨q1, q2⟩ := n1 x hx
    exact ⟨q1, by omega⟩
  · obtain ⟨q1, q2, q3⟩ := n2 x hx
    exact ⟨q1, q2, by omega⟩
theorem w_put (W : Wk p l e R s m args below meth c Z EL own ws nw T h cells slots) (hx : p.tables.exec = Jvm.exec) {R0 O n d C : String} {index kk : Nat} {ty : FieldType} (w : (Cond.fieldLink own index R0 n d).before a0 Z = true) (via : Via Z R0 O n d) {a : Nat} {v old : Value} (F : Fld Z h a O n d old) (E : Exa Z h a C) (L : (Cond.lays C O n d).before a0 Z = true ∨ ((Cond.laysFinal C O n d).before a0 Z = true ∧ own = O ∧ meth.name = "<init>")) (wi : (Cond.instantiable C kk).before a0 Z = true)
    (hty : parseFieldDescriptor d = some ty) (hn : narrow ty v = v) (hf : fits ty v = true) (ha : a ∈ ws ++ nw) (hd : decode c.code pc = .ok (.putfield index, 3)) (hp : pc + 3 = pc')
    (k : ∀ T' h', Wk p l e R s m args below meth c Z EL own ws nw T' h' cells slots → Keep h h' [a] → Wr h h' a (Jvm.RoadKit.slotOf Z O n d) v → Fld Z h' a O n d v → Exa Z h' a C → Gets p.tables e below P T' (mkF m pc' Ls st)) : Gets p.tables e below P T (mkF m pc Ls (v :: .ref a :: st)) := by
  subst hp
  obtain ⟨locs, X, eT, r⟩ := W
  obtain ⟨T', h', X', e', WW, stp⟩ := putF X hx r.1 r.2.1 (host := "") (Or.inl w) via eT F E L wi hty hn hf (g := mkF m pc Ls (v :: .ref a :: st)) rfl rfl hd
  exact (k T' h' (Wk.wrote ha WW X' e' r) (Keep.of_wr WW) WW (F.same WW) (E.wr WW)).by stp
theorem w_putN (W : Wk p l e R s m args below meth c Z EL own ws nw T h cells slots) (hx : p.tables.exec = Jvm.exec) {R0 O n d C : String} {index kk : Nat} {ty : FieldType} (w : (Cond.fieldLink own index R0 n d).before a0 Z = true) (via : Via Z R0 O n d) {a : Nat} {v v' old : Value} (F : Fld Z h a O n d old) (E : Exa Z h a C) (L : (Cond.lays C O n d).before a0 Z = true ∨ ((Cond.laysFinal C O n d).before a0 Z = true ∧ own = O ∧ meth.name = "<init>")) (wi : (Cond.instantiable C kk).before a0 Z = true)
    (hty : parseFieldDescriptor d = some ty) (hn : narrow ty v = v') (hf : fits ty v' = true) (ha : a ∈ ws ++ nw) (hd : decode c.code pc = .ok (.putfield index, 3)) (hp : pc + 3 = pc')
    (k : ∀ T' h', Wk p l e R s m args below meth c Z EL own ws nw T' h' cells slots → Keep h h' [a] → Wr h h' a (Jvm.RoadKit.slotOf Z O n d) v' → Fld Z h' a O n d v' → Exa Z h' a C → Gets p.tables e below P T' (mkF m pc' Ls st)) : Gets p.tables e below P T (mkF m pc Ls (v :: .ref a :: st)) := by
  subst hp
  obtain ⟨locs, X, eT, r⟩ := W
  obtain ⟨T', h', X', e', WW, stp⟩ := putFN X hx r.1 r.2.1 w via eT F E L wi hty hn hf (g := mkF m pc Ls (v :: .ref a :: st)) rfl rfl hd
  exact (k T' h' (Wk.wrote ha WW X' e' r) (Keep.of_wr WW) WW (F.same WW) (E.wr WW)).by stp
theorem w_castore (W : Wk p l e R s m args below meth c Z EL own ws nw T h cells slots) (hx : p.tables.exec = Jvm.exec) {a : Nat} {vs : List Value} {j x : Int32} (F : Ary Z h a .char vs) (hj : ¬ j < 0) (hi : j.toNatClampNeg < vs.length) (ha : a ∈ ws ++ nw) {x' : Int32} (hq : nar .char x = x') (hd : decode c.code pc = .ok (.castore, 1)) (hp : pc + 1 = pc')
    (k : ∀ T' h', Wk p l e R s m args below meth c Z EL own ws nw T' h' cells slots → Keep h h' [a] → Ary Z h' a .char (vs.set j.toNatClampNeg (.int x')) → Gets p.tables e below P T' (mkF m pc' Ls st)) : Gets p.tables e below P T (mkF m pc Ls (.int x :: .int j :: .ref a :: st)) := by
  subst hp; subst hq
  obtain ⟨locs, X, eT, r⟩ := W
  obtain ⟨cl, A, e1, e2, e3⟩ := F
  obtain ⟨T', h', X', e', WW, stp⟩ := stC X hx r.1 eT A (j := j) (x := x) (fun q => q.elim hj fun q => by rw [size_of_list e1] at q; omega) (g := mkF m pc Ls (.int x :: .int j :: .ref a :: st)) rfl rfl hd
  exact (k T' h' (Wk.wrote ha WW X' e' r) (Keep.of_wr WW) (Ary.wrote A e1 e2 e3 (fits_nar_char x) WW)).by stp
theorem w_bastore (W : Wk p l e R s m args below meth c Z EL own ws nw T h cells slots) (hx : p.tables.exec = Jvm.exec) {a : Nat} {vs : List Value} {j x : Int32} (F : Ary Z h a .byte vs) (hj : ¬ j < 0) (hi : j.toNatClampNeg < vs.length) (ha : a ∈ ws ++ nw) {x' : Int32} (hq : x.toInt8.toInt32 = x') (hd : decode c.code pc = .ok (.bastore, 1)) (hp : pc + 1 = pc')
    (k : ∀ T' h', Wk p l e R s m args below meth c Z EL own ws nw T' h' cells slots → Keep h h' [a] → Ary Z h' a .byte (vs.set j.toNatClampNeg (.int x')) → Gets p.tables e below P T' (mkF m pc' Ls st)) : Gets p.tables e below P T (mkF m pc Ls (.int x :: .int j :: .ref a :: st)) := by
  subst hp; subst hq
  obtain ⟨locs, X, eT, r⟩ := W
  obtain ⟨cl, A, e1, e2, e3⟩ := F
  obtain ⟨T', h', X', e', WW, stp⟩ := stB X hx r.1 eT A (j := j) (x := x) (fun q => q.elim hj fun q => by rw [size_of_list e1] at q; omega) (g := mkF m pc Ls (.int x :: .int j :: .ref a :: st)) rfl rfl hd
  exact (k T' h' (Wk.wrote ha WW X' e' r) (Keep.of_wr WW) (Ary.wrote A e1 e2 e3 (fits_nar_byte x) WW)).by stp
theorem w_iastore (W : Wk p l e R s m args below meth c Z EL own ws nw T h cells slots) (hx : p.tables.exec = Jvm.exec) {a : Nat} {vs : List Value} {j x : Int32} (F : Ary Z h a .int vs) (hj : ¬ j < 0) (hi : j.toNatClampNeg < vs.length) (ha : a ∈ ws ++ nw) (hd : decode c.code pc = .ok (.iastore, 1)) (hp : pc + 1 = pc')
    (k : ∀ T' h', Wk p l e R s m args below meth c Z EL own ws nw T' h' cells slots → Keep h h' [a] → Ary Z h' a .int (vs.set j.toNatClampNeg (.int x)) → Gets p.tables e below P T' (mkF m pc' Ls st)) : Gets p.tables e below P T (mkF m pc Ls (.int x :: .int j :: .ref a :: st)) := by
  subst hp
  obtain ⟨locs, X, eT, r⟩ := W
  obtain ⟨cl, A, e1, e2, e3⟩ := F
  obtain ⟨T', h', X', e', WW, stp⟩ := stI X hx r.1 eT A (j := j) (x := x) (fun q => q.elim hj fun q => by rw [size_of_list e1] at q; omega) (g := mkF m pc Ls (.int x :: .int j :: .ref a :: st)) rfl rfl hd
  exact (k T' h' (Wk.wrote ha WW X' e' r) (Keep.of_wr WW) (Ary.wrote A e1 e2 e3 rfl WW)).by stp
/-! calls -/
theorem backC {y : MethodName} {bytes : ByteArray} {maxL : Nat} {ret : Option FieldType} {rm : Room} {len W : Nat} {as' : Array Value} {Q : Option Value → Heap → Prop} {wsc : List Addr}
    (hM : Con l Z EL y bytes maxL ret rm as' h wsc Q) (hZ : Z.Warmed39 s.vm) (wc : (Cond.code y bytes maxL ret).before a0 Z = true) (wz : (Cond.initialized y.cls).before a0 Z = true) (hf : rm.frames + 1 ≤ R.frames) (hl : W + (maxL + 11) + rm.locals ≤ R.locals) :
    Back l R p e below s args y len W (fun A a => a = as' ∧ A.U.heap = h ∧ A.cells + rm.cells ≤ R.cells ∧ A.slots + rm.slots ≤ R.slots)
      (fun A _ v B => ∃ L, (Q v B.U.heap ∧ Fr Z.heap.size L ∧ Keep h B.U.heap wsc ∧ Ext Z.heap B.U.heap) ∧ B.locs = A.locs ++ L ∧ B.cells = A.cells + rm.cells ∧ B.slots = A.slots + rm.slots) :=
  backOf (Q := fun v h' L => Q v h' ∧ Fr Z.heap.size L ∧ Keep h h' wsc ∧ Ext Z.heap h') hM hZ wc wz hf hl
theorem Wk.called {locs L : List Loc} {T' : State} {h' : Heap} {wsc : List Addr} {c' s' : Nat} (hw : ∀ x ∈ wsc, x ∈ ws ++ nw) (X' : Stand p l e R s m args below meth c T' (locs ++ L) c' s') (e' : T'.heap = h') (F : Fr Z.heap.size L) (K : Keep h h' wsc) (O' : Ext Z.heap h')
    (r : Z.Warmed39 s.vm ∧ s.vm.findClass own = some m.cls ∧ Fr Z.heap.size locs ∧ Ext Z.heap h ∧ Keep s.heap h ws ∧ (∀ x : Nat, x ∈ ws → Z.heap.size ≤ x ∧ x < h.size) ∧ (∀ x : Nat, x ∈ nw → s.heap.size ≤ x ∧ Z.heap.size ≤ x ∧ x < h.size)) :
    Wk p l e R s m args below meth c Z EL own ws nw T' h' c' s' := by
  obtain ⟨hZ, hown, hF, hO, hK, n1, n2⟩ := r
  have sz := K.1
  refine ⟨locs ++ L, X', e', hZ, hown, Fr.app hF F, O', hK.trans K (fun x hx => ?_), fun x hx => ?_, fun x hx => ?_⟩
  · rcases List.mem_append.mp (hw x hx) with q | q
    · exact Or.inl q
    · exact Or.inr (n2 x q).1
  · obtain ⟨q1, q2⟩ := n1 x hx
    exact ⟨q1, by omega⟩
  · obtain ⟨q1, q2, q3⟩ := n2 x hx
    exact ⟨q1, q2, by omega⟩
theorem w_callS (W : Wk p l e R s m args below meth c Z EL own ws nw T h cells slots) (hx : p.tables.exec = Jvm.exec) {index : Nat} {y : MethodName} {bytes : ByteArray} {maxL : Nat} {ret : Option FieldType} {rm : Room} {Q : Option Value → Heap → Prop} {wsc : List Addr} (argsL : List Value)
    (w1 : (Cond.methodLink own index y).before a0 Z = true) (w2 : (Cond.static y).before a0 Z = true) (w3 : (Cond.initialized y.cls).before a0 Z = true) (w4 : (Cond.code y bytes maxL ret).before a0 Z = true) (hy : y.cls ≠ "java/lang/invoke/MethodHandle" ∧ y.cls ≠ "java/lang/invoke/VarHandle")
    (H : Con l Z EL y bytes maxL ret rm argsL.toArray h wsc Q) (hwc : ∀ x ∈ wsc, x ∈ ws ++ nw) (hsz : Ls.size = c.maxLocals) (hlen : ∀ sig, parseMethodDescriptor y.desc = some sig → argsL.length = sig.parameters.length) {stk : List Value} (hstk : stk = argsL.reverse ++ st) (hd : decode c.code pc = .ok (.invokestatic index, 3))
    (hf : rm.frames + 1 ≤ R.frames) (hl : (st.map fun v => v.category).sum + (maxL + 11) + rm.locals ≤ R.locals) (hc : cells + rm.cells ≤ R.cells) (hs : slots + rm.slots ≤ R.slots) (hp : pc + 3 = pc')
    (k : ∀ v T' h', Wk p l e R s m args below meth c Z EL own ws nw T' h' (cells + rm.cells) (slots + rm.slots) → Keep h h' wsc → Q v h' → Gets p.tables e below P T' (mkF m pc' Ls (v.toList ++ st))) : Gets p.tables e below P T (mkF m pc Ls stk) := by
  subst hp
  obtain ⟨locs, X, eT, r⟩ := W
  obtain ⟨hZ, hown, hF, hO, hK, n1, n2⟩ := id r
  obtain ⟨v, vm1, ⟨T', L', c', s'⟩, -, X', ⟨L, ⟨q1, q2, q3, q4⟩, l1, l2, l3⟩, stp⟩ := Jvm.LawKit.callS X hx (y := y) hown (mv hZ w1) (mv hZ w2) (mv hZ w3) (mv hZ w4) hy (backC (W := (st.map fun v => v.category).sum) H hZ w4 w3 hf hl) (g := mkF m pc Ls stk) rfl hsz (argsL := argsL) (rest := st) hlen hstk (by show 2 * 0 + _ ≤ _; omega) hd (fun _ _ => ⟨rfl, eT, hc, hs⟩)
  dsimp only [Pt.U, Pt.locs, Pt.cells, Pt.slots] at X' q1 q3 q4 l1 l2 l3 stp
  subst l1 l2 l3
  exact (k v T' _ (Wk.called (h' := T'.heap) hwc X' rfl q2 q3 q4 r) q3 q1).by fun t q => stp t q
theorem w_special (W : Wk p l e R s m args below meth c Z EL own ws nw T h cells slots) (hx : p.tables.exec = Jvm.exec) {index : Nat} {y : MethodName} {bytes : ByteArray} {maxL : Nat} {rm : Room} {Q : Option Value → Heap → Prop} {wsc : List Addr} {a : Nat} (argsL : List Value) (hy1 : y.name = "<init>")
    (w1 : (Cond.methodLink own index y).before a0 Z = true) (w2 : (Cond.instanceMethod y).before a0 Z = true) (w3 : (Cond.initialized y.cls).before a0 Z = true) (w4 : (Cond.code y bytes maxL none).before a0 Z = true) (hy : y.cls ≠ "java/lang/invoke/MethodHandle" ∧ y.cls ≠ "java/lang/invoke/VarHandle")
    (H : Con l Z EL y bytes maxL none rm (.ref a :: argsL).toArray h wsc Q) (hwc : ∀ x ∈ wsc, x ∈ ws ++ nw) (hsz : Ls.size = c.maxLocals) (hlen : ∀ sig, parseMethodDescriptor y.desc = some sig → argsL.length = sig.parameters.length) {stk : List Value} (hstk : stk = argsL.reverse ++ .ref a :: st) (hd : decode c.code pc = .ok (.invokespecial index, 3))
    (hf : rm.frames + 1 ≤ R.frames) (hl : (st.map fun v => v.category).sum + (maxL + 11) + rm.locals ≤ R.locals) (hc : cells + rm.cells ≤ R.cells) (hs : slots + rm.slots ≤ R.slots) (hp : pc + 3 = pc')
    (k : ∀ v T' h', Wk p l e R s m args below meth c Z EL own ws nw T' h' (cells + rm.cells) (slots + rm.slots) → Keep h h' wsc → Q v h' → Gets p.tables e below P T' (mkF m pc' Ls (v.toList ++ st))) : Gets p.tables e below P T (mkF m pc Ls stk) := by
  subst hp
  obtain ⟨locs, X, eT, r⟩ := W
  obtain ⟨hZ, hown, hF, hO, hK, n1, n2⟩ := id r
  obtain ⟨v, vm1, ⟨T', L', c', s'⟩, -, X', ⟨L, ⟨q1, q2, q3, q4⟩, l1, l2, l3⟩, stp⟩ := X.specialBack hx (y := y) hy1 hown (mv hZ w1) (mv hZ w2) (mv hZ w4) hy (backC (W := (st.map fun v => v.category).sum) H hZ w4 w3 hf hl) (g := mkF m pc Ls stk) rfl hsz (Steps.refl _) (a := a) (argsL := argsL) (rest := st) hlen hstk (by show 2 * 0 + _ ≤ _; omega) hd (fun _ _ => ⟨rfl, eT, hc, hs⟩)
  dsimp only [Pt.U, Pt.locs, Pt.cells, Pt.slots] at X' q1 q3 q4 l1 l2 l3 stp
  subst l1 l2 l3
  exact (k v T' _ (Wk.called (h' := T'.heap) hwc X' rfl q2 q3 q4 r) q3 q1).by fun t q => stp.trans q
theorem w_virtual (W : Wk p l e R s m args below meth c Z EL own ws nw T h cells slots) (hx : p.tables.exec = Jvm.exec) {index : Nat} {y z : MethodName} {C : String} {bytes : ByteArray} {maxL : Nat} {ret : Option FieldType} {rm : Room} {Q : Option Value → Heap → Prop} {wsc : List Addr} {a : Nat} (argsL : List Value)
    (w1 : (Cond.methodLink own index y).before a0 Z = true) (w2 : (Cond.declares y).before a0 Z = true) (hnf : ∀ {U : State}, Z.Warmed39 U.vm → NotFace U y) (w3 : (Cond.selects C y z).before a0 Z = true) (w5 : (Cond.instanceMethod z).before a0 Z = true) (w6 : (Cond.initialized z.cls).before a0 Z = true) (w4 : (Cond.code z bytes maxL ret).before a0 Z = true) (hy : y.cls ≠ "java/lang/invoke/MethodHandle" ∧ y.cls ≠ "java/lang/invoke/VarHandle")
    (H : Con l Z EL z bytes maxL ret rm (.ref a :: argsL).toArray h wsc Q) (E : Exa Z h a C) (hwc : ∀ x ∈ wsc, x ∈ ws ++ nw) (hsz : Ls.size = c.maxLocals) (hlen : ∀ sig, parseMethodDescriptor y.desc = some sig → argsL.length = sig.parameters.length) {stk : List Value} (hstk : stk = argsL.reverse ++ .ref a :: st) (hd : decode c.code pc = .ok (.invokevirtual index, 3))
    (hf : rm.frames + 1 ≤ R.frames) (hl : (st.map fun v => v.category).sum + (maxL + 11) + rm.locals ≤ R.locals) (hc : cells + rm.cells ≤ R.cells) (hs : slots + rm.slots ≤ R.slots) (hp : pc + 3 = pc')
    (k : ∀ v T' h', Wk p l e R s m args below meth c Z EL own ws nw T' h' (cells + rm.cells) (slots + rm.slots) → Keep h h' wsc → Q v h' → Gets p.tables e below P T' (mkF m pc' Ls (v.toList ++ st))) : Gets p.tables e below P T (mkF m pc Ls stk) := by
  subst hp
  obtain ⟨locs, X, eT, r⟩ := W
  obtain ⟨hZ, hown, hF, hO, hK, n1, n2⟩ := id r
  obtain ⟨cq, kq, qa, qb, qc⟩ := isOf hZ eT E
  obtain ⟨v, vm1, ⟨T', L', c', s'⟩, -, X', ⟨L, ⟨q1, q2, q3, q4⟩, l1, l2, l3⟩, stp⟩ := X.virtualBack hx (y := y) (z := z) hown (mv hZ w1) (mv hZ w2) (hnf (U := s) hZ) (mv hZ w3) (mv hZ w5) hy (backC (W := (st.map fun v => v.category).sum) H hZ w4 w6 hf hl) qa qc (g := mkF m pc Ls stk) rfl hsz (Steps.refl _) (argsL := argsL) (rest := st) hlen hstk (by show 2 * 0 + _ ≤ _; omega) hd (fun _ _ => ⟨rfl, eT, hc, hs⟩)
  dsimp only [Pt.U, Pt.locs, Pt.cells, Pt.slots] at X' q1 q3 q4 l1 l2 l3 stp
  subst l1 l2 l3
  exact (k v T' _ (Wk.called (h' := T'.heap) hwc X' rfl q2 q3 q4 r) q3 q1).by fun t q => stp.trans q
theorem w_virtualUp (W : Wk p l e R s m args below meth c Z EL own ws nw T h cells slots) (hx : p.tables.exec = Jvm.exec) {index : Nat} {y z : MethodName} {C owner : String} {bytes : ByteArray} {maxL : Nat} {ret : Option FieldType} {rm : Room} {Q : Option Value → Heap → Prop} {wsc : List Addr} {a : Nat} (argsL : List Value)
    (w1 : (Cond.methodLink own index y).before a0 Z = true) (w7 : (Cond.sameMethod y.cls owner y.name y.desc).before a0 Z = true) (w2 : (Cond.declares ⟨owner, y.name, y.desc⟩).before a0 Z = true) (w3 : (Cond.selects C y z).before a0 Z = true) (w5 : (Cond.instanceMethod z).before a0 Z = true) (w6 : (Cond.initialized z.cls).before a0 Z = true) (w4 : (Cond.code z bytes maxL ret).before a0 Z = true) (hy : owner ≠ "java/lang/invoke/MethodHandle" ∧ owner ≠ "java/lang/invoke/VarHandle")
    (H : Con l Z EL z bytes maxL ret rm (.ref a :: argsL).toArray h wsc Q) (E : Exa Z h a C) (hwc : ∀ x ∈ wsc, x ∈ ws ++ nw) (hsz : Ls.size = c.maxLocals) (hlen : ∀ sig, parseMethodDescriptor y.desc = some sig → argsL.length = sig.parameters.length) {stk : List Value} (hstk : stk = argsL.reverse ++ .ref a :: st) (hd : decode c.code pc = .ok (.invokevirtual index, 3))
    (hf : rm.frames + 1 ≤ R.frames) (hl : (st.map fun v => v.category).sum + (maxL + 11) + rm.locals ≤ R.locals) (hc : cells + rm.cells ≤ R.cells) (hs : slots + rm.slots ≤ R.slots) (hp : pc + 3 = pc')
    (k : ∀ v T' h', Wk p l e R s m args below meth c Z EL own ws nw T' h' (cells + rm.cells) (slots + rm.slots) → Keep h h' wsc → Q v h' → Gets p.tables e below P T' (mkF m pc' Ls (v.toList ++ st))) : Gets p.tables e below P T (mkF m pc Ls stk) := by
  subst hp
  obtain ⟨locs, X, eT, r⟩ := W
  obtain ⟨hZ, hown, hF, hO, hK, n1, n2⟩ := id r
  obtain ⟨cq, kq, qa, qb, qc⟩ := isOf hZ eT E
  obtain ⟨v, vm1, ⟨T', L', c', s'⟩, -, X', ⟨L, ⟨q1, q2, q3, q4⟩, l1, l2, l3⟩, stp⟩ := X.virtualBackUp hx (x := y) (y := z) hown (mv hZ w1) (mv hZ w7) (mv hZ w2) hy (mv hZ w3) (mv hZ w5) (backC (W := (st.map fun v => v.category).sum) H hZ w4 w6 hf hl) qa qc (g := mkF m pc Ls stk) rfl hsz (Steps.refl _) (argsL := argsL) (rest := st) hlen hstk (by show 2 * 0 + _ ≤ _; omega) hd (fun _ _ => ⟨rfl, eT, hc, hs⟩)
  dsimp only [Pt.U, Pt.locs, Pt.cells, Pt.slots] at X' q1 q3 q4 l1 l2 l3 stp
  subst l1 l2 l3
  exact (k v T' _ (Wk.called (h' := T'.heap) hwc X' rfl q2 q3 q4 r) q3 q1).by fun t q => stp.trans q
theorem nfS {y z : MethodName} {C : String} (w : (Cond.selects C y y).before a0 Z = true) {U : State} (hZ : Z.Warmed39 U.vm) : NotFace U y := notFace_of_selects (args := #[]) (mv hZ w)
theorem w_iface (W : Wk p l e R s m args below meth c Z EL own ws nw T h cells slots) (hx : p.tables.exec = Jvm.exec) {index count : Nat} {y z : MethodName} {C : String} {bytes : ByteArray} {maxL : Nat} {ret : Option FieldType} {rm : Room} {Q : Option Value → Heap → Prop} {wsc : List Addr} {a : Nat} (argsL : List Value)
    (w1 : (Cond.methodLink own index y).before a0 Z = true) (w2 : (Cond.declares y).before a0 Z = true) (w7 : (Cond.interfaceMethod y.cls y.cls y.name y.desc).before a0 Z = true) (w3 : (Cond.selects C y z).before a0 Z = true) (w5 : (Cond.instanceMethod z).before a0 Z = true) (w8 : (Cond.publicMethod z).before a0 Z = true) (w9 : (Cond.unhidden C y.name y.desc).before a0 Z = true) (w10 : (Cond.castable C y.cls).before a0 Z = true) (w6 : (Cond.initialized z.cls).before a0 Z = true) (w4 : (Cond.code z bytes maxL ret).before a0 Z = true) (hy : y.cls ≠ "java/lang/invoke/MethodHandle" ∧ y.cls ≠ "java/lang/invoke/VarHandle")
    (H : Con l Z EL z bytes maxL ret rm (.ref a :: argsL).toArray h wsc Q) (E : Exa Z h a C) (hwc : ∀ x ∈ wsc, x ∈ ws ++ nw) (hsz : Ls.size = c.maxLocals) (hlen : ∀ sig, parseMethodDescriptor y.desc = some sig → argsL.length = sig.parameters.length) {stk : List Value} (hstk : stk = argsL.reverse ++ .ref a :: st) (hd : decode c.code pc = .ok (.invokeinterface index count, 5))
    (hf : rm.frames + 1 ≤ R.frames) (hl : (st.map fun v => v.category).sum + (maxL + 11) + rm.locals ≤ R.locals) (hc : cells + rm.cells ≤ R.cells) (hs : slots + rm.slots ≤ R.slots) (hp : pc + 5 = pc')
    (k : ∀ v T' h', Wk p l e R s m args below meth c Z EL own ws nw T' h' (cells + rm.cells) (slots + rm.slots) → Keep h h' wsc → Q v h' → Gets p.tables e below P T' (mkF m pc' Ls (v.toList ++ st))) : Gets p.tables e below P T (mkF m pc Ls stk) := by
  subst hp
  obtain ⟨locs, X, eT, r⟩ := W
  obtain ⟨hZ, hown, hF, hO, hK, n1, n2⟩ := id r
  obtain ⟨cq, kq, qa, qb, qc⟩ := isOf hZ eT E
  obtain ⟨v, vm1, ⟨T', L', c', s'⟩, -, X', ⟨L, ⟨q1, q2, q3, q4⟩, l1, l2, l3⟩, stp⟩ := X.interfaceBack hx (xi := y) (y := z) hown (mv hZ w1) (mv hZ w2) (mv hZ w7 (by simp [Cond.onTables, Cond.keepsFace, Cond.keeps, Cond.steady, Cond.faceAtom, hy.1, hy.2])) (mv hZ w3) (mv hZ w5) (mv hZ w8) (mv hZ w9) (mv hZ w10) hy (backC (W := (st.map fun v => v.category).sum) H hZ w4 w6 hf hl) qa qb qc (g := mkF m pc Ls stk) rfl hsz (Steps.refl _) (argsL := argsL) (rest := st) hlen hstk (by show 2 * 0 + _ ≤ _; omega) hd (fun _ _ => ⟨rfl, eT, hc, hs⟩)
  dsimp only [Pt.U, Pt.locs, Pt.cells, Pt.slots] at X' q1 q3 q4 l1 l2 l3 stp
  subst l1 l2 l3
  exact (k v T' _ (Wk.called (h' := T'.heap) hwc X' rfl q2 q3 q4 r) q3 q1).by fun t q => stp.trans q
end OwnWalk
section OwnPure
variable {p : Program} {l : Launch} {e : Env} {R : Room} {s : State} {m : MethodId} {args : Array Value} {below : List Frame} {meth : Method} {c : Code} {T : State} {Z : State} {a0 : Array Value} {h : Heap} {EL : List (String × Nat)} {own : String} {cells slots : Nat} {ws nw : List Addr} {P : Outcome → State → Prop} {pc pc' : Nat} {Ls : Array Slot} {st : List Value}
/-- it returns r and leaves the heap as it was -/
def pureQ (r : Option Value) (h : Heap) : Option Value → Heap → Prop := fun v h' => v = r ∧ h' = h
theorem w_callSp (W : Wk p l e R s m args below meth c Z EL own ws nw T h cells slots) (hx : p.tables.exec = Jvm.exec) {index : Nat} {y : MethodName} {bytes : ByteArray} {maxL : Nat} {ret : Option FieldType} {rm : Room} {r : Option Value} (argsL : List Value)
    (w1 : (Cond.methodLink own index y).before a0 Z = true) (w2 : (Cond.static y).before a0 Z = true) (w3 : (Cond.initialized y.cls).before a0 Z = true) (w4 : (Cond.code y bytes maxL ret).before a0 Z = true) (hy : y.cls ≠ "java/lang/invoke/MethodHandle" ∧ y.cls ≠ "java/lang/invoke/VarHandle")
    (H : Con l Z EL y bytes maxL ret rm argsL.toArray h [] (pureQ r h)) (hsz : Ls.size = c.maxLocals) (hlen : ∀ sig, parseMethodDescriptor y.desc = some sig → argsL.length = sig.parameters.length) {stk : List Value} (hstk : stk = argsL.reverse ++ st) (hd : decode c.code pc = .ok (.invokestatic index, 3))
    (hf : rm.frames + 1 ≤ R.frames) (hl : (st.map fun v => v.category).sum + (maxL + 11) + rm.locals ≤ R.locals) (hc : rm.cells = 0) (hs : rm.slots = 0) (hc' : cells ≤ R.cells) (hs' : slots ≤ R.slots) (hp : pc + 3 = pc')
    (k : ∀ T', Wk p l e R s m args below meth c Z EL own ws nw T' h cells slots → Gets p.tables e below P T' (mkF m pc' Ls (r.toList ++ st))) : Gets p.tables e below P T (mkF m pc Ls stk) :=
  w_callS W hx argsL w1 w2 w3 w4 hy H all0 hsz hlen hstk hd hf hl (by rw [hc]; exact hc') (by rw [hs]; exact hs') hp fun v T' h' W' K q => by
    obtain ⟨e1, e2⟩ := q
    subst e1; rw [e2] at W'; rw [hc, hs] at W'; exact k T' W'
theorem w_virtualp (W : Wk p l e R s m args below meth c Z EL own ws nw T h cells slots) (hx : p.tables.exec = Jvm.exec) {index : Nat} {y z : MethodName} {C : String} {bytes : ByteArray} {maxL : Nat} {ret : Option FieldType} {rm : Room} {r : Option Value} {a : Nat} (argsL : List Value)
    (w1 : (Cond.methodLink own index y).before a0 Z = true) (w2 : (Cond.declares y).before a0 Z = true) (hnf : ∀ {U : State}, Z.Warmed39 U.vm → NotFace U y) (w3 : (Cond.selects C y z).before a0 Z = true) (w5 : (Cond.instanceMethod z).before a0 Z = true) (w6 : (Cond.initialized z.cls).before a0 Z = true) (w4 : (Cond.code z bytes maxL ret).before a0 Z = true) (hy : y.cls ≠ "java/lang/invoke/MethodHandle" ∧ y.cls ≠ "java/lang/invoke/VarHandle")
    (H : Con l Z EL z bytes maxL ret rm (.ref a :: argsL).toArray h [] (pureQ r h)) (E : Exa Z h a C) (hsz : Ls.size = c.maxLocals) (hlen : ∀ sig, parseMethodDescriptor y.desc = some sig → argsL.length = sig.parameters.length) {stk : List Value} (hstk : stk = argsL.reverse ++ .ref a :: st) (hd : decode c.code pc = .ok (.invokevirtual index, 3))
    (hf : rm.frames + 1 ≤ R.frames) (hl : (st.map fun v => v.category).sum + (maxL + 11) + rm.locals ≤ R.locals) (hc : rm.cells = 0) (hs : rm.slots = 0) (hc' : cells ≤ R.cells) (hs' : slots ≤ R.slots) (hp : pc + 3 = pc')
    (k : ∀ T', Wk p l e R s m args below meth c Z EL own ws nw T' h cells slots → Gets p.tables e below P T' (mkF m pc' Ls (r.toList ++ st))) : Gets p.tables e below P T (mkF m pc Ls stk) :=
  w_virtual W hx argsL w1 w2 hnf w3 w5 w6 w4 hy H E all0 hsz hlen hstk hd hf hl (by rw [hc]; exact hc') (by rw [hs]; exact hs') hp fun v T' h' W' K q => by
    obtain ⟨e1, e2⟩ := q
    subst e1; rw [e2] at W'; rw [hc, hs] at W'; exact k T' W'
theorem w_virtualUpp (W : Wk p l e R s m args below meth c Z EL own ws nw T h cells slots) (hx : p.tables.exec = Jvm.exec) {index : Nat} {y z : MethodName} {C owner : String} {bytes : ByteArray} {maxL : Nat} {ret : Option FieldType} {rm : Room} {r : Option Value} {a : Nat} (argsL : List Value)
    (w1 : (Cond.methodLink own index y).before a0 Z = true) (w7 : (Cond.sameMethod y.cls owner y.name y.desc).before a0 Z = true) (w2 : (Cond.declares ⟨owner, y.name, y.desc⟩).before a0 Z = true) (w3 : (Cond.selects C y z).before a0 Z = true) (w5 : (Cond.instanceMethod z).before a0 Z = true) (w6 : (Cond.initialized z.cls).before a0 Z = true) (w4 : (Cond.code z bytes maxL ret).before a0 Z = true) (hy : owner ≠ "java/lang/invoke/MethodHandle" ∧ owner ≠ "java/lang/invoke/VarHandle")
    (H : Con l Z EL z bytes maxL ret rm (.ref a :: argsL).toArray h [] (pureQ r h)) (E : Exa Z h a C) (hsz : Ls.size = c.maxLocals) (hlen : ∀ sig, parseMethodDescriptor y.desc = some sig → argsL.length = sig.parameters.length) {stk : List Value} (hstk : stk = argsL.reverse ++ .ref a :: st) (hd : decode c.code pc = .ok (.invokevirtual index, 3))
    (hf : rm.frames + 1 ≤ R.frames) (hl : (st.map fun v => v.category).sum + (maxL + 11) + rm.locals ≤ R.locals) (hc : rm.cells = 0) (hs : rm.slots = 0) (hc' : cells ≤ R.cells) (hs' : slots ≤ R.slots) (hp : pc + 3 = pc')
    (k : ∀ T', Wk p l e R s m args below meth c Z EL own ws nw T' h cells slots → Gets p.tables e below P T' (mkF m pc' Ls (r.toList ++ st))) : Gets p.tables e below P T (mkF m pc Ls stk) :=
  w_virtualUp W hx argsL w1 w7 w2 w3 w5 w6 w4 hy H E all0 hsz hlen hstk hd hf hl (by rw [hc]; exact hc') (by rw [hs]; exact hs') hp fun v T' h' W' K q => by
    obtain ⟨e1, e2⟩ := q
    subst e1; rw [e2] at W'; rw [hc, hs] at W'; exact k T' W'
theorem w_ifacep (W : Wk p l e R s m args below meth c Z EL own ws nw T h cells slots) (hx : p.tables.exec = Jvm.exec) {index count : Nat} {y z : MethodName} {C : String} {bytes : ByteArray} {maxL : Nat} {ret : Option FieldType} {rm : Room} {r : Option Value} {a : Nat} (argsL : List Value)
    (w1 : (Cond.methodLink own index y).before a0 Z = true) (w2 : (Cond.declares y).before a0 Z = true) (w7 : (Cond.interfaceMethod y.cls y.cls y.name y.desc).before a0 Z = true) (w3 : (Cond.selects C y z).before a0 Z = true) (w5 : (Cond.instanceMethod z).before a0 Z = true) (w8 : (Cond.publicMethod z).before a0 Z = true) (w9 : (Cond.unhidden C y.name y.desc).before a0 Z = true) (w10 : (Cond.castable C y.cls).before a0 Z = true) (w6 : (Cond.initialized z.cls).before a0 Z = true) (w4 : (Cond.code z bytes maxL ret).before a0 Z = true) (hy : y.cls ≠ "java/lang/invoke/MethodHandle" ∧ y.cls ≠ "java/lang/invoke/VarHandle")
    (H : Con l Z EL z bytes maxL ret rm (.ref a :: argsL).toArray h [] (pureQ r h)) (E : Exa Z h a C) (hsz : Ls.size = c.maxLocals) (hlen : ∀ sig, parseMethodDescriptor y.desc = some sig → argsL.length = sig.parameters.length) {stk : List Value} (hstk : stk = argsL.reverse ++ .ref a :: st) (hd : decode c.code pc = .ok (.invokeinterface index count, 5))
    (hf : rm.frames + 1 ≤ R.frames) (hl : (st.map fun v => v.category).sum + (maxL + 11) + rm.locals ≤ R.locals) (hc : rm.cells = 0) (hs : rm.slots = 0) (hc' : cells ≤ R.cells) (hs' : slots ≤ R.slots) (hp : pc + 5 = pc')
    (k : ∀ T', Wk p l e R s m args below meth c Z EL own ws nw T' h cells slots → Gets p.tables e below P T' (mkF m pc' Ls (r.toList ++ st))) : Gets p.tables e below P T (mkF m pc Ls stk) :=
  w_iface W hx argsL w1 w2 w7 w3 w5 w8 w9 w10 w6 w4 hy H E all0 hsz hlen hstk hd hf hl (by rw [hc]; exact hc') (by rw [hs]; exact hs') hp fun v T' h' W' K q => by
    obtain ⟨e1, e2⟩ := q
    subst e1; rw [e2] at W'; rw [hc, hs] at W'; exact k T' W'
theorem g_name {tb : Tables} {v w : Value} (q : w = v) (k : Gets tb e below P T (mkF m pc Ls (w :: st))) : Gets tb e below P T (mkF m pc Ls (v :: st)) := q ▸ k
end OwnPure
theorem w_0 : tables_1[0]? = some (Jvm.Cond.constantLong "com/example/itihasa/itihasa/store/StreamExpectationRevisionPinLaw" (9 : Nat) (9223372036854775807 : Int64)) := rfl
theorem w_1 : tables_1[1]? = some (Jvm.Cond.methodLink "com/example/itihasa/itihasa/store/StreamExpectationRevisionPinLaw" (11 : Nat) ({ cls := "java/lang/Math", name := "max", desc := "(JJ)J" } : Jvm.MethodName)) := rfl
theorem w_2 : tables_1[2]? = some (Jvm.Cond.static ({ cls := "java/lang/Math", name := "max", desc := "(JJ)J" } : Jvm.MethodName)) := rfl
theorem w_3 : tables_1[3]? = some (Jvm.Cond.initialized "java/lang/Math") := rfl
theorem w_4 : tables_1[4]? = some (Jvm.Cond.code ({ cls := "java/lang/Math", name := "max", desc := "(JJ)J" } : Jvm.MethodName) jdk_29_method_66_code (4 : Nat) (Option.some Jvm.ClassFile.FieldType.long)) := rfl
theorem w_5 : tables_1[5]? = some (Jvm.Cond.methodLink "com/example/itihasa/itihasa/store/StreamExpectationRevisionPinLaw" (17 : Nat) ({ cls := "com/example/itihasa/itihasa/store/StreamExpectation", name := "revision", desc := "(J)Lcom/example/itihasa/itihasa/store/StreamExpectation;" } : Jvm.MethodName)) := rfl
theorem w_6 : tables_1[6]? = some (Jvm.Cond.static ({ cls := "com/example/itihasa/itihasa/store/StreamExpectation", name := "revision", desc := "(J)Lcom/example/itihasa/itihasa/store/StreamExpectation;" } : Jvm.MethodName)) := rfl
theorem w_7 : tables_1[7]? = some (Jvm.Cond.initialized "com/example/itihasa/itihasa/store/StreamExpectation") := rfl
theorem w_8 : tables_1[8]? = some (Jvm.Cond.code ({ cls := "com/example/itihasa/itihasa/store/StreamExpectation", name := "revision", desc := "(J)Lcom/example/itihasa/itihasa/store/StreamExpectation;" } : Jvm.MethodName) prog_18_method_5_code (2 : Nat) (Option.some (Jvm.ClassFile.FieldType.object "com/example/itihasa/itihasa/store/StreamExpectation"))) := rfl
theorem w_9 : tables_1[9]? = some (Jvm.Cond.classLink "com/example/itihasa/itihasa/store/StreamExpectation" (8 : Nat) "com/example/itihasa/itihasa/store/StreamExpectation") := rfl
theorem w_10 : tables_1[10]? = some (Jvm.Cond.instantiable "com/example/itihasa/itihasa/store/StreamExpectation" (2 : Nat)) := rfl
theorem w_11 : tables_1[11]? = some (Jvm.Cond.fieldLink "com/example/itihasa/itihasa/store/StreamExpectation" (36 : Nat) "com/example/itihasa/itihasa/store/StreamExpectation$Kind" "REVISION" "Lcom/example/itihasa/itihasa/store/StreamExpectation$Kind;") := rfl
theorem w_12 : tables_1[12]? = some (Jvm.Cond.initialized "com/example/itihasa/itihasa/store/StreamExpectation$Kind") := rfl
theorem w_13 : tables_1[13]? = some (Jvm.Cond.laysStatic "com/example/itihasa/itihasa/store/StreamExpectation$Kind" "REVISION" "Lcom/example/itihasa/itihasa/store/StreamExpectation$Kind;") := rfl
theorem w_14 : tables_1[14]? = some (Jvm.Cond.methodLink "com/example/itihasa/itihasa/store/StreamExpectation" (41 : Nat) ({ cls := "com/example/itihasa/itihasa/store/StreamExpectation", name := "<init>", desc := "(Lcom/example/itihasa/itihasa/store/StreamExpectation$Kind;J)V" } : Jvm.MethodName)) := rfl
theorem w_15 : tables_1[15]? = some (Jvm.Cond.instanceMethod ({ cls := "com/example/itihasa/itihasa/store/StreamExpectation", name := "<init>", desc := "(Lcom/example/itihasa/itihasa/store/StreamExpectation$Kind;J)V" } : Jvm.MethodName)) := rfl
theorem w_16 : tables_1[16]? = some (Jvm.Cond.code ({ cls := "com/example/itihasa/itihasa/store/StreamExpectation", name := "<init>", desc := "(Lcom/example/itihasa/itihasa/store/StreamExpectation$Kind;J)V" } : Jvm.MethodName) prog_18_method_1_code (4 : Nat) (Option.none : Option Jvm.ClassFile.FieldType)) := rfl
theorem w_17 : tables_1[17]? = some (Jvm.Cond.methodLink "com/example/itihasa/itihasa/store/StreamExpectation" (1 : Nat) ({ cls := "java/lang/Object", name := "<init>", desc := "()V" } : Jvm.MethodName)) := rfl
theorem w_18 : tables_1[18]? = some (Jvm.Cond.instanceMethod ({ cls := "java/lang/Object", name := "<init>", desc := "()V" } : Jvm.MethodName)) := rfl
theorem w_19 : tables_1[19]? = some (Jvm.Cond.code ({ cls := "java/lang/Object", name := "<init>", desc := "()V" } : Jvm.MethodName) object_method_1_code (1 : Nat) (Option.none : Option Jvm.ClassFile.FieldType)) := rfl
theorem w_20 : tables_1[20]? = some (Jvm.Cond.fieldLink "com/example/itihasa/itihasa/store/StreamExpectation" (7 : Nat) "com/example/itihasa/itihasa/store/StreamExpectation" "kind" "Lcom/example/itihasa/itihasa/store/StreamExpectation$Kind;") := rfl
theorem w_21 : tables_1[21]? = some (Jvm.Cond.laysFinal "com/example/itihasa/itihasa/store/StreamExpectation" "com/example/itihasa/itihasa/store/StreamExpectation" "kind" "Lcom/example/itihasa/itihasa/store/StreamExpectation$Kind;") := rfl
theorem w_22 : tables_1[22]? = some (Jvm.Cond.fieldLink "com/example/itihasa/itihasa/store/StreamExpectation" (13 : Nat) "com/example/itihasa/itihasa/store/StreamExpectation" "revision" "J") := rfl
theorem w_23 : tables_1[23]? = some (Jvm.Cond.laysFinal "com/example/itihasa/itihasa/store/StreamExpectation" "com/example/itihasa/itihasa/store/StreamExpectation" "revision" "J") := rfl
theorem w_24 : tables_1[24]? = some (Jvm.Cond.methodLink "com/example/itihasa/itihasa/store/StreamExpectationRevisionPinLaw" (23 : Nat) ({ cls := "com/example/itihasa/itihasa/store/StreamExpectation", name := "isMetBy", desc := "(J)Z" } : Jvm.MethodName)) := rfl
theorem w_25 : tables_1[25]? = some (Jvm.Cond.declares ({ cls := "com/example/itihasa/itihasa/store/StreamExpectation", name := "isMetBy", desc := "(J)Z" } : Jvm.MethodName)) := rfl
theorem w_26 : tables_1[26]? = some (Jvm.Cond.instanceMethod ({ cls := "com/example/itihasa/itihasa/store/StreamExpectation", name := "isMetBy", desc := "(J)Z" } : Jvm.MethodName)) := rfl
theorem w_27 : tables_1[27]? = some (Jvm.Cond.selects "com/example/itihasa/itihasa/store/StreamExpectation" ({ cls := "com/example/itihasa/itihasa/store/StreamExpectation", name := "isMetBy", desc := "(J)Z" } : Jvm.MethodName) ({ cls := "com/example/itihasa/itihasa/store/StreamExpectation", name := "isMetBy", desc := "(J)Z" } : Jvm.MethodName)) := rfl
theorem w_28 : tables_1[28]? = some (Jvm.Cond.code ({ cls := "com/example/itihasa/itihasa/store/StreamExpectation", name := "isMetBy", desc := "(J)Z" } : Jvm.MethodName) prog_18_method_6_code (3 : Nat) (Option.some Jvm.ClassFile.FieldType.boolean)) := rfl
theorem w_29 : tables_1[29]? = some (Jvm.Cond.methodLink "com/example/itihasa/itihasa/store/StreamExpectation" (44 : Nat) ({ cls := "com/example/itihasa/itihasa/store/StreamExpectation$Kind", name := "ordinal", desc := "()I" } : Jvm.MethodName)) := rfl
theorem w_30 : tables_1[30]? = some (Jvm.Cond.sameMethod "com/example/itihasa/itihasa/store/StreamExpectation$Kind" "java/lang/Enum" "ordinal" "()I") := rfl
theorem w_31 : tables_1[31]? = some (Jvm.Cond.declares ({ cls := "java/lang/Enum", name := "ordinal", desc := "()I" } : Jvm.MethodName)) := rfl
theorem w_32 : tables_1[32]? = some (Jvm.Cond.instanceMethod ({ cls := "java/lang/Enum", name := "ordinal", desc := "()I" } : Jvm.MethodName)) := rfl
theorem w_33 : tables_1[33]? = some (Jvm.Cond.selects "com/example/itihasa/itihasa/store/StreamExpectation$Kind" ({ cls := "com/example/itihasa/itihasa/store/StreamExpectation$Kind", name := "ordinal", desc := "()I" } : Jvm.MethodName) ({ cls := "java/lang/Enum", name := "ordinal", desc := "()I" } : Jvm.MethodName)) := rfl
theorem w_34 : tables_1[34]? = some (Jvm.Cond.initialized "java/lang/Enum") := rfl
theorem w_35 : tables_1[35]? = some (Jvm.Cond.code ({ cls := "java/lang/Enum", name := "ordinal", desc := "()I" } : Jvm.MethodName) jdk_37_method_2_code (1 : Nat) (Option.some Jvm.ClassFile.FieldType.int)) := rfl
theorem w_36 : tables_1[36]? = some (Jvm.Cond.fieldLink "java/lang/Enum" (7 : Nat) "java/lang/Enum" "ordinal" "I") := rfl
theorem w_38 : tables_1[38]? = some (Jvm.Cond.methodLink "com/example/itihasa/itihasa/store/StreamExpectationRevisionPinLaw" (27 : Nat) ({ cls := "com/example/itihasa/itihasa/store/StreamExpectation", name := "equals", desc := "(Ljava/lang/Object;)Z" } : Jvm.MethodName)) := rfl
theorem w_39 : tables_1[39]? = some (Jvm.Cond.declares ({ cls := "com/example/itihasa/itihasa/store/StreamExpectation", name := "equals", desc := "(Ljava/lang/Object;)Z" } : Jvm.MethodName)) := rfl
theorem w_40 : tables_1[40]? = some (Jvm.Cond.instanceMethod ({ cls := "com/example/itihasa/itihasa/store/StreamExpectation", name := "equals", desc := "(Ljava/lang/Object;)Z" } : Jvm.MethodName)) := rfl
theorem w_41 : tables_1[41]? = some (Jvm.Cond.selects "com/example/itihasa/itihasa/store/StreamExpectation" ({ cls := "com/example/itihasa/itihasa/store/StreamExpectation", name := "equals", desc := "(Ljava/lang/Object;)Z" } : Jvm.MethodName) ({ cls := "com/example/itihasa/itihasa/store/StreamExpectation", name := "equals", desc := "(Ljava/lang/Object;)Z" } : Jvm.MethodName)) := rfl
theorem w_42 : tables_1[42]? = some (Jvm.Cond.code ({ cls := "com/example/itihasa/itihasa/store/StreamExpectation", name := "equals", desc := "(Ljava/lang/Object;)Z" } : Jvm.MethodName) prog_18_method_7_code (3 : Nat) (Option.some Jvm.ClassFile.FieldType.boolean)) := rfl
theorem w_44 : tables_1[44]? = some (Jvm.Cond.methodLink "com/example/itihasa/itihasa/store/StreamExpectationRevisionPinLaw" (31 : Nat) ({ cls := "com/example/itihasa/itihasa/store/StreamExpectation", name := "noStream", desc := "()Lcom/example/itihasa/itihasa/store/StreamExpectation;" } : Jvm.MethodName)) := rfl
theorem w_45 : tables_1[45]? = some (Jvm.Cond.static ({ cls := "com/example/itihasa/itihasa/store/StreamExpectation", name := "noStream", desc := "()Lcom/example/itihasa/itihasa/store/StreamExpectation;" } : Jvm.MethodName)) := rfl
theorem w_46 : tables_1[46]? = some (Jvm.Cond.code ({ cls := "com/example/itihasa/itihasa/store/StreamExpectation", name := "noStream", desc := "()Lcom/example/itihasa/itihasa/store/StreamExpectation;" } : Jvm.MethodName) prog_18_method_3_code (0 : Nat) (Option.some (Jvm.ClassFile.FieldType.object "com/example/itihasa/itihasa/store/StreamExpectation"))) := rfl
theorem w_47 : tables_1[47]? = some (Jvm.Cond.fieldLink "com/example/itihasa/itihasa/store/StreamExpectation" (21 : Nat) "com/example/itihasa/itihasa/store/StreamExpectation" "NO_STREAM" "Lcom/example/itihasa/itihasa/store/StreamExpectation;") := rfl
theorem w_48 : tables_1[48]? = some (Jvm.Cond.laysStatic "com/example/itihasa/itihasa/store/StreamExpectation" "NO_STREAM" "Lcom/example/itihasa/itihasa/store/StreamExpectation;") := rfl
theorem w_50 : tables_1[50]? = some (Jvm.Cond.methodLink "com/example/itihasa/itihasa/store/StreamExpectationRevisionPinLaw" (35 : Nat) ({ cls := "com/example/itihasa/itihasa/store/StreamExpectation", name := "streamExists", desc := "()Lcom/example/itihasa/itihasa/store/StreamExpectation;" } : Jvm.MethodName)) := rfl
theorem w_51 : tables_1[51]? = some (Jvm.Cond.static ({ cls := "com/example/itihasa/itihasa/store/StreamExpectation", name := "streamExists", desc := "()Lcom/example/itihasa/itihasa/store/StreamExpectation;" } : Jvm.MethodName)) := rfl
theorem w_52 : tables_1[52]? = some (Jvm.Cond.code ({ cls := "com/example/itihasa/itihasa/store/StreamExpectation", name := "streamExists", desc := "()Lcom/example/itihasa/itihasa/store/StreamExpectation;" } : Jvm.MethodName) prog_18_method_4_code (0 : Nat) (Option.some (Jvm.ClassFile.FieldType.object "com/example/itihasa/itihasa/store/StreamExpectation"))) := rfl
theorem w_53 : tables_1[53]? = some (Jvm.Cond.fieldLink "com/example/itihasa/itihasa/store/StreamExpectation" (24 : Nat) "com/example/itihasa/itihasa/store/StreamExpectation" "STREAM_EXISTS" "Lcom/example/itihasa/itihasa/store/StreamExpectation;") := rfl
theorem w_54 : tables_1[54]? = some (Jvm.Cond.laysStatic "com/example/itihasa/itihasa/store/StreamExpectation" "STREAM_EXISTS" "Lcom/example/itihasa/itihasa/store/StreamExpectation;") := rfl
theorem w_56 : tables_1[56]? = some (Jvm.Cond.methodLink "com/example/itihasa/itihasa/store/StreamExpectationRevisionPinLaw" (38 : Nat) ({ cls := "com/example/itihasa/itihasa/store/StreamExpectation", name := "any", desc := "()Lcom/example/itihasa/itihasa/store/StreamExpectation;" } : Jvm.MethodName)) := rfl
theorem w_57 : tables_1[57]? = some (Jvm.Cond.static ({ cls := "com/example/itihasa/itihasa/store/StreamExpectation", name := "any", desc := "()Lcom/example/itihasa/itihasa/store/StreamExpectation;" } : Jvm.MethodName)) := rfl
theorem w_58 : tables_1[58]? = some (Jvm.Cond.code ({ cls := "com/example/itihasa/itihasa/store/StreamExpectation", name := "any", desc := "()Lcom/example/itihasa/itihasa/store/StreamExpectation;" } : Jvm.MethodName) prog_18_method_2_code (0 : Nat) (Option.some (Jvm.ClassFile.FieldType.object "com/example/itihasa/itihasa/store/StreamExpectation"))) := rfl
theorem w_59 : tables_1[59]? = some (Jvm.Cond.fieldLink "com/example/itihasa/itihasa/store/StreamExpectation" (17 : Nat) "com/example/itihasa/itihasa/store/StreamExpectation" "ANY" "Lcom/example/itihasa/itihasa/store/StreamExpectation;") := rfl
theorem w_60 : tables_1[60]? = some (Jvm.Cond.laysStatic "com/example/itihasa/itihasa/store/StreamExpectation" "ANY" "Lcom/example/itihasa/itihasa/store/StreamExpectation;") := rfl
theorem d_jdk_29_66_0 : decode jdk_29_method_66_code 0 = .ok (.lload_n 0, 1) := by decide +kernel
theorem d_jdk_29_66_1 : decode jdk_29_method_66_code 1 = .ok (.lload_n 2, 1) := by decide +kernel
theorem d_jdk_29_66_2 : decode jdk_29_method_66_code 2 = .ok (.lcmp, 1) := by decide +kernel
theorem d_jdk_29_66_3 : decode jdk_29_method_66_code 3 = .ok (.ifCond .lt 7, 3) := by decide +kernel
theorem d_jdk_29_66_6 : decode jdk_29_method_66_code 6 = .ok (.lload_n 0, 1) := by decide +kernel
theorem d_jdk_29_66_7 : decode jdk_29_method_66_code 7 = .ok (.goto 4, 3) := by decide +kernel
theorem d_jdk_29_66_10 : decode jdk_29_method_66_code 10 = .ok (.lload_n 2, 1) := by decide +kernel
theorem d_jdk_29_66_11 : decode jdk_29_method_66_code 11 = .ok (.lreturn, 1) := by decide +kernel
theorem d_jdk_37_2_0 : decode jdk_37_method_2_code 0 = .ok (.aload_n 0, 1) := by decide +kernel
theorem d_jdk_37_2_1 : decode jdk_37_method_2_code 1 = .ok (.getfield 7, 3) := by decide +kernel
theorem d_jdk_37_2_4 : decode jdk_37_method_2_code 4 = .ok (.ireturn, 1) := by decide +kernel
theorem d_prog_18_1_0 : decode prog_18_method_1_code 0 = .ok (.aload_n 0, 1) := by decide +kernel
theorem d_prog_18_1_1 : decode prog_18_method_1_code 1 = .ok (.invokespecial 1, 3) := by decide +kernel
theorem d_prog_18_1_4 : decode prog_18_method_1_code 4 = .ok (.aload_n 0, 1) := by decide +kernel
theorem d_prog_18_1_5 : decode prog_18_method_1_code 5 = .ok (.aload_n 1, 1) := by decide +kernel
theorem d_prog_18_1_6 : decode prog_18_method_1_code 6 = .ok (.putfield 7, 3) := by decide +kernel
theorem d_prog_18_1_9 : decode prog_18_method_1_code 9 = .ok (.aload_n 0, 1) := by decide +kernel
theorem d_prog_18_1_10 : decode prog_18_method_1_code 10 = .ok (.lload_n 2, 1) := by decide +kernel
theorem d_prog_18_1_11 : decode prog_18_method_1_code 11 = .ok (.putfield 13, 3) := by decide +kernel
theorem d_prog_18_1_14 : decode prog_18_method_1_code 14 = .ok (.return_, 1) := by decide +kernel
theorem d_prog_18_2_0 : decode prog_18_method_2_code 0 = .ok (.getstatic 17, 3) := by decide +kernel
theorem d_prog_18_2_3 : decode prog_18_method_2_code 3 = .ok (.areturn, 1) := by decide +kernel
theorem d_prog_18_3_0 : decode prog_18_method_3_code 0 = .ok (.getstatic 21, 3) := by decide +kernel
theorem d_prog_18_3_3 : decode prog_18_method_3_code 3 = .ok (.areturn, 1) := by decide +kernel
theorem d_prog_18_4_0 : decode prog_18_method_4_code 0 = .ok (.getstatic 24, 3) := by decide +kernel
theorem d_prog_18_4_3 : decode prog_18_method_4_code 3 = .ok (.areturn, 1) := by decide +kernel
theorem d_prog_18_5_0 : decode prog_18_method_5_code 0 = .ok (.lload_n 0, 1) := by decide +kernel
theorem d_prog_18_5_1 : decode prog_18_method_5_code 1 = .ok (.lconst 1, 1) := by decide +kernel
theorem d_prog_18_5_2 : decode prog_18_method_5_code 2 = .ok (.lcmp, 1) := by decide +kernel
theorem d_prog_18_5_3 : decode prog_18_method_5_code 3 = .ok (.ifCond .ge 17, 3) := by decide +kernel
theorem d_prog_18_5_20 : decode prog_18_method_5_code 20 = .ok (.new 8, 3) := by decide +kernel
theorem d_prog_18_5_23 : decode prog_18_method_5_code 23 = .ok (.dup, 1) := by decide +kernel
theorem d_prog_18_5_24 : decode prog_18_method_5_code 24 = .ok (.getstatic 36, 3) := by decide +kernel
theorem d_prog_18_5_27 : decode prog_18_method_5_code 27 = .ok (.lload_n 0, 1) := by decide +kernel
theorem d_prog_18_5_28 : decode prog_18_method_5_code 28 = .ok (.invokespecial 41, 3) := by decide +kernel
theorem d_prog_18_5_31 : decode prog_18_method_5_code 31 = .ok (.areturn, 1) := by decide +kernel
theorem d_prog_18_6_0 : decode prog_18_method_6_code 0 = .ok (.aload_n 0, 1) := by decide +kernel
theorem d_prog_18_6_1 : decode prog_18_method_6_code 1 = .ok (.getfield 7, 3) := by decide +kernel
theorem d_prog_18_6_4 : decode prog_18_method_6_code 4 = .ok (.invokevirtual 44, 3) := by decide +kernel
theorem d_prog_18_6_7 : decode prog_18_method_6_code 7 = .ok (.tableswitch 29 0 3 #[39, 43, 57, 71], 29) := by decide +kernel
theorem d_prog_18_6_78 : decode prog_18_method_6_code 78 = .ok (.lload_n 1, 1) := by decide +kernel
theorem d_prog_18_6_79 : decode prog_18_method_6_code 79 = .ok (.aload_n 0, 1) := by decide +kernel
theorem d_prog_18_6_80 : decode prog_18_method_6_code 80 = .ok (.getfield 13, 3) := by decide +kernel
theorem d_prog_18_6_83 : decode prog_18_method_6_code 83 = .ok (.lcmp, 1) := by decide +kernel
theorem d_prog_18_6_84 : decode prog_18_method_6_code 84 = .ok (.ifCond .ne 7, 3) := by decide +kernel
theorem d_prog_18_6_87 : decode prog_18_method_6_code 87 = .ok (.iconst 1, 1) := by decide +kernel
theorem d_prog_18_6_88 : decode prog_18_method_6_code 88 = .ok (.goto 4, 3) := by decide +kernel
theorem d_prog_18_6_91 : decode prog_18_method_6_code 91 = .ok (.iconst 0, 1) := by decide +kernel
theorem d_prog_18_6_92 : decode prog_18_method_6_code 92 = .ok (.ireturn, 1) := by decide +kernel
theorem d_prog_18_7_0 : decode prog_18_method_7_code 0 = .ok (.aload_n 1, 1) := by decide +kernel
theorem d_prog_18_7_1 : decode prog_18_method_7_code 1 = .ok (.instanceof 8, 3) := by decide +kernel
theorem d_prog_18_7_4 : decode prog_18_method_7_code 4 = .ok (.ifCond .eq 35, 3) := by decide +kernel
theorem d_prog_18_7_7 : decode prog_18_method_7_code 7 = .ok (.aload_n 1, 1) := by decide +kernel
theorem d_prog_18_7_8 : decode prog_18_method_7_code 8 = .ok (.checkcast 8, 3) := by decide +kernel
theorem d_prog_18_7_11 : decode prog_18_method_7_code 11 = .ok (.astore_n 2, 1) := by decide +kernel
theorem d_prog_18_7_12 : decode prog_18_method_7_code 12 = .ok (.aload_n 0, 1) := by decide +kernel
theorem d_prog_18_7_13 : decode prog_18_method_7_code 13 = .ok (.getfield 7, 3) := by decide +kernel
theorem d_prog_18_7_16 : decode prog_18_method_7_code 16 = .ok (.aload_n 2, 1) := by decide +kernel
theorem d_prog_18_7_17 : decode prog_18_method_7_code 17 = .ok (.getfield 7, 3) := by decide +kernel
theorem d_prog_18_7_20 : decode prog_18_method_7_code 20 = .ok (.if_acmp .ne 19, 3) := by decide +kernel
theorem d_prog_18_7_23 : decode prog_18_method_7_code 23 = .ok (.aload_n 0, 1) := by decide +kernel
theorem d_prog_18_7_24 : decode prog_18_method_7_code 24 = .ok (.getfield 13, 3) := by decide +kernel
theorem d_prog_18_7_27 : decode prog_18_method_7_code 27 = .ok (.aload_n 2, 1) := by decide +kernel
theorem d_prog_18_7_28 : decode prog_18_method_7_code 28 = .ok (.getfield 13, 3) := by decide +kernel
theorem d_prog_18_7_31 : decode prog_18_method_7_code 31 = .ok (.lcmp, 1) := by decide +kernel
theorem d_prog_18_7_32 : decode prog_18_method_7_code 32 = .ok (.ifCond .ne 7, 3) := by decide +kernel
theorem d_prog_18_7_35 : decode prog_18_method_7_code 35 = .ok (.iconst 1, 1) := by decide +kernel
theorem d_prog_18_7_36 : decode prog_18_method_7_code 36 = .ok (.goto 4, 3) := by decide +kernel
theorem d_prog_18_7_39 : decode prog_18_method_7_code 39 = .ok (.iconst 0, 1) := by decide +kernel
theorem d_prog_18_7_40 : decode prog_18_method_7_code 40 = .ok (.ireturn, 1) := by decide +kernel
theorem pd_0 : parseMethodDescriptor "(Lcom/example/itihasa/itihasa/store/StreamExpectation$Kind;J)V" = some ⟨[(.object "com/example/itihasa/itihasa/store/StreamExpectation$Kind"), .long], none⟩ := by decide +kernel
theorem pd_1 : parseMethodDescriptor "()I" = some ⟨[], some .int⟩ := by decide +kernel
theorem pd_2 : parseMethodDescriptor "(JJ)J" = some ⟨[.long, .long], some .long⟩ := by decide +kernel
theorem pd_3 : parseMethodDescriptor "(J)Lcom/example/itihasa/itihasa/store/StreamExpectation;" = some ⟨[.long], some (.object "com/example/itihasa/itihasa/store/StreamExpectation")⟩ := by decide +kernel
theorem pd_4 : parseMethodDescriptor "(J)Z" = some ⟨[.long], some .boolean⟩ := by decide +kernel
theorem pd_5 : parseMethodDescriptor "(Ljava/lang/Object;)Z" = some ⟨[(.object "java/lang/Object")], some .boolean⟩ := by decide +kernel
theorem pd_6 : parseMethodDescriptor "()Lcom/example/itihasa/itihasa/store/StreamExpectation;" = some ⟨[], some (.object "com/example/itihasa/itihasa/store/StreamExpectation")⟩ := by decide +kernel
theorem pn_0 : plainName "com/example/itihasa/itihasa/store/StreamExpectation" = true := by first | (simp [plainName, overriddenIn]; done) | decide +kernel
theorem pn_1 : plainName "java/lang/Enum" = true := by first | (simp [plainName, overriddenIn]; done) | decide +kernel
theorem pn_2 : plainName "com/example/itihasa/itihasa/store/StreamExpectationRevisionPinLaw" = true := by first | (simp [plainName, overriddenIn]; done) | decide +kernel
theorem own_fldI {s : State} {args : Array Value} {t : Term} {a : Addr} {C f : String} {z : Int32} (e : t.eval args s none [] s = some (.ref a)) (h : (Jvm.Cond.eq (Jvm.Term.field t C f "I") (Jvm.Term.int z)).value args s none s [] = some true) : Fld s s.heap a C f "I" (.int z) := by
  have q := eqv_i (Z := s) (F := Jvm.Term.int z) (y := z) rfl h
  rw [fld_at e] at q
  exact Fld.start q
theorem own_fldJ {s : State} {args : Array Value} {t : Term} {a : Addr} {C f : String} {z : Int64} (e : t.eval args s none [] s = some (.ref a)) (h : (Jvm.Cond.eq (Jvm.Term.field t C f "J") (Jvm.Term.long z)).value args s none s [] = some true) : Fld s s.heap a C f "J" (.long z) := by
  have q := eqv_l (Z := s) (F := Jvm.Term.long z) (y := z) rfl h
  rw [fld_at e] at q
  exact Fld.start q
theorem own_fldR {s : State} {args : Array Value} {t u : Term} {a b : Addr} {C f d : String} (e : t.eval args s none [] s = some (.ref a)) (eu : u.eval args s none [] s = some (.ref b)) (h : (Jvm.Cond.eq (Jvm.Term.field t C f d) u).value args s none s [] = some true) : Fld s s.heap a C f d (.ref b) := by
  obtain ⟨x, y, e1, e2, k1, k2⟩ := cmp_v (Or.inl h)
  cases eu.symm.trans e2
  have hx : x.isRef = true := k2.2
  have q := gotT (eq_R e1 e2 hx rfl) h
  subst q
  rw [fld_at e] at e1
  exact Fld.start e1
def maxL (q r : Int64) : Int64 := if q < r then r else q
set_option maxRecDepth 65536 in
set_option maxHeartbeats 40000000 in
theorem c_max (l : Launch) (Z : State) (a0 : Array Value) (hw : ∀ d ∈ tables_1, d.before a0 Z = true) (hE : EW Z a0 ([] : List (String × Nat))) (q r : Int64) (h0 : Heap) (O : Ext Z.heap h0)  :
    Con l Z ([] : List (String × Nat)) (⟨"java/lang/Math", "max", "(JJ)J"⟩ : MethodName) jdk_29_method_66_code 4 (Option.some Jvm.ClassFile.FieldType.long) ({ frames := 0, cells := 0, slots := 0, locals := 0 } : Room) #[(.long q), (.long r)] h0 [] (pureQ (some (.long (maxL q r))) h0) := by
  refine Con.of (a0 := a0) #[.val (.long q), .second, .val (.long r), .second] (Jvm.Free.JP.mathPlain rfl (by decide +kernel)) hE O all0 (fun m => by first | (simp [entryFrame, mkF, argsToLocals, Value.category]; done) | rfl) ?_
  intro p e s m below meth c T0 hx hby hml hnm hret hlk hh W0
  refine g_lloadN (pc' := 1) W0.here hx (hb hby d_jdk_29_66_0) rfl rfl ?_
  refine g_lloadN (pc' := 2) W0.here hx (hb hby d_jdk_29_66_1) rfl rfl ?_
  refine g_lcmp (pc' := 3) W0.here hx (hb hby d_jdk_29_66_2) rfl ?_
  by_cases hc3_1 : (lcmpW q r) < (0 : Int32)
  · refine g_ifY (pc' := 10) W0.here hx (hb hby d_jdk_29_66_3) rfl (tlt hc3_1).1 ?_
    refine g_lloadN (pc' := 11) W0.here hx (hb hby d_jdk_29_66_10) rfl rfl ?_
    refine w_retJ W0 hx hh hlk hret (hb hby d_jdk_29_66_11) (Nat.le_of_ble_eq_true rfl) (Nat.le_of_ble_eq_true rfl) ?_
    have q1 : q < r := (lw_lt _ _).mp hc3_1
    exact ⟨by simp [maxL, q1], rfl⟩
  · refine g_ifN (pc' := 6) W0.here hx (hb hby d_jdk_29_66_3) rfl (flt hc3_1).1 ?_
    refine g_lloadN (pc' := 7) W0.here hx (hb hby d_jdk_29_66_6) rfl rfl ?_
    refine g_goto (pc' := 11) W0.here hx (hb hby d_jdk_29_66_7) rfl ?_
    refine w_retJ W0 hx hh hlk hret (hb hby d_jdk_29_66_11) (Nat.le_of_ble_eq_true rfl) (Nat.le_of_ble_eq_true rfl) ?_
    have q1 : ¬ q < r := fun z => hc3_1 ((lw_lt _ _).mpr z)
    exact ⟨by simp [maxL, q1], rfl⟩
set_option maxRecDepth 65536 in
set_option maxHeartbeats 40000000 in
theorem c_init (l : Launch) (Z : State) (a0 : Array Value) (hw : ∀ d ∈ tables_1, d.before a0 Z = true) (hE : EW Z a0 ([] : List (String × Nat))) (o k : Nat) (r : Int64) (h0 : Heap) (O : Ext Z.heap h0) (hz : Z.heap.size ≤ o) (E0 : Exa Z h0 o "com/example/itihasa/itihasa/store/StreamExpectation") (u1 u2 : Value) (F1 : Fld Z h0 o "com/example/itihasa/itihasa/store/StreamExpectation" "kind" "Lcom/example/itihasa/itihasa/store/StreamExpectation$Kind;" u1) (F2 : Fld Z h0 o "com/example/itihasa/itihasa/store/StreamExpectation" "revision" "J" u2) :
    Con l Z ([] : List (String × Nat)) (⟨"com/example/itihasa/itihasa/store/StreamExpectation", "<init>", "(Lcom/example/itihasa/itihasa/store/StreamExpectation$Kind;J)V"⟩ : MethodName) prog_18_method_1_code 4 (Option.none : Option Jvm.ClassFile.FieldType) ({ frames := 1, cells := 0, slots := 0, locals := 12 } : Room) #[(.ref o), (.ref k), (.long r)] h0 [o] (fun v h => v = none ∧ Exa Z h o "com/example/itihasa/itihasa/store/StreamExpectation" ∧ Fld Z h o "com/example/itihasa/itihasa/store/StreamExpectation" "kind" "Lcom/example/itihasa/itihasa/store/StreamExpectation$Kind;" (.ref k) ∧ Fld Z h o "com/example/itihasa/itihasa/store/StreamExpectation" "revision" "J" (.long r)) := by
  refine Con.of (a0 := a0) #[.val (.ref o), .val (.ref k), .val (.long r), .second] (plainFor_of_name pn_0) hE O (allS ⟨hz, E0.lt⟩ all0) (fun m => by first | (simp [entryFrame, mkF, argsToLocals, Value.category]; done) | rfl) ?_
  intro p e s m below meth c T0 hx hby hml hnm hret hlk hh W0
  refine g_aloadN (pc' := 1) W0.here hx (hb hby d_prog_18_1_0) rfl rfl rfl ?_
  refine w_initO (pc' := 4) W0 hx (hw _ (List.mem_of_getElem? w_17)) (hw _ (List.mem_of_getElem? w_18)) (hw _ (List.mem_of_getElem? w_19)) (by rw [hml]; rfl) (hb hby d_prog_18_1_1) (Nat.le_of_ble_eq_true rfl) (Nat.le_of_ble_eq_true rfl) rfl fun T2 W2 => ?_
  refine g_aloadN (pc' := 5) W2.here hx (hb hby d_prog_18_1_4) rfl rfl rfl ?_
  refine g_aloadN (pc' := 6) W2.here hx (hb hby d_prog_18_1_5) rfl rfl rfl ?_
  refine w_put (pc' := 9) W2 hx (hw _ (List.mem_of_getElem? w_20)) Via.refl F1 E0 (Or.inr ⟨(hw _ (List.mem_of_getElem? w_21)), rfl, hnm⟩) (hw _ (List.mem_of_getElem? w_10)) (ty := (.object "com/example/itihasa/itihasa/store/StreamExpectation$Kind")) (by decide) rfl rfl (List.mem_of_getElem? (i := 0) rfl) (hb hby d_prog_18_1_6) rfl fun T3 h3 W3 K3 R3 F3 A3 => ?_
  have z_K3 : h0.size ≤ h3.size := K3.1
  have c4 := (F2.other R3 (Or.inr (slot_ne (Or.inr (hw _ (List.mem_of_getElem? w_23))) (Or.inr (hw _ (List.mem_of_getElem? w_21))) (by decide) (t := .long) (t' := (.object "com/example/itihasa/itihasa/store/StreamExpectation$Kind")) (by decide) (by decide))))
  refine g_aloadN (pc' := 10) W3.here hx (hb hby d_prog_18_1_9) rfl rfl rfl ?_
  refine g_lloadN (pc' := 11) W3.here hx (hb hby d_prog_18_1_10) rfl rfl ?_
  refine w_put (pc' := 14) W3 hx (hw _ (List.mem_of_getElem? w_22)) Via.refl c4 A3 (Or.inr ⟨(hw _ (List.mem_of_getElem? w_23)), rfl, hnm⟩) (hw _ (List.mem_of_getElem? w_10)) (ty := .long) (by decide) rfl rfl (List.mem_of_getElem? (i := 0) rfl) (hb hby d_prog_18_1_11) rfl fun T5 h5 W5 K5 R5 F5 A5 => ?_
  have z_K5 : h3.size ≤ h5.size := K5.1
  have c6 := (F3.other R5 (Or.inr (slot_ne (Or.inr (hw _ (List.mem_of_getElem? w_21))) (Or.inr (hw _ (List.mem_of_getElem? w_23))) (by decide) (t := (.object "com/example/itihasa/itihasa/store/StreamExpectation$Kind")) (t' := .long) (by decide) (by decide))))
  refine w_retV W5 hx hh hlk hret (hb hby d_prog_18_1_14) (Nat.le_of_ble_eq_true rfl) (Nat.le_of_ble_eq_true rfl) ?_
  exact ⟨rfl, A5, c6, F5⟩
set_option maxRecDepth 65536 in
set_option maxHeartbeats 40000000 in
theorem c_rev (l : Launch) (Z : State) (a0 : Array Value) (hw : ∀ d ∈ tables_1, d.before a0 Z = true) (hE : EW Z a0 ([] : List (String × Nat))) (r : Int64) (kR : Nat) (h0 : Heap) (O : Ext Z.heap h0) (hr : ¬ r < 1) (S_R : Sta Z Z.heap "com/example/itihasa/itihasa/store/StreamExpectation$Kind" "REVISION" "Lcom/example/itihasa/itihasa/store/StreamExpectation$Kind;" (.ref kR)) :
    Con l Z ([] : List (String × Nat)) (⟨"com/example/itihasa/itihasa/store/StreamExpectation", "revision", "(J)Lcom/example/itihasa/itihasa/store/StreamExpectation;"⟩ : MethodName) prog_18_method_5_code 2 (Option.some (Jvm.ClassFile.FieldType.object "com/example/itihasa/itihasa/store/StreamExpectation")) ({ frames := 2, cells := 1, slots := 2, locals := 28 } : Room) #[(.long r)] h0 [] (fun v h => ∃ o : Nat, v = some (.ref o) ∧ h0.size ≤ o ∧ Exa Z h o "com/example/itihasa/itihasa/store/StreamExpectation" ∧ Fld Z h o "com/example/itihasa/itihasa/store/StreamExpectation" "kind" "Lcom/example/itihasa/itihasa/store/StreamExpectation$Kind;" (.ref kR) ∧ Fld Z h o "com/example/itihasa/itihasa/store/StreamExpectation" "revision" "J" (.long r)) := by
  refine Con.of (a0 := a0) #[.val (.long r), .second] (plainFor_of_name pn_0) hE O all0 (fun m => by first | (simp [entryFrame, mkF, argsToLocals, Value.category]; done) | rfl) ?_
  intro p e s m below meth c T0 hx hby hml hnm hret hlk hh W0
  refine g_lloadN (pc' := 1) W0.here hx (hb hby d_prog_18_5_0) rfl rfl ?_
  refine g_lconst (1 : Int64) (pc' := 2) W0.here hx (hb hby d_prog_18_5_1) rfl rfl ?_
  refine g_lcmp (pc' := 3) W0.here hx (hb hby d_prog_18_5_2) rfl ?_
  refine g_ifY (pc' := 20) W0.here hx (hb hby d_prog_18_5_3) rfl (flt (show ¬ ((lcmpW r (1 : Int64)) < (0 : Int32)) from (fun z => hr ((lw_lt _ _).mp z)))).2.1 ?_
  refine w_new (pc' := 23) W0 hx (hw _ (List.mem_of_getElem? w_9)) (hw _ (List.mem_of_getElem? w_10)) (hw _ (List.mem_of_getElem? w_7)) (hb hby d_prog_18_5_20) (Nat.le_of_ble_eq_true rfl) (Nat.le_of_ble_eq_true rfl) rfl fun T7 h7 b7 g7 W7 K7 A7 D7 => ?_
  have z_K7 : h0.size ≤ h7.size := K7.1
  have lt_b7 : b7 < h7.size := W7.lt (List.mem_cons_self ..)
  have F7_kind : Fld Z h7 b7 "com/example/itihasa/itihasa/store/StreamExpectation" "kind" "Lcom/example/itihasa/itihasa/store/StreamExpectation$Kind;" .null := D7 (Or.inr (hw _ (List.mem_of_getElem? w_21))) (ty := (.object "com/example/itihasa/itihasa/store/StreamExpectation$Kind")) (by decide)
  have F7_revision : Fld Z h7 b7 "com/example/itihasa/itihasa/store/StreamExpectation" "revision" "J" (.long (0 : Int64)) := D7 (Or.inr (hw _ (List.mem_of_getElem? w_23))) (ty := .long) (by decide)
  refine g_dup (pc' := 24) W7.here hx (hb hby d_prog_18_5_23) rfl rfl ?_
  refine w_getS (pc' := 27) W7 hx (hw _ (List.mem_of_getElem? w_11)) Via.refl S_R (hb hby d_prog_18_5_24) rfl fun T8 W8 => ?_
  refine g_lloadN (pc' := 28) W8.here hx (hb hby d_prog_18_5_27) rfl rfl ?_
  refine w_special (pc' := 31) (st := [(.ref b7)]) (y := (⟨"com/example/itihasa/itihasa/store/StreamExpectation", "<init>", "(Lcom/example/itihasa/itihasa/store/StreamExpectation$Kind;J)V"⟩ : MethodName)) (a := b7) W8 hx [(.ref kR), (.long r)] rfl (hw _ (List.mem_of_getElem? w_14)) (hw _ (List.mem_of_getElem? w_15)) (hw _ (List.mem_of_getElem? w_7)) (hw _ (List.mem_of_getElem? w_16)) (by decide) (c_init l Z a0 hw hE b7 kR r h7 W8.old (by have := O.1; omega) A7 _ _ F7_kind F7_revision) (allS (List.mem_of_getElem? (i := 0) rfl) all0) (by rw [hml]; rfl) (lenOf pd_0 rfl) rfl (hb hby d_prog_18_5_28) (Nat.le_of_ble_eq_true rfl) (Nat.le_of_ble_eq_true rfl) (Nat.le_of_ble_eq_true rfl) (Nat.le_of_ble_eq_true rfl) rfl fun v9 T9 h9 W9 K9 Q9 => ?_
  have z_K9 : h7.size ≤ h9.size := K9.1
  obtain ⟨rfl, E10, F10, G10⟩ := Q9
  refine w_retA W9 hx hh hlk hret rfl rfl (hb hby d_prog_18_5_31) (Nat.le_of_ble_eq_true rfl) (Nat.le_of_ble_eq_true rfl) ?_
  exact ⟨_, rfl, by omega, E10, F10, G10⟩
set_option maxRecDepth 65536 in
set_option maxHeartbeats 40000000 in
theorem c_ord (l : Launch) (Z : State) (a0 : Array Value) (hw : ∀ d ∈ tables_1, d.before a0 Z = true) (hE : EW Z a0 ([] : List (String × Nat))) (k : Nat) (z : Int32) (h0 : Heap) (O : Ext Z.heap h0) (F1 : Fld Z h0 k "java/lang/Enum" "ordinal" "I" (.int z)) :
    Con l Z ([] : List (String × Nat)) (⟨"java/lang/Enum", "ordinal", "()I"⟩ : MethodName) jdk_37_method_2_code 1 (Option.some Jvm.ClassFile.FieldType.int) ({ frames := 0, cells := 0, slots := 0, locals := 0 } : Room) #[(.ref k)] h0 [] (pureQ (some (.int z)) h0) := by
  refine Con.of (a0 := a0) #[.val (.ref k)] (plainFor_of_name pn_1) hE O all0 (fun m => by first | (simp [entryFrame, mkF, argsToLocals, Value.category]; done) | rfl) ?_
  intro p e s m below meth c T0 hx hby hml hnm hret hlk hh W0
  refine g_aloadN (pc' := 1) W0.here hx (hb hby d_jdk_37_2_0) rfl rfl rfl ?_
  refine w_get (pc' := 4) W0 hx (hw _ (List.mem_of_getElem? w_36)) Via.refl F1 (hb hby d_jdk_37_2_1) rfl fun T11 W11 => ?_
  refine w_retI W11 hx hh hlk hret (hb hby d_jdk_37_2_4) (Nat.le_of_ble_eq_true rfl) (Nat.le_of_ble_eq_true rfl) ?_
  exact ⟨rfl, rfl⟩
set_option maxRecDepth 65536 in
set_option maxHeartbeats 40000000 in
theorem c_met (l : Launch) (Z : State) (a0 : Array Value) (hw : ∀ d ∈ tables_1, d.before a0 Z = true) (hE : EW Z a0 ([] : List (String × Nat))) (o kR : Nat) (q r : Int64) (h0 : Heap) (O : Ext Z.heap h0) (F1 : Fld Z h0 o "com/example/itihasa/itihasa/store/StreamExpectation" "kind" "Lcom/example/itihasa/itihasa/store/StreamExpectation$Kind;" (.ref kR)) (F2 : Fld Z h0 o "com/example/itihasa/itihasa/store/StreamExpectation" "revision" "J" (.long r)) (EK : Exa Z h0 kR "com/example/itihasa/itihasa/store/StreamExpectation$Kind") (FK : Fld Z h0 kR "java/lang/Enum" "ordinal" "I" (.int 3)) :
    Con l Z ([] : List (String × Nat)) (⟨"com/example/itihasa/itihasa/store/StreamExpectation", "isMetBy", "(J)Z"⟩ : MethodName) prog_18_method_6_code 3 (Option.some Jvm.ClassFile.FieldType.boolean) ({ frames := 1, cells := 0, slots := 0, locals := 12 } : Room) #[(.ref o), (.long q)] h0 [] (pureQ (some (.int (if q = r then 1 else 0))) h0) := by
  refine Con.of (a0 := a0) #[.val (.ref o), .val (.long q), .second] (plainFor_of_name pn_0) hE O all0 (fun m => by first | (simp [entryFrame, mkF, argsToLocals, Value.category]; done) | rfl) ?_
  intro p e s m below meth c T0 hx hby hml hnm hret hlk hh W0
  refine g_aloadN (pc' := 1) W0.here hx (hb hby d_prog_18_6_0) rfl rfl rfl ?_
  refine w_get (pc' := 4) W0 hx (hw _ (List.mem_of_getElem? w_20)) Via.refl F1 (hb hby d_prog_18_6_1) rfl fun T12 W12 => ?_
  refine w_virtualUpp (pc' := 7) (st := []) (y := (⟨"com/example/itihasa/itihasa/store/StreamExpectation$Kind", "ordinal", "()I"⟩ : MethodName)) (z := (⟨"java/lang/Enum", "ordinal", "()I"⟩ : MethodName)) (owner := "java/lang/Enum") (a := kR) W12 hx [] (hw _ (List.mem_of_getElem? w_29)) (hw _ (List.mem_of_getElem? w_30)) (hw _ (List.mem_of_getElem? w_31)) (hw _ (List.mem_of_getElem? w_33)) (hw _ (List.mem_of_getElem? w_32)) (hw _ (List.mem_of_getElem? w_34)) (hw _ (List.mem_of_getElem? w_35)) (by decide) (c_ord l Z a0 hw hE kR (3 : Int32) h0 W12.old FK) EK (by rw [hml]; rfl) (lenOf pd_1 rfl) rfl (hb hby d_prog_18_6_4) (Nat.le_of_ble_eq_true rfl) (Nat.le_of_ble_eq_true rfl) rfl rfl (Nat.le_of_ble_eq_true rfl) (Nat.le_of_ble_eq_true rfl) rfl fun T13 W13 => ?_
  refine g_tsw (pc' := 78) W13.here hx (hb hby d_prog_18_6_7) (by decide) (by rfl) rfl ?_
  refine g_lloadN (pc' := 79) W13.here hx (hb hby d_prog_18_6_78) rfl rfl ?_
  refine g_aloadN (pc' := 80) W13.here hx (hb hby d_prog_18_6_79) rfl rfl rfl ?_
  refine w_get (pc' := 83) W13 hx (hw _ (List.mem_of_getElem? w_22)) Via.refl F2 (hb hby d_prog_18_6_80) rfl fun T14 W14 => ?_
  refine g_lcmp (pc' := 84) W14.here hx (hb hby d_prog_18_6_83) rfl ?_
  by_cases hc84_15 : (lcmpW q r) = (0 : Int32)
  · refine g_ifN (pc' := 87) W14.here hx (hb hby d_prog_18_6_84) rfl (teq hc84_15).2 ?_
    refine g_iconst (1 : Int32) (pc' := 88) W14.here hx (hb hby d_prog_18_6_87) rfl rfl ?_
    refine g_goto (pc' := 92) W14.here hx (hb hby d_prog_18_6_88) rfl ?_
    refine w_retN (t := .boolean) W14 hx hh hlk hret (by simp) (hb hby d_prog_18_6_92) (Nat.le_of_ble_eq_true rfl) (Nat.le_of_ble_eq_true rfl) ?_
    have q1 : q = r := (lw_eq _ _).mp hc84_15
    exact ⟨by rw [if_pos q1]; rfl, rfl⟩
  · refine g_ifY (pc' := 91) W14.here hx (hb hby d_prog_18_6_84) rfl (feq hc84_15).2 ?_
    refine g_iconst (0 : Int32) (pc' := 92) W14.here hx (hb hby d_prog_18_6_91) rfl rfl ?_
    refine w_retN (t := .boolean) W14 hx hh hlk hret (by simp) (hb hby d_prog_18_6_92) (Nat.le_of_ble_eq_true rfl) (Nat.le_of_ble_eq_true rfl) ?_
    have q1 : ¬ q = r := fun z => hc84_15 ((lw_eq _ _).mpr z)
    exact ⟨by rw [if_neg q1]; rfl, rfl⟩
set_option maxRecDepth 65536 in
set_option maxHeartbeats 40000000 in
theorem c_eqS (l : Launch) (Z : State) (a0 : Array Value) (hw : ∀ d ∈ tables_1, d.before a0 Z = true) (hE : EW Z a0 ([] : List (String × Nat))) (o o2 k1 : Nat) (r1 r2 : Int64) (h0 : Heap) (O : Ext Z.heap h0) (E2 : Exa Z h0 o2 "com/example/itihasa/itihasa/store/StreamExpectation") (F1 : Fld Z h0 o "com/example/itihasa/itihasa/store/StreamExpectation" "kind" "Lcom/example/itihasa/itihasa/store/StreamExpectation$Kind;" (.ref k1)) (F2 : Fld Z h0 o "com/example/itihasa/itihasa/store/StreamExpectation" "revision" "J" (.long r1)) (F3 : Fld Z h0 o2 "com/example/itihasa/itihasa/store/StreamExpectation" "kind" "Lcom/example/itihasa/itihasa/store/StreamExpectation$Kind;" (.ref k1)) (F4 : Fld Z h0 o2 "com/example/itihasa/itihasa/store/StreamExpectation" "revision" "J" (.long r2)) :
    Con l Z ([] : List (String × Nat)) (⟨"com/example/itihasa/itihasa/store/StreamExpectation", "equals", "(Ljava/lang/Object;)Z"⟩ : MethodName) prog_18_method_7_code 3 (Option.some Jvm.ClassFile.FieldType.boolean) ({ frames := 0, cells := 0, slots := 0, locals := 0 } : Room) #[(.ref o), (.ref o2)] h0 [] (pureQ (some (.int (if r1 = r2 then 1 else 0))) h0) := by
  refine Con.of (a0 := a0) #[.val (.ref o), .val (.ref o2), .unset] (plainFor_of_name pn_0) hE O all0 (fun m => by first | (simp [entryFrame, mkF, argsToLocals, Value.category]; done) | rfl) ?_
  intro p e s m below meth c T0 hx hby hml hnm hret hlk hh W0
  refine g_aloadN (pc' := 1) W0.here hx (hb hby d_prog_18_7_0) rfl rfl rfl ?_
  refine w_inst (pc' := 4) W0 hx (hw _ (List.mem_of_getElem? w_9)) (Ins.self E2) (hb hby d_prog_18_7_1) rfl fun T16 W16 => ?_
  refine g_ifN (pc' := 7) W16.here hx (hb hby d_prog_18_7_4) rfl (feq (show ¬ ((1 : Int32) = (0 : Int32)) from (by decide))).1 ?_
  refine g_aloadN (pc' := 8) W16.here hx (hb hby d_prog_18_7_7) rfl rfl rfl ?_
  refine w_cast (pc' := 11) W16 hx (hw _ (List.mem_of_getElem? w_9)) (Ins.self E2) (hb hby d_prog_18_7_8) rfl fun T17 W17 => ?_
  refine g_astoreN (pc' := 12) (Ls' := #[.val (.ref o), .val (.ref o2), .val (.ref o2)]) W17.here hx (hb hby d_prog_18_7_11) rfl rfl rfl ?_
  refine g_aloadN (pc' := 13) W17.here hx (hb hby d_prog_18_7_12) rfl rfl rfl ?_
  refine w_get (pc' := 16) W17 hx (hw _ (List.mem_of_getElem? w_20)) Via.refl F1 (hb hby d_prog_18_7_13) rfl fun T18 W18 => ?_
  refine g_aloadN (pc' := 17) W18.here hx (hb hby d_prog_18_7_16) rfl rfl rfl ?_
  refine w_get (pc' := 20) W18 hx (hw _ (List.mem_of_getElem? w_20)) Via.refl F3 (hb hby d_prog_18_7_17) rfl fun T19 W19 => ?_
  refine w_acmp (pc' := 23) W19 hx rfl rfl true (hb hby d_prog_18_7_20) (decide_eq_true rfl) (by decide) (by decide) ?_
  refine g_aloadN (pc' := 24) W19.here hx (hb hby d_prog_18_7_23) rfl rfl rfl ?_
  refine w_get (pc' := 27) W19 hx (hw _ (List.mem_of_getElem? w_22)) Via.refl F2 (hb hby d_prog_18_7_24) rfl fun T20 W20 => ?_
  refine g_aloadN (pc' := 28) W20.here hx (hb hby d_prog_18_7_27) rfl rfl rfl ?_
  refine w_get (pc' := 31) W20 hx (hw _ (List.mem_of_getElem? w_22)) Via.refl F4 (hb hby d_prog_18_7_28) rfl fun T21 W21 => ?_
  refine g_lcmp (pc' := 32) W21.here hx (hb hby d_prog_18_7_31) rfl ?_
  by_cases hc32_22 : (lcmpW r1 r2) = (0 : Int32)
  · refine g_ifN (pc' := 35) W21.here hx (hb hby d_prog_18_7_32) rfl (teq hc32_22).2 ?_
    refine g_iconst (1 : Int32) (pc' := 36) W21.here hx (hb hby d_prog_18_7_35) rfl rfl ?_
    refine g_goto (pc' := 40) W21.here hx (hb hby d_prog_18_7_36) rfl ?_
    refine w_retN (t := .boolean) W21 hx hh hlk hret (by simp) (hb hby d_prog_18_7_40) (Nat.le_of_ble_eq_true rfl) (Nat.le_of_ble_eq_true rfl) ?_
    have q1 : r1 = r2 := (lw_eq _ _).mp hc32_22
    exact ⟨by rw [if_pos q1]; rfl, rfl⟩
  · refine g_ifY (pc' := 39) W21.here hx (hb hby d_prog_18_7_32) rfl (feq hc32_22).2 ?_
    refine g_iconst (0 : Int32) (pc' := 40) W21.here hx (hb hby d_prog_18_7_39) rfl rfl ?_
    refine w_retN (t := .boolean) W21 hx hh hlk hret (by simp) (hb hby d_prog_18_7_40) (Nat.le_of_ble_eq_true rfl) (Nat.le_of_ble_eq_true rfl) ?_
    have q1 : ¬ r1 = r2 := fun z => hc32_22 ((lw_eq _ _).mpr z)
    exact ⟨by rw [if_neg q1]; rfl, rfl⟩
set_option maxRecDepth 65536 in
set_option maxHeartbeats 40000000 in
theorem c_eqD (l : Launch) (Z : State) (a0 : Array Value) (hw : ∀ d ∈ tables_1, d.before a0 Z = true) (hE : EW Z a0 ([] : List (String × Nat))) (o o2 k1 k2 : Nat) (h0 : Heap) (O : Ext Z.heap h0) (E2 : Exa Z h0 o2 "com/example/itihasa/itihasa/store/StreamExpectation") (F1 : Fld Z h0 o "com/example/itihasa/itihasa/store/StreamExpectation" "kind" "Lcom/example/itihasa/itihasa/store/StreamExpectation$Kind;" (.ref k1)) (F3 : Fld Z h0 o2 "com/example/itihasa/itihasa/store/StreamExpectation" "kind" "Lcom/example/itihasa/itihasa/store/StreamExpectation$Kind;" (.ref k2)) (hk : k1 ≠ k2) :
    Con l Z ([] : List (String × Nat)) (⟨"com/example/itihasa/itihasa/store/StreamExpectation", "equals", "(Ljava/lang/Object;)Z"⟩ : MethodName) prog_18_method_7_code 3 (Option.some Jvm.ClassFile.FieldType.boolean) ({ frames := 0, cells := 0, slots := 0, locals := 0 } : Room) #[(.ref o), (.ref o2)] h0 [] (pureQ (some (.int 0)) h0) := by
  refine Con.of (a0 := a0) #[.val (.ref o), .val (.ref o2), .unset] (plainFor_of_name pn_0) hE O all0 (fun m => by first | (simp [entryFrame, mkF, argsToLocals, Value.category]; done) | rfl) ?_
  intro p e s m below meth c T0 hx hby hml hnm hret hlk hh W0
  refine g_aloadN (pc' := 1) W0.here hx (hb hby d_prog_18_7_0) rfl rfl rfl ?_
  refine w_inst (pc' := 4) W0 hx (hw _ (List.mem_of_getElem? w_9)) (Ins.self E2) (hb hby d_prog_18_7_1) rfl fun T23 W23 => ?_
  refine g_ifN (pc' := 7) W23.here hx (hb hby d_prog_18_7_4) rfl (feq (show ¬ ((1 : Int32) = (0 : Int32)) from (by decide))).1 ?_
  refine g_aloadN (pc' := 8) W23.here hx (hb hby d_prog_18_7_7) rfl rfl rfl ?_
  refine w_cast (pc' := 11) W23 hx (hw _ (List.mem_of_getElem? w_9)) (Ins.self E2) (hb hby d_prog_18_7_8) rfl fun T24 W24 => ?_
  refine g_astoreN (pc' := 12) (Ls' := #[.val (.ref o), .val (.ref o2), .val (.ref o2)]) W24.here hx (hb hby d_prog_18_7_11) rfl rfl rfl ?_
  refine g_aloadN (pc' := 13) W24.here hx (hb hby d_prog_18_7_12) rfl rfl rfl ?_
  refine w_get (pc' := 16) W24 hx (hw _ (List.mem_of_getElem? w_20)) Via.refl F1 (hb hby d_prog_18_7_13) rfl fun T25 W25 => ?_
  refine g_aloadN (pc' := 17) W25.here hx (hb hby d_prog_18_7_16) rfl rfl rfl ?_
  refine w_get (pc' := 20) W25 hx (hw _ (List.mem_of_getElem? w_20)) Via.refl F3 (hb hby d_prog_18_7_17) rfl fun T26 W26 => ?_
  refine w_acmp (pc' := 39) W26 hx rfl rfl false (hb hby d_prog_18_7_20) (decide_eq_false fun q => hk (Value.ref.inj q)) (by decide) (by decide) ?_
  refine g_iconst (0 : Int32) (pc' := 40) W26.here hx (hb hby d_prog_18_7_39) rfl rfl ?_
  refine w_retN (t := .boolean) W26 hx hh hlk hret (by simp) (hb hby d_prog_18_7_40) (Nat.le_of_ble_eq_true rfl) (Nat.le_of_ble_eq_true rfl) ?_
  exact ⟨rfl, rfl⟩
set_option maxRecDepth 65536 in
set_option maxHeartbeats 40000000 in
theorem c_noStream (l : Launch) (Z : State) (a0 : Array Value) (hw : ∀ d ∈ tables_1, d.before a0 Z = true) (hE : EW Z a0 ([] : List (String × Nat))) (sN : Nat) (h0 : Heap) (O : Ext Z.heap h0) (S_N : Sta Z Z.heap "com/example/itihasa/itihasa/store/StreamExpectation" "NO_STREAM" "Lcom/example/itihasa/itihasa/store/StreamExpectation;" (.ref sN)) :
    Con l Z ([] : List (String × Nat)) (⟨"com/example/itihasa/itihasa/store/StreamExpectation", "noStream", "()Lcom/example/itihasa/itihasa/store/StreamExpectation;"⟩ : MethodName) prog_18_method_3_code 0 (Option.some (Jvm.ClassFile.FieldType.object "com/example/itihasa/itihasa/store/StreamExpectation")) ({ frames := 0, cells := 0, slots := 0, locals := 0 } : Room) #[] h0 [] (pureQ (some (.ref sN)) h0) := by
  refine Con.of (a0 := a0) #[] (plainFor_of_name pn_0) hE O all0 (fun m => by first | (simp [entryFrame, mkF, argsToLocals, Value.category]; done) | rfl) ?_
  intro p e s m below meth c T0 hx hby hml hnm hret hlk hh W0
  refine w_getS (pc' := 3) W0 hx (hw _ (List.mem_of_getElem? w_47)) Via.refl S_N (hb hby d_prog_18_3_0) rfl fun T27 W27 => ?_
  refine w_retA W27 hx hh hlk hret rfl rfl (hb hby d_prog_18_3_3) (Nat.le_of_ble_eq_true rfl) (Nat.le_of_ble_eq_true rfl) ?_
  exact ⟨rfl, rfl⟩
set_option maxRecDepth 65536 in
set_option maxHeartbeats 40000000 in
theorem c_streamExists (l : Launch) (Z : State) (a0 : Array Value) (hw : ∀ d ∈ tables_1, d.before a0 Z = true) (hE : EW Z a0 ([] : List (String × Nat))) (sE : Nat) (h0 : Heap) (O : Ext Z.heap h0) (S_E : Sta Z Z.heap "com/example/itihasa/itihasa/store/StreamExpectation" "STREAM_EXISTS" "Lcom/example/itihasa/itihasa/store/StreamExpectation;" (.ref sE)) :
    Con l Z ([] : List (String × Nat)) (⟨"com/example/itihasa/itihasa/store/StreamExpectation", "streamExists", "()Lcom/example/itihasa/itihasa/store/StreamExpectation;"⟩ : MethodName) prog_18_method_4_code 0 (Option.some (Jvm.ClassFile.FieldType.object "com/example/itihasa/itihasa/store/StreamExpectation")) ({ frames := 0, cells := 0, slots := 0, locals := 0 } : Room) #[] h0 [] (pureQ (some (.ref sE)) h0) := by
  refine Con.of (a0 := a0) #[] (plainFor_of_name pn_0) hE O all0 (fun m => by first | (simp [entryFrame, mkF, argsToLocals, Value.category]; done) | rfl) ?_
  intro p e s m below meth c T0 hx hby hml hnm hret hlk hh W0
  refine w_getS (pc' := 3) W0 hx (hw _ (List.mem_of_getElem? w_53)) Via.refl S_E (hb hby d_prog_18_4_0) rfl fun T28 W28 => ?_
  refine w_retA W28 hx hh hlk hret rfl rfl (hb hby d_prog_18_4_3) (Nat.le_of_ble_eq_true rfl) (Nat.le_of_ble_eq_true rfl) ?_
  exact ⟨rfl, rfl⟩
set_option maxRecDepth 65536 in
set_option maxHeartbeats 40000000 in
theorem c_any (l : Launch) (Z : State) (a0 : Array Value) (hw : ∀ d ∈ tables_1, d.before a0 Z = true) (hE : EW Z a0 ([] : List (String × Nat))) (sA : Nat) (h0 : Heap) (O : Ext Z.heap h0) (S_A : Sta Z Z.heap "com/example/itihasa/itihasa/store/StreamExpectation" "ANY" "Lcom/example/itihasa/itihasa/store/StreamExpectation;" (.ref sA)) :
    Con l Z ([] : List (String × Nat)) (⟨"com/example/itihasa/itihasa/store/StreamExpectation", "any", "()Lcom/example/itihasa/itihasa/store/StreamExpectation;"⟩ : MethodName) prog_18_method_2_code 0 (Option.some (Jvm.ClassFile.FieldType.object "com/example/itihasa/itihasa/store/StreamExpectation")) ({ frames := 0, cells := 0, slots := 0, locals := 0 } : Room) #[] h0 [] (pureQ (some (.ref sA)) h0) := by
  refine Con.of (a0 := a0) #[] (plainFor_of_name pn_0) hE O all0 (fun m => by first | (simp [entryFrame, mkF, argsToLocals, Value.category]; done) | rfl) ?_
  intro p e s m below meth c T0 hx hby hml hnm hret hlk hh W0
  refine w_getS (pc' := 3) W0 hx (hw _ (List.mem_of_getElem? w_59)) Via.refl S_A (hb hby d_prog_18_2_0) rfl fun T29 W29 => ?_
  refine w_retA W29 hx hh hlk hret rfl rfl (hb hby d_prog_18_2_3) (Nat.le_of_ble_eq_true rfl) (Nat.le_of_ble_eq_true rfl) ?_
  exact ⟨rfl, rfl⟩
theorem own_max_pos (z : Int64) : ¬ maxL 1 z < 1 := by
  unfold maxL
  split <;> simp_all [Int64.lt_iff_toInt_lt] <;> omega
set_option maxRecDepth 65536 in
set_option maxHeartbeats 40000000 in
theorem c_law (l : Launch) (Z : State) (a0 : Array Value) (hw : ∀ d ∈ tables_1, d.before a0 Z = true) (hE : EW Z a0 ([] : List (String × Nat))) (qa qb qc : Int64) (mode : Int32) (kR sN sE sA kN kE kA : Nat) (h0 : Heap) (O : Ext Z.heap h0) (S_R : Sta Z Z.heap "com/example/itihasa/itihasa/store/StreamExpectation$Kind" "REVISION" "Lcom/example/itihasa/itihasa/store/StreamExpectation$Kind;" (.ref kR)) (EKR : Exa Z Z.heap kR "com/example/itihasa/itihasa/store/StreamExpectation$Kind") (FKR : Fld Z Z.heap kR "java/lang/Enum" "ordinal" "I" (.int 3)) (S_N : Sta Z Z.heap "com/example/itihasa/itihasa/store/StreamExpectation" "NO_STREAM" "Lcom/example/itihasa/itihasa/store/StreamExpectation;" (.ref sN)) (S_E : Sta Z Z.heap "com/example/itihasa/itihasa/store/StreamExpectation" "STREAM_EXISTS" "Lcom/example/itihasa/itihasa/store/StreamExpectation;" (.ref sE)) (S_A : Sta Z Z.heap "com/example/itihasa/itihasa/store/StreamExpectation" "ANY" "Lcom/example/itihasa/itihasa/store/StreamExpectation;" (.ref sA)) (EN : Exa Z Z.heap sN "com/example/itihasa/itihasa/store/StreamExpectation") (FKN : Fld Z Z.heap sN "com/example/itihasa/itihasa/store/StreamExpectation" "kind" "Lcom/example/itihasa/itihasa/store/StreamExpectation$Kind;" (.ref kN)) (neN : kR ≠ kN) (EE : Exa Z Z.heap sE "com/example/itihasa/itihasa/store/StreamExpectation") (FKE : Fld Z Z.heap sE "com/example/itihasa/itihasa/store/StreamExpectation" "kind" "Lcom/example/itihasa/itihasa/store/StreamExpectation$Kind;" (.ref kE)) (neE : kR ≠ kE) (EA : Exa Z Z.heap sA "com/example/itihasa/itihasa/store/StreamExpectation") (FKA : Fld Z Z.heap sA "com/example/itihasa/itihasa/store/StreamExpectation" "kind" "Lcom/example/itihasa/itihasa/store/StreamExpectation$Kind;" (.ref kA)) (neA : kR ≠ kA)  :
    ConL tables_1 l Z ([] : List (String × Nat)) x code maxLocals ret room_1 #[(.long qa), (.long qb), (.long qc), (.int mode)] h0 [] (fun v _ => v = some (.int 1)) := by
  refine Con.of (a0 := a0) #[.val (.long qa), .second, .val (.long qb), .second, .val (.long qc), .second, .val (.int mode), .unset, .unset, .unset, .unset, .unset, .unset, .unset, .unset, .unset, .unset] (plainFor_of_name pn_2) hE O all0 (fun m => by first | (simp [entryFrame, mkF, argsToLocals, Value.category, maxLocals]; done) | rfl) ?_
  intro p e s m below meth c T0 hx hby hml hnm hret hlk hh W0
  refine g_lconst (1 : Int64) (pc' := 1) W0.here hx (hb hby at_0) rfl rfl ?_
  refine g_lloadN (pc' := 2) W0.here hx (hb hby at_1) rfl rfl ?_
  refine w_ldc2J (pc' := 5) W0 hx (hw _ (List.mem_of_getElem? w_0)) (hb hby at_2) rfl ?_
  refine g_land (pc' := 6) W0.here hx (hb hby at_5) rfl ?_
  refine w_callSp (pc' := 9) (st := []) (y := (⟨"java/lang/Math", "max", "(JJ)J"⟩ : MethodName)) W0 hx [(.long (1 : Int64)), (.long (qa &&& (9223372036854775807 : Int64)))] (hw _ (List.mem_of_getElem? w_1)) (hw _ (List.mem_of_getElem? w_2)) (hw _ (List.mem_of_getElem? w_3)) (hw _ (List.mem_of_getElem? w_4)) (by decide) (c_max l Z a0 hw hE (1 : Int64) (qa &&& (9223372036854775807 : Int64)) h0 W0.old) (by rw [hml]; rfl) (lenOf pd_2 rfl) rfl (hb hby at_6) (Nat.le_of_ble_eq_true rfl) (Nat.le_of_ble_eq_true rfl) rfl rfl (Nat.le_of_ble_eq_true rfl) (Nat.le_of_ble_eq_true rfl) rfl fun T30 W30 => ?_
  obtain ⟨r, hr⟩ : ∃ z : Int64, z = (maxL (1 : Int64) (qa &&& (9223372036854775807 : Int64))) := ⟨_, rfl⟩
  refine g_name (congrArg Value.long hr) ?_
  have pr : ¬ r < 1 := by rw [hr]; exact own_max_pos _
  refine g_lstore (pc' := 11) (Ls' := #[.val (.long qa), .second, .val (.long qb), .second, .val (.long qc), .second, .val (.int mode), .val (.long r), .second, .unset, .unset, .unset, .unset, .unset, .unset, .unset, .unset]) W30.here hx (hb hby at_9) rfl rfl ?_
  refine g_iload (pc' := 13) W30.here hx (hb hby at_11) rfl rfl ?_
  refine g_iconst (3 : Int32) (pc' := 14) W30.here hx (hb hby at_13) rfl rfl ?_
  refine g_iand (pc' := 15) W30.here hx (hb hby at_14) rfl ?_
  obtain ⟨md, hmd⟩ : ∃ z : Int32, z = (mode &&& (3 : Int32)) := ⟨_, rfl⟩
  refine g_name (congrArg Value.int hmd) ?_
  refine g_istore (pc' := 17) (Ls' := #[.val (.long qa), .second, .val (.long qb), .second, .val (.long qc), .second, .val (.int mode), .val (.long r), .second, .val (.int md), .unset, .unset, .unset, .unset, .unset, .unset, .unset]) W30.here hx (hb hby at_15) rfl rfl ?_
  have J62 : ∀ s5 : Int64, Gets p.tables e below (Post s Z ([] : List (String × Nat)) room_1 h0 [] (fun v _ => v = some (.int 1))) T30 (mkF m 62 #[.val (.long qa), .second, .val (.long qb), .second, .val (.long qc), .second, .val (.int mode), .val (.long r), .second, .val (.int md), .val (.long s5), .second, .unset, .unset, .unset, .unset, .unset] []) := by
    intro s5
    have J90 : ∀ r2 : Int64, ¬ r2 < 1 → ∀ T31 : State, Wk p l e room_1 s m #[(.long qa), (.long qb), (.long qc), (.int mode)] below meth c Z ([] : List (String × Nat)) "com/example/itihasa/itihasa/store/StreamExpectationRevisionPinLaw" [] [] T31 h0 0 0 → Gets p.tables e below (Post s Z ([] : List (String × Nat)) room_1 h0 [] (fun v _ => v = some (.int 1))) T31 (mkF m 90 #[.val (.long qa), .second, .val (.long qb), .second, .val (.long qc), .second, .val (.int mode), .val (.long r), .second, .val (.int md), .val (.long s5), .second, .val (.long r2), .second, .unset, .unset, .unset] []) := by
      intro r2 pr2 T31 W31
      refine g_lload (pc' := 92) W31.here hx (hb hby at_90) rfl rfl ?_
      refine w_callS (pc' := 95) (st := []) (y := (⟨"com/example/itihasa/itihasa/store/StreamExpectation", "revision", "(J)Lcom/example/itihasa/itihasa/store/StreamExpectation;"⟩ : MethodName)) W31 hx [(.long r)] (hw _ (List.mem_of_getElem? w_5)) (hw _ (List.mem_of_getElem? w_6)) (hw _ (List.mem_of_getElem? w_7)) (hw _ (List.mem_of_getElem? w_8)) (by decide) (c_rev l Z a0 hw hE r kR h0 W31.old pr S_R) all0 (by rw [hml]; rfl) (lenOf pd_3 rfl) rfl (hb hby at_92) (Nat.le_of_ble_eq_true rfl) (Nat.le_of_ble_eq_true rfl) (Nat.le_of_ble_eq_true rfl) (Nat.le_of_ble_eq_true rfl) rfl fun v32 T32 h32 W32 K32 Q32 => ?_
      have z_K32 : h0.size ≤ h32.size := K32.1
      obtain ⟨o33, rfl, gz33, E33, F33, G33⟩ := Q32
      have lt_o33 : o33 < h32.size := E33.lt
      refine g_astore (pc' := 97) (Ls' := #[.val (.long qa), .second, .val (.long qb), .second, .val (.long qc), .second, .val (.int mode), .val (.long r), .second, .val (.int md), .val (.long s5), .second, .val (.long r2), .second, .val (.ref o33), .unset, .unset]) W32.here hx (hb hby at_95) rfl rfl rfl ?_
      refine g_lload (pc' := 99) W32.here hx (hb hby at_97) rfl rfl ?_
      refine w_callS (pc' := 102) (st := []) (y := (⟨"com/example/itihasa/itihasa/store/StreamExpectation", "revision", "(J)Lcom/example/itihasa/itihasa/store/StreamExpectation;"⟩ : MethodName)) W32 hx [(.long r2)] (hw _ (List.mem_of_getElem? w_5)) (hw _ (List.mem_of_getElem? w_6)) (hw _ (List.mem_of_getElem? w_7)) (hw _ (List.mem_of_getElem? w_8)) (by decide) (c_rev l Z a0 hw hE r2 kR h32 W32.old pr2 S_R) all0 (by rw [hml]; rfl) (lenOf pd_3 rfl) rfl (hb hby at_99) (Nat.le_of_ble_eq_true rfl) (Nat.le_of_ble_eq_true rfl) (Nat.le_of_ble_eq_true rfl) (Nat.le_of_ble_eq_true rfl) rfl fun v34 T34 h34 W34 K34 Q34 => ?_
      have z_K34 : h32.size ≤ h34.size := K34.1
      obtain ⟨o35, rfl, gz35, E35, F35, G35⟩ := Q34
      have ne_o33_o35 : o33 ≠ o35 := by omega
      have lt_o35 : o35 < h34.size := E35.lt
      refine g_astore (pc' := 104) (Ls' := #[.val (.long qa), .second, .val (.long qb), .second, .val (.long qc), .second, .val (.int mode), .val (.long r), .second, .val (.int md), .val (.long s5), .second, .val (.long r2), .second, .val (.ref o33), .val (.ref o35), .unset]) W34.here hx (hb hby at_102) rfl rfl rfl ?_
      refine g_aload (pc' := 106) W34.here hx (hb hby at_104) rfl rfl rfl ?_
      refine g_lload (pc' := 108) W34.here hx (hb hby at_106) rfl rfl ?_
      have c36 := (F33.keep K34 nin0)
      have c37 := (G33.keep K34 nin0)
      have c39 := (E33.keep K34)
      refine w_virtualp (pc' := 111) (st := []) (y := (⟨"com/example/itihasa/itihasa/store/StreamExpectation", "isMetBy", "(J)Z"⟩ : MethodName)) (z := (⟨"com/example/itihasa/itihasa/store/StreamExpectation", "isMetBy", "(J)Z"⟩ : MethodName)) (a := o33) W34 hx [(.long s5)] (hw _ (List.mem_of_getElem? w_24)) (hw _ (List.mem_of_getElem? w_25)) (nfS (z := (⟨"com/example/itihasa/itihasa/store/StreamExpectation", "isMetBy", "(J)Z"⟩ : MethodName)) (hw _ (List.mem_of_getElem? w_27))) (hw _ (List.mem_of_getElem? w_27)) (hw _ (List.mem_of_getElem? w_26)) (hw _ (List.mem_of_getElem? w_7)) (hw _ (List.mem_of_getElem? w_28)) (by decide) (c_met l Z a0 hw hE o33 kR s5 r h34 W34.old c36 c37 (Exa.ext W34.old EKR) (Fld.ext W34.old FKR)) c39 (by rw [hml]; rfl) (lenOf pd_4 rfl) rfl (hb hby at_108) (Nat.le_of_ble_eq_true rfl) (Nat.le_of_ble_eq_true rfl) rfl rfl (Nat.le_of_ble_eq_true rfl) (Nat.le_of_ble_eq_true rfl) rfl fun T38 W38 => ?_
      refine g_lload (pc' := 113) W38.here hx (hb hby at_111) rfl rfl ?_
      refine g_lload (pc' := 115) W38.here hx (hb hby at_113) rfl rfl ?_
      refine g_lcmp (pc' := 116) W38.here hx (hb hby at_115) rfl ?_
      by_cases hc116_40 : (lcmpW s5 r) = (0 : Int32)
      · refine g_ifN (pc' := 119) W38.here hx (hb hby at_116) rfl (teq hc116_40).2 ?_
        have qe : s5 = r := (lw_eq _ _).mp hc116_40
        refine g_iconst (1 : Int32) (pc' := 120) W38.here hx (hb hby at_119) rfl rfl ?_
        refine g_goto (pc' := 124) W38.here hx (hb hby at_120) rfl ?_
        refine g_icmpN (pc' := 127) W38.here hx (hb hby at_124) rfl (teq (show (if s5 = r then 1 else 0) = (1 : Int32) from (by simp [qe]))).2 ?_
        refine g_iconst (1 : Int32) (pc' := 128) W38.here hx (hb hby at_127) rfl rfl ?_
        refine g_goto (pc' := 132) W38.here hx (hb hby at_128) rfl ?_
        refine g_istore (pc' := 134) (Ls' := #[.val (.long qa), .second, .val (.long qb), .second, .val (.long qc), .second, .val (.int mode), .val (.long r), .second, .val (.int md), .val (.long s5), .second, .val (.long r2), .second, .val (.ref o33), .val (.ref o35), .val (.int (1 : Int32))]) W38.here hx (hb hby at_132) rfl rfl ?_
        refine g_iload (pc' := 136) W38.here hx (hb hby at_134) rfl rfl ?_
        refine g_ifN (pc' := 139) W38.here hx (hb hby at_136) rfl (feq (show ¬ ((1 : Int32) = (0 : Int32)) from (by decide))).1 ?_
        refine g_aload (pc' := 141) W38.here hx (hb hby at_139) rfl rfl rfl ?_
        refine g_aload (pc' := 143) W38.here hx (hb hby at_141) rfl rfl rfl ?_
        refine w_virtualp (pc' := 146) (st := []) (y := (⟨"com/example/itihasa/itihasa/store/StreamExpectation", "equals", "(Ljava/lang/Object;)Z"⟩ : MethodName)) (z := (⟨"com/example/itihasa/itihasa/store/StreamExpectation", "equals", "(Ljava/lang/Object;)Z"⟩ : MethodName)) (a := o33) W38 hx [(.ref o35)] (hw _ (List.mem_of_getElem? w_38)) (hw _ (List.mem_of_getElem? w_39)) (nfS (z := (⟨"com/example/itihasa/itihasa/store/StreamExpectation", "equals", "(Ljava/lang/Object;)Z"⟩ : MethodName)) (hw _ (List.mem_of_getElem? w_41))) (hw _ (List.mem_of_getElem? w_41)) (hw _ (List.mem_of_getElem? w_40)) (hw _ (List.mem_of_getElem? w_7)) (hw _ (List.mem_of_getElem? w_42)) (by decide) (c_eqS l Z a0 hw hE o33 o35 kR r r2 h34 W38.old E35 c36 c37 F35 G35) c39 (by rw [hml]; rfl) (lenOf pd_5 rfl) rfl (hb hby at_143) (Nat.le_of_ble_eq_true rfl) (Nat.le_of_ble_eq_true rfl) rfl rfl (Nat.le_of_ble_eq_true rfl) (Nat.le_of_ble_eq_true rfl) rfl fun T41 W41 => ?_
        refine g_lload (pc' := 148) W41.here hx (hb hby at_146) rfl rfl ?_
        refine g_lload (pc' := 150) W41.here hx (hb hby at_148) rfl rfl ?_
        refine g_lcmp (pc' := 151) W41.here hx (hb hby at_150) rfl ?_
        by_cases hc151_42 : (lcmpW r r2) = (0 : Int32)
        · refine g_ifN (pc' := 154) W41.here hx (hb hby at_151) rfl (teq hc151_42).2 ?_
          have qe : r = r2 := (lw_eq _ _).mp hc151_42
          refine g_iconst (1 : Int32) (pc' := 155) W41.here hx (hb hby at_154) rfl rfl ?_
          refine g_goto (pc' := 159) W41.here hx (hb hby at_155) rfl ?_
          refine g_icmpN (pc' := 162) W41.here hx (hb hby at_159) rfl (teq (show (if r = r2 then (1 : Int32) else 0) = (1 : Int32) from (by simp [qe]))).2 ?_
          refine g_iconst (1 : Int32) (pc' := 163) W41.here hx (hb hby at_162) rfl rfl ?_
          refine g_goto (pc' := 167) W41.here hx (hb hby at_163) rfl ?_
          refine g_istore (pc' := 169) (Ls' := #[.val (.long qa), .second, .val (.long qb), .second, .val (.long qc), .second, .val (.int mode), .val (.long r), .second, .val (.int md), .val (.long s5), .second, .val (.long r2), .second, .val (.ref o33), .val (.ref o35), .val (.int (1 : Int32))]) W41.here hx (hb hby at_167) rfl rfl ?_
          refine g_iload (pc' := 171) W41.here hx (hb hby at_169) rfl rfl ?_
          refine g_ifN (pc' := 174) W41.here hx (hb hby at_171) rfl (feq (show ¬ ((1 : Int32) = (0 : Int32)) from (by decide))).1 ?_
          refine g_aload (pc' := 176) W41.here hx (hb hby at_174) rfl rfl rfl ?_
          refine w_callSp (pc' := 179) (st := [(.ref o33)]) (y := (⟨"com/example/itihasa/itihasa/store/StreamExpectation", "noStream", "()Lcom/example/itihasa/itihasa/store/StreamExpectation;"⟩ : MethodName)) W41 hx [] (hw _ (List.mem_of_getElem? w_44)) (hw _ (List.mem_of_getElem? w_45)) (hw _ (List.mem_of_getElem? w_7)) (hw _ (List.mem_of_getElem? w_46)) (by decide) (c_noStream l Z a0 hw hE sN h34 W41.old S_N) (by rw [hml]; rfl) (lenOf pd_6 rfl) rfl (hb hby at_176) (Nat.le_of_ble_eq_true rfl) (Nat.le_of_ble_eq_true rfl) rfl rfl (Nat.le_of_ble_eq_true rfl) (Nat.le_of_ble_eq_true rfl) rfl fun T43 W43 => ?_
          refine w_virtualp (pc' := 182) (st := []) (y := (⟨"com/example/itihasa/itihasa/store/StreamExpectation", "equals", "(Ljava/lang/Object;)Z"⟩ : MethodName)) (z := (⟨"com/example/itihasa/itihasa/store/StreamExpectation", "equals", "(Ljava/lang/Object;)Z"⟩ : MethodName)) (a := o33) W43 hx [(.ref sN)] (hw _ (List.mem_of_getElem? w_38)) (hw _ (List.mem_of_getElem? w_39)) (nfS (z := (⟨"com/example/itihasa/itihasa/store/StreamExpectation", "equals", "(Ljava/lang/Object;)Z"⟩ : MethodName)) (hw _ (List.mem_of_getElem? w_41))) (hw _ (List.mem_of_getElem? w_41)) (hw _ (List.mem_of_getElem? w_40)) (hw _ (List.mem_of_getElem? w_7)) (hw _ (List.mem_of_getElem? w_42)) (by decide) (c_eqD l Z a0 hw hE o33 sN kR kN h34 W43.old (Exa.ext W43.old EN) c36 (Fld.ext W43.old FKN) neN) c39 (by rw [hml]; rfl) (lenOf pd_5 rfl) rfl (hb hby at_179) (Nat.le_of_ble_eq_true rfl) (Nat.le_of_ble_eq_true rfl) rfl rfl (Nat.le_of_ble_eq_true rfl) (Nat.le_of_ble_eq_true rfl) rfl fun T44 W44 => ?_
          refine g_ifN (pc' := 185) W44.here hx (hb hby at_182) rfl (teq (show (0 : Int32) = (0 : Int32) from (by decide))).2 ?_
          refine g_iconst (1 : Int32) (pc' := 186) W44.here hx (hb hby at_185) rfl rfl ?_
          refine g_goto (pc' := 190) W44.here hx (hb hby at_186) rfl ?_
          refine g_istore (pc' := 192) (Ls' := #[.val (.long qa), .second, .val (.long qb), .second, .val (.long qc), .second, .val (.int mode), .val (.long r), .second, .val (.int md), .val (.long s5), .second, .val (.long r2), .second, .val (.ref o33), .val (.ref o35), .val (.int (1 : Int32))]) W44.here hx (hb hby at_190) rfl rfl ?_
          refine g_iload (pc' := 194) W44.here hx (hb hby at_192) rfl rfl ?_
          refine g_ifN (pc' := 197) W44.here hx (hb hby at_194) rfl (feq (show ¬ ((1 : Int32) = (0 : Int32)) from (by decide))).1 ?_
          refine g_aload (pc' := 199) W44.here hx (hb hby at_197) rfl rfl rfl ?_
          refine w_callSp (pc' := 202) (st := [(.ref o33)]) (y := (⟨"com/example/itihasa/itihasa/store/StreamExpectation", "streamExists", "()Lcom/example/itihasa/itihasa/store/StreamExpectation;"⟩ : MethodName)) W44 hx [] (hw _ (List.mem_of_getElem? w_50)) (hw _ (List.mem_of_getElem? w_51)) (hw _ (List.mem_of_getElem? w_7)) (hw _ (List.mem_of_getElem? w_52)) (by decide) (c_streamExists l Z a0 hw hE sE h34 W44.old S_E) (by rw [hml]; rfl) (lenOf pd_6 rfl) rfl (hb hby at_199) (Nat.le_of_ble_eq_true rfl) (Nat.le_of_ble_eq_true rfl) rfl rfl (Nat.le_of_ble_eq_true rfl) (Nat.le_of_ble_eq_true rfl) rfl fun T45 W45 => ?_
          refine w_virtualp (pc' := 205) (st := []) (y := (⟨"com/example/itihasa/itihasa/store/StreamExpectation", "equals", "(Ljava/lang/Object;)Z"⟩ : MethodName)) (z := (⟨"com/example/itihasa/itihasa/store/StreamExpectation", "equals", "(Ljava/lang/Object;)Z"⟩ : MethodName)) (a := o33) W45 hx [(.ref sE)] (hw _ (List.mem_of_getElem? w_38)) (hw _ (List.mem_of_getElem? w_39)) (nfS (z := (⟨"com/example/itihasa/itihasa/store/StreamExpectation", "equals", "(Ljava/lang/Object;)Z"⟩ : MethodName)) (hw _ (List.mem_of_getElem? w_41))) (hw _ (List.mem_of_getElem? w_41)) (hw _ (List.mem_of_getElem? w_40)) (hw _ (List.mem_of_getElem? w_7)) (hw _ (List.mem_of_getElem? w_42)) (by decide) (c_eqD l Z a0 hw hE o33 sE kR kE h34 W45.old (Exa.ext W45.old EE) c36 (Fld.ext W45.old FKE) neE) c39 (by rw [hml]; rfl) (lenOf pd_5 rfl) rfl (hb hby at_202) (Nat.le_of_ble_eq_true rfl) (Nat.le_of_ble_eq_true rfl) rfl rfl (Nat.le_of_ble_eq_true rfl) (Nat.le_of_ble_eq_true rfl) rfl fun T46 W46 => ?_
          refine g_ifN (pc' := 208) W46.here hx (hb hby at_205) rfl (teq (show (0 : Int32) = (0 : Int32) from (by decide))).2 ?_
          refine g_iconst (1 : Int32) (pc' := 209) W46.here hx (hb hby at_208) rfl rfl ?_
          refine g_goto (pc' := 213) W46.here hx (hb hby at_209) rfl ?_
          refine g_istore (pc' := 215) (Ls' := #[.val (.long qa), .second, .val (.long qb), .second, .val (.long qc), .second, .val (.int mode), .val (.long r), .second, .val (.int md), .val (.long s5), .second, .val (.long r2), .second, .val (.ref o33), .val (.ref o35), .val (.int (1 : Int32))]) W46.here hx (hb hby at_213) rfl rfl ?_
          refine g_iload (pc' := 217) W46.here hx (hb hby at_215) rfl rfl ?_
          refine g_ifN (pc' := 220) W46.here hx (hb hby at_217) rfl (feq (show ¬ ((1 : Int32) = (0 : Int32)) from (by decide))).1 ?_
          refine g_aload (pc' := 222) W46.here hx (hb hby at_220) rfl rfl rfl ?_
          refine w_callSp (pc' := 225) (st := [(.ref o33)]) (y := (⟨"com/example/itihasa/itihasa/store/StreamExpectation", "any", "()Lcom/example/itihasa/itihasa/store/StreamExpectation;"⟩ : MethodName)) W46 hx [] (hw _ (List.mem_of_getElem? w_56)) (hw _ (List.mem_of_getElem? w_57)) (hw _ (List.mem_of_getElem? w_7)) (hw _ (List.mem_of_getElem? w_58)) (by decide) (c_any l Z a0 hw hE sA h34 W46.old S_A) (by rw [hml]; rfl) (lenOf pd_6 rfl) rfl (hb hby at_222) (Nat.le_of_ble_eq_true rfl) (Nat.le_of_ble_eq_true rfl) rfl rfl (Nat.le_of_ble_eq_true rfl) (Nat.le_of_ble_eq_true rfl) rfl fun T47 W47 => ?_
          refine w_virtualp (pc' := 228) (st := []) (y := (⟨"com/example/itihasa/itihasa/store/StreamExpectation", "equals", "(Ljava/lang/Object;)Z"⟩ : MethodName)) (z := (⟨"com/example/itihasa/itihasa/store/StreamExpectation", "equals", "(Ljava/lang/Object;)Z"⟩ : MethodName)) (a := o33) W47 hx [(.ref sA)] (hw _ (List.mem_of_getElem? w_38)) (hw _ (List.mem_of_getElem? w_39)) (nfS (z := (⟨"com/example/itihasa/itihasa/store/StreamExpectation", "equals", "(Ljava/lang/Object;)Z"⟩ : MethodName)) (hw _ (List.mem_of_getElem? w_41))) (hw _ (List.mem_of_getElem? w_41)) (hw _ (List.mem_of_getElem? w_40)) (hw _ (List.mem_of_getElem? w_7)) (hw _ (List.mem_of_getElem? w_42)) (by decide) (c_eqD l Z a0 hw hE o33 sA kR kA h34 W47.old (Exa.ext W47.old EA) c36 (Fld.ext W47.old FKA) neA) c39 (by rw [hml]; rfl) (lenOf pd_5 rfl) rfl (hb hby at_225) (Nat.le_of_ble_eq_true rfl) (Nat.le_of_ble_eq_true rfl) rfl rfl (Nat.le_of_ble_eq_true rfl) (Nat.le_of_ble_eq_true rfl) rfl fun T48 W48 => ?_
          refine g_ifN (pc' := 231) W48.here hx (hb hby at_228) rfl (teq (show (0 : Int32) = (0 : Int32) from (by decide))).2 ?_
          refine g_iconst (1 : Int32) (pc' := 232) W48.here hx (hb hby at_231) rfl rfl ?_
          refine g_goto (pc' := 236) W48.here hx (hb hby at_232) rfl ?_
          refine g_istore (pc' := 238) (Ls' := #[.val (.long qa), .second, .val (.long qb), .second, .val (.long qc), .second, .val (.int mode), .val (.long r), .second, .val (.int md), .val (.long s5), .second, .val (.long r2), .second, .val (.ref o33), .val (.ref o35), .val (.int (1 : Int32))]) W48.here hx (hb hby at_236) rfl rfl ?_
          refine g_iload (pc' := 240) W48.here hx (hb hby at_238) rfl rfl ?_
          refine w_retN (t := .boolean) W48 hx hh hlk hret (by simp) (hb hby at_240) (Nat.le_of_ble_eq_true rfl) (Nat.le_of_ble_eq_true rfl) ?_
          exact rfl
        · refine g_ifY (pc' := 158) W41.here hx (hb hby at_151) rfl (feq hc151_42).2 ?_
          have qe : ¬ r = r2 := fun z => hc151_42 ((lw_eq _ _).mpr z)
          refine g_iconst (0 : Int32) (pc' := 159) W41.here hx (hb hby at_158) rfl rfl ?_
          refine g_icmpN (pc' := 162) W41.here hx (hb hby at_159) rfl (teq (show (if r = r2 then (1 : Int32) else 0) = (0 : Int32) from (by simp [qe]))).2 ?_
          refine g_iconst (1 : Int32) (pc' := 163) W41.here hx (hb hby at_162) rfl rfl ?_
          refine g_goto (pc' := 167) W41.here hx (hb hby at_163) rfl ?_
          refine g_istore (pc' := 169) (Ls' := #[.val (.long qa), .second, .val (.long qb), .second, .val (.long qc), .second, .val (.int mode), .val (.long r), .second, .val (.int md), .val (.long s5), .second, .val (.long r2), .second, .val (.ref o33), .val (.ref o35), .val (.int (1 : Int32))]) W41.here hx (hb hby at_167) rfl rfl ?_
          refine g_iload (pc' := 171) W41.here hx (hb hby at_169) rfl rfl ?_
          refine g_ifN (pc' := 174) W41.here hx (hb hby at_171) rfl (feq (show ¬ ((1 : Int32) = (0 : Int32)) from (by decide))).1 ?_
          refine g_aload (pc' := 176) W41.here hx (hb hby at_174) rfl rfl rfl ?_
          refine w_callSp (pc' := 179) (st := [(.ref o33)]) (y := (⟨"com/example/itihasa/itihasa/store/StreamExpectation", "noStream", "()Lcom/example/itihasa/itihasa/store/StreamExpectation;"⟩ : MethodName)) W41 hx [] (hw _ (List.mem_of_getElem? w_44)) (hw _ (List.mem_of_getElem? w_45)) (hw _ (List.mem_of_getElem? w_7)) (hw _ (List.mem_of_getElem? w_46)) (by decide) (c_noStream l Z a0 hw hE sN h34 W41.old S_N) (by rw [hml]; rfl) (lenOf pd_6 rfl) rfl (hb hby at_176) (Nat.le_of_ble_eq_true rfl) (Nat.le_of_ble_eq_true rfl) rfl rfl (Nat.le_of_ble_eq_true rfl) (Nat.le_of_ble_eq_true rfl) rfl fun T49 W49 => ?_
          refine w_virtualp (pc' := 182) (st := []) (y := (⟨"com/example/itihasa/itihasa/store/StreamExpectation", "equals", "(Ljava/lang/Object;)Z"⟩ : MethodName)) (z := (⟨"com/example/itihasa/itihasa/store/StreamExpectation", "equals", "(Ljava/lang/Object;)Z"⟩ : MethodName)) (a := o33) W49 hx [(.ref sN)] (hw _ (List.mem_of_getElem? w_38)) (hw _ (List.mem_of_getElem? w_39)) (nfS (z := (⟨"com/example/itihasa/itihasa/store/StreamExpectation", "equals", "(Ljava/lang/Object;)Z"⟩ : MethodName)) (hw _ (List.mem_of_getElem? w_41))) (hw _ (List.mem_of_getElem? w_41)) (hw _ (List.mem_of_getElem? w_40)) (hw _ (List.mem_of_getElem? w_7)) (hw _ (List.mem_of_getElem? w_42)) (by decide) (c_eqD l Z a0 hw hE o33 sN kR kN h34 W49.old (Exa.ext W49.old EN) c36 (Fld.ext W49.old FKN) neN) c39 (by rw [hml]; rfl) (lenOf pd_5 rfl) rfl (hb hby at_179) (Nat.le_of_ble_eq_true rfl) (Nat.le_of_ble_eq_true rfl) rfl rfl (Nat.le_of_ble_eq_true rfl) (Nat.le_of_ble_eq_true rfl) rfl fun T50 W50 => ?_
          refine g_ifN (pc' := 185) W50.here hx (hb hby at_182) rfl (teq (show (0 : Int32) = (0 : Int32) from (by decide))).2 ?_
          refine g_iconst (1 : Int32) (pc' := 186) W50.here hx (hb hby at_185) rfl rfl ?_
          refine g_goto (pc' := 190) W50.here hx (hb hby at_186) rfl ?_
          refine g_istore (pc' := 192) (Ls' := #[.val (.long qa), .second, .val (.long qb), .second, .val (.long qc), .second, .val (.int mode), .val (.long r), .second, .val (.int md), .val (.long s5), .second, .val (.long r2), .second, .val (.ref o33), .val (.ref o35), .val (.int (1 : Int32))]) W50.here hx (hb hby at_190) rfl rfl ?_
          refine g_iload (pc' := 194) W50.here hx (hb hby at_192) rfl rfl ?_
          refine g_ifN (pc' := 197) W50.here hx (hb hby at_194) rfl (feq (show ¬ ((1 : Int32) = (0 : Int32)) from (by decide))).1 ?_
          refine g_aload (pc' := 199) W50.here hx (hb hby at_197) rfl rfl rfl ?_
          refine w_callSp (pc' := 202) (st := [(.ref o33)]) (y := (⟨"com/example/itihasa/itihasa/store/StreamExpectation", "streamExists", "()Lcom/example/itihasa/itihasa/store/StreamExpectation;"⟩ : MethodName)) W50 hx [] (hw _ (List.mem_of_getElem? w_50)) (hw _ (List.mem_of_getElem? w_51)) (hw _ (List.mem_of_getElem? w_7)) (hw _ (List.mem_of_getElem? w_52)) (by decide) (c_streamExists l Z a0 hw hE sE h34 W50.old S_E) (by rw [hml]; rfl) (lenOf pd_6 rfl) rfl (hb hby at_199) (Nat.le_of_ble_eq_true rfl) (Nat.le_of_ble_eq_true rfl) rfl rfl (Nat.le_of_ble_eq_true rfl) (Nat.le_of_ble_eq_true rfl) rfl fun T51 W51 => ?_
          refine w_virtualp (pc' := 205) (st := []) (y := (⟨"com/example/itihasa/itihasa/store/StreamExpectation", "equals", "(Ljava/lang/Object;)Z"⟩ : MethodName)) (z := (⟨"com/example/itihasa/itihasa/store/StreamExpectation", "equals", "(Ljava/lang/Object;)Z"⟩ : MethodName)) (a := o33) W51 hx [(.ref sE)] (hw _ (List.mem_of_getElem? w_38)) (hw _ (List.mem_of_getElem? w_39)) (nfS (z := (⟨"com/example/itihasa/itihasa/store/StreamExpectation", "equals", "(Ljava/lang/Object;)Z"⟩ : MethodName)) (hw _ (List.mem_of_getElem? w_41))) (hw _ (List.mem_of_getElem? w_41)) (hw _ (List.mem_of_getElem? w_40)) (hw _ (List.mem_of_getElem? w_7)) (hw _ (List.mem_of_getElem? w_42)) (by decide) (c_eqD l Z a0 hw hE o33 sE kR kE h34 W51.old (Exa.ext W51.old EE) c36 (Fld.ext W51.old FKE) neE) c39 (by rw [hml]; rfl) (lenOf pd_5 rfl) rfl (hb hby at_202) (Nat.le_of_ble_eq_true rfl) (Nat.le_of_ble_eq_true rfl) rfl rfl (Nat.le_of_ble_eq_true rfl) (Nat.le_of_ble_eq_true rfl) rfl fun T52 W52 => ?_
          refine g_ifN (pc' := 208) W52.here hx (hb hby at_205) rfl (teq (show (0 : Int32) = (0 : Int32) from (by decide))).2 ?_
          refine g_iconst (1 : Int32) (pc' := 209) W52.here hx (hb hby at_208) rfl rfl ?_
          refine g_goto (pc' := 213) W52.here hx (hb hby at_209) rfl ?_
          refine g_istore (pc' := 215) (Ls' := #[.val (.long qa), .second, .val (.long qb), .second, .val (.long qc), .second, .val (.int mode), .val (.long r), .second, .val (.int md), .val (.long s5), .second, .val (.long r2), .second, .val (.ref o33), .val (.ref o35), .val (.int (1 : Int32))]) W52.here hx (hb hby at_213) rfl rfl ?_
          refine g_iload (pc' := 217) W52.here hx (hb hby at_215) rfl rfl ?_
          refine g_ifN (pc' := 220) W52.here hx (hb hby at_217) rfl (feq (show ¬ ((1 : Int32) = (0 : Int32)) from (by decide))).1 ?_
          refine g_aload (pc' := 222) W52.here hx (hb hby at_220) rfl rfl rfl ?_
          refine w_callSp (pc' := 225) (st := [(.ref o33)]) (y := (⟨"com/example/itihasa/itihasa/store/StreamExpectation", "any", "()Lcom/example/itihasa/itihasa/store/StreamExpectation;"⟩ : MethodName)) W52 hx [] (hw _ (List.mem_of_getElem? w_56)) (hw _ (List.mem_of_getElem? w_57)) (hw _ (List.mem_of_getElem? w_7)) (hw _ (List.mem_of_getElem? w_58)) (by decide) (c_any l Z a0 hw hE sA h34 W52.old S_A) (by rw [hml]; rfl) (lenOf pd_6 rfl) rfl (hb hby at_222) (Nat.le_of_ble_eq_true rfl) (Nat.le_of_ble_eq_true rfl) rfl rfl (Nat.le_of_ble_eq_true rfl) (Nat.le_of_ble_eq_true rfl) rfl fun T53 W53 => ?_
          refine w_virtualp (pc' := 228) (st := []) (y := (⟨"com/example/itihasa/itihasa/store/StreamExpectation", "equals", "(Ljava/lang/Object;)Z"⟩ : MethodName)) (z := (⟨"com/example/itihasa/itihasa/store/StreamExpectation", "equals", "(Ljava/lang/Object;)Z"⟩ : MethodName)) (a := o33) W53 hx [(.ref sA)] (hw _ (List.mem_of_getElem? w_38)) (hw _ (List.mem_of_getElem? w_39)) (nfS (z := (⟨"com/example/itihasa/itihasa/store/StreamExpectation", "equals", "(Ljava/lang/Object;)Z"⟩ : MethodName)) (hw _ (List.mem_of_getElem? w_41))) (hw _ (List.mem_of_getElem? w_41)) (hw _ (List.mem_of_getElem? w_40)) (hw _ (List.mem_of_getElem? w_7)) (hw _ (List.mem_of_getElem? w_42)) (by decide) (c_eqD l Z a0 hw hE o33 sA kR kA h34 W53.old (Exa.ext W53.old EA) c36 (Fld.ext W53.old FKA) neA) c39 (by rw [hml]; rfl) (lenOf pd_5 rfl) rfl (hb hby at_225) (Nat.le_of_ble_eq_true rfl) (Nat.le_of_ble_eq_true rfl) rfl rfl (Nat.le_of_ble_eq_true rfl) (Nat.le_of_ble_eq_true rfl) rfl fun T54 W54 => ?_
          refine g_ifN (pc' := 231) W54.here hx (hb hby at_228) rfl (teq (show (0 : Int32) = (0 : Int32) from (by decide))).2 ?_
          refine g_iconst (1 : Int32) (pc' := 232) W54.here hx (hb hby at_231) rfl rfl ?_
          refine g_goto (pc' := 236) W54.here hx (hb hby at_232) rfl ?_
          refine g_istore (pc' := 238) (Ls' := #[.val (.long qa), .second, .val (.long qb), .second, .val (.long qc), .second, .val (.int mode), .val (.long r), .second, .val (.int md), .val (.long s5), .second, .val (.long r2), .second, .val (.ref o33), .val (.ref o35), .val (.int (1 : Int32))]) W54.here hx (hb hby at_236) rfl rfl ?_
          refine g_iload (pc' := 240) W54.here hx (hb hby at_238) rfl rfl ?_
          refine w_retN (t := .boolean) W54 hx hh hlk hret (by simp) (hb hby at_240) (Nat.le_of_ble_eq_true rfl) (Nat.le_of_ble_eq_true rfl) ?_
          exact rfl
      · refine g_ifY (pc' := 123) W38.here hx (hb hby at_116) rfl (feq hc116_40).2 ?_
        have qe : ¬ s5 = r := fun z => hc116_40 ((lw_eq _ _).mpr z)
        refine g_iconst (0 : Int32) (pc' := 124) W38.here hx (hb hby at_123) rfl rfl ?_
        refine g_icmpN (pc' := 127) W38.here hx (hb hby at_124) rfl (teq (show (if s5 = r then 1 else 0) = (0 : Int32) from (by simp [qe]))).2 ?_
        refine g_iconst (1 : Int32) (pc' := 128) W38.here hx (hb hby at_127) rfl rfl ?_
        refine g_goto (pc' := 132) W38.here hx (hb hby at_128) rfl ?_
        refine g_istore (pc' := 134) (Ls' := #[.val (.long qa), .second, .val (.long qb), .second, .val (.long qc), .second, .val (.int mode), .val (.long r), .second, .val (.int md), .val (.long s5), .second, .val (.long r2), .second, .val (.ref o33), .val (.ref o35), .val (.int (1 : Int32))]) W38.here hx (hb hby at_132) rfl rfl ?_
        refine g_iload (pc' := 136) W38.here hx (hb hby at_134) rfl rfl ?_
        refine g_ifN (pc' := 139) W38.here hx (hb hby at_136) rfl (feq (show ¬ ((1 : Int32) = (0 : Int32)) from (by decide))).1 ?_
        refine g_aload (pc' := 141) W38.here hx (hb hby at_139) rfl rfl rfl ?_
        refine g_aload (pc' := 143) W38.here hx (hb hby at_141) rfl rfl rfl ?_
        refine w_virtualp (pc' := 146) (st := []) (y := (⟨"com/example/itihasa/itihasa/store/StreamExpectation", "equals", "(Ljava/lang/Object;)Z"⟩ : MethodName)) (z := (⟨"com/example/itihasa/itihasa/store/StreamExpectation", "equals", "(Ljava/lang/Object;)Z"⟩ : MethodName)) (a := o33) W38 hx [(.ref o35)] (hw _ (List.mem_of_getElem? w_38)) (hw _ (List.mem_of_getElem? w_39)) (nfS (z := (⟨"com/example/itihasa/itihasa/store/StreamExpectation", "equals", "(Ljava/lang/Object;)Z"⟩ : MethodName)) (hw _ (List.mem_of_getElem? w_41))) (hw _ (List.mem_of_getElem? w_41)) (hw _ (List.mem_of_getElem? w_40)) (hw _ (List.mem_of_getElem? w_7)) (hw _ (List.mem_of_getElem? w_42)) (by decide) (c_eqS l Z a0 hw hE o33 o35 kR r r2 h34 W38.old E35 c36 c37 F35 G35) c39 (by rw [hml]; rfl) (lenOf pd_5 rfl) rfl (hb hby at_143) (Nat.le_of_ble_eq_true rfl) (Nat.le_of_ble_eq_true rfl) rfl rfl (Nat.le_of_ble_eq_true rfl) (Nat.le_of_ble_eq_true rfl) rfl fun T55 W55 => ?_
        refine g_lload (pc' := 148) W55.here hx (hb hby at_146) rfl rfl ?_
        refine g_lload (pc' := 150) W55.here hx (hb hby at_148) rfl rfl ?_
        refine g_lcmp (pc' := 151) W55.here hx (hb hby at_150) rfl ?_
        by_cases hc151_56 : (lcmpW r r2) = (0 : Int32)
        · refine g_ifN (pc' := 154) W55.here hx (hb hby at_151) rfl (teq hc151_56).2 ?_
          have qe : r = r2 := (lw_eq _ _).mp hc151_56
          refine g_iconst (1 : Int32) (pc' := 155) W55.here hx (hb hby at_154) rfl rfl ?_
          refine g_goto (pc' := 159) W55.here hx (hb hby at_155) rfl ?_
          refine g_icmpN (pc' := 162) W55.here hx (hb hby at_159) rfl (teq (show (if r = r2 then (1 : Int32) else 0) = (1 : Int32) from (by simp [qe]))).2 ?_
          refine g_iconst (1 : Int32) (pc' := 163) W55.here hx (hb hby at_162) rfl rfl ?_
          refine g_goto (pc' := 167) W55.here hx (hb hby at_163) rfl ?_
          refine g_istore (pc' := 169) (Ls' := #[.val (.long qa), .second, .val (.long qb), .second, .val (.long qc), .second, .val (.int mode), .val (.long r), .second, .val (.int md), .val (.long s5), .second, .val (.long r2), .second, .val (.ref o33), .val (.ref o35), .val (.int (1 : Int32))]) W55.here hx (hb hby at_167) rfl rfl ?_
          refine g_iload (pc' := 171) W55.here hx (hb hby at_169) rfl rfl ?_
          refine g_ifN (pc' := 174) W55.here hx (hb hby at_171) rfl (feq (show ¬ ((1 : Int32) = (0 : Int32)) from (by decide))).1 ?_
          refine g_aload (pc' := 176) W55.here hx (hb hby at_174) rfl rfl rfl ?_
          refine w_callSp (pc' := 179) (st := [(.ref o33)]) (y := (⟨"com/example/itihasa/itihasa/store/StreamExpectation", "noStream", "()Lcom/example/itihasa/itihasa/store/StreamExpectation;"⟩ : MethodName)) W55 hx [] (hw _ (List.mem_of_getElem? w_44)) (hw _ (List.mem_of_getElem? w_45)) (hw _ (List.mem_of_getElem? w_7)) (hw _ (List.mem_of_getElem? w_46)) (by decide) (c_noStream l Z a0 hw hE sN h34 W55.old S_N) (by rw [hml]; rfl) (lenOf pd_6 rfl) rfl (hb hby at_176) (Nat.le_of_ble_eq_true rfl) (Nat.le_of_ble_eq_true rfl) rfl rfl (Nat.le_of_ble_eq_true rfl) (Nat.le_of_ble_eq_true rfl) rfl fun T57 W57 => ?_
          refine w_virtualp (pc' := 182) (st := []) (y := (⟨"com/example/itihasa/itihasa/store/StreamExpectation", "equals", "(Ljava/lang/Object;)Z"⟩ : MethodName)) (z := (⟨"com/example/itihasa/itihasa/store/StreamExpectation", "equals", "(Ljava/lang/Object;)Z"⟩ : MethodName)) (a := o33) W57 hx [(.ref sN)] (hw _ (List.mem_of_getElem? w_38)) (hw _ (List.mem_of_getElem? w_39)) (nfS (z := (⟨"com/example/itihasa/itihasa/store/StreamExpectation", "equals", "(Ljava/lang/Object;)Z"⟩ : MethodName)) (hw _ (List.mem_of_getElem? w_41))) (hw _ (List.mem_of_getElem? w_41)) (hw _ (List.mem_of_getElem? w_40)) (hw _ (List.mem_of_getElem? w_7)) (hw _ (List.mem_of_getElem? w_42)) (by decide) (c_eqD l Z a0 hw hE o33 sN kR kN h34 W57.old (Exa.ext W57.old EN) c36 (Fld.ext W57.old FKN) neN) c39 (by rw [hml]; rfl) (lenOf pd_5 rfl) rfl (hb hby at_179) (Nat.le_of_ble_eq_true rfl) (Nat.le_of_ble_eq_true rfl) rfl rfl (Nat.le_of_ble_eq_true rfl) (Nat.le_of_ble_eq_true rfl) rfl fun T58 W58 => ?_
          refine g_ifN (pc' := 185) W58.here hx (hb hby at_182) rfl (teq (show (0 : Int32) = (0 : Int32) from (by decide))).2 ?_
          refine g_iconst (1 : Int32) (pc' := 186) W58.here hx (hb hby at_185) rfl rfl ?_
          refine g_goto (pc' := 190) W58.here hx (hb hby at_186) rfl ?_
          refine g_istore (pc' := 192) (Ls' := #[.val (.long qa), .second, .val (.long qb), .second, .val (.long qc), .second, .val (.int mode), .val (.long r), .second, .val (.int md), .val (.long s5), .second, .val (.long r2), .second, .val (.ref o33), .val (.ref o35), .val (.int (1 : Int32))]) W58.here hx (hb hby at_190) rfl rfl ?_
          refine g_iload (pc' := 194) W58.here hx (hb hby at_192) rfl rfl ?_
          refine g_ifN (pc' := 197) W58.here hx (hb hby at_194) rfl (feq (show ¬ ((1 : Int32) = (0 : Int32)) from (by decide))).1 ?_
          refine g_aload (pc' := 199) W58.here hx (hb hby at_197) rfl rfl rfl ?_
          refine w_callSp (pc' := 202) (st := [(.ref o33)]) (y := (⟨"com/example/itihasa/itihasa/store/StreamExpectation", "streamExists", "()Lcom/example/itihasa/itihasa/store/StreamExpectation;"⟩ : MethodName)) W58 hx [] (hw _ (List.mem_of_getElem? w_50)) (hw _ (List.mem_of_getElem? w_51)) (hw _ (List.mem_of_getElem? w_7)) (hw _ (List.mem_of_getElem? w_52)) (by decide) (c_streamExists l Z a0 hw hE sE h34 W58.old S_E) (by rw [hml]; rfl) (lenOf pd_6 rfl) rfl (hb hby at_199) (Nat.le_of_ble_eq_true rfl) (Nat.le_of_ble_eq_true rfl) rfl rfl (Nat.le_of_ble_eq_true rfl) (Nat.le_of_ble_eq_true rfl) rfl fun T59 W59 => ?_
          refine w_virtualp (pc' := 205) (st := []) (y := (⟨"com/example/itihasa/itihasa/store/StreamExpectation", "equals", "(Ljava/lang/Object;)Z"⟩ : MethodName)) (z := (⟨"com/example/itihasa/itihasa/store/StreamExpectation", "equals", "(Ljava/lang/Object;)Z"⟩ : MethodName)) (a := o33) W59 hx [(.ref sE)] (hw _ (List.mem_of_getElem? w_38)) (hw _ (List.mem_of_getElem? w_39)) (nfS (z := (⟨"com/example/itihasa/itihasa/store/StreamExpectation", "equals", "(Ljava/lang/Object;)Z"⟩ : MethodName)) (hw _ (List.mem_of_getElem? w_41))) (hw _ (List.mem_of_getElem? w_41)) (hw _ (List.mem_of_getElem? w_40)) (hw _ (List.mem_of_getElem? w_7)) (hw _ (List.mem_of_getElem? w_42)) (by decide) (c_eqD l Z a0 hw hE o33 sE kR kE h34 W59.old (Exa.ext W59.old EE) c36 (Fld.ext W59.old FKE) neE) c39 (by rw [hml]; rfl) (lenOf pd_5 rfl) rfl (hb hby at_202) (Nat.le_of_ble_eq_true rfl) (Nat.le_of_ble_eq_true rfl) rfl rfl (Nat.le_of_ble_eq_true rfl) (Nat.le_of_ble_eq_true rfl) rfl fun T60 W60 => ?_
          refine g_ifN (pc' := 208) W60.here hx (hb hby at_205) rfl (teq (show (0 : Int32) = (0 : Int32) from (by decide))).2 ?_
          refine g_iconst (1 : Int32) (pc' := 209) W60.here hx (hb hby at_208) rfl rfl ?_
          refine g_goto (pc' := 213) W60.here hx (hb hby at_209) rfl ?_
          refine g_istore (pc' := 215) (Ls' := #[.val (.long qa), .second, .val (.long qb), .second, .val (.long qc), .second, .val (.int mode), .val (.long r), .second, .val (.int md), .val (.long s5), .second, .val (.long r2), .second, .val (.ref o33), .val (.ref o35), .val (.int (1 : Int32))]) W60.here hx (hb hby at_213) rfl rfl ?_
          refine g_iload (pc' := 217) W60.here hx (hb hby at_215) rfl rfl ?_
          refine g_ifN (pc' := 220) W60.here hx (hb hby at_217) rfl (feq (show ¬ ((1 : Int32) = (0 : Int32)) from (by decide))).1 ?_
          refine g_aload (pc' := 222) W60.here hx (hb hby at_220) rfl rfl rfl ?_
          refine w_callSp (pc' := 225) (st := [(.ref o33)]) (y := (⟨"com/example/itihasa/itihasa/store/StreamExpectation", "any", "()Lcom/example/itihasa/itihasa/store/StreamExpectation;"⟩ : MethodName)) W60 hx [] (hw _ (List.mem_of_getElem? w_56)) (hw _ (List.mem_of_getElem? w_57)) (hw _ (List.mem_of_getElem? w_7)) (hw _ (List.mem_of_getElem? w_58)) (by decide) (c_any l Z a0 hw hE sA h34 W60.old S_A) (by rw [hml]; rfl) (lenOf pd_6 rfl) rfl (hb hby at_222) (Nat.le_of_ble_eq_true rfl) (Nat.le_of_ble_eq_true rfl) rfl rfl (Nat.le_of_ble_eq_true rfl) (Nat.le_of_ble_eq_true rfl) rfl fun T61 W61 => ?_
          refine w_virtualp (pc' := 228) (st := []) (y := (⟨"com/example/itihasa/itihasa/store/StreamExpectation", "equals", "(Ljava/lang/Object;)Z"⟩ : MethodName)) (z := (⟨"com/example/itihasa/itihasa/store/StreamExpectation", "equals", "(Ljava/lang/Object;)Z"⟩ : MethodName)) (a := o33) W61 hx [(.ref sA)] (hw _ (List.mem_of_getElem? w_38)) (hw _ (List.mem_of_getElem? w_39)) (nfS (z := (⟨"com/example/itihasa/itihasa/store/StreamExpectation", "equals", "(Ljava/lang/Object;)Z"⟩ : MethodName)) (hw _ (List.mem_of_getElem? w_41))) (hw _ (List.mem_of_getElem? w_41)) (hw _ (List.mem_of_getElem? w_40)) (hw _ (List.mem_of_getElem? w_7)) (hw _ (List.mem_of_getElem? w_42)) (by decide) (c_eqD l Z a0 hw hE o33 sA kR kA h34 W61.old (Exa.ext W61.old EA) c36 (Fld.ext W61.old FKA) neA) c39 (by rw [hml]; rfl) (lenOf pd_5 rfl) rfl (hb hby at_225) (Nat.le_of_ble_eq_true rfl) (Nat.le_of_ble_eq_true rfl) rfl rfl (Nat.le_of_ble_eq_true rfl) (Nat.le_of_ble_eq_true rfl) rfl fun T62 W62 => ?_
          refine g_ifN (pc' := 231) W62.here hx (hb hby at_228) rfl (teq (show (0 : Int32) = (0 : Int32) from (by decide))).2 ?_
          refine g_iconst (1 : Int32) (pc' := 232) W62.here hx (hb hby at_231) rfl rfl ?_
          refine g_goto (pc' := 236) W62.here hx (hb hby at_232) rfl ?_
          refine g_istore (pc' := 238) (Ls' := #[.val (.long qa), .second, .val (.long qb), .second, .val (.long qc), .second, .val (.int mode), .val (.long r), .second, .val (.int md), .val (.long s5), .second, .val (.long r2), .second, .val (.ref o33), .val (.ref o35), .val (.int (1 : Int32))]) W62.here hx (hb hby at_236) rfl rfl ?_
          refine g_iload (pc' := 240) W62.here hx (hb hby at_238) rfl rfl ?_
          refine w_retN (t := .boolean) W62 hx hh hlk hret (by simp) (hb hby at_240) (Nat.le_of_ble_eq_true rfl) (Nat.le_of_ble_eq_true rfl) ?_
          exact rfl
        · refine g_ifY (pc' := 158) W55.here hx (hb hby at_151) rfl (feq hc151_56).2 ?_
          have qe : ¬ r = r2 := fun z => hc151_56 ((lw_eq _ _).mpr z)
          refine g_iconst (0 : Int32) (pc' := 159) W55.here hx (hb hby at_158) rfl rfl ?_
          refine g_icmpN (pc' := 162) W55.here hx (hb hby at_159) rfl (teq (show (if r = r2 then (1 : Int32) else 0) = (0 : Int32) from (by simp [qe]))).2 ?_
          refine g_iconst (1 : Int32) (pc' := 163) W55.here hx (hb hby at_162) rfl rfl ?_
          refine g_goto (pc' := 167) W55.here hx (hb hby at_163) rfl ?_
          refine g_istore (pc' := 169) (Ls' := #[.val (.long qa), .second, .val (.long qb), .second, .val (.long qc), .second, .val (.int mode), .val (.long r), .second, .val (.int md), .val (.long s5), .second, .val (.long r2), .second, .val (.ref o33), .val (.ref o35), .val (.int (1 : Int32))]) W55.here hx (hb hby at_167) rfl rfl ?_
          refine g_iload (pc' := 171) W55.here hx (hb hby at_169) rfl rfl ?_
          refine g_ifN (pc' := 174) W55.here hx (hb hby at_171) rfl (feq (show ¬ ((1 : Int32) = (0 : Int32)) from (by decide))).1 ?_
          refine g_aload (pc' := 176) W55.here hx (hb hby at_174) rfl rfl rfl ?_
          refine w_callSp (pc' := 179) (st := [(.ref o33)]) (y := (⟨"com/example/itihasa/itihasa/store/StreamExpectation", "noStream", "()Lcom/example/itihasa/itihasa/store/StreamExpectation;"⟩ : MethodName)) W55 hx [] (hw _ (List.mem_of_getElem? w_44)) (hw _ (List.mem_of_getElem? w_45)) (hw _ (List.mem_of_getElem? w_7)) (hw _ (List.mem_of_getElem? w_46)) (by decide) (c_noStream l Z a0 hw hE sN h34 W55.old S_N) (by rw [hml]; rfl) (lenOf pd_6 rfl) rfl (hb hby at_176) (Nat.le_of_ble_eq_true rfl) (Nat.le_of_ble_eq_true rfl) rfl rfl (Nat.le_of_ble_eq_true rfl) (Nat.le_of_ble_eq_true rfl) rfl fun T63 W63 => ?_
          refine w_virtualp (pc' := 182) (st := []) (y := (⟨"com/example/itihasa/itihasa/store/StreamExpectation", "equals", "(Ljava/lang/Object;)Z"⟩ : MethodName)) (z := (⟨"com/example/itihasa/itihasa/store/StreamExpectation", "equals", "(Ljava/lang/Object;)Z"⟩ : MethodName)) (a := o33) W63 hx [(.ref sN)] (hw _ (List.mem_of_getElem? w_38)) (hw _ (List.mem_of_getElem? w_39)) (nfS (z := (⟨"com/example/itihasa/itihasa/store/StreamExpectation", "equals", "(Ljava/lang/Object;)Z"⟩ : MethodName)) (hw _ (List.mem_of_getElem? w_41))) (hw _ (List.mem_of_getElem? w_41)) (hw _ (List.mem_of_getElem? w_40)) (hw _ (List.mem_of_getElem? w_7)) (hw _ (List.mem_of_getElem? w_42)) (by decide) (c_eqD l Z a0 hw hE o33 sN kR kN h34 W63.old (Exa.ext W63.old EN) c36 (Fld.ext W63.old FKN) neN) c39 (by rw [hml]; rfl) (lenOf pd_5 rfl) rfl (hb hby at_179) (Nat.le_of_ble_eq_true rfl) (Nat.le_of_ble_eq_true rfl) rfl rfl (Nat.le_of_ble_eq_true rfl) (Nat.le_of_ble_eq_true rfl) rfl fun T64 W64 => ?_
          refine g_ifN (pc' := 185) W64.here hx (hb hby at_182) rfl (teq (show (0 : Int32) = (0 : Int32) from (by decide))).2 ?_
          refine g_iconst (1 : Int32) (pc' := 186) W64.here hx (hb hby at_185) rfl rfl ?_
          refine g_goto (pc' := 190) W64.here hx (hb hby at_186) rfl ?_
          refine g_istore (pc' := 192) (Ls' := #[.val (.long qa), .second, .val (.long qb), .second, .val (.long qc), .second, .val (.int mode), .val (.long r), .second, .val (.int md), .val (.long s5), .second, .val (.long r2), .second, .val (.ref o33), .val (.ref o35), .val (.int (1 : Int32))]) W64.here hx (hb hby at_190) rfl rfl ?_
          refine g_iload (pc' := 194) W64.here hx (hb hby at_192) rfl rfl ?_
          refine g_ifN (pc' := 197) W64.here hx (hb hby at_194) rfl (feq (show ¬ ((1 : Int32) = (0 : Int32)) from (by decide))).1 ?_
          refine g_aload (pc' := 199) W64.here hx (hb hby at_197) rfl rfl rfl ?_
          refine w_callSp (pc' := 202) (st := [(.ref o33)]) (y := (⟨"com/example/itihasa/itihasa/store/StreamExpectation", "streamExists", "()Lcom/example/itihasa/itihasa/store/StreamExpectation;"⟩ : MethodName)) W64 hx [] (hw _ (List.mem_of_getElem? w_50)) (hw _ (List.mem_of_getElem? w_51)) (hw _ (List.mem_of_getElem? w_7)) (hw _ (List.mem_of_getElem? w_52)) (by decide) (c_streamExists l Z a0 hw hE sE h34 W64.old S_E) (by rw [hml]; rfl) (lenOf pd_6 rfl) rfl (hb hby at_199) (Nat.le_of_ble_eq_true rfl) (Nat.le_of_ble_eq_true rfl) rfl rfl (Nat.le_of_ble_eq_true rfl) (Nat.le_of_ble_eq_true rfl) rfl fun T65 W65 => ?_
          refine w_virtualp (pc' := 205) (st := []) (y := (⟨"com/example/itihasa/itihasa/store/StreamExpectation", "equals", "(Ljava/lang/Object;)Z"⟩ : MethodName)) (z := (⟨"com/example/itihasa/itihasa/store/StreamExpectation", "equals", "(Ljava/lang/Object;)Z"⟩ : MethodName)) (a := o33) W65 hx [(.ref sE)] (hw _ (List.mem_of_getElem? w_38)) (hw _ (List.mem_of_getElem? w_39)) (nfS (z := (⟨"com/example/itihasa/itihasa/store/StreamExpectation", "equals", "(Ljava/lang/Object;)Z"⟩ : MethodName)) (hw _ (List.mem_of_getElem? w_41))) (hw _ (List.mem_of_getElem? w_41)) (hw _ (List.mem_of_getElem? w_40)) (hw _ (List.mem_of_getElem? w_7)) (hw _ (List.mem_of_getElem? w_42)) (by decide) (c_eqD l Z a0 hw hE o33 sE kR kE h34 W65.old (Exa.ext W65.old EE) c36 (Fld.ext W65.old FKE) neE) c39 (by rw [hml]; rfl) (lenOf pd_5 rfl) rfl (hb hby at_202) (Nat.le_of_ble_eq_true rfl) (Nat.le_of_ble_eq_true rfl) rfl rfl (Nat.le_of_ble_eq_true rfl) (Nat.le_of_ble_eq_true rfl) rfl fun T66 W66 => ?_
          refine g_ifN (pc' := 208) W66.here hx (hb hby at_205) rfl (teq (show (0 : Int32) = (0 : Int32) from (by decide))).2 ?_
          refine g_iconst (1 : Int32) (pc' := 209) W66.here hx (hb hby at_208) rfl rfl ?_
          refine g_goto (pc' := 213) W66.here hx (hb hby at_209) rfl ?_
          refine g_istore (pc' := 215) (Ls' := #[.val (.long qa), .second, .val (.long qb), .second, .val (.long qc), .second, .val (.int mode), .val (.long r), .second, .val (.int md), .val (.long s5), .second, .val (.long r2), .second, .val (.ref o33), .val (.ref o35), .val (.int (1 : Int32))]) W66.here hx (hb hby at_213) rfl rfl ?_
          refine g_iload (pc' := 217) W66.here hx (hb hby at_215) rfl rfl ?_
          refine g_ifN (pc' := 220) W66.here hx (hb hby at_217) rfl (feq (show ¬ ((1 : Int32) = (0 : Int32)) from (by decide))).1 ?_
          refine g_aload (pc' := 222) W66.here hx (hb hby at_220) rfl rfl rfl ?_
          refine w_callSp (pc' := 225) (st := [(.ref o33)]) (y := (⟨"com/example/itihasa/itihasa/store/StreamExpectation", "any", "()Lcom/example/itihasa/itihasa/store/StreamExpectation;"⟩ : MethodName)) W66 hx [] (hw _ (List.mem_of_getElem? w_56)) (hw _ (List.mem_of_getElem? w_57)) (hw _ (List.mem_of_getElem? w_7)) (hw _ (List.mem_of_getElem? w_58)) (by decide) (c_any l Z a0 hw hE sA h34 W66.old S_A) (by rw [hml]; rfl) (lenOf pd_6 rfl) rfl (hb hby at_222) (Nat.le_of_ble_eq_true rfl) (Nat.le_of_ble_eq_true rfl) rfl rfl (Nat.le_of_ble_eq_true rfl) (Nat.le_of_ble_eq_true rfl) rfl fun T67 W67 => ?_
          refine w_virtualp (pc' := 228) (st := []) (y := (⟨"com/example/itihasa/itihasa/store/StreamExpectation", "equals", "(Ljava/lang/Object;)Z"⟩ : MethodName)) (z := (⟨"com/example/itihasa/itihasa/store/StreamExpectation", "equals", "(Ljava/lang/Object;)Z"⟩ : MethodName)) (a := o33) W67 hx [(.ref sA)] (hw _ (List.mem_of_getElem? w_38)) (hw _ (List.mem_of_getElem? w_39)) (nfS (z := (⟨"com/example/itihasa/itihasa/store/StreamExpectation", "equals", "(Ljava/lang/Object;)Z"⟩ : MethodName)) (hw _ (List.mem_of_getElem? w_41))) (hw _ (List.mem_of_getElem? w_41)) (hw _ (List.mem_of_getElem? w_40)) (hw _ (List.mem_of_getElem? w_7)) (hw _ (List.mem_of_getElem? w_42)) (by decide) (c_eqD l Z a0 hw hE o33 sA kR kA h34 W67.old (Exa.ext W67.old EA) c36 (Fld.ext W67.old FKA) neA) c39 (by rw [hml]; rfl) (lenOf pd_5 rfl) rfl (hb hby at_225) (Nat.le_of_ble_eq_true rfl) (Nat.le_of_ble_eq_true rfl) rfl rfl (Nat.le_of_ble_eq_true rfl) (Nat.le_of_ble_eq_true rfl) rfl fun T68 W68 => ?_
          refine g_ifN (pc' := 231) W68.here hx (hb hby at_228) rfl (teq (show (0 : Int32) = (0 : Int32) from (by decide))).2 ?_
          refine g_iconst (1 : Int32) (pc' := 232) W68.here hx (hb hby at_231) rfl rfl ?_
          refine g_goto (pc' := 236) W68.here hx (hb hby at_232) rfl ?_
          refine g_istore (pc' := 238) (Ls' := #[.val (.long qa), .second, .val (.long qb), .second, .val (.long qc), .second, .val (.int mode), .val (.long r), .second, .val (.int md), .val (.long s5), .second, .val (.long r2), .second, .val (.ref o33), .val (.ref o35), .val (.int (1 : Int32))]) W68.here hx (hb hby at_236) rfl rfl ?_
          refine g_iload (pc' := 240) W68.here hx (hb hby at_238) rfl rfl ?_
          refine w_retN (t := .boolean) W68 hx hh hlk hret (by simp) (hb hby at_240) (Nat.le_of_ble_eq_true rfl) (Nat.le_of_ble_eq_true rfl) ?_
          exact rfl
    refine g_iload (pc' := 64) W30.here hx (hb hby at_62) rfl rfl ?_
    refine g_iconst (2 : Int32) (pc' := 65) W30.here hx (hb hby at_64) rfl rfl ?_
    refine g_ishr (pc' := 66) W30.here hx (hb hby at_65) rfl ?_
    refine g_iconst (1 : Int32) (pc' := 67) W30.here hx (hb hby at_66) rfl rfl ?_
    refine g_iand (pc' := 68) W30.here hx (hb hby at_67) rfl ?_
    by_cases hc68_69 : (((mode >>> ((2 : Int32) &&& 31))) &&& (1 : Int32)) = (0 : Int32)
    · refine g_ifY (pc' := 78) W30.here hx (hb hby at_68) rfl (teq hc68_69).1 ?_
      refine g_lconst (1 : Int64) (pc' := 79) W30.here hx (hb hby at_78) rfl rfl ?_
      refine g_lload (pc' := 81) W30.here hx (hb hby at_79) rfl rfl ?_
      refine w_ldc2J (pc' := 84) W30 hx (hw _ (List.mem_of_getElem? w_0)) (hb hby at_81) rfl ?_
      refine g_land (pc' := 85) W30.here hx (hb hby at_84) rfl ?_
      refine w_callSp (pc' := 88) (st := []) (y := (⟨"java/lang/Math", "max", "(JJ)J"⟩ : MethodName)) W30 hx [(.long (1 : Int64)), (.long (qc &&& (9223372036854775807 : Int64)))] (hw _ (List.mem_of_getElem? w_1)) (hw _ (List.mem_of_getElem? w_2)) (hw _ (List.mem_of_getElem? w_3)) (hw _ (List.mem_of_getElem? w_4)) (by decide) (c_max l Z a0 hw hE (1 : Int64) (qc &&& (9223372036854775807 : Int64)) h0 W30.old) (by rw [hml]; rfl) (lenOf pd_2 rfl) rfl (hb hby at_85) (Nat.le_of_ble_eq_true rfl) (Nat.le_of_ble_eq_true rfl) rfl rfl (Nat.le_of_ble_eq_true rfl) (Nat.le_of_ble_eq_true rfl) rfl fun T70 W70 => ?_
      refine g_lstore (pc' := 90) (Ls' := #[.val (.long qa), .second, .val (.long qb), .second, .val (.long qc), .second, .val (.int mode), .val (.long r), .second, .val (.int md), .val (.long s5), .second, .val (.long (maxL (1 : Int64) (qc &&& (9223372036854775807 : Int64)))), .second, .unset, .unset, .unset]) W70.here hx (hb hby at_88) rfl rfl ?_
      exact J90 _ (own_max_pos _) _ W70
    · refine g_ifN (pc' := 71) W30.here hx (hb hby at_68) rfl (feq hc68_69).1 ?_
      refine g_lload (pc' := 73) W30.here hx (hb hby at_71) rfl rfl ?_
      refine g_lstore (pc' := 75) (Ls' := #[.val (.long qa), .second, .val (.long qb), .second, .val (.long qc), .second, .val (.int mode), .val (.long r), .second, .val (.int md), .val (.long s5), .second, .val (.long r), .second, .unset, .unset, .unset]) W30.here hx (hb hby at_73) rfl rfl ?_
      refine g_goto (pc' := 90) W30.here hx (hb hby at_75) rfl ?_
      exact J90 _ pr _ W30
  refine g_iload (pc' := 19) W30.here hx (hb hby at_17) rfl rfl ?_
  by_cases hc19_71 : md = (0 : Int32)
  · refine g_ifN (pc' := 22) W30.here hx (hb hby at_19) rfl (teq hc19_71).2 ?_
    refine g_lload (pc' := 24) W30.here hx (hb hby at_22) rfl rfl ?_
    refine g_lstore (pc' := 26) (Ls' := #[.val (.long qa), .second, .val (.long qb), .second, .val (.long qc), .second, .val (.int mode), .val (.long r), .second, .val (.int md), .val (.long r), .second, .unset, .unset, .unset, .unset, .unset]) W30.here hx (hb hby at_24) rfl rfl ?_
    refine g_goto (pc' := 62) W30.here hx (hb hby at_26) rfl ?_
    exact J62 _
  · refine g_ifY (pc' := 29) W30.here hx (hb hby at_19) rfl (feq hc19_71).2 ?_
    refine g_iload (pc' := 31) W30.here hx (hb hby at_29) rfl rfl ?_
    refine g_iconst (1 : Int32) (pc' := 32) W30.here hx (hb hby at_31) rfl rfl ?_
    by_cases hc32_72 : md = (1 : Int32)
    · refine g_icmpN (pc' := 35) W30.here hx (hb hby at_32) rfl (teq hc32_72).2 ?_
      refine g_lload (pc' := 37) W30.here hx (hb hby at_35) rfl rfl ?_
      refine g_lconst (1 : Int64) (pc' := 38) W30.here hx (hb hby at_37) rfl rfl ?_
      refine g_lsub (pc' := 39) W30.here hx (hb hby at_38) rfl ?_
      refine g_lstore (pc' := 41) (Ls' := #[.val (.long qa), .second, .val (.long qb), .second, .val (.long qc), .second, .val (.int mode), .val (.long r), .second, .val (.int md), .val (.long (r - (1 : Int64))), .second, .unset, .unset, .unset, .unset, .unset]) W30.here hx (hb hby at_39) rfl rfl ?_
      refine g_goto (pc' := 62) W30.here hx (hb hby at_41) rfl ?_
      exact J62 _
    · refine g_icmpY (pc' := 44) W30.here hx (hb hby at_32) rfl (feq hc32_72).2 ?_
      refine g_iload (pc' := 46) W30.here hx (hb hby at_44) rfl rfl ?_
      refine g_iconst (2 : Int32) (pc' := 47) W30.here hx (hb hby at_46) rfl rfl ?_
      by_cases hc47_73 : md = (2 : Int32)
      · refine g_icmpN (pc' := 50) W30.here hx (hb hby at_47) rfl (teq hc47_73).2 ?_
        refine g_lload (pc' := 52) W30.here hx (hb hby at_50) rfl rfl ?_
        refine g_lconst (1 : Int64) (pc' := 53) W30.here hx (hb hby at_52) rfl rfl ?_
        refine g_ladd (pc' := 54) W30.here hx (hb hby at_53) rfl ?_
        refine g_lstore (pc' := 56) (Ls' := #[.val (.long qa), .second, .val (.long qb), .second, .val (.long qc), .second, .val (.int mode), .val (.long r), .second, .val (.int md), .val (.long (r + (1 : Int64))), .second, .unset, .unset, .unset, .unset, .unset]) W30.here hx (hb hby at_54) rfl rfl ?_
        refine g_goto (pc' := 62) W30.here hx (hb hby at_56) rfl ?_
        exact J62 _
      · refine g_icmpY (pc' := 59) W30.here hx (hb hby at_47) rfl (feq hc47_73).2 ?_
        refine g_lloadN (pc' := 60) W30.here hx (hb hby at_59) rfl rfl ?_
        refine g_lstore (pc' := 62) (Ls' := #[.val (.long qa), .second, .val (.long qb), .second, .val (.long qc), .second, .val (.int mode), .val (.long r), .second, .val (.int md), .val (.long qb), .second, .unset, .unset, .unset, .unset, .unset]) W30.here hx (hb hby at_60) rfl rfl ?_
        exact J62 _
set_option maxRecDepth 65536 in
set_option maxHeartbeats 40000000 in
theorem comes_1 {Post : Tables → Env → Array Value → State → Outcome → State → Prop} (hpost : ∀ tb e args s v u, (limb_1_1.after args s (.returned v) u = true ∧ limb_1_2.after args s (.returned v) u = true ∧ True) → FrameEnd s (.returned v) u (Jvm.fieldLocs frame_1_writes args s ++ Jvm.arrayLocs frame_1_arrays args s ++ Jvm.staticLocs frame_1_statics s) 16 128 → Post tb e args s (.returned v) u) :
    ArmFor flags0 classFile x code maxLocals ret World_1 tables_1 room_1 Calls_1 rest_1 Pre_1 Post := by
  intro l hfl _ _ p e ha hc hk s m args below hf hA hF happ hP
  obtain ⟨hcalls, hrest, hpre⟩ := hP
  obtain ⟨-, -, -, hnamed, -, -, -, hat⟩ := (Spec.applies_iff hf).mp happ
  obtain ⟨hg, hn⟩ := and_e (Cond.before_iff.mp (show (Jvm.Cond.and given_1 narrow_1).before args s = true from hpre))
  obtain ⟨hg0, hg⟩ := and_e hg
  obtain ⟨w0, w1, w2, w3, rfl⟩ : ∃ w0 w1 w2 w3 : Value, args = #[w0, w1, w2, w3] := by
    have hs : args.size = 4 := by simpa [Cond.value, given_1] using hg0
    obtain ⟨L⟩ := args
    match L, hs with
    | [w0, w1, w2, w3], _ => exact ⟨w0, w1, w2, w3, rfl⟩
  have hw := fun d (hd : d ∈ tables_1) => atoms_spec (ws := Jvm.Cond.code x code maxLocals ret :: tables_1) hat d (List.mem_cons_of_mem _ hd)
  have hfit : Fit s := fun {y c} hc i hi => by
    obtain ⟨ha, rfl⟩ := Array.getElem?_eq_some_iff.mp hc
    have q := List.all_eq_true.mp ((Array.all_eq_true_iff_forall_mem.mp hF) _ (Array.getElem_mem ha)) i (List.mem_range.mpr hi)
    simpa [Array.getElem?_eq_getElem hi] using q
  obtain ⟨hg1, hg⟩ := and_e hg
  obtain ⟨p0, ep0⟩ := isL_v hg1
  obtain rfl : w0 = (.long p0) := Option.some.inj ep0
  obtain ⟨hg2, hg⟩ := and_e hg
  obtain ⟨p1, ep1⟩ := isL_v hg2
  obtain rfl : w1 = (.long p1) := Option.some.inj ep1
  obtain ⟨hg3, hg⟩ := and_e hg
  obtain ⟨p2, ep2⟩ := isL_v hg3
  obtain rfl : w2 = (.long p2) := Option.some.inj ep2
  have hg4 := hg
  obtain ⟨p3, ep3⟩ := is_v hg4
  obtain rfl : w3 = (.int p3) := Option.some.inj ep3
  obtain ⟨n1, hn⟩ := and_e hn
  obtain ⟨n2, hn⟩ := and_e hn
  obtain ⟨n3, hn⟩ := and_e hn
  obtain ⟨n4, hn⟩ := and_e hn
  obtain ⟨n5, hn⟩ := and_e hn
  obtain ⟨n6, hn⟩ := and_e hn
  obtain ⟨n7, hn⟩ := and_e hn
  obtain ⟨n8, hn⟩ := and_e hn
  obtain ⟨n9, hn⟩ := and_e hn
  obtain ⟨n10, hn⟩ := and_e hn
  obtain ⟨n11, hn⟩ := and_e hn
  obtain ⟨n12, hn⟩ := and_e hn
  obtain ⟨n13, hn⟩ := and_e hn
  have n14 := hn
  obtain ⟨kR, eR⟩ := exa_v n1
  have FR := own_fldI eR n2
  obtain ⟨sN, eN⟩ := exa_v n3
  obtain ⟨kN, ekN⟩ := exa_v n4
  have FN := own_fldR eN ekN n5
  have GN := own_fldI ekN n6
  obtain ⟨sE, eE⟩ := exa_v n7
  obtain ⟨kE, ekE⟩ := exa_v n8
  have FE := own_fldR eE ekE n9
  have GE := own_fldI ekE n10
  obtain ⟨sA, eA⟩ := exa_v n11
  obtain ⟨kA, ekA⟩ := exa_v n12
  have FA := own_fldR eA ekA n13
  have GA := own_fldI ekA n14
  obtain ⟨t, o, h1, h2, h3, v, L, rfl, ⟨rfl, N, -⟩, hq⟩ := c_law l s _ hw EW.nil p0 p1 p2 p3 kR sN sE sA kN kE kA s.heap ⟨Nat.le_refl _, fun _ _ q => q⟩
    (Sta.start eR (Or.inr ⟨(hw _ (List.mem_of_getElem? w_12)), (hw _ (List.mem_of_getElem? w_13))⟩)) (Exa.start eR n1) FR (Sta.start eN (Or.inr ⟨(hw _ (List.mem_of_getElem? w_7)), (hw _ (List.mem_of_getElem? w_48))⟩)) (Sta.start eE (Or.inr ⟨(hw _ (List.mem_of_getElem? w_7)), (hw _ (List.mem_of_getElem? w_54))⟩)) (Sta.start eA (Or.inr ⟨(hw _ (List.mem_of_getElem? w_7)), (hw _ (List.mem_of_getElem? w_60))⟩)) (Exa.start eN n3) FN (FR.ne GN (by simp)) (Exa.start eE n7) FE (FR.ne GE (by simp)) (Exa.start eA n11) FA (FR.ne GA (by simp))
    p e ha hc hk s m _ below hf ((Spec.applies_iff_loose hf).mp happ).1 ⟨rfl, State.Warmed39.refl s, rfl⟩ trivial
  refine ⟨t, _, h1, h2, h3, hpost _ _ _ _ _ _ ⟨Cond.after_iff.mpr rfl, Cond.after_iff.mpr (eq_i res_at (Term.int_eval (1)) rfl), trivial⟩ ⟨hq.1, hq.2.1, (hq.2.2.sift fun y hy => Or.inr (N y hy)).mono (by decide) (by decide)⟩⟩
theorem main_1_1 : Claimed_1_1 := comes_1 fun _ _ _ _ _ _ h hF => ⟨h.1, hF⟩
theorem main_1_2 : Claimed_1_2 := comes_1 fun _ _ _ _ _ _ h hF => ⟨h.2.1, hF⟩
end Jvm.Pilot.@@N@@
namespace Jvm.Pilot.@@N@@
open Jvm Jvm.ClassFile Sem Op Lib Jvm.Free Jvm.Stand Jvm.Pilot.@@N@@.Jvm.D
/-! MADE BY PROGRAM (witnessworld.py) out of the Statement's table words and the real class files: 14 classes; the members and pool entries that the words name. The judged class is class 1, her method 1. -/
namespace start1
open Jvm.ClassFile
def u (s : String) : CpInfo := .utf8 (stringToUtf16 s)
/-- a pool by its gaps: so many unusable entries, then the entry; so many at the end -/
def gap : Nat → List CpInfo → List CpInfo
  | 0, r => r
  | n + 1, r => .unusable :: gap n r
def poolList (es : List (Nat × CpInfo)) (last : Nat) : List CpInfo := es.foldr (fun e r => gap e.1 (e.2 :: r)) (gap last [])
def pool (es : List (Nat × CpInfo)) (last : Nat) : Array CpInfo := ⟨poolList es last⟩
def fileOf (pool : Array CpInfo) (this : Nat) (attrs : Array Attribute := #[]) (ms : Array MethodInfo := #[]) (fl : Nat := 33) (sup : Nat := 0) (ifs : Array Nat := #[]) (fds : Array FieldInfo := #[]) : ClassFile where
  minorVersion := 0
  majorVersion := 65
  constantPool := pool
  accessFlags := fl
  thisClass := this
  superClass := sup
  interfaces := ifs
  fields := fds
  methods := ms
  attributes := attrs
def plain (name : String) (sup : Option ClassId) : Class where
  name := name
  kind := .ordinary
  loader := none
  accessFlags := 33
  super := sup
  interfaces := #[]
  cf := none
  fields := #[]
  methods := #[]
  instanceTypes := #[]
  staticTypes := #[]
  resolved := #[]
  callSites := []
  init := .initialized
  statics := none
  mirror := none

def pool0 : Array CpInfo := pool [(5, u "<init>"), (0, u "()V"), (1, .class_ 10), (1, u "java/lang/Object")] 113

def k0c0 : Code := { maxStack := 0, maxLocals := 1, code := object_method_1_code, exceptionTable := #[], attributes := #[] }
def k0m0 : Method := { name := "<init>", desc := "()V", sig := { parameters := [], returnType := none }, accessFlags := 1, code := some k0c0 }
/-- java/lang/Object -/
def k0 : Class := { plain "java/lang/Object" none with
  accessFlags := 33
  interfaces := #[]
  cf := some (fileOf pool0 8 #[] #[{ accessFlags := 1, nameIndex := 5, descriptorIndex := 6, attributes := #[] }] 33 0 #[] #[])
  fields := #[]
  methods := #[k0m0]
  instanceTypes := #[]
  staticTypes := #[]
  resolved := Array.replicate 124 none
  statics := none }

def pool1 : Array CpInfo := pool [(2, .class_ 4), (1, u "java/lang/Object"), (0, u "<init>"), (0, u "()V"), (2, .long 9223372036854775807), (1, .methodref 12 13), (0, .class_ 14), (0, .nameAndType 15 16), (0, u "java/lang/Math"), (0, u "max"), (0, u "(JJ)J"), (0, .methodref 18 19), (0, .class_ 20), (0, .nameAndType 21 22), (0, u "com/example/itihasa/itihasa/store/StreamExpectation"), (0, u "revision"), (0, u "(J)Lcom/example/itihasa/itihasa/store/StreamExpectation;"), (0, .methodref 18 24), (0, .nameAndType 25 26), (0, u "isMetBy"), (0, u "(J)Z"), (0, .methodref 18 28), (0, .nameAndType 29 30), (0, u "equals"), (0, u "(Ljava/lang/Object;)Z"), (0, .methodref 18 32), (0, .nameAndType 33 34), (0, u "noStream"), (0, u "()Lcom/example/itihasa/itihasa/store/StreamExpectation;"), (0, .methodref 18 36), (0, .nameAndType 37 34), (0, u "streamExists"), (0, .methodref 18 39), (0, .nameAndType 40 34), (0, u "any"), (0, .class_ 42), (0, u "com/example/itihasa/itihasa/store/StreamExpectationRevisionPinLaw"), (2, u "law"), (0, u "(JJJI)Z")] 3

def k1m0 : Method := { name := "<init>", desc := "()V", sig := { parameters := [], returnType := none }, accessFlags := 1, code := none }
def k1c1 : Code := { maxStack := 6, maxLocals := 17, code := code, exceptionTable := #[], attributes := #[] }
def k1m1 : Method := { name := "law", desc := "(JJJI)Z", sig := { parameters := [.long, .long, .long, .int], returnType := some .boolean }, accessFlags := 9, code := some k1c1 }
/-- com/example/itihasa/itihasa/store/StreamExpectationRevisionPinLaw -/
def k1 : Class := { plain "com/example/itihasa/itihasa/store/StreamExpectationRevisionPinLaw" (some 0) with
  accessFlags := 49
  interfaces := #[]
  cf := some (fileOf pool1 41 #[] #[{ accessFlags := 1, nameIndex := 5, descriptorIndex := 6, attributes := #[] }, { accessFlags := 9, nameIndex := 45, descriptorIndex := 46, attributes := #[] }] 49 2 #[] #[])
  fields := #[]
  methods := #[k1m0, k1m1]
  instanceTypes := #[]
  staticTypes := #[]
  resolved := Array.replicate 50 none
  statics := none }

def pool2 : Array CpInfo := pool [(1, .class_ 2), (0, u "java/lang/Math"), (1, .class_ 6), (1, u "java/lang/Object"), (0, u "<init>"), (0, u "()V"), (89, .class_ 100), (1, u "java/lang/Math$RandomNumberGeneratorHolder"), (20, u "(JJ)J"), (50, u "negativeZeroFloatBits"), (0, u "J"), (2, u "negativeZeroDoubleBits"), (21, u "max"), (46, u "$assertionsDisabled"), (0, u "Z"), (91, u "twoToTheDoubleScaleDown"), (0, u "D"), (4, u "twoToTheDoubleScaleUp"), (9, u "E"), (3, u "PI"), (2, u "TAU"), (2, u "DEGREES_TO_RADIANS"), (0, u "RADIANS_TO_DEGREES")] 94

def k2m0 : Method := { name := "<init>", desc := "()V", sig := { parameters := [], returnType := none }, accessFlags := 2, code := none }
def k2c1 : Code := { maxStack := 4, maxLocals := 4, code := jdk_29_method_66_code, exceptionTable := #[], attributes := #[] }
def k2m1 : Method := { name := "max", desc := "(JJ)J", sig := { parameters := [.long, .long], returnType := some .long }, accessFlags := 9, code := some k2c1 }
/-- java/lang/Math -/
def k2 : Class := { plain "java/lang/Math" (some 0) with
  accessFlags := 49
  interfaces := #[]
  cf := some (fileOf pool2 1 #[.nestMembers #[98]] #[{ accessFlags := 2, nameIndex := 7, descriptorIndex := 8, attributes := #[] }, { accessFlags := 9, nameIndex := 198, descriptorIndex := 121, attributes := #[] }] 49 4 #[] #[{ accessFlags := 25, nameIndex := 354, descriptorIndex := 339, attributes := #[] }, { accessFlags := 25, nameIndex := 358, descriptorIndex := 339, attributes := #[] }, { accessFlags := 25, nameIndex := 361, descriptorIndex := 339, attributes := #[] }, { accessFlags := 26, nameIndex := 364, descriptorIndex := 339, attributes := #[] }, { accessFlags := 26, nameIndex := 365, descriptorIndex := 339, attributes := #[] }, { accessFlags := 26, nameIndex := 172, descriptorIndex := 173, attributes := #[] }, { accessFlags := 26, nameIndex := 176, descriptorIndex := 173, attributes := #[] }, { accessFlags := 8, nameIndex := 344, descriptorIndex := 339, attributes := #[] }, { accessFlags := 8, nameIndex := 338, descriptorIndex := 339, attributes := #[] }, { accessFlags := 4120, nameIndex := 245, descriptorIndex := 246, attributes := #[] }])
  fields := #[{ name := "E", type := .double, accessFlags := 25, slot := 0, constantValue := 0 }, { name := "PI", type := .double, accessFlags := 25, slot := 1, constantValue := 0 }, { name := "TAU", type := .double, accessFlags := 25, slot := 2, constantValue := 0 }, { name := "DEGREES_TO_RADIANS", type := .double, accessFlags := 26, slot := 3, constantValue := 0 }, { name := "RADIANS_TO_DEGREES", type := .double, accessFlags := 26, slot := 4, constantValue := 0 }, { name := "negativeZeroFloatBits", type := .long, accessFlags := 26, slot := 5, constantValue := 0 }, { name := "negativeZeroDoubleBits", type := .long, accessFlags := 26, slot := 6, constantValue := 0 }, { name := "twoToTheDoubleScaleUp", type := .double, accessFlags := 8, slot := 7, constantValue := 0 }, { name := "twoToTheDoubleScaleDown", type := .double, accessFlags := 8, slot := 8, constantValue := 0 }, { name := "$assertionsDisabled", type := .boolean, accessFlags := 4120, slot := 9, constantValue := 0 }]
  methods := #[k2m0, k2m1]
  instanceTypes := #[]
  staticTypes := #[.double, .double, .double, .double, .double, .long, .long, .double, .double, .boolean]
  resolved := Array.replicate 460 none
  statics := none }

def pool3 : Array CpInfo := pool [(1, .class_ 2), (0, u "java/io/Serializable"), (0, .class_ 4), (0, u "java/lang/Object")] 2

/-- java/io/Serializable -/
def k3 : Class := { plain "java/io/Serializable" (some 0) with
  accessFlags := 1537
  interfaces := #[]
  cf := some (fileOf pool3 1 #[] #[] 1537 3 #[] #[])
  fields := #[]
  methods := #[]
  instanceTypes := #[]
  staticTypes := #[]
  resolved := Array.replicate 7 none
  statics := none }

def pool4 : Array CpInfo := pool [(1, .methodref 2 3), (0, .class_ 4), (0, .nameAndType 5 6), (0, u "java/lang/Object"), (0, u "<init>"), (0, u "()V"), (0, .fieldref 8 9), (0, .class_ 10), (0, .nameAndType 11 12), (0, u "com/example/itihasa/itihasa/store/StreamExpectation"), (0, u "kind"), (0, u "Lcom/example/itihasa/itihasa/store/StreamExpectation$Kind;"), (0, .fieldref 8 14), (0, .nameAndType 15 16), (0, u "revision"), (0, u "J"), (0, .fieldref 8 18), (0, .nameAndType 19 20), (0, u "ANY"), (0, u "Lcom/example/itihasa/itihasa/store/StreamExpectation;"), (0, .fieldref 8 22), (0, .nameAndType 23 20), (0, u "NO_STREAM"), (0, .fieldref 8 25), (0, .nameAndType 26 20), (0, u "STREAM_EXISTS"), (9, .fieldref 37 38), (0, .class_ 39), (0, .nameAndType 40 12), (0, u "com/example/itihasa/itihasa/store/StreamExpectation$Kind"), (0, u "REVISION"), (0, .methodref 8 42), (0, .nameAndType 5 43), (0, u "(Lcom/example/itihasa/itihasa/store/StreamExpectation$Kind;J)V"), (0, .methodref 37 45), (0, .nameAndType 46 47), (0, u "ordinal"), (0, u "()I"), (18, u "any"), (11, .class_ 79), (0, u "java/io/Serializable"), (0, u "serialVersionUID"), (5, u "()Lcom/example/itihasa/itihasa/store/StreamExpectation;"), (0, u "noStream"), (0, u "streamExists"), (0, u "(J)Lcom/example/itihasa/itihasa/store/StreamExpectation;"), (1, u "isMetBy"), (0, u "(J)Z"), (0, u "equals"), (0, u "(Ljava/lang/Object;)Z")] 27

def k4c0 : Code := { maxStack := 3, maxLocals := 4, code := prog_18_method_1_code, exceptionTable := #[], attributes := #[] }
def k4m0 : Method := { name := "<init>", desc := "(Lcom/example/itihasa/itihasa/store/StreamExpectation$Kind;J)V", sig := { parameters := [(.object "com/example/itihasa/itihasa/store/StreamExpectation$Kind"), .long], returnType := none }, accessFlags := 2, code := some k4c0 }
def k4c1 : Code := { maxStack := 1, maxLocals := 0, code := prog_18_method_2_code, exceptionTable := #[], attributes := #[] }
def k4m1 : Method := { name := "any", desc := "()Lcom/example/itihasa/itihasa/store/StreamExpectation;", sig := { parameters := [], returnType := some (.object "com/example/itihasa/itihasa/store/StreamExpectation") }, accessFlags := 9, code := some k4c1 }
def k4c2 : Code := { maxStack := 1, maxLocals := 0, code := prog_18_method_3_code, exceptionTable := #[], attributes := #[] }
def k4m2 : Method := { name := "noStream", desc := "()Lcom/example/itihasa/itihasa/store/StreamExpectation;", sig := { parameters := [], returnType := some (.object "com/example/itihasa/itihasa/store/StreamExpectation") }, accessFlags := 9, code := some k4c2 }
def k4c3 : Code := { maxStack := 1, maxLocals := 0, code := prog_18_method_4_code, exceptionTable := #[], attributes := #[] }
def k4m3 : Method := { name := "streamExists", desc := "()Lcom/example/itihasa/itihasa/store/StreamExpectation;", sig := { parameters := [], returnType := some (.object "com/example/itihasa/itihasa/store/StreamExpectation") }, accessFlags := 9, code := some k4c3 }
def k4c4 : Code := { maxStack := 5, maxLocals := 2, code := prog_18_method_5_code, exceptionTable := #[], attributes := #[] }
def k4m4 : Method := { name := "revision", desc := "(J)Lcom/example/itihasa/itihasa/store/StreamExpectation;", sig := { parameters := [.long], returnType := some (.object "com/example/itihasa/itihasa/store/StreamExpectation") }, accessFlags := 9, code := some k4c4 }
def k4c5 : Code := { maxStack := 4, maxLocals := 3, code := prog_18_method_6_code, exceptionTable := #[], attributes := #[] }
def k4m5 : Method := { name := "isMetBy", desc := "(J)Z", sig := { parameters := [.long], returnType := some .boolean }, accessFlags := 0, code := some k4c5 }
def k4c6 : Code := { maxStack := 4, maxLocals := 3, code := prog_18_method_7_code, exceptionTable := #[], attributes := #[] }
def k4m6 : Method := { name := "equals", desc := "(Ljava/lang/Object;)Z", sig := { parameters := [(.object "java/lang/Object")], returnType := some .boolean }, accessFlags := 1, code := some k4c6 }
/-- com/example/itihasa/itihasa/store/StreamExpectation -/
def k4 : Class := { plain "com/example/itihasa/itihasa/store/StreamExpectation" (some 0) with
  accessFlags := 33
  interfaces := #[3]
  cf := some (fileOf pool4 8 #[.nestMembers #[37]] #[{ accessFlags := 2, nameIndex := 5, descriptorIndex := 43, attributes := #[] }, { accessFlags := 9, nameIndex := 66, descriptorIndex := 86, attributes := #[] }, { accessFlags := 9, nameIndex := 87, descriptorIndex := 86, attributes := #[] }, { accessFlags := 9, nameIndex := 88, descriptorIndex := 86, attributes := #[] }, { accessFlags := 9, nameIndex := 15, descriptorIndex := 89, attributes := #[] }, { accessFlags := 0, nameIndex := 91, descriptorIndex := 92, attributes := #[] }, { accessFlags := 1, nameIndex := 93, descriptorIndex := 94, attributes := #[] }] 33 2 #[78] #[{ accessFlags := 26, nameIndex := 80, descriptorIndex := 16, attributes := #[] }, { accessFlags := 26, nameIndex := 19, descriptorIndex := 20, attributes := #[] }, { accessFlags := 26, nameIndex := 23, descriptorIndex := 20, attributes := #[] }, { accessFlags := 26, nameIndex := 26, descriptorIndex := 20, attributes := #[] }, { accessFlags := 18, nameIndex := 11, descriptorIndex := 12, attributes := #[] }, { accessFlags := 18, nameIndex := 15, descriptorIndex := 16, attributes := #[] }])
  fields := #[{ name := "serialVersionUID", type := .long, accessFlags := 26, slot := 0, constantValue := 0 }, { name := "ANY", type := (.object "com/example/itihasa/itihasa/store/StreamExpectation"), accessFlags := 26, slot := 1, constantValue := 0 }, { name := "NO_STREAM", type := (.object "com/example/itihasa/itihasa/store/StreamExpectation"), accessFlags := 26, slot := 2, constantValue := 0 }, { name := "STREAM_EXISTS", type := (.object "com/example/itihasa/itihasa/store/StreamExpectation"), accessFlags := 26, slot := 3, constantValue := 0 }, { name := "kind", type := (.object "com/example/itihasa/itihasa/store/StreamExpectation$Kind"), accessFlags := 18, slot := 0, constantValue := 0 }, { name := "revision", type := .long, accessFlags := 18, slot := 1, constantValue := 0 }]
  methods := #[k4m0, k4m1, k4m2, k4m3, k4m4, k4m5, k4m6]
  instanceTypes := #[(.object "com/example/itihasa/itihasa/store/StreamExpectation$Kind"), .long]
  staticTypes := #[.long, (.object "com/example/itihasa/itihasa/store/StreamExpectation"), (.object "com/example/itihasa/itihasa/store/StreamExpectation"), (.object "com/example/itihasa/itihasa/store/StreamExpectation")]
  resolved := Array.replicate 122 none
  statics := some 0 }

def pool5 : Array CpInfo := pool [(1, .class_ 2), (0, u "java/lang/constant/Constable"), (0, .class_ 4), (0, u "java/lang/Object")] 6

/-- java/lang/constant/Constable -/
def k5 : Class := { plain "java/lang/constant/Constable" (some 0) with
  accessFlags := 1537
  interfaces := #[]
  cf := some (fileOf pool5 1 #[] #[] 1537 3 #[] #[])
  fields := #[]
  methods := #[]
  instanceTypes := #[]
  staticTypes := #[]
  resolved := Array.replicate 11 none
  statics := none }

def pool6 : Array CpInfo := pool [(1, .class_ 2), (0, u "java/lang/Comparable"), (0, .class_ 4), (0, u "java/lang/Object")] 7

/-- java/lang/Comparable -/
def k6 : Class := { plain "java/lang/Comparable" (some 0) with
  accessFlags := 1537
  interfaces := #[]
  cf := some (fileOf pool6 1 #[] #[] 1537 3 #[] #[])
  fields := #[]
  methods := #[]
  instanceTypes := #[]
  staticTypes := #[]
  resolved := Array.replicate 12 none
  statics := none }

def pool7 : Array CpInfo := pool [(2, .class_ 4), (1, u "java/lang/Enum"), (0, u "name"), (0, u "Ljava/lang/String;"), (0, .fieldref 2 8), (0, .nameAndType 9 10), (0, u "ordinal"), (0, u "I"), (1, .class_ 14), (1, u "java/lang/Object"), (4, u "hash"), (86, .class_ 108), (1, u "java/lang/Enum$EnumDesc"), (2, .class_ 112), (0, u "java/lang/constant/Constable"), (0, .class_ 114), (0, u "java/lang/Comparable"), (0, .class_ 116), (0, u "java/io/Serializable"), (9, u "()I")] 77

def k7c0 : Code := { maxStack := 1, maxLocals := 1, code := jdk_37_method_2_code, exceptionTable := #[], attributes := #[] }
def k7m0 : Method := { name := "ordinal", desc := "()I", sig := { parameters := [], returnType := some .int }, accessFlags := 17, code := some k7c0 }
/-- java/lang/Enum -/
def k7 : Class := { plain "java/lang/Enum" (some 0) with
  accessFlags := 1057
  interfaces := #[5, 6, 3]
  cf := some (fileOf pool7 2 #[.nestMembers #[106]] #[{ accessFlags := 17, nameIndex := 9, descriptorIndex := 126, attributes := #[] }] 1057 12 #[111, 113, 115] #[{ accessFlags := 18, nameIndex := 5, descriptorIndex := 6, attributes := #[] }, { accessFlags := 18, nameIndex := 9, descriptorIndex := 10, attributes := #[] }, { accessFlags := 2, nameIndex := 19, descriptorIndex := 10, attributes := #[] }])
  fields := #[{ name := "name", type := (.object "java/lang/String"), accessFlags := 18, slot := 0, constantValue := 0 }, { name := "ordinal", type := .int, accessFlags := 18, slot := 1, constantValue := 0 }, { name := "hash", type := .int, accessFlags := 2, slot := 2, constantValue := 0 }]
  methods := #[k7m0]
  instanceTypes := #[(.object "java/lang/String"), .int, .int]
  staticTypes := #[]
  resolved := Array.replicate 204 none
  statics := none }

def pool8 : Array CpInfo := pool [(1, .class_ 2), (0, u "com/example/itihasa/itihasa/store/StreamExpectation$Kind"), (2, u "ANY"), (0, u "Lcom/example/itihasa/itihasa/store/StreamExpectation$Kind;"), (2, u "NO_STREAM"), (2, u "STREAM_EXISTS"), (2, u "REVISION"), (2, u "$VALUES"), (0, u "[Lcom/example/itihasa/itihasa/store/StreamExpectation$Kind;"), (6, .class_ 28), (1, u "java/lang/Enum"), (27, .class_ 57), (0, u "com/example/itihasa/itihasa/store/StreamExpectation")] 2

/-- com/example/itihasa/itihasa/store/StreamExpectation$Kind -/
def k8 : Class := { plain "com/example/itihasa/itihasa/store/StreamExpectation$Kind" (some 7) with
  accessFlags := 16432
  interfaces := #[]
  cf := some (fileOf pool8 1 #[.nestHost 56] #[] 16432 26 #[] #[{ accessFlags := 16409, nameIndex := 5, descriptorIndex := 6, attributes := #[] }, { accessFlags := 16409, nameIndex := 9, descriptorIndex := 6, attributes := #[] }, { accessFlags := 16409, nameIndex := 12, descriptorIndex := 6, attributes := #[] }, { accessFlags := 16409, nameIndex := 15, descriptorIndex := 6, attributes := #[] }, { accessFlags := 4122, nameIndex := 18, descriptorIndex := 19, attributes := #[] }])
  fields := #[{ name := "ANY", type := (.object "com/example/itihasa/itihasa/store/StreamExpectation$Kind"), accessFlags := 16409, slot := 0, constantValue := 0 }, { name := "NO_STREAM", type := (.object "com/example/itihasa/itihasa/store/StreamExpectation$Kind"), accessFlags := 16409, slot := 1, constantValue := 0 }, { name := "STREAM_EXISTS", type := (.object "com/example/itihasa/itihasa/store/StreamExpectation$Kind"), accessFlags := 16409, slot := 2, constantValue := 0 }, { name := "REVISION", type := (.object "com/example/itihasa/itihasa/store/StreamExpectation$Kind"), accessFlags := 16409, slot := 3, constantValue := 0 }, { name := "$VALUES", type := (.array (.object "com/example/itihasa/itihasa/store/StreamExpectation$Kind")), accessFlags := 4122, slot := 4, constantValue := 0 }]
  methods := #[]
  instanceTypes := #[(.object "java/lang/String"), .int, .int]
  staticTypes := #[(.object "com/example/itihasa/itihasa/store/StreamExpectation$Kind"), (.object "com/example/itihasa/itihasa/store/StreamExpectation$Kind"), (.object "com/example/itihasa/itihasa/store/StreamExpectation$Kind"), (.object "com/example/itihasa/itihasa/store/StreamExpectation$Kind"), (.array (.object "com/example/itihasa/itihasa/store/StreamExpectation$Kind"))]
  resolved := Array.replicate 60 none
  statics := some 1 }

def pool9 : Array CpInfo := pool [(1, u "java/lang/Cloneable"), (0, .class_ 1), (0, u "java/lang/Object"), (0, .class_ 3)] 3

/-- java/lang/Cloneable -/
def k9 : Class := { plain "java/lang/Cloneable" (some 0) with
  accessFlags := 1537
  interfaces := #[]
  cf := some (fileOf pool9 2 #[] #[] 1537 4 #[] #[])
  fields := #[]
  methods := #[]
  instanceTypes := #[]
  staticTypes := #[]
  resolved := Array.replicate 8 none
  statics := none }

/-- the primitive byte -/
def k10 : Class := { plain "byte" none with kind := .primitive 'B', accessFlags := 0x411 }
/-- [B -/
def k11 : Class := { plain "[B" (some 0) with kind := .array 10 .byte, interfaces := #[9, 3], accessFlags := 1041 }

/-- the primitive int -/
def k12 : Class := { plain "int" none with kind := .primitive 'I', accessFlags := 0x411 }
/-- [I -/
def k13 : Class := { plain "[I" (some 0) with kind := .array 12 .int, interfaces := #[9, 3], accessFlags := 1041 }

def heap : Heap := #[{ cls := 4, slots := #[.long 0, .ref 6, .ref 7, .ref 8], vm := .statics 4 },
  { cls := 8, slots := #[.ref 2, .ref 3, .ref 4, .ref 5, .null], vm := .statics 8 },
  { cls := 8, slots := #[.null, .int 0, .int 0], vm := .none },
  { cls := 8, slots := #[.null, .int 1, .int 0], vm := .none },
  { cls := 8, slots := #[.null, .int 2, .int 0], vm := .none },
  { cls := 8, slots := #[.null, .int 3, .int 0], vm := .none },
  { cls := 4, slots := #[.ref 2, .long 0], vm := .none },
  { cls := 4, slots := #[.ref 3, .long 0], vm := .none },
  { cls := 4, slots := #[.ref 4, .long 0], vm := .none }]
def classes : Array Class := #[k0, k1, k2, k3, k4, k5, k6, k7, k8, k9, k10, k11, k12, k13]
def interned : List (Array UInt16 × Addr) := []
def slotsUsed : Nat := 27
def theMethod : MethodId := ⟨1, 1⟩
def args0 : Array Value := #[.long 5, .long 6, .long 7, .int 3]
def aboutOver (below : List Frame) : State where
  vm := { classes := classes, interned := interned.toArray }
  heap := heap
  slotsUsed := slotsUsed
  threads := #[{ frames := .invoking theMethod args0 :: below }]
def below0 : List Frame := [.native { method := ⟨0, 0⟩, args := #[] }]
def about1 : State := aboutOver below0
def p0 : Program := .bare "" "" ""
def e0 : Env := launch0.env 0 0 0
theorem w_frames : about1.frames = Frame.invoking theMethod args0 :: below0 := rfl
set_option maxRecDepth 65536 in
theorem w_args : argsFit about1.vm theMethod args0 = true := by decide +kernel
set_option maxRecDepth 65536 in
theorem w_heap : heapFits about1 = true := by decide +kernel
set_option maxRecDepth 65536 in
theorem w_runnable : about1.curStatus? = some .runnable := by decide +kernel
set_option maxRecDepth 65536 in
theorem w_alone : about1.alone = true := by decide +kernel
set_option maxRecDepth 65536 in
theorem w_named : about1.methodNamed? x = some theMethod := by decide +kernel
set_option maxRecDepth 65536 in
theorem w_hears : about1.hears theMethod below0 = true := by decide +kernel
set_option maxRecDepth 65536 in
theorem w_ripe : about1.ripe theMethod args0 below0 = true := by decide +kernel
theorem w_running : about1.status = .running := rfl
set_option maxRecDepth 65536 in
theorem w_room : about1.hasRoom e0.platform room_1 = true :=
  launch0.hasRoom_least _ room_1 (by decide +kernel) (by decide +kernel) (by decide +kernel) (by decide +kernel) (by decide +kernel) (by decide +kernel)
theorem allAtoms_all (ts : List Jvm.Cond) (a : Array Jvm.Value) (st : Jvm.State) : (allAtoms ts).before a st = ts.all (fun c => c.before a st) := by
  induction ts with
  | nil => rfl
  | cons c t ih =>
    show (Jvm.Cond.and c (allAtoms t)).before a st = _
    rw [Jvm.Cond.before_and, ih, List.all_cons]
def words1 : List Jvm.Cond := Jvm.Cond.code x code maxLocals ret :: tables_1
/-- a 'code' word, met by the world's own term for the bytes: nothing is compared byte by byte -/
theorem code_word {y : MethodName} {bytes : ByteArray} {mx : Nat} {rt : Option FieldType} {a : Array Value} {s : State} {m : MethodId} {meth : Method} {c : Code} (h1 : s.methodNamed? y = some m) (h2 : s.vm.method? m = some meth) (h3 : meth.code = some c) (h4 : c.code = bytes)
    (h5 : (c.maxLocals == mx && c.exceptionTable.isEmpty && decide (c.maxStack ≤ mostOperands) && decide (meth.sig.returnType = rt) && !meth.locks && decide (parseMethodDescriptor y.desc = some meth.sig)) = true) : (Jvm.Cond.code y bytes mx rt).before a s = true := by
  simp only [Bool.and_eq_true, beq_iff_eq, Bool.not_eq_true', decide_eq_true_eq] at h5
  obtain ⟨⟨⟨⟨⟨g1, g2⟩, g3⟩, g4⟩, g5⟩, g6⟩ := h5
  simp [Cond.before, Cond.holds, Cond.value, h1, h2, h3, h4, g1, g2, g3, g4, g5, g6]
def isCode : Jvm.Cond → Bool
  | .code _ _ _ _ => true
  | _ => false
theorem all_split {L : List Jvm.Cond} {P : Jvm.Cond → Bool} (h1 : L.all (fun c => isCode c || P c) = true) (h2 : ∀ c ∈ L.filter isCode, P c = true) : L.all P = true := by
  refine List.all_eq_true.mpr fun c hc => ?_
  have h := List.all_eq_true.mp h1 c hc
  rcases Bool.eq_false_or_eq_true (isCode c) with hi | hi
  · exact h2 c (List.mem_filter.mpr ⟨hc, hi⟩)
  · simpa [hi] using h
set_option maxRecDepth 65536 in
theorem w_c0 : (Jvm.Cond.code x code maxLocals ret).before args0 about1 = true := code_word (m := ⟨1, 1⟩) (meth := k1m1) (c := k1c1) (by decide +kernel) rfl rfl rfl (by decide +kernel)
set_option maxRecDepth 65536 in
theorem w_c1 : (Jvm.Cond.code ({ cls := "java/lang/Math", name := "max", desc := "(JJ)J" } : Jvm.MethodName) jdk_29_method_66_code (4 : Nat) (Option.some Jvm.ClassFile.FieldType.long)).before args0 about1 = true := code_word (m := ⟨2, 1⟩) (meth := k2m1) (c := k2c1) (by decide +kernel) rfl rfl rfl (by decide +kernel)
set_option maxRecDepth 65536 in
theorem w_c2 : (Jvm.Cond.code ({ cls := "com/example/itihasa/itihasa/store/StreamExpectation", name := "revision", desc := "(J)Lcom/example/itihasa/itihasa/store/StreamExpectation;" } : Jvm.MethodName) prog_18_method_5_code (2 : Nat) (Option.some (Jvm.ClassFile.FieldType.object "com/example/itihasa/itihasa/store/StreamExpectation"))).before args0 about1 = true := code_word (m := ⟨4, 4⟩) (meth := k4m4) (c := k4c4) (by decide +kernel) rfl rfl rfl (by decide +kernel)
set_option maxRecDepth 65536 in
theorem w_c3 : (Jvm.Cond.code ({ cls := "com/example/itihasa/itihasa/store/StreamExpectation", name := "<init>", desc := "(Lcom/example/itihasa/itihasa/store/StreamExpectation$Kind;J)V" } : Jvm.MethodName) prog_18_method_1_code (4 : Nat) (Option.none : Option Jvm.ClassFile.FieldType)).before args0 about1 = true := code_word (m := ⟨4, 0⟩) (meth := k4m0) (c := k4c0) (by decide +kernel) rfl rfl rfl (by decide +kernel)
set_option maxRecDepth 65536 in
theorem w_c4 : (Jvm.Cond.code ({ cls := "java/lang/Object", name := "<init>", desc := "()V" } : Jvm.MethodName) object_method_1_code (1 : Nat) (Option.none : Option Jvm.ClassFile.FieldType)).before args0 about1 = true := code_word (m := ⟨0, 0⟩) (meth := k0m0) (c := k0c0) (by decide +kernel) rfl rfl rfl (by decide +kernel)
set_option maxRecDepth 65536 in
theorem w_c5 : (Jvm.Cond.code ({ cls := "com/example/itihasa/itihasa/store/StreamExpectation", name := "isMetBy", desc := "(J)Z" } : Jvm.MethodName) prog_18_method_6_code (3 : Nat) (Option.some Jvm.ClassFile.FieldType.boolean)).before args0 about1 = true := code_word (m := ⟨4, 5⟩) (meth := k4m5) (c := k4c5) (by decide +kernel) rfl rfl rfl (by decide +kernel)
set_option maxRecDepth 65536 in
theorem w_c6 : (Jvm.Cond.code ({ cls := "java/lang/Enum", name := "ordinal", desc := "()I" } : Jvm.MethodName) jdk_37_method_2_code (1 : Nat) (Option.some Jvm.ClassFile.FieldType.int)).before args0 about1 = true := code_word (m := ⟨7, 0⟩) (meth := k7m0) (c := k7c0) (by decide +kernel) rfl rfl rfl (by decide +kernel)
set_option maxRecDepth 65536 in
theorem w_c7 : (Jvm.Cond.code ({ cls := "com/example/itihasa/itihasa/store/StreamExpectation", name := "equals", desc := "(Ljava/lang/Object;)Z" } : Jvm.MethodName) prog_18_method_7_code (3 : Nat) (Option.some Jvm.ClassFile.FieldType.boolean)).before args0 about1 = true := code_word (m := ⟨4, 6⟩) (meth := k4m6) (c := k4c6) (by decide +kernel) rfl rfl rfl (by decide +kernel)
set_option maxRecDepth 65536 in
theorem w_c8 : (Jvm.Cond.code ({ cls := "com/example/itihasa/itihasa/store/StreamExpectation", name := "noStream", desc := "()Lcom/example/itihasa/itihasa/store/StreamExpectation;" } : Jvm.MethodName) prog_18_method_3_code (0 : Nat) (Option.some (Jvm.ClassFile.FieldType.object "com/example/itihasa/itihasa/store/StreamExpectation"))).before args0 about1 = true := code_word (m := ⟨4, 2⟩) (meth := k4m2) (c := k4c2) (by decide +kernel) rfl rfl rfl (by decide +kernel)
set_option maxRecDepth 65536 in
theorem w_c9 : (Jvm.Cond.code ({ cls := "com/example/itihasa/itihasa/store/StreamExpectation", name := "streamExists", desc := "()Lcom/example/itihasa/itihasa/store/StreamExpectation;" } : Jvm.MethodName) prog_18_method_4_code (0 : Nat) (Option.some (Jvm.ClassFile.FieldType.object "com/example/itihasa/itihasa/store/StreamExpectation"))).before args0 about1 = true := code_word (m := ⟨4, 3⟩) (meth := k4m3) (c := k4c3) (by decide +kernel) rfl rfl rfl (by decide +kernel)
set_option maxRecDepth 65536 in
theorem w_c10 : (Jvm.Cond.code ({ cls := "com/example/itihasa/itihasa/store/StreamExpectation", name := "any", desc := "()Lcom/example/itihasa/itihasa/store/StreamExpectation;" } : Jvm.MethodName) prog_18_method_2_code (0 : Nat) (Option.some (Jvm.ClassFile.FieldType.object "com/example/itihasa/itihasa/store/StreamExpectation"))).before args0 about1 = true := code_word (m := ⟨4, 1⟩) (meth := k4m1) (c := k4c1) (by decide +kernel) rfl rfl rfl (by decide +kernel)
def codes1 : List Jvm.Cond := [Jvm.Cond.code x code maxLocals ret, Jvm.Cond.code ({ cls := "java/lang/Math", name := "max", desc := "(JJ)J" } : Jvm.MethodName) jdk_29_method_66_code (4 : Nat) (Option.some Jvm.ClassFile.FieldType.long), Jvm.Cond.code ({ cls := "com/example/itihasa/itihasa/store/StreamExpectation", name := "revision", desc := "(J)Lcom/example/itihasa/itihasa/store/StreamExpectation;" } : Jvm.MethodName) prog_18_method_5_code (2 : Nat) (Option.some (Jvm.ClassFile.FieldType.object "com/example/itihasa/itihasa/store/StreamExpectation")), Jvm.Cond.code ({ cls := "com/example/itihasa/itihasa/store/StreamExpectation", name := "<init>", desc := "(Lcom/example/itihasa/itihasa/store/StreamExpectation$Kind;J)V" } : Jvm.MethodName) prog_18_method_1_code (4 : Nat) (Option.none : Option Jvm.ClassFile.FieldType), Jvm.Cond.code ({ cls := "java/lang/Object", name := "<init>", desc := "()V" } : Jvm.MethodName) object_method_1_code (1 : Nat) (Option.none : Option Jvm.ClassFile.FieldType), Jvm.Cond.code ({ cls := "com/example/itihasa/itihasa/store/StreamExpectation", name := "isMetBy", desc := "(J)Z" } : Jvm.MethodName) prog_18_method_6_code (3 : Nat) (Option.some Jvm.ClassFile.FieldType.boolean), Jvm.Cond.code ({ cls := "java/lang/Enum", name := "ordinal", desc := "()I" } : Jvm.MethodName) jdk_37_method_2_code (1 : Nat) (Option.some Jvm.ClassFile.FieldType.int), Jvm.Cond.code ({ cls := "com/example/itihasa/itihasa/store/StreamExpectation", name := "equals", desc := "(Ljava/lang/Object;)Z" } : Jvm.MethodName) prog_18_method_7_code (3 : Nat) (Option.some Jvm.ClassFile.FieldType.boolean), Jvm.Cond.code ({ cls := "com/example/itihasa/itihasa/store/StreamExpectation", name := "noStream", desc := "()Lcom/example/itihasa/itihasa/store/StreamExpectation;" } : Jvm.MethodName) prog_18_method_3_code (0 : Nat) (Option.some (Jvm.ClassFile.FieldType.object "com/example/itihasa/itihasa/store/StreamExpectation")), Jvm.Cond.code ({ cls := "com/example/itihasa/itihasa/store/StreamExpectation", name := "streamExists", desc := "()Lcom/example/itihasa/itihasa/store/StreamExpectation;" } : Jvm.MethodName) prog_18_method_4_code (0 : Nat) (Option.some (Jvm.ClassFile.FieldType.object "com/example/itihasa/itihasa/store/StreamExpectation")), Jvm.Cond.code ({ cls := "com/example/itihasa/itihasa/store/StreamExpectation", name := "any", desc := "()Lcom/example/itihasa/itihasa/store/StreamExpectation;" } : Jvm.MethodName) prog_18_method_2_code (0 : Nat) (Option.some (Jvm.ClassFile.FieldType.object "com/example/itihasa/itihasa/store/StreamExpectation"))]
set_option maxRecDepth 65536 in
theorem codes_eq : words1.filter isCode = codes1 := rfl
theorem w_codes : ∀ c ∈ words1.filter isCode, c.before args0 about1 = true := by
  rw [codes_eq]
  intro c hc
  simp only [codes1, List.mem_cons, List.not_mem_nil, or_false] at hc
  rcases hc with rfl | rfl | rfl | rfl | rfl | rfl | rfl | rfl | rfl | rfl | rfl
  · exact w_c0
  · exact w_c1
  · exact w_c2
  · exact w_c3
  · exact w_c4
  · exact w_c5
  · exact w_c6
  · exact w_c7
  · exact w_c8
  · exact w_c9
  · exact w_c10
set_option maxRecDepth 65536 in
theorem w_t1 : (words1.take 24).all (fun c => isCode c || c.before args0 about1) = true := by decide +kernel
set_option maxRecDepth 65536 in
theorem w_t2 : ((words1.drop 24).take 24).all (fun c => isCode c || c.before args0 about1) = true := by decide +kernel
set_option maxRecDepth 65536 in
theorem w_t3 : ((words1.drop 24).drop 24).all (fun c => isCode c || c.before args0 about1) = true := by decide +kernel
theorem w_tables : (allAtoms (Jvm.Cond.code x code maxLocals ret :: tables_1)).before args0 about1 = true := by
  rw [allAtoms_all]
  show words1.all (fun c => c.before args0 about1) = true
  refine all_split ?_ w_codes
  rw [← List.take_append_drop 24 words1, List.all_append, w_t1, ← List.take_append_drop 24 (words1.drop 24), List.all_append, w_t2, w_t3]
  rfl
set_option maxRecDepth 65536 in
theorem w_case : (Jvm.Cond.and given_1 narrow_1).before args0 about1 = true := by decide +kernel
theorem w_applies : (headSpec (Jvm.Cond.code x code maxLocals ret :: tables_1) room_1).applies x e0.platform about1 = true :=
  (Spec.applies_iff w_frames).mpr ⟨w_running, w_runnable, w_alone, w_named, w_hears, w_ripe, w_room, w_tables⟩
theorem atStart : AtStart classFile x code maxLocals ret World_1 tables_1 room_1 Calls_1 rest_1 Pre_1 launch0 p0 e0 about1 theMethod args0 below0 :=
  ⟨lists_1, trivial, launch0.admits_env _ _ _, launch0.least_env, fairChoices_fair.cas, fairChoices_fair.clock, w_frames, w_args, w_heap, w_applies, trivial, trivial, w_case⟩
end start1
theorem witness_1 : WitnessClaimed_1 := ⟨start1.p0, start1.e0, start1.about1, start1.theMethod, start1.args0, start1.below0, start1.atStart⟩
end Jvm.Pilot.@@N@@
